import JvmDerived
import JvmDerived.Pilot.@@N@@Statement
import JvmDerived.Pilot.@@N@@Code
set_option linter.unusedVariables false
set_option linter.unusedSimpArgs false
@@BLOCK:NumsL.lean.txt@@
namespace Jvm.RoadKit
open Sem ClassFile Op Lib Jvm.Stand Jvm.Free Jvm.LawKit
section New
variable {p : Program} {l : Launch} {e : Env} {R : Room} {s : State} {m : MethodId} {args : Array Value} {below : List Frame} {meth : Method} {c : Code} {T : State} {locs : List Loc} {cells slots : Nat}
theorem retI (X : Stand p l e R s m args below meth c T locs cells slots) (hx : p.tables.exec = Jvm.exec) {pc : Nat} {Ls : Array Slot} {z : Int32} {rest : List Value} (hret : meth.sig.returnType = some .int) (hd : decode c.code pc = .ok (.ireturn, 1)) {fs : List Frame}
    (hl : ∀ (f : JFrame) (acts : List Action), f.method = m → f.locked = none → f.entered = [] → (doReturn e (T.setTop f) acts (some (.int z))).1 = T.setFrames fs) : Steps p.tables e below (T.setTop (mkF m pc Ls (.int z :: rest))) (T.setFrames fs) := by
  have hm' : T.vm.method? m = some meth := X.method'
  have hn : narrow .int (.int z) = .int z := rfl
  show Steps p.tables e below (T.setTop { method := m, pc := pc, locals := Ls, stack := _ :: rest, locked := none }) _
  jvm_step X.here [X.here.top, hx, hd, hm', hret, hn]
  first | (intro acts; rw [hl _ acts rfl rfl rfl]) | rw [hl _ _ rfl rfl rfl]
  exact Steps.refl _
end New
end Jvm.RoadKit
/- laws to paste: Road.backV (cut by pick.py; bodies as the Statement names them) -/
namespace Jvm.Pilot.@@N@@
namespace StrChars
open Jvm Sem ClassFile Op Lib Jvm.Stand Jvm.Free.XT Jvm.Free.ALB Jvm.Free.JM Jvm.Free
open Jvm.Lib.Cold (StaticIs)
/-- a char array whose places are chars -/
def Ch (a : Addr) (A : Cell) (U : State) : Prop := Arr .char a A U ∧ Typed .char A
theorem Ch.mv {a : Addr} {A : Cell} {U U' : State} (h : Ch a A U) (hal : U.vm.Alike U'.vm) (hh : U'.heap = U.heap) : Ch a A U' := ⟨h.1.mv hal hh, h.2⟩
theorem Ch.keep {a : Addr} {A : Cell} {U U' : State} (h : Ch a A U) (hal : U.vm.Alike U'.vm) (hk : U'.heap[a]? = some A) : Ch a A U' := ⟨h.1.keep hal hk, h.2⟩
/-- what place i of a char[]'s cell holds -/
def cv (A : Cell) (i : Nat) : Int32 := match A.slots[i]? with | some (.int x) => x | _ => 0
theorem Ch.get {a : Addr} {A : Cell} {U : State} (h : Ch a A U) {i : Nat} (hi : i < A.slots.size) : A.slots[i]? = some (.int (cv A i)) := by
  have e := Array.getElem?_eq_getElem hi
  have f := h.2 i _ e
  unfold cv; rw [e]
  generalize A.slots[i] = v at f
  cases v <;> simp [fits] at f ⊢
/-- the byte that i2b leaves of a char -/
def lo8 (x : Int32) : Int32 := x.toInt8.toInt32
theorem fits_lo8 (y : Int32) : fits .byte (.int (lo8 y)) = true := by
  have h1 := y.toInt8.le_toInt
  have h2 := y.toInt8.toInt_lt
  simp only [lo8, fits, Bool.and_eq_true, decide_eq_true_eq, Int32.le_iff_toInt_le, Int8.toInt_toInt32, show (-128 : Int32).toInt = -128 from by decide, show (127 : Int32).toInt = 127 from by decide]
  omega
/-- A' is A but that each place j of lo .. hi - 1 holds f j -/
def Laid (A A' : Cell) (lo hi : Nat) (f : Nat → Value) : Prop := A'.cls = A.cls ∧ A'.vm = A.vm ∧ A'.slots.size = A.slots.size ∧ ∀ i, A'.slots[i]? = if lo ≤ i ∧ i < hi then some (f i) else A.slots[i]?
theorem Laid.zero (A : Cell) (lo : Nat) (f : Nat → Value) : Laid A A lo (lo + 0) f := ⟨rfl, rfl, rfl, fun i => by rw [if_neg (by omega)]⟩
theorem Laid.step {A Ak : Cell} {lo k : Nat} {f : Nat → Value} {v : Value} (h : Laid A Ak lo k f) (hlo : lo ≤ k) (hk : k < Ak.slots.size) (hv : v = f k) : Laid A (Ak.setSlot k v) lo (k + 1) f := by
  refine ⟨h.1, h.2.1, by simpa [Cell.setSlot] using h.2.2.1, fun i => ?_⟩
  by_cases e : k = i
  · subst e; rw [Cell.slots_setSlot_self v hk, if_pos (by omega), hv]
  · rw [Cell.slots_setSlot_ne v e, h.2.2.2 i]
    by_cases q : lo ≤ i ∧ i < k
    · rw [if_pos q, if_pos (by omega)]
    · rw [if_neg q, if_neg (by omega)]
def U16 : String := "java/lang/StringUTF16"
namespace Cmp5
def yN : MethodName := ⟨"java/lang/StringUTF16", "compress", "([CI[BII)I"⟩
abbrev yB : ByteArray := jdk_52_method_21_code
theorem d0 : decode yB 0 = .ok (.iconst 0, 1) := by decide +kernel
theorem d1 : decode yB 1 = .ok (.istore 5, 2) := by decide +kernel
theorem d3 : decode yB 3 = .ok (.iload 5, 2) := by decide +kernel
theorem d5 : decode yB 5 = .ok (.iload 4, 2) := by decide +kernel
theorem d7 : decode yB 7 = .ok (.if_icmp (.ge) 37, 3) := by decide +kernel
theorem d10 : decode yB 10 = .ok (.aload_n 0, 1) := by decide +kernel
theorem d11 : decode yB 11 = .ok (.iload_n 1, 1) := by decide +kernel
theorem d12 : decode yB 12 = .ok (.caload, 1) := by decide +kernel
theorem d13 : decode yB 13 = .ok (.istore 6, 2) := by decide +kernel
theorem d15 : decode yB 15 = .ok (.iload 6, 2) := by decide +kernel
theorem d17 : decode yB 17 = .ok (.sipush 255, 3) := by decide +kernel
theorem d20 : decode yB 20 = .ok (.if_icmp (.le) 6, 3) := by decide +kernel
theorem d26 : decode yB 26 = .ok (.aload_n 2, 1) := by decide +kernel
theorem d27 : decode yB 27 = .ok (.iload_n 3, 1) := by decide +kernel
theorem d28 : decode yB 28 = .ok (.iload 6, 2) := by decide +kernel
theorem d30 : decode yB 30 = .ok (.i2b, 1) := by decide +kernel
theorem d31 : decode yB 31 = .ok (.bastore, 1) := by decide +kernel
theorem d32 : decode yB 32 = .ok (.iinc 1 1, 3) := by decide +kernel
theorem d35 : decode yB 35 = .ok (.iinc 3 1, 3) := by decide +kernel
theorem d38 : decode yB 38 = .ok (.iinc 5 1, 3) := by decide +kernel
theorem d41 : decode yB 41 = .ok (.goto (-38), 3) := by decide +kernel
theorem d44 : decode yB 44 = .ok (.iload 4, 2) := by decide +kernel
theorem d46 : decode yB 46 = .ok (.ireturn, 1) := by decide +kernel
def site : List Cond := []
def tab : Cond := tabOf yN yB 7 (some .int) site
def P (b : Addr) (A : Cell) (d : Addr) (B : Cell) (o q len : Nat) (args : Array Value) (s : State) : Prop := args = #[.ref b, .int (Int32.ofNat o), .ref d, .int (Int32.ofNat q), .int (Int32.ofNat len)] ∧ Ch b A s ∧ Arr .byte d B s ∧ b ≠ d ∧ o + len ≤ A.slots.size ∧ q + len ≤ B.slots.size ∧ ∀ i, i < len → ¬ 255 < cv A (o + i)
def E (b : Addr) (A : Cell) (d : Addr) (B : Cell) (o q len : Nat) (r : Option Value) (s u : State) : Prop := r = some (.int (Int32.ofNat len)) ∧ ∃ B', Put d B' s u ∧ Laid B B' q (q + len) (fun j => Value.int (lo8 (cv A (o + (j - q)))))
/-- no char of the range above 255: len; the places written hold each char's low byte -/
theorem law (l : Launch) (b : Addr) (A : Cell) (d : Addr) (B : Cell) (o q len : Nat) : Law l yN 5 5 0 0 yB 7 (some .int) site (P b A d B o q len) (E b A d B o q len) (copyLocs d q len) 0 0 := by
  refine Law.of_walk (plainFor_of_name (by decide +kernel)) (by decide +kernel) (by decide +kernel) (by decide) (fun _ _ h => by rw [h.1]; rfl) (fun _ U U' hal hh h => ⟨h.1, h.2.1.mv hal hh, h.2.2.1.mv hal hh, h.2.2.2⟩) (fun r U U' V V' h1 hal h2 h => ⟨h.1, h.2.elim fun B' q => ⟨B', q.1.mv h1 h2, q.2⟩⟩) ?_
  intro p e s m args below meth c s₁ X0 hexec hbytes hml hret hlk hnm hown hh0 W hP
  obtain ⟨rfl, hA, hB, hne, l1, l2, hp⟩ := hP
  have c1 : Steps p.tables e below (s₁.setTop (entryFrame m #[.ref b, .int (Int32.ofNat o), .ref d, .int (Int32.ofNat q), .int (Int32.ofNat len)] 7)) (s₁.setTop (mkF m 0 #[.val (.ref b), .val (.int (Int32.ofNat o)), .val (.ref d), .val (.int (Int32.ofNat q)), .val (.int (Int32.ofNat len)), .unset, .unset] [])) := entry rfl
  have hA0 := hA.1.mv X0.warmed.alike hh0
  have hB0 := hB.mv X0.warmed.alike hh0
  have a31 := hA.1.2.2.2
  have c2 : Steps p.tables e below (s₁.setTop (entryFrame m #[.ref b, .int (Int32.ofNat o), .ref d, .int (Int32.ofNat q), .int (Int32.ofNat len)] 7)) (s₁.setTop (mkF m 3 #[.val (.ref b), .val (.int (Int32.ofNat o)), .val (.ref d), .val (.int (Int32.ofNat q)), .val (.int (Int32.ofNat len)), .val (.int 0), .unset] [])) := c1.trans (by
    refine iconstV X0.here hexec rfl 0 (hb hbytes d0) (by decide) ?_
    refine XS.istore X0.here hexec rfl (hb hbytes d1) rfl rfl ?_
    exact Steps.refl _)
  have loop : ∀ (r i : Nat), i + r = len → ∀ (z : Slot), (z = .unset ∨ ∃ w, z = .val w ∧ w.category = 1) → ∀ (Tl : State) (Bk : Cell), Stand p l e { frames := 0, locals := 0, cells := 0, slots := 0 } s m #[.ref b, .int (Int32.ofNat o), .ref d, .int (Int32.ofNat q), .int (Int32.ofNat len)] below meth c Tl ([] ++ copyLocs d q i) 0 0 → Put d Bk s₁ Tl → Laid B Bk q (q + i) (fun j => Value.int (lo8 (cv A (o + (j - q))))) →
      Steps p.tables e below (s₁.setTop (entryFrame m #[.ref b, .int (Int32.ofNat o), .ref d, .int (Int32.ofNat q), .int (Int32.ofNat len)] 7)) (Tl.setTop (mkF m 3 #[.val (.ref b), .val (.int (Int32.ofNat (o + i))), .val (.ref d), .val (.int (Int32.ofNat (q + i))), .val (.int (Int32.ofNat len)), .val (.int (Int32.ofNat i)), z] [])) → ∃ (T' : State) (B' : Cell) (z' : Slot), Stand p l e { frames := 0, locals := 0, cells := 0, slots := 0 } s m #[.ref b, .int (Int32.ofNat o), .ref d, .int (Int32.ofNat q), .int (Int32.ofNat len)] below meth c T' ([] ++ copyLocs d q len) 0 0 ∧ Put d B' s₁ T' ∧ Laid B B' q (q + len) (fun j => Value.int (lo8 (cv A (o + (j - q))))) ∧
      Steps p.tables e below (s₁.setTop (entryFrame m #[.ref b, .int (Int32.ofNat o), .ref d, .int (Int32.ofNat q), .int (Int32.ofNat len)] 7)) (T'.setTop (mkF m 3 #[.val (.ref b), .val (.int (Int32.ofNat (o + len))), .val (.ref d), .val (.int (Int32.ofNat (q + len))), .val (.int (Int32.ofNat len)), .val (.int (Int32.ofNat len)), z'] [])) := by
    intro r
    induction r with
    | zero =>
      intro i hi z hz Tl Bk Xl pl fl cl
      have hil : i = len := by omega
      rw [hil] at Xl fl cl
      exact ⟨Tl, Bk, z, Xl, pl, fl, cl⟩
    | succ r ih =>
      intro i hi z hz Tl Bk Xl pl fl cl
      have all := X0.warmed.alike.symm.trans Xl.warmed.alike
      have hAl := hA0.keep all (pl.other hne hA0.1)
      have hBk := hB0.like all pl.1 fl.1 fl.2.1 fl.2.2.1
      have hlt : q + i < Bk.slots.size := by rw [fl.2.2.1]; omega
      have c3 : Steps p.tables e below (s₁.setTop (entryFrame m #[.ref b, .int (Int32.ofNat o), .ref d, .int (Int32.ofNat q), .int (Int32.ofNat len)] 7)) (Tl.setTop (mkF m 12 #[.val (.ref b), .val (.int (Int32.ofNat (o + i))), .val (.ref d), .val (.int (Int32.ofNat (q + i))), .val (.int (Int32.ofNat len)), .val (.int (Int32.ofNat i)), z] [.int (Int32.ofNat (o + i)), .ref b])) := cl.trans (by
        refine XS.iload Xl.here hexec rfl (hb hbytes d3) rfl ?_
        refine XS.iload Xl.here hexec rfl (hb hbytes d5) rfl ?_
        refine XS.icmpNo Xl.here hexec rfl (hb hbytes d7) rfl (ii_ge_f (lt32 (by omega) (by omega))) ?_
        refine XS.aloadN Xl.here hexec rfl (hb hbytes d10) rfl rfl ?_
        refine XS.iloadN Xl.here hexec rfl (hb hbytes d11) rfl ?_
        exact Steps.refl _)
      have c4 : Steps p.tables e below (s₁.setTop (entryFrame m #[.ref b, .int (Int32.ofNat o), .ref d, .int (Int32.ofNat q), .int (Int32.ofNat len)] 7)) (Tl.setTop (mkF m 13 #[.val (.ref b), .val (.int (Int32.ofNat (o + i))), .val (.ref d), .val (.int (Int32.ofNat (q + i))), .val (.int (Int32.ofNat len)), .val (.int (Int32.ofNat i)), z] [.int (cv A (o + i))])) := c3.trans (by
        refine Xl.aget hexec hAl rfl (hA.get (i := o + i) (by omega)) rfl rfl (hb hbytes d12) ?_
        exact Steps.refl _)
      have c5 : Steps p.tables e below (s₁.setTop (entryFrame m #[.ref b, .int (Int32.ofNat o), .ref d, .int (Int32.ofNat q), .int (Int32.ofNat len)] 7)) (Tl.setTop (mkF m 15 #[.val (.ref b), .val (.int (Int32.ofNat (o + i))), .val (.ref d), .val (.int (Int32.ofNat (q + i))), .val (.int (Int32.ofNat len)), .val (.int (Int32.ofNat i)), .val (.int (cv A (o + i)))] [])) := c4.trans (by
        refine XS.istoreS Xl.here hexec rfl (hb hbytes d13) rfl rfl hz ?_
        exact Steps.refl _)
      have c6 : Steps p.tables e below (s₁.setTop (entryFrame m #[.ref b, .int (Int32.ofNat o), .ref d, .int (Int32.ofNat q), .int (Int32.ofNat len)] 7)) (Tl.setTop (mkF m 31 #[.val (.ref b), .val (.int (Int32.ofNat (o + i))), .val (.ref d), .val (.int (Int32.ofNat (q + i))), .val (.int (Int32.ofNat len)), .val (.int (Int32.ofNat i)), .val (.int (cv A (o + i)))] [.int (lo8 (cv A (o + i))), .int (Int32.ofNat (q + i)), .ref d])) := c5.trans (by
        refine XS.iload Xl.here hexec rfl (hb hbytes d15) rfl ?_
        refine sipushV Xl.here hexec rfl 255 (hb hbytes d17) (by decide) ?_
        refine XS.icmpYes Xl.here hexec rfl (pc0 := 20) rfl (hb hbytes d20) rfl (ii_le_t (hp i (by omega))) (by decide) rfl ?_
        refine XS.aloadN Xl.here hexec rfl (hb hbytes d26) rfl rfl ?_
        refine XS.iloadN Xl.here hexec rfl (hb hbytes d27) rfl ?_
        refine XS.iload Xl.here hexec rfl (hb hbytes d28) rfl ?_
        refine i2b Xl.here hexec rfl (hb hbytes d30) rfl ?_
        exact Steps.refl _)
      obtain ⟨T7, X7, p7, st7⟩ := Xl.aput hexec hBk rfl hlt rfl (fits_lo8 (cv A (o + i))) (g := (mkF m 31 #[.val (.ref b), .val (.int (Int32.ofNat (o + i))), .val (.ref d), .val (.int (Int32.ofNat (q + i))), .val (.int (Int32.ofNat len)), .val (.int (Int32.ofNat i)), .val (.int (cv A (o + i)))] [.int (lo8 (cv A (o + i))), .int (Int32.ofNat (q + i)), .ref d])) rfl (rest := []) rfl (hb hbytes d31)
      have c8 : Steps p.tables e below (s₁.setTop (entryFrame m #[.ref b, .int (Int32.ofNat o), .ref d, .int (Int32.ofNat q), .int (Int32.ofNat len)] 7)) (T7.setTop (mkF m 32 #[.val (.ref b), .val (.int (Int32.ofNat (o + i))), .val (.ref d), .val (.int (Int32.ofNat (q + i))), .val (.int (Int32.ofNat len)), .val (.int (Int32.ofNat i)), .val (.int (cv A (o + i)))] [])) := c6.trans (st7 _ (Steps.refl _))
      have c9 : Steps p.tables e below (s₁.setTop (entryFrame m #[.ref b, .int (Int32.ofNat o), .ref d, .int (Int32.ofNat q), .int (Int32.ofNat len)] 7)) (T7.setTop (mkF m 3 #[.val (.ref b), .val (.int (Int32.ofNat (o + i) + 1)), .val (.ref d), .val (.int (Int32.ofNat (q + i) + 1)), .val (.int (Int32.ofNat len)), .val (.int (Int32.ofNat i + 1)), .val (.int (cv A (o + i)))] [])) := c8.trans (by
        refine iincV X7.here hexec rfl 1 (hb hbytes d32) (by decide) rfl rfl ?_
        refine iincV X7.here hexec rfl 1 (hb hbytes d35) (by decide) rfl rfl ?_
        refine iincV X7.here hexec rfl 1 (hb hbytes d38) (by decide) rfl rfl ?_
        refine XS.goto X7.here hexec rfl (pc0 := 41) rfl (hb hbytes d41) (by decide) rfl ?_
        exact Steps.refl _)
      have c10 : Steps p.tables e below (s₁.setTop (entryFrame m #[.ref b, .int (Int32.ofNat o), .ref d, .int (Int32.ofNat q), .int (Int32.ofNat len)] 7)) (T7.setTop (mkF m 3 #[.val (.ref b), .val (.int (Int32.ofNat (o + (i + 1)))), .val (.ref d), .val (.int (Int32.ofNat (q + (i + 1)))), .val (.int (Int32.ofNat len)), .val (.int (Int32.ofNat (i + 1))), .val (.int (cv A (o + i)))] [])) := by
        have := c9
        rw [succ32, succ32, succ32] at this
        exact this
      exact ih (i + 1) (by omega) _ (Or.inr ⟨_, rfl, rfl⟩) T7 _ (by rw [copyLocs_step, ← List.append_assoc]; exact X7) (pl.trans p7) (fl.step (by omega) hlt (by simp)) c10
  obtain ⟨T9, B9, z9, X9, p9, f9, g9⟩ := loop len 0 (by omega) .unset (Or.inl rfl) s₁ B (by simpa [copyLocs] using X0) ⟨hB0.1, fun _ _ => rfl, rfl⟩ (Laid.zero _ _ _) c2
  have c11 : Steps p.tables e below (s₁.setTop (entryFrame m #[.ref b, .int (Int32.ofNat o), .ref d, .int (Int32.ofNat q), .int (Int32.ofNat len)] 7)) (T9.setTop (mkF m 46 #[.val (.ref b), .val (.int (Int32.ofNat (o + len))), .val (.ref d), .val (.int (Int32.ofNat (q + len))), .val (.int (Int32.ofNat len)), .val (.int (Int32.ofNat len)), z9] [.int (Int32.ofNat len)])) := g9.trans (by
    refine XS.iload X9.here hexec rfl (hb hbytes d3) rfl ?_
    refine XS.iload X9.here hexec rfl (hb hbytes d5) rfl ?_
    refine XS.icmpYes X9.here hexec rfl (pc0 := 7) rfl (hb hbytes d7) rfl (ii_ge_t (nlt32 (by omega) (Nat.le_refl _))) (by decide) rfl ?_
    refine XS.iload X9.here hexec rfl (hb hbytes d44) rfl ?_
    exact Steps.refl _)
  exact ⟨T9, some (.int (Int32.ofNat len)), _, _, _, X9, by simp, rfl, rfl, (fun h => by cases h), ⟨rfl, B9, p9.from hh0, f9⟩, fun fs hl => c11.trans (X9.ireturnOut hexec hret rfl (Or.inl rfl) (hb hbytes d46) hl)⟩
end Cmp5
namespace Cmp3
def yN : MethodName := ⟨"java/lang/StringUTF16", "compress", "([CII)[B"⟩
abbrev yB : ByteArray := jdk_52_method_16_code
theorem d0 : decode yB 0 = .ok (.iload_n 2, 1) := by decide +kernel
theorem d1 : decode yB 1 = .ok (.newarray .byte, 2) := by decide +kernel
theorem d3 : decode yB 3 = .ok (.astore_n 3, 1) := by decide +kernel
theorem d4 : decode yB 4 = .ok (.aload_n 0, 1) := by decide +kernel
theorem d5 : decode yB 5 = .ok (.iload_n 1, 1) := by decide +kernel
theorem d6 : decode yB 6 = .ok (.aload_n 3, 1) := by decide +kernel
theorem d7 : decode yB 7 = .ok (.iconst 0, 1) := by decide +kernel
theorem d8 : decode yB 8 = .ok (.iload_n 2, 1) := by decide +kernel
theorem d9 : decode yB 9 = .ok (.invokestatic 115, 3) := by decide +kernel
theorem d12 : decode yB 12 = .ok (.istore 4, 2) := by decide +kernel
theorem d14 : decode yB 14 = .ok (.iload 4, 2) := by decide +kernel
theorem d16 : decode yB 16 = .ok (.iload_n 2, 1) := by decide +kernel
theorem d17 : decode yB 17 = .ok (.if_icmp (.eq) 40, 3) := by decide +kernel
theorem d57 : decode yB 57 = .ok (.aload_n 3, 1) := by decide +kernel
theorem d58 : decode yB 58 = .ok (.areturn, 1) := by decide +kernel
def site : List Cond := [.arrayClass .byte, Cmp5.tab] ++ staticW U16 115 Cmp5.yN
def tab : Cond := tabOf yN yB 6 (some (.array .byte)) site
def P (b : Addr) (A : Cell) (o len : Nat) (args : Array Value) (s : State) : Prop := args = #[.ref b, .int (Int32.ofNat o), .int (Int32.ofNat len)] ∧ Ch b A s ∧ o + len ≤ A.slots.size ∧ len ≤ 536870912 ∧ ∀ i, i < len → ¬ 255 < cv A (o + i)
def E (b : Addr) (A : Cell) (o len : Nat) (r : Option Value) (s u : State) : Prop := NewArr .byte "[B" len (fun j => .int (lo8 (cv A (o + j)))) r s u ∧ u.heap.size = s.heap.size + 1
/-- no char of the range above 255: a new byte[] of their low bytes -/
theorem law (l : Launch) (b : Addr) (A : Cell) (o len : Nat) : Law l yN 3 3 1 18 yB 6 (some (.array .byte)) site (P b A o len) (E b A o len) [] 1 len := by
  refine Law.of_walk (plainFor_of_name (by decide +kernel)) (by decide +kernel) (by decide +kernel) (by decide) (fun _ _ h => by rw [h.1]; rfl) (fun _ U U' hal hh h => ⟨h.1, h.2.1.mv hal hh, h.2.2⟩) (fun r U U' V V' h1 hal h2 h => ⟨NewArr.mv r U U' V V' h1 hal h2 h.1, by rw [h1, h2]; exact h.2⟩) ?_
  intro p e s m args below meth c s₁ X0 hexec hbytes hml hret hlk hnm hown hh0 W hP
  obtain ⟨rfl, hA, l1, l2, hp⟩ := hP
  have a31 := hA.1.2.2.2
  have c1 : Steps p.tables e below (s₁.setTop (entryFrame m #[.ref b, .int (Int32.ofNat o), .int (Int32.ofNat len)] 6)) (s₁.setTop (mkF m 0 #[.val (.ref b), .val (.int (Int32.ofNat o)), .val (.int (Int32.ofNat len)), .unset, .unset, .unset] [])) := entry rfl
  have c2 : Steps p.tables e below (s₁.setTop (entryFrame m #[.ref b, .int (Int32.ofNat o), .int (Int32.ofNat len)] 6)) (s₁.setTop (mkF m 1 #[.val (.ref b), .val (.int (Int32.ofNat o)), .val (.int (Int32.ofNat len)), .unset, .unset, .unset] [.int (Int32.ofNat len)])) := c1.trans (by
    refine XS.iloadN X0.here hexec rfl (hb hbytes d0) rfl ?_
    exact Steps.refl _)
  obtain ⟨T3, B3, X3, ba3, bs3, bv3, bh3, bf3, st3⟩ := X0.anew hexec (atype := .byte) (wk W (.arrayClass .byte)) rfl (by show len * 1 ≤ _; omega) (by omega) (g := (mkF m 1 #[.val (.ref b), .val (.int (Int32.ofNat o)), .val (.int (Int32.ofNat len)), .unset, .unset, .unset] [.int (Int32.ofNat len)])) rfl (hb hbytes d1) (rest := []) rfl (Nat.le_refl _) (by show 0 + len ≤ len; omega)
  rw [hh0] at ba3 st3
  have kp3 : XT.Kept s T3 := (XT.Kept.of_eq hh0).push bh3
  have hA3 := hA.keep X3.warmed.alike (kp3 _ _ hA.1.1)
  have hne : b ≠ s.heap.size := hA.1.ne
  have c4 : Steps p.tables e below (s₁.setTop (entryFrame m #[.ref b, .int (Int32.ofNat o), .int (Int32.ofNat len)] 6)) (T3.setTop (mkF m 3 #[.val (.ref b), .val (.int (Int32.ofNat o)), .val (.int (Int32.ofNat len)), .unset, .unset, .unset] [.ref s.heap.size])) := c2.trans (st3 _ (Steps.refl _))
  have c5 : Steps p.tables e below (s₁.setTop (entryFrame m #[.ref b, .int (Int32.ofNat o), .int (Int32.ofNat len)] 6)) (T3.setTop (mkF m 9 #[.val (.ref b), .val (.int (Int32.ofNat o)), .val (.int (Int32.ofNat len)), .val (.ref s.heap.size), .unset, .unset] [.int (Int32.ofNat len), .int 0, .ref s.heap.size, .int (Int32.ofNat o), .ref b])) := c4.trans (by
    refine XS.astoreN X3.here hexec rfl (hb hbytes d3) rfl rfl rfl ?_
    refine XS.aloadN X3.here hexec rfl (hb hbytes d4) rfl rfl ?_
    refine XS.iloadN X3.here hexec rfl (hb hbytes d5) rfl ?_
    refine XS.aloadN X3.here hexec rfl (hb hbytes d6) rfl rfl ?_
    refine iconstV X3.here hexec rfl 0 (hb hbytes d7) (by decide) ?_
    refine XS.iloadN X3.here hexec rfl (hb hbytes d8) rfl ?_
    exact Steps.refl _)
  obtain ⟨v6, T6, X6, E6, g6⟩ := X3.callS hexec (Cmp5.law l b A s.heap.size B3 o 0 len) hown (wks W (staticW U16 115 Cmp5.yN)) (wk W Cmp5.tab) (W := 0) (Nat.le_of_ble_eq_true rfl) (Nat.le_of_ble_eq_true rfl) (Nat.le_refl _) (by show 0 + len + 0 ≤ len; omega) (g := (mkF m 9 #[.val (.ref b), .val (.int (Int32.ofNat o)), .val (.int (Int32.ofNat len)), .val (.ref s.heap.size), .unset, .unset] [.int (Int32.ofNat len), .int (Int32.ofNat 0), .ref s.heap.size, .int (Int32.ofNat o), .ref b])) rfl (by rw [hml]; rfl) c5 (argsL := [.ref b, .int (Int32.ofNat o), .ref s.heap.size, .int (Int32.ofNat 0), .int (Int32.ofNat len)]) (rest := []) rfl rfl (by show 2 * 0 + 0 ≤ _; decide) (hb hbytes d9) (⟨rfl, hA3, ba3, hne, l1, by rw [bs3]; simp, hp⟩)
  obtain ⟨rfl, B6, p6, f6⟩ := E6
  have c7 : Steps p.tables e below (s₁.setTop (entryFrame m #[.ref b, .int (Int32.ofNat o), .int (Int32.ofNat len)] 6)) (T6.setTop (mkF m 12 #[.val (.ref b), .val (.int (Int32.ofNat o)), .val (.int (Int32.ofNat len)), .val (.ref s.heap.size), .unset, .unset] [.int (Int32.ofNat len)])) := g6
  have c8 : Steps p.tables e below (s₁.setTop (entryFrame m #[.ref b, .int (Int32.ofNat o), .int (Int32.ofNat len)] 6)) (T6.setTop (mkF m 58 #[.val (.ref b), .val (.int (Int32.ofNat o)), .val (.int (Int32.ofNat len)), .val (.ref s.heap.size), .val (.int (Int32.ofNat len)), .unset] [.ref s.heap.size])) := c7.trans (by
    refine XS.istore X6.here hexec rfl (hb hbytes d12) rfl rfl ?_
    refine XS.iload X6.here hexec rfl (hb hbytes d14) rfl ?_
    refine XS.iloadN X6.here hexec rfl (hb hbytes d16) rfl ?_
    refine XS.icmpYes X6.here hexec rfl (pc0 := 17) rfl (hb hbytes d17) rfl (ii_eq_t rfl) (by decide) rfl ?_
    refine XS.aloadN X6.here hexec rfl (hb hbytes d57) rfl rfl ?_
    exact Steps.refl _)
  have X8 := X6.wide (L' := []) (cells' := 1) (slots' := len) (fun x hx hlt => by
    simp only [List.nil_append, copyLocs, List.mem_map, List.mem_range] at hx
    obtain ⟨i, -, rfl⟩ := hx
    exact absurd hlt (Nat.lt_irrefl _)) (Nat.le_refl _) (by omega)
  exact ⟨T6, some (.ref s.heap.size), _, _, _, X8, rfl, rfl, rfl, (fun h => by cases h), ⟨⟨rfl, B6, ba3.like (X3.warmed.alike.symm.trans X6.warmed.alike) p6.1 f6.1 f6.2.1 f6.2.2.1, f6.2.1.trans bv3, by rw [X6.warmed.alike.findClass, f6.1]; exact bf3, by rw [f6.2.2.1, bs3]; simp, fun j hj => by rw [f6.2.2.2 j, if_pos (by omega)]; rfl, kp3.put p6 (Nat.le_refl _)⟩, by rw [p6.2.2, bh3, hh0]; simp⟩, fun fs hl => c8.trans (X8.areturnOut hexec rfl hret rfl (hb hbytes d58) hl)⟩
end Cmp3
namespace CodL
def yN : MethodName := ⟨"java/lang/StringUTF16", "coderFromArrayLen", "([BI)B"⟩
abbrev yB : ByteArray := jdk_52_method_15_code
theorem d0 : decode yB 0 = .ok (.iload_n 1, 1) := by decide +kernel
theorem d1 : decode yB 1 = .ok (.aload_n 0, 1) := by decide +kernel
theorem d2 : decode yB 2 = .ok (.arraylength, 1) := by decide +kernel
theorem d3 : decode yB 3 = .ok (.isub, 1) := by decide +kernel
theorem d4 : decode yB 4 = .ok (.bipush 31, 2) := by decide +kernel
theorem d6 : decode yB 6 = .ok (.iushr, 1) := by decide +kernel
theorem d7 : decode yB 7 = .ok (.i2b, 1) := by decide +kernel
theorem d8 : decode yB 8 = .ok (.ireturn, 1) := by decide +kernel
def site : List Cond := []
def tab : Cond := tabOf yN yB 2 (some .byte) site
def P (d : Addr) (B : Cell) (args : Array Value) (s : State) : Prop := args = #[.ref d, .int (Int32.ofNat B.slots.size)] ∧ Arr .byte d B s
def E (r : Option Value) (s u : State) : Prop := XT.PureE (some (.int 0)) r s u
/-- an array as long as the number of chars: LATIN1 -/
theorem law (l : Launch) (d : Addr) (B : Cell) : Law l yN 2 2 0 0 yB 2 (some .byte) site (P d B) E [] 0 0 := by
  refine Law.of_walk (plainFor_of_name (by decide +kernel)) (by decide +kernel) (by decide +kernel) (by decide) (fun _ _ h => by rw [h.1]; rfl) (fun _ U U' hal hh h => ⟨h.1, h.2.mv hal hh⟩) (fun r U U' V V' h1 hal h2 h => XT.PureE.mv r U U' V V' h1 hal h2 h) ?_
  intro p e s m args below meth c s₁ X0 hexec hbytes hml hret hlk hnm hown hh0 W hP
  obtain ⟨rfl, hB⟩ := hP
  have hB0 := hB.mv X0.warmed.alike hh0
  have c1 : Steps p.tables e below (s₁.setTop (entryFrame m #[.ref d, .int (Int32.ofNat B.slots.size)] 2)) (s₁.setTop (mkF m 0 #[.val (.ref d), .val (.int (Int32.ofNat B.slots.size))] [])) := entry rfl
  have c2 : Steps p.tables e below (s₁.setTop (entryFrame m #[.ref d, .int (Int32.ofNat B.slots.size)] 2)) (s₁.setTop (mkF m 2 #[.val (.ref d), .val (.int (Int32.ofNat B.slots.size))] [.ref d, .int (Int32.ofNat B.slots.size)])) := c1.trans (by
    refine XS.iloadN X0.here hexec rfl (hb hbytes d0) rfl ?_
    refine XS.aloadN X0.here hexec rfl (hb hbytes d1) rfl rfl ?_
    exact Steps.refl _)
  have c3 : Steps p.tables e below (s₁.setTop (entryFrame m #[.ref d, .int (Int32.ofNat B.slots.size)] 2)) (s₁.setTop (mkF m 8 #[.val (.ref d), .val (.int (Int32.ofNat B.slots.size))] [.int (lo8 (ushr (Int32.ofNat B.slots.size - Int32.ofNat B.slots.size) 31))])) := c2.trans (by
    refine X0.alen hexec hB0 rfl rfl (hb hbytes d2) ?_
    refine XS.isub X0.here hexec rfl (hb hbytes d3) rfl ?_
    refine bipushV X0.here hexec rfl 31 (hb hbytes d4) (by decide) ?_
    refine iushr X0.here hexec rfl (hb hbytes d6) rfl ?_
    refine i2b X0.here hexec rfl (hb hbytes d7) rfl ?_
    exact Steps.refl _)
  have e0 : lo8 (ushr (Int32.ofNat B.slots.size - Int32.ofNat B.slots.size) 31) = 0 := by rw [Int32.sub_self]; decide
  rw [e0] at c3
  exact ⟨s₁, some (.int 0), _, _, _, X0, rfl, rfl, rfl, (fun h => by cases h), ⟨rfl, hh0⟩, fun fs hl => c3.trans (X0.ireturnOut hexec hret rfl (Or.inr (Or.inr (Or.inl rfl))) (hb hbytes d8) hl)⟩
end CodL
/-- the String at a is Latin-1 over a new byte[] (the heap's one new cell): the low bytes of the len chars of A from o on; every cell but a is kept -/
def Got (a : Addr) (D : Cell) (fV fC : Field) (A : Cell) (o len : Nat) (r : Option Value) (s u : State) : Prop := r = none ∧ ∃ D' V : Cell, Blank "java/lang/String" a D' u ∧ Same D D' [fV.slot, fC.slot] ∧ D'.slots[fV.slot]? = some (.ref s.heap.size) ∧ D'.slots[fC.slot]? = some (.int 0) ∧ Arr .byte s.heap.size V u ∧ V.vm = .none ∧ u.vm.findClass "[B" = some V.cls ∧ V.slots.size = len ∧ (∀ j, j < len → V.slots[j]? = some (.int (lo8 (cv A (o + j))))) ∧ (∀ (y : Addr) (c : Cell), y ≠ a → s.heap[y]? = some c → u.heap[y]? = some c) ∧ u.heap.size = s.heap.size + 1
theorem Got.mv {a : Addr} {D A : Cell} {fV fC : Field} {o len : Nat} : ∀ r (U U' V V' : State), U'.heap = U.heap → V.vm.Alike V'.vm → V'.heap = V.heap → Got a D fV fC A o len r U V → Got a D fV fC A o len r U' V' :=
  fun r U U' V V' h1 hal h2 ⟨e0, D', X, a1, a2, a3, a4, a5, a6, a7, a8, a9, a10, a11⟩ => ⟨e0, D', X, a1.mv hal h2, a2, by rw [h1]; exact a3, a4, by rw [h1]; exact a5.mv hal h2, a6, by rw [hal.findClass]; exact a7, a8, a9, by rw [h1, h2]; exact a10, by rw [h1, h2]; exact a11⟩
namespace New4
def yN : MethodName := ⟨"java/lang/String", "<init>", "([CIILjava/lang/Void;)V"⟩
abbrev yB : ByteArray := jdk_42_method_149_code
theorem d0 : decode yB 0 = .ok (.aload_n 0, 1) := by decide +kernel
theorem d1 : decode yB 1 = .ok (.invokespecial 1, 3) := by decide +kernel
theorem d4 : decode yB 4 = .ok (.iload_n 3, 1) := by decide +kernel
theorem d5 : decode yB 5 = .ok (.ifCond (.ne) 22, 3) := by decide +kernel
theorem d27 : decode yB 27 = .ok (.getstatic 38, 3) := by decide +kernel
theorem d30 : decode yB 30 = .ok (.ifCond (.eq) 28, 3) := by decide +kernel
theorem d33 : decode yB 33 = .ok (.aload_n 1, 1) := by decide +kernel
theorem d34 : decode yB 34 = .ok (.iload_n 2, 1) := by decide +kernel
theorem d35 : decode yB 35 = .ok (.iload_n 3, 1) := by decide +kernel
theorem d36 : decode yB 36 = .ok (.invokestatic 177, 3) := by decide +kernel
theorem d39 : decode yB 39 = .ok (.astore 5, 2) := by decide +kernel
theorem d41 : decode yB 41 = .ok (.aload_n 0, 1) := by decide +kernel
theorem d42 : decode yB 42 = .ok (.aload 5, 2) := by decide +kernel
theorem d44 : decode yB 44 = .ok (.iload_n 3, 1) := by decide +kernel
theorem d45 : decode yB 45 = .ok (.invokestatic 47, 3) := by decide +kernel
theorem d48 : decode yB 48 = .ok (.putfield 15, 3) := by decide +kernel
theorem d51 : decode yB 51 = .ok (.aload_n 0, 1) := by decide +kernel
theorem d52 : decode yB 52 = .ok (.aload 5, 2) := by decide +kernel
theorem d54 : decode yB 54 = .ok (.putfield 9, 3) := by decide +kernel
theorem d57 : decode yB 57 = .ok (.return_, 1) := by decide +kernel
def site : List Cond := [.fieldLink "java/lang/String" 38 "java/lang/String" "COMPACT_STRINGS" "Z", Cmp3.tab, CodL.tab, .laysFinal "java/lang/String" "java/lang/String" "value" "[B", .fieldLink "java/lang/String" 9 "java/lang/String" "value" "[B", .laysFinal "java/lang/String" "java/lang/String" "coder" "B", .fieldLink "java/lang/String" 15 "java/lang/String" "coder" "B"] ++ objW "java/lang/String" 1 ++ staticW "java/lang/String" 177 Cmp3.yN ++ staticW "java/lang/String" 47 CodL.yN
def tab : Cond := tabOf yN yB 6 none site
def P (a : Addr) (D : Cell) (fV fC : Field) (b : Addr) (A : Cell) (z : Int32) (o len : Nat) (args : Array Value) (s : State) : Prop := args = #[.ref a, .ref b, .int (Int32.ofNat o), .int (Int32.ofNat len), .null] ∧ Blank "java/lang/String" a D s ∧ Found "java/lang/String" "value" "[B" fV s ∧ Found "java/lang/String" "coder" "B" fC s ∧ Ch b A s ∧ StaticIs s "java/lang/String" "COMPACT_STRINGS" "Z" (.int z) ∧ ¬ z = 0 ∧ 0 < len ∧ o + len ≤ A.slots.size ∧ len ≤ 536870912 ∧ ∀ i, i < len → ¬ 255 < cv A (o + i)
def E (a : Addr) (D : Cell) (fV fC : Field) (A : Cell) (o len : Nat) (r : Option Value) (s u : State) : Prop := Got a D fV fC A o len r s u
/-- len > 0, no char of the range above 255: a Latin-1 String of their low bytes -/
theorem law (l : Launch) (a : Addr) (D : Cell) (fV fC : Field) (b : Addr) (A : Cell) (z : Int32) (o len : Nat) : Law l yN 5 4 2 35 yB 6 none site (P a D fV fC b A z o len) (E a D fV fC A o len) [⟨a, fC.slot⟩, ⟨a, fV.slot⟩] 1 len := by
  refine Law.of_walk (plainFor_of_name (by decide +kernel)) (by decide +kernel) (by decide +kernel) (by decide) (fun _ _ h => by rw [h.1]; rfl) (fun _ U U' hal hh h => ⟨h.1, h.2.1.mv hal hh, h.2.2.1.al hal, h.2.2.2.1.al hal, h.2.2.2.2.1.mv hal hh, h.2.2.2.2.2.1.there hal hh, h.2.2.2.2.2.2⟩) (fun r U U' V V' h1 hal h2 h => Got.mv r U U' V V' h1 hal h2 h) ?_
  intro p e s m args below meth c s₁ X0 hexec hbytes hml hret hlk hnm hown hh0 W hP
  obtain ⟨rfl, hB, f1, f2, hA, s1, hz, l0, l1, l2, hp⟩ := hP
  have a31 := hA.1.2.2.2
  have c1 : Steps p.tables e below (s₁.setTop (entryFrame m #[.ref a, .ref b, .int (Int32.ofNat o), .int (Int32.ofNat len), .null] 6)) (s₁.setTop (mkF m 0 #[.val (.ref a), .val (.ref b), .val (.int (Int32.ofNat o)), .val (.int (Int32.ofNat len)), .val .null, .unset] [])) := entry rfl
  have c2 : Steps p.tables e below (s₁.setTop (entryFrame m #[.ref a, .ref b, .int (Int32.ofNat o), .int (Int32.ofNat len), .null] 6)) (s₁.setTop (mkF m 1 #[.val (.ref a), .val (.ref b), .val (.int (Int32.ofNat o)), .val (.int (Int32.ofNat len)), .val .null, .unset] [.ref a])) := c1.trans (by
    refine XS.aloadN X0.here hexec rfl (hb hbytes d0) rfl rfl ?_
    exact Steps.refl _)
  obtain ⟨T3, X3, q3, st3⟩ := X0.oinit hexec hown (wks W (objW "java/lang/String" 1)) (g := (mkF m 1 #[.val (.ref a), .val (.ref b), .val (.int (Int32.ofNat o)), .val (.int (Int32.ofNat len)), .val .null, .unset] [.ref a])) rfl (by rw [hml]; rfl) (rest := []) rfl (hb hbytes d1) (W := 0) (by show 2 * 0 + 0 ≤ _; decide) (Nat.le_of_ble_eq_true rfl) (Nat.le_of_ble_eq_true rfl)
  have hh3 := q3.trans hh0
  have c4 : Steps p.tables e below (s₁.setTop (entryFrame m #[.ref a, .ref b, .int (Int32.ofNat o), .int (Int32.ofNat len), .null] 6)) (T3.setTop (mkF m 27 #[.val (.ref a), .val (.ref b), .val (.int (Int32.ofNat o)), .val (.int (Int32.ofNat len)), .val .null, .unset] [])) := (c2.trans (st3 _ (Steps.refl _))).trans (by
    refine XS.iloadN X3.here hexec rfl (hb hbytes d4) rfl ?_
    refine XS.ifYes X3.here hexec rfl (pc0 := 5) rfl (hb hbytes d5) rfl (i0_ne_t (nz32 (by omega) l0)) (by decide) rfl ?_
    exact Steps.refl _)
  obtain ⟨T5, X5, q5, st5⟩ := X3.sget hexec hown (wk W (.fieldLink "java/lang/String" 38 "java/lang/String" "COMPACT_STRINGS" "Z")) s1 (fun _ _ h => by rw [hh3]; exact h) (g := (mkF m 27 #[.val (.ref a), .val (.ref b), .val (.int (Int32.ofNat o)), .val (.int (Int32.ofNat len)), .val .null, .unset] [])) rfl (hb hbytes d27)
  have hh5 := q5.trans hh3
  have c6 : Steps p.tables e below (s₁.setTop (entryFrame m #[.ref a, .ref b, .int (Int32.ofNat o), .int (Int32.ofNat len), .null] 6)) (T5.setTop (mkF m 30 #[.val (.ref a), .val (.ref b), .val (.int (Int32.ofNat o)), .val (.int (Int32.ofNat len)), .val .null, .unset] [.int z])) := c4.trans (st5 _ (Steps.refl _))
  have c7 : Steps p.tables e below (s₁.setTop (entryFrame m #[.ref a, .ref b, .int (Int32.ofNat o), .int (Int32.ofNat len), .null] 6)) (T5.setTop (mkF m 36 #[.val (.ref a), .val (.ref b), .val (.int (Int32.ofNat o)), .val (.int (Int32.ofNat len)), .val .null, .unset] [.int (Int32.ofNat len), .int (Int32.ofNat o), .ref b])) := c6.trans (by
    refine XS.ifNo X5.here hexec rfl (hb hbytes d30) rfl (i0_eq_f hz) ?_
    refine XS.aloadN X5.here hexec rfl (hb hbytes d33) rfl rfl ?_
    refine XS.iloadN X5.here hexec rfl (hb hbytes d34) rfl ?_
    refine XS.iloadN X5.here hexec rfl (hb hbytes d35) rfl ?_
    exact Steps.refl _)
  obtain ⟨v8, T8, X8, E8, g8⟩ := X5.callS hexec (Cmp3.law l b A o len) hown (wks W (staticW "java/lang/String" 177 Cmp3.yN)) (wk W Cmp3.tab) (W := 0) (Nat.le_of_ble_eq_true rfl) (Nat.le_of_ble_eq_true rfl) (Nat.le_refl _) (by show 0 + len ≤ len; omega) (g := (mkF m 36 #[.val (.ref a), .val (.ref b), .val (.int (Int32.ofNat o)), .val (.int (Int32.ofNat len)), .val .null, .unset] [.int (Int32.ofNat len), .int (Int32.ofNat o), .ref b])) rfl (by rw [hml]; rfl) c7 (argsL := [.ref b, .int (Int32.ofNat o), .int (Int32.ofNat len)]) (rest := []) rfl rfl (by show 2 * 0 + 0 ≤ _; decide) (hb hbytes d36) (⟨rfl, hA.mv X5.warmed.alike hh5, l1, l2, hp⟩)
  obtain ⟨e8, z8⟩ := E8
  obtain ⟨rfl, N, n1, n2, n3, n4, n5, n6⟩ := NewArr.mv _ T5 s _ _ hh5.symm (Vm.Alike.refl _) rfl e8
  rw [hh5] at z8
  have hB1 := hB.keep X8.warmed.alike (n6 _ _ hB.1)
  have hne : s.heap.size ≠ a := (Nat.ne_of_lt (Array.getElem?_eq_some_iff.mp hB.1).1).symm
  have c9 : Steps p.tables e below (s₁.setTop (entryFrame m #[.ref a, .ref b, .int (Int32.ofNat o), .int (Int32.ofNat len), .null] 6)) (T8.setTop (mkF m 39 #[.val (.ref a), .val (.ref b), .val (.int (Int32.ofNat o)), .val (.int (Int32.ofNat len)), .val .null, .unset] [.ref s.heap.size])) := g8
  have c10 : Steps p.tables e below (s₁.setTop (entryFrame m #[.ref a, .ref b, .int (Int32.ofNat o), .int (Int32.ofNat len), .null] 6)) (T8.setTop (mkF m 45 #[.val (.ref a), .val (.ref b), .val (.int (Int32.ofNat o)), .val (.int (Int32.ofNat len)), .val .null, .val (.ref s.heap.size)] [.int (Int32.ofNat N.slots.size), .ref s.heap.size, .ref a])) := by
    have hc : Steps p.tables e below (s₁.setTop (entryFrame m #[.ref a, .ref b, .int (Int32.ofNat o), .int (Int32.ofNat len), .null] 6)) (T8.setTop (mkF m 45 #[.val (.ref a), .val (.ref b), .val (.int (Int32.ofNat o)), .val (.int (Int32.ofNat len)), .val .null, .val (.ref s.heap.size)] [.int (Int32.ofNat len), .ref s.heap.size, .ref a])) := c9.trans (by
      refine XS.astore X8.here hexec rfl (hb hbytes d39) rfl rfl rfl ?_
      refine XS.aloadN X8.here hexec rfl (hb hbytes d41) rfl rfl ?_
      refine XS.aload X8.here hexec rfl (hb hbytes d42) rfl rfl ?_
      refine XS.iloadN X8.here hexec rfl (hb hbytes d44) rfl ?_
      exact Steps.refl _)
    rw [n4]; exact hc
  obtain ⟨v11, T11, X11, E11, g11⟩ := X8.callS hexec (CodL.law l s.heap.size N) hown (wks W (staticW "java/lang/String" 47 CodL.yN)) (wk W CodL.tab) (W := 1) (Nat.le_of_ble_eq_true rfl) (Nat.le_of_ble_eq_true rfl) (Nat.le_refl _) (by show 0 + len + 0 ≤ len; omega) (g := (mkF m 45 #[.val (.ref a), .val (.ref b), .val (.int (Int32.ofNat o)), .val (.int (Int32.ofNat len)), .val .null, .val (.ref s.heap.size)] [.int (Int32.ofNat N.slots.size), .ref s.heap.size, .ref a])) rfl (by rw [hml]; rfl) c10 (argsL := [.ref s.heap.size, .int (Int32.ofNat N.slots.size)]) (rest := [.ref a]) rfl rfl (by show 2 * 0 + (1 + 0) ≤ _; decide) (hb hbytes d45) (⟨rfl, n1⟩)
  obtain ⟨rfl, q11⟩ := E11
  have hB11 := hB1.mv (X8.warmed.alike.symm.trans X11.warmed.alike) q11
  have c12 : Steps p.tables e below (s₁.setTop (entryFrame m #[.ref a, .ref b, .int (Int32.ofNat o), .int (Int32.ofNat len), .null] 6)) (T11.setTop (mkF m 48 #[.val (.ref a), .val (.ref b), .val (.int (Int32.ofNat o)), .val (.int (Int32.ofNat len)), .val .null, .val (.ref s.heap.size)] [.int 0, .ref a])) := g11
  obtain ⟨T13, X13, p13, bl13, sl13, st13⟩ := X11.finit hexec hown (wk W (.fieldLink "java/lang/String" 15 "java/lang/String" "coder" "B")) (Or.inr ⟨_, (wk W (.laysFinal "java/lang/String" "java/lang/String" "coder" "B"))⟩) (Or.inl ⟨rfl, hnm⟩) f2 (Or.inl rfl) hB11 (t := .byte) (by decide +kernel) rfl (g := (mkF m 48 #[.val (.ref a), .val (.ref b), .val (.int (Int32.ofNat o)), .val (.int (Int32.ofNat len)), .val .null, .val (.ref s.heap.size)] [.int 0, .ref a])) rfl (rest := []) rfl (hb hbytes d48)
  have c14 : Steps p.tables e below (s₁.setTop (entryFrame m #[.ref a, .ref b, .int (Int32.ofNat o), .int (Int32.ofNat len), .null] 6)) (T13.setTop (mkF m 54 #[.val (.ref a), .val (.ref b), .val (.int (Int32.ofNat o)), .val (.int (Int32.ofNat len)), .val .null, .val (.ref s.heap.size)] [.ref s.heap.size, .ref a])) := (c12.trans (st13 _ (Steps.refl _))).trans (by
    refine XS.aloadN X13.here hexec rfl (hb hbytes d51) rfl rfl ?_
    refine XS.aload X13.here hexec rfl (hb hbytes d52) rfl rfl ?_
    exact Steps.refl _)
  obtain ⟨T15, X15, p15, bl15, sl15, st15⟩ := X13.finit hexec hown (wk W (.fieldLink "java/lang/String" 9 "java/lang/String" "value" "[B")) (Or.inr ⟨_, (wk W (.laysFinal "java/lang/String" "java/lang/String" "value" "[B"))⟩) (Or.inl ⟨rfl, hnm⟩) f1 (Or.inl rfl) bl13 (t := (.array .byte)) (by decide +kernel) rfl (g := (mkF m 54 #[.val (.ref a), .val (.ref b), .val (.int (Int32.ofNat o)), .val (.int (Int32.ofNat len)), .val .null, .val (.ref s.heap.size)] [.ref s.heap.size, .ref a])) rfl (rest := []) rfl (hb hbytes d54)
  have c16 : Steps p.tables e below (s₁.setTop (entryFrame m #[.ref a, .ref b, .int (Int32.ofNat o), .int (Int32.ofNat len), .null] 6)) (T15.setTop (mkF m 57 #[.val (.ref a), .val (.ref b), .val (.int (Int32.ofNat o)), .val (.int (Int32.ofNat len)), .val .null, .val (.ref s.heap.size)] [])) := c14.trans (st15 _ (Steps.refl _))
  have ap := apart (Or.inr ⟨_, (wk W (.laysFinal "java/lang/String" "java/lang/String" "value" "[B"))⟩) (Or.inr ⟨_, (wk W (.laysFinal "java/lang/String" "java/lang/String" "coder" "B"))⟩) f1 f2 (t₁ := .array .byte) (t₂ := .byte) (by decide +kernel) (by decide +kernel) (by decide)
  have al := X8.warmed.alike.symm.trans X15.warmed.alike
  have n7 : T11.heap[s.heap.size]? = some N := by rw [q11]; exact n1.1
  exact ⟨T15, none, _, _, _, X15, by simp, rfl, by omega, (fun _ => rfl), ⟨rfl, _, N, bl15, ((Same.refl D _).set _ (by simp)).set _ (by simp), sl15, (Cell.slots_setSlot_ne _ ap).trans sl13, n1.keep al (p15.other hne (p13.other hne n7)), n2, by rw [al.findClass]; exact n3, n4, n5, fun y c h1 h2 => p15.other h1 (p13.other h1 (by rw [q11]; exact n6 y c h2)), by rw [p15.2.2, p13.2.2, q11]; exact z8⟩, fun fs hl => c16.trans (X15.returnOut hexec hret (hb hbytes d57) hl)⟩
end New4
namespace New1
def yN : MethodName := ⟨"java/lang/String", "<init>", "([C)V"⟩
abbrev yB : ByteArray := jdk_42_method_3_code
theorem d0 : decode yB 0 = .ok (.aload_n 0, 1) := by decide +kernel
theorem d1 : decode yB 1 = .ok (.aload_n 1, 1) := by decide +kernel
theorem d2 : decode yB 2 = .ok (.iconst 0, 1) := by decide +kernel
theorem d3 : decode yB 3 = .ok (.aload_n 1, 1) := by decide +kernel
theorem d4 : decode yB 4 = .ok (.arraylength, 1) := by decide +kernel
theorem d5 : decode yB 5 = .ok (.aconst_null, 1) := by decide +kernel
theorem d6 : decode yB 6 = .ok (.invokespecial 27, 3) := by decide +kernel
theorem d9 : decode yB 9 = .ok (.return_, 1) := by decide +kernel
def site : List Cond := [New4.tab] ++ initW "java/lang/String" 27 New4.yN
def tab : Cond := tabOf yN yB 2 none site
def P (a : Addr) (D : Cell) (fV fC : Field) (b : Addr) (A : Cell) (z : Int32) (args : Array Value) (s : State) : Prop := args = #[.ref a, .ref b] ∧ Blank "java/lang/String" a D s ∧ Found "java/lang/String" "value" "[B" fV s ∧ Found "java/lang/String" "coder" "B" fC s ∧ Ch b A s ∧ StaticIs s "java/lang/String" "COMPACT_STRINGS" "Z" (.int z) ∧ ¬ z = 0 ∧ 0 < A.slots.size ∧ A.slots.size ≤ 536870912 ∧ ∀ i, i < A.slots.size → ¬ 255 < cv A i
def E (a : Addr) (D : Cell) (fV fC : Field) (A : Cell) (r : Option Value) (s u : State) : Prop := Got a D fV fC A 0 A.slots.size r s u
/-- new String(chars), not empty, no char above 255: a Latin-1 String of their low bytes -/
theorem law (l : Launch) (a : Addr) (D : Cell) (fV fC : Field) (b : Addr) (A : Cell) (z : Int32) : Law l yN 2 1 3 52 yB 2 none site (P a D fV fC b A z) (E a D fV fC A) [⟨a, fC.slot⟩, ⟨a, fV.slot⟩] 1 A.slots.size := by
  refine Law.of_walk (plainFor_of_name (by decide +kernel)) (by decide +kernel) (by decide +kernel) (by decide) (fun _ _ h => by rw [h.1]; rfl) (fun _ U U' hal hh h => ⟨h.1, h.2.1.mv hal hh, h.2.2.1.al hal, h.2.2.2.1.al hal, h.2.2.2.2.1.mv hal hh, h.2.2.2.2.2.1.there hal hh, h.2.2.2.2.2.2⟩) (fun r U U' V V' h1 hal h2 h => Got.mv r U U' V V' h1 hal h2 h) ?_
  intro p e s m args below meth c s₁ X0 hexec hbytes hml hret hlk hnm hown hh0 W hP
  obtain ⟨rfl, hB, f1, f2, hA, s1, hz, l0, l2, hp⟩ := hP
  have c1 : Steps p.tables e below (s₁.setTop (entryFrame m #[.ref a, .ref b] 2)) (s₁.setTop (mkF m 0 #[.val (.ref a), .val (.ref b)] [])) := entry rfl
  have c2 : Steps p.tables e below (s₁.setTop (entryFrame m #[.ref a, .ref b] 2)) (s₁.setTop (mkF m 6 #[.val (.ref a), .val (.ref b)] [.null, .int (Int32.ofNat A.slots.size), .int 0, .ref b, .ref a])) := c1.trans (by
    refine XS.aloadN X0.here hexec rfl (hb hbytes d0) rfl rfl ?_
    refine XS.aloadN X0.here hexec rfl (hb hbytes d1) rfl rfl ?_
    refine iconstV X0.here hexec rfl 0 (hb hbytes d2) (by decide) ?_
    refine XS.aloadN X0.here hexec rfl (hb hbytes d3) rfl rfl ?_
    refine X0.alen hexec (hA.1.mv X0.warmed.alike hh0) rfl rfl (hb hbytes d4) ?_
    refine XS.aconstNull X0.here hexec rfl (hb hbytes d5) ?_
    exact Steps.refl _)
  obtain ⟨v3, T3, X3, E3, g3⟩ := X0.callN hexec (New4.law l a D fV fC b A z 0 A.slots.size) rfl hown (wks W (initW "java/lang/String" 27 New4.yN)) (W New4.tab (by simp only [site, List.mem_cons, List.mem_append, true_or, or_true])) (W := 0) (Nat.le_of_ble_eq_true rfl) (Nat.le_of_ble_eq_true rfl) (Nat.le_refl _) (by show 0 + A.slots.size ≤ A.slots.size; omega) (g := (mkF m 6 #[.val (.ref a), .val (.ref b)] [.null, .int (Int32.ofNat A.slots.size), .int (Int32.ofNat 0), .ref b, .ref a])) rfl (by rw [hml]; rfl) c2 (argsL := [.ref b, .int (Int32.ofNat 0), .int (Int32.ofNat A.slots.size), .null]) (rest := []) rfl rfl (by show 2 * 0 + 0 ≤ _; decide) (hb hbytes d6) (⟨rfl, hB.mv X0.warmed.alike hh0, f1.al X0.warmed.alike, f2.al X0.warmed.alike, hA.mv X0.warmed.alike hh0, s1.there X0.warmed.alike hh0, hz, l0, by omega, l2, fun i hi => by rw [Nat.zero_add]; exact hp i hi⟩)
  have e0 := Got.mv _ s₁ s _ _ hh0.symm (Vm.Alike.refl _) rfl E3
  obtain rfl := e0.1
  have c4 : Steps p.tables e below (s₁.setTop (entryFrame m #[.ref a, .ref b] 2)) (T3.setTop (mkF m 9 #[.val (.ref a), .val (.ref b)] [])) := g3
  exact ⟨T3, none, _, _, _, X3, by simp, rfl, by omega, (fun _ => rfl), e0, fun fs hl => c4.trans (X3.returnOut hexec hret (hb hbytes d9) hl)⟩
theorem pays {l : Launch} {R : Room} {p : Program} {e : Env} {below : List Frame} {s : State} {sargs : Array Value} {len W : Nat} (a : Addr) (D : Cell) (fV fC : Field) (b : Addr) (A : Cell) (z : Int32) (htab : tab.before sargs s = true) (hfr : 4 ≤ R.frames) (hlo : W + 65 ≤ R.locals) :
    Back l R p e below s sargs yN len W (fun A₁ a₁ => A₁.cells + 1 ≤ R.cells ∧ A₁.slots + A.slots.size ≤ R.slots ∧ P a D fV fC b A z a₁ A₁.U) (fun A₁ _ v₁ B₁ => E a D fV fC A v₁ A₁.U B₁.U ∧ B₁.locs = A₁.locs ++ [⟨a, fC.slot⟩, ⟨a, fV.slot⟩] ∧ B₁.cells = A₁.cells + 1 ∧ B₁.slots = A₁.slots + A.slots.size) :=
  (law l a D fV fC b A z).pays htab hfr (by omega)
end New1
end StrChars
namespace StrChars.Road
open Jvm Sem ClassFile Op Lib Jvm.Stand Jvm.Free Jvm.Free.XT
open Jvm.Lib.Cold (StaticIs)
abbrev ST : String := "java/lang/String"
/-- every table word that New1's law asks, flat -/
abbrev words : List Jvm.Cond := [.code New1.yN New1.yB 2 none, .initialized ST, .methodLink ST 27 New4.yN, .instanceMethod New4.yN,
  .code New4.yN New4.yB 6 none, .fieldLink ST 38 ST "COMPACT_STRINGS" "Z", .laysFinal ST ST "value" "[B", .fieldLink ST 9 ST "value" "[B", .laysFinal ST ST "coder" "B", .fieldLink ST 15 ST "coder" "B",
  .methodLink ST 1 Lib.objectInit, .instanceMethod Lib.objectInit, .code Lib.objectInit ⟨#[0xb1]⟩ 1 none, .methodLink ST 177 Cmp3.yN, .static Cmp3.yN, .methodLink ST 47 CodL.yN, .static CodL.yN,
  .code Cmp3.yN Cmp3.yB 6 (some (.array .byte)), .initialized U16, .arrayClass .byte, .methodLink U16 115 Cmp5.yN, .static Cmp5.yN, .code Cmp5.yN Cmp5.yB 7 (some .int), .code CodL.yN CodL.yB 2 (some .byte)]
theorem tab_of {a : Array Value} {s : State} (h : ∀ w ∈ words, w.before a s = true) : New1.tab.before a s = true := by
  have h5 : Cmp5.tab.before a s = true := unparts (wk h (.code Cmp5.yN Cmp5.yB 7 (some .int))) (wks h (.initialized Cmp5.yN.cls :: Cmp5.site))
  have hc : CodL.tab.before a s = true := unparts (wk h (.code CodL.yN CodL.yB 2 (some .byte))) (wks h (.initialized CodL.yN.cls :: CodL.site))
  have q5 : ∀ w ∈ Cmp5.tab :: words, w.before a s = true := fun w hw => (List.mem_cons.mp hw).elim (fun e => e ▸ h5) (h w)
  have h3 : Cmp3.tab.before a s = true := unparts (wk q5 (.code Cmp3.yN Cmp3.yB 6 (some (.array .byte)))) (wks q5 (.initialized Cmp3.yN.cls :: Cmp3.site))
  have q3 : ∀ w ∈ Cmp3.tab :: CodL.tab :: words, w.before a s = true := fun w hw => (List.mem_cons.mp hw).elim (fun e => e ▸ h3) fun hw => (List.mem_cons.mp hw).elim (fun e => e ▸ hc) (h w)
  have h4 : New4.tab.before a s = true := unparts (wk q3 (.code New4.yN New4.yB 6 none)) (wks q3 (.initialized New4.yN.cls :: New4.site))
  have q4 : ∀ w ∈ New4.tab :: words, w.before a s = true := fun w hw => (List.mem_cons.mp hw).elim (fun e => e ▸ h4) (h w)
  exact unparts (wk q4 (.code New1.yN New1.yB 2 none)) (wks q4 (.initialized New1.yN.cls :: New1.site))
/-- the words ride from the start Z to the walk's own state -/
theorem moved {Z s : State} {a0 args : Array Value} (hZ : Z.Warmed39 s.vm) (hw : ∀ d ∈ words, d.before a0 Z = true) : ∀ d ∈ words, d.before args s = true := fun d hd => by
  have q := hw d hd
  have t : ∀ d ∈ words, d = .arrayClass .byte ∨ (d.onTables && d.keepsFace) = true := by decide +kernel
  rcases t d hd with rfl | t
  · exact RoadKit.mvA hZ q
  · exact RoadKit.mv hZ q t
/-- WHAT COMES BACK, over the tables of the start Z: h the heap at the call, h' behind it -/
def Q (Z : State) (x : Addr) (A : Cell) (h : Heap) (v : Option Value) (h' : Heap) (L : List Loc) : Prop := v = none ∧ (∀ y ∈ L, y.base = x) ∧ RoadKit.Keep h h' [x] ∧ h'.size = h.size + 1 ∧ RoadKit.Exa Z h' x ST ∧ RoadKit.Fld Z h' x ST "value" "[B" (.ref h.size) ∧ RoadKit.Fld Z h' x ST "coder" "B" (.int 0) ∧
  (∃ V : Cell, RoadKit.Arr Z h' h.size V .byte ∧ V.vm = .none ∧ Z.vm.findClass "[B" = some V.cls ∧ V.slots.size = A.slots.size ∧ ∀ j, j < A.slots.size → V.slots[j]? = some (.int (lo8 (cv A j)))) ∧
  ∀ (O n d : String) (w : Value), RoadKit.Fld Z h x O n d w → RoadKit.slotOf Z O n d ≠ RoadKit.slotOf Z ST "value" "[B" → RoadKit.slotOf Z O n d ≠ RoadKit.slotOf Z ST "coder" "B" → RoadKit.Fld Z h' x O n d w
/-- **new String(chars) AT A CALL, IN THE ROAD'S FORM**: for specialBack behind newO: x the fresh String, b the char[] with the cell A -/
theorem back {p : Program} {l : Launch} {e : Env} {R : Room} {s : State} {args : Array Value} {below : List Frame} {len W : Nat} {Z : State} {a0 : Array Value} {h : Heap} (hZ : Z.Warmed39 s.vm) (hw : ∀ d ∈ words, d.before a0 Z = true) {kI : Nat} (wi : (Jvm.Cond.instantiable ST kI).before a0 Z = true)
    {x b : Addr} {A : Cell} {z : Int32} {v0 c0 : Value} (E : RoadKit.Exa Z h x ST) (V : RoadKit.Fld Z h x ST "value" "[B" v0) (C : RoadKit.Fld Z h x ST "coder" "B" c0) (K : RoadKit.Arr Z h b A .char) (hty : Typed .char A) (S : RoadKit.Sta Z h ST "COMPACT_STRINGS" "Z" (.int z)) (hz : ¬ z = 0)
    (l0 : 0 < A.slots.size) (l2 : A.slots.size ≤ 536870912) (hp : ∀ i, i < A.slots.size → ¬ 255 < cv A i) (hfr : 4 ≤ R.frames) (hlo : W + 65 ≤ R.locals) :
    Back l R p e below s args New1.yN len W (fun P a => a = #[.ref x, .ref b] ∧ P.U.heap = h ∧ P.cells + 1 ≤ R.cells ∧ P.slots + A.slots.size ≤ R.slots)
      (fun P _ v B => ∃ L, Q Z x A h v B.U.heap L ∧ B.locs = P.locs ++ L ∧ B.cells = P.cells + 1 ∧ B.slots = P.slots + A.slots.size) := by
  intro m meth c P g ig mk a X hg hsize hdg hW hn hp'
  obtain ⟨rfl, rfl, r1, r2⟩ := hp'
  have al : Z.vm.Alike P.U.vm := hZ.alike.trans X.warmed.alike
  obtain ⟨D, cfV, kV, iV, fV, hD, gV, stV, knV, obV, asV, slV⟩ := id V
  obtain ⟨D', cfC, kC, iC, fC, hD', gC, stC, -, -, asC, slC⟩ := id C
  cases hD.symm.trans hD'
  obtain ⟨D2, kD, e1, e2, e3, e4, e5⟩ := id E
  cases hD.symm.trans e1
  obtain ⟨c2, k2, i1, i2, i3, -⟩ := Cond.instantiable_spec wi
  cases e2.symm.trans i1
  cases e3.symm.trans i2
  obtain ⟨kU, u1, u2⟩ := al.2.2 _ _ e3
  have hB : Blank ST x D P.U := ⟨hD, ⟨knV, fun q hq => by rw [hq] at obV; cases obV⟩, by rw [al.findClass]; exact e2, kU, u1, by rw [u2]; exact i3, by rw [u2]; exact e5 i3⟩
  have F1 : Found ST "value" "[B" fV P.U := ⟨SBG.found_only al ⟨cfV, kV, iV, gV⟩, stV⟩
  have F2 : Found ST "coder" "B" fC P.U := ⟨SBG.found_only al ⟨cfC, kC, iC, gC⟩, stC⟩
  have hA : Ch b A P.U := ⟨⟨K.1, State.isArrayOf_alike al K.2.1, K.2.2, by omega⟩, hty⟩
  have hS : StaticIs P.U ST "COMPACT_STRINGS" "Z" (.int z) := by
    obtain ⟨cfS, iS, kS, fS, st, cS, t1, t2, t3, t4, t5, t6, t7⟩ := S
    exact StaticIs.there (s := { Z with heap := P.U.heap }) ⟨cfS, iS, kS, fS, st, cS, t1, t2, t3, t4, t5, (fun q => by rw [q] at t6; cases t6), t7⟩ al rfl
  obtain ⟨v, B, X', ⟨⟨hv, E', V', q1, q2, q3, q4, q5, q6, q7, q8, q9, q10, q11⟩, hl, hc, hs⟩, st⟩ := New1.pays x D fV fC b A z (tab_of (moved hZ hw)) hfr hlo m meth c P g ig mk _ X hg hsize hdg hW hn ⟨r1, r2, rfl, hB, F1, F2, hA, hS, hz, l0, l2, hp⟩
  have al' : Z.vm.Alike B.U.vm := hZ.alike.trans X'.warmed.alike
  have hsz : E'.slots.size = D.slots.size := by
    obtain ⟨-, -, -, kB, w1, w2, w3⟩ := q1
    obtain ⟨kB', y1, y2⟩ := al'.2.2 _ _ e3
    rw [q2.2.1] at w1
    cases w1.symm.trans y1
    rw [w3, e5 i3, y2]
  refine ⟨v, B, X', ⟨_, ⟨hv, ?_, ⟨by omega, fun y cy hy hn' => q10 y cy (by simpa using hn') hy, fun y cy hy => ?_⟩, q11, ⟨E', _, q1.1, by rw [q2.2.1]; exact e2, by rw [q2.2.1]; exact e3, by rw [q2.1]; exact obV, fun _ => by rw [hsz]; exact e5 i3⟩,
    ⟨E', cfV, kV, iV, fV, q1.1, gV, stV, by rw [q2.1]; exact knV, by rw [q2.1]; exact obV, by rw [q2.2.1]; exact asV, q3⟩, ⟨E', cfC, kC, iC, fC, q1.1, gC, stC, by rw [q2.1]; exact knV, by rw [q2.1]; exact obV, by rw [q2.2.1]; exact asC, q4⟩,
    ⟨V', ⟨q5.1, State.isArrayOf_alike al'.symm q5.2.1, q5.2.2.1⟩, q6, by rw [← al'.findClass]; exact q7, q8, fun j hj => by have := q9 j hj; rwa [Nat.zero_add] at this⟩, fun O n d w F n1 n2 => ?_⟩, hl, hc, hs⟩, st⟩
  · intro y hy
    simp only [List.mem_cons, List.not_mem_nil, or_false] at hy
    rcases hy with rfl | rfl <;> rfl
  · by_cases q : y = x
    · subst q
      cases hD.symm.trans hy
      exact ⟨E', q1.1, q2.2.1, q2.1, hsz⟩
    · exact ⟨cy, q10 y cy q hy, rfl, rfl, rfl⟩
  · obtain ⟨D3, cf, k, i, f, g1, g2, g3, g4, g5, g6, g7⟩ := F
    cases hD.symm.trans g1
    simp only [RoadKit.slotOf, g2, gV, gC, Option.map_some, Option.getD_some] at n1 n2
    exact ⟨E', cf, k, i, f, q1.1, g2, g3, by rw [q2.1]; exact g4, by rw [q2.1]; exact g5, by rw [q2.2.1]; exact g6, by rw [q2.2.2 f.slot (by simp [n1, n2])]; exact g7⟩
end StrChars.Road
namespace StrChars.Road
open Jvm Sem ClassFile Op Lib Jvm.Stand Jvm.Free Jvm.Free.XT
/-- WHAT COMES BACK, the byte[] as a list of values -/
def QA (Z : State) (x : Addr) (zn : Int32) (cs : List Int32) (h : Heap) (v : Option Value) (h' : Heap) (L : List Loc) : Prop := v = none ∧ (∀ y ∈ L, y.base = x) ∧ RoadKit.Keep h h' [x] ∧ h'.size = h.size + 1 ∧ RoadKit.Exa Z h' x ST ∧ RoadKit.Fld Z h' x ST "value" "[B" (.ref h.size) ∧ RoadKit.Fld Z h' x ST "coder" "B" (.int 0) ∧
  (∃ kb, Z.vm.findClass "[B" = some kb ∧ RoadKit.Arv Z h' h.size kb .byte zn (cs.map fun c => .int (lo8 c)) (.int 0)) ∧
  ∀ (O n d : String) (w : Value), RoadKit.Fld Z h x O n d w → RoadKit.slotOf Z O n d ≠ RoadKit.slotOf Z ST "value" "[B" → RoadKit.slotOf Z O n d ≠ RoadKit.slotOf Z ST "coder" "B" → RoadKit.Fld Z h' x O n d w
/-- **new String(chars) AT A CALL, THE ARRAYS AS LISTS**: the char[] at b holds cs, not empty, no char above 255 -/
theorem backArv {p : Program} {l : Launch} {e : Env} {R : Room} {s : State} {args : Array Value} {below : List Frame} {len W : Nat} {Z : State} {a0 : Array Value} {h : Heap} (hZ : Z.Warmed39 s.vm) (hw : ∀ d ∈ words, d.before a0 Z = true) {kI : Nat} (wi : (Jvm.Cond.instantiable ST kI).before a0 Z = true)
    {x b : Addr} {k : ClassId} {zn z : Int32} {cs : List Int32} {dv v0 c0 : Value} (E : RoadKit.Exa Z h x ST) (V : RoadKit.Fld Z h x ST "value" "[B" v0) (C : RoadKit.Fld Z h x ST "coder" "B" c0) (K : RoadKit.Arv Z h b k .char zn (cs.map Value.int) dv) (S : RoadKit.Sta Z h ST "COMPACT_STRINGS" "Z" (.int z)) (hz : ¬ z = 0)
    (hlen : zn.toNatClampNeg = cs.length) (h0 : 0 < cs.length) (hbig : cs.length ≤ 536870912) (hall : ∀ c ∈ cs, ¬ 255 < c) (hfr : 4 ≤ R.frames) (hlo : W + 65 ≤ R.locals) :
    Back l R p e below s args New1.yN len W (fun P a => a = #[.ref x, .ref b] ∧ P.U.heap = h ∧ P.cells + 1 ≤ R.cells ∧ P.slots + cs.length ≤ R.slots)
      (fun P _ v B => ∃ L, QA Z x zn cs h v B.U.heap L ∧ B.locs = P.locs ++ L ∧ B.cells = P.cells + 1 ∧ B.slots = P.slots + cs.length) := by
  obtain ⟨A, K1, K2, K3, K4, K5, K6⟩ := K
  have e : A.slots.size = cs.length := K3.trans hlen
  have hat : ∀ (i : Nat) (hi : i < cs.length), A.slots[i]? = some (.int cs[i]) := fun i hi => by rw [K5 i (by omega)]; simp [List.getD_eq_getElem?_getD, hi]
  have hcv : ∀ (i : Nat) (hi : i < cs.length), cv A i = cs[i] := fun i hi => by unfold cv; rw [hat i hi]
  have hty : Typed .char A := fun i v hv => by
    have hi : i < A.slots.size := (Array.getElem?_eq_some_iff.mp hv).1
    have q := K5 i hi
    rw [hv] at q
    rw [Option.some.inj q]
    exact K6 i hi
  refine Back.mono (back hZ hw wi E V C K1 hty S hz (by omega) (by omega) (fun i hi => by rw [hcv i (by omega)]; exact hall _ (List.getElem_mem _)) hfr hlo) (fun P a hp => ⟨hp.1, hp.2.1, hp.2.2.1, by rw [e]; exact hp.2.2.2⟩) (fun P a v B hp hq => ?_)
  obtain ⟨L, ⟨q1, q2, q3, q4, q5, q6, q7, ⟨V', v1, v2, v3, v4, v5⟩, q9⟩, hl, hc, hs⟩ := hq
  refine ⟨L, ⟨q1, q2, q3, q4, q5, q6, q7, ⟨V'.cls, v3, V', v1, rfl, by rw [v4, e, hlen], K4, fun i hi => ?_, fun i hi => ?_⟩, q9⟩, hl, hc, by rw [hs, e]⟩
  · have hi' : i < cs.length := by omega
    rw [v5 i (by omega), hcv i hi']; simp [List.getD_eq_getElem?_getD, hi']
  · have hi' : i < cs.length := by omega
    simp only [List.getD_eq_getElem?_getD, List.getElem?_map, List.getElem?_eq_getElem hi', Option.map_some, Option.getD_some]
    exact fits_lo8 _
end StrChars.Road
namespace StrChars.Road
open Jvm Sem ClassFile Op Lib Jvm.Stand Jvm.Free Jvm.Free.XT
/-- WHAT COMES BACK, in the writer's own shape -/
def QV (Z : State) (x : Addr) (N : Int32) (bs : List Int32) (h : Heap) (n0 : Nat) (v : Option Value) (h' : Heap) (L : List Loc) : Prop := v = none ∧ RoadKit.Fr n0 L ∧ RoadKit.Keep h h' [x] ∧ RoadKit.Exa Z h' x ST ∧ RoadKit.Fld Z h' x ST "coder" "B" (.int 0) ∧
  ∃ (t : Addr) (kb : ClassId), n0 ≤ t ∧ h.size ≤ t ∧ ¬ t = x ∧ RoadKit.Fld Z h' x ST "value" "[B" (.ref t) ∧ RoadKit.Arv Z h' t kb .byte N (bs.map Value.int) (.int 0)
/-- **new String(chars) AT A CALL, FOR THE WRITER**: a char[] of n known ints, each 0 to 255 -/
theorem backV {p : Program} {l : Launch} {e : Env} {R : Room} {s : State} {args : Array Value} {below : List Frame} {len W : Nat} {Z : State} {a0 : Array Value} {h : Heap} (hZ : Z.Warmed39 s.vm) (hw : ∀ d ∈ words, d.before a0 Z = true) {kI : Nat} (wi : (Jvm.Cond.instantiable ST kI).before a0 Z = true)
    {x b : Addr} {kC : ClassId} {cs bs : List Int32} {d v0 c0 : Value} {z N : Int32} {n n0 : Nat} (hx0 : n0 ≤ x) (hh0 : n0 ≤ h.size) (E : RoadKit.Exa Z h x ST) (V : RoadKit.Fld Z h x ST "value" "[B" v0) (C : RoadKit.Fld Z h x ST "coder" "B" c0) (K : RoadKit.Arv Z h b kC .char N (cs.map Value.int) d) (S : RoadKit.Sta Z h ST "COMPACT_STRINGS" "Z" (.int z)) (hz : ¬ z = 0)
    (hn : cs.length = n) (hN : N = Int32.ofNat n) (l0 : 0 < n) (l2 : n ≤ 4000) (hp : ∀ c ∈ cs, ¬ c < 0 ∧ ¬ (255 : Int32) < c) (hb : bs = cs.map (fun c => c.toInt8.toInt32)) (hfr : 4 ≤ R.frames) (hlo : W + 65 ≤ R.locals) :
    Back l R p e below s args (⟨"java/lang/String", "<init>", "([C)V"⟩ : MethodName) len W (fun P a => a = #[.ref x, .ref b] ∧ P.U.heap = h ∧ P.cells + 1 ≤ R.cells ∧ P.slots + n ≤ R.slots)
      (fun P _ v B => ∃ L, QV Z x N bs h n0 v B.U.heap L ∧ B.locs = P.locs ++ L ∧ B.cells = P.cells + 1 ∧ B.slots = P.slots + n) := by
  subst hn hN hb
  refine Back.mono (backArv hZ hw wi E V C K S hz (n32 (by omega)) l0 (by omega) (fun c hc => (hp c hc).2) hfr hlo) (fun P a hp => hp) (fun P a v B hp hq => ?_)
  obtain ⟨L, ⟨q1, q2, q3, q4, q5, q6, q7, ⟨kb, v1, v2⟩, q9⟩, hl, hc, hs⟩ := hq
  exact ⟨L, ⟨q1, fun y hy => by rw [q2 y hy]; exact hx0, q3, q5, q7, h.size, kb, hh0, Nat.le_refl _, Nat.ne_of_gt E.lt, q6, by rw [List.map_map]; exact v2⟩, hl, hc, hs⟩
end StrChars.Road
end Jvm.Pilot.@@N@@

namespace Jvm.Pilot.@@N@@
open Jvm Jvm.ClassFile Sem Op Lib Jvm.Free Jvm.Stand Jvm.LawKit Jvm.RoadKit Bundle Jvm.Pilot.@@N@@.Jvm.D
theorem own_ch (x : Int32) : ¬ (nar .char ((x &&& (255 : Int32)).toUInt32.toUInt16.toUInt32.toInt32)) < 0 ∧ ¬ (255 : Int32) < (nar .char ((x &&& (255 : Int32)).toUInt32.toUInt16.toUInt32.toInt32)) := by
  have e1 : nar .char ((x &&& (255 : Int32)).toUInt32.toUInt16.toUInt32.toInt32) = x &&& 255 := by
    rw [i2c_mask]; exact i2c_mask x
  have e : (x &&& (255 : Int32)).toInt = x.toInt % 2 ^ 8 := Jvm.Kit.i32_mask x 255 (k := 8) (by decide) (by decide)
  have h1 := Int.emod_nonneg x.toInt (show (2 ^ 8 : Int) ≠ 0 by decide)
  have h2 := Int.emod_lt_of_pos x.toInt (show (0 : Int) < 2 ^ 8 by decide)
  have e0 : (0 : Int32).toInt = 0 := rfl
  have e255 : (255 : Int32).toInt = 255 := rfl
  rw [e1, Int32.lt_iff_toInt_lt, Int32.lt_iff_toInt_lt, e, e0, e255]; omega
theorem own_ch2 (x : Int32) : ¬ (255 : Int32) < ((x &&& (255 : Int32)).toUInt32.toUInt16.toUInt32.toInt32) := by
  have h := (own_ch x).2
  have e1 : nar .char ((x &&& (255 : Int32)).toUInt32.toUInt16.toUInt32.toInt32) = x &&& 255 := by
    rw [i2c_mask]; exact i2c_mask x
  rw [i2c_mask]; rw [e1] at h; exact h
theorem own_backOfI {p : Program} {l : Launch} {e : Env} {R : Room} {s : State} {args : Array Value} {below : List Frame} {Z : State} {a0 : Array Value} {h : Heap} {y : MethodName} {bytes : ByteArray} {maxL : Nat} {ret : Option FieldType} {rm : Room} {len W : Nat} {as' : Array Value} {Q : Option Value → Heap → List Loc → Prop}
    (hM : MetFree l y (head1 [Jvm.Cond.code y bytes maxL ret] rm) (fun a U => a = as' ∧ Z.Warmed39 U.vm ∧ U.heap = h ∧ IB Z U.vm []) (fun _ _ _ _ _ => True) (fun _ U o U' => ∃ v L, o = .returned v ∧ Q v U'.heap L ∧ ReturnedEndW U o U' L rm.cells rm.slots))
    (hZ : Z.Warmed39 s.vm) (hI : IB Z s.vm []) (wc : (Jvm.Cond.code y bytes maxL ret).before a0 Z = true) (wz : (Jvm.Cond.initialized y.cls).before a0 Z = true) (hf : rm.frames + 1 ≤ R.frames) (hl : W + (maxL + 11) + rm.locals ≤ R.locals) :
    BackS l R p e below s args y len W (fun A a => a = as' ∧ A.U.heap = h ∧ A.cells + rm.cells ≤ R.cells ∧ A.slots + rm.slots ≤ R.slots)
      (fun A _ v B => ∃ L, Q v B.U.heap L ∧ B.locs = A.locs ++ L ∧ B.cells = A.cells + rm.cells ∧ B.slots = A.slots + rm.slots) := by
  refine BackS.of_freeW (bytes := bytes) (maxL := maxL) (ret := ret) (E := fun _ _ o t L k n => k = rm.cells ∧ n = rm.slots ∧ ∃ v, o = .returned v ∧ Q v t.heap L) hM hf hl ?_ ?_ ?_ ?_ ?_
  · intro m meth c A a Y hp
    have hU : Z.Warmed39 A.U.vm := wtrans hZ Y.warmed
    refine ⟨?_, mv hU wc, mv hU wz, hp.2.2.1, hp.2.2.2⟩
    show (Jvm.Cond.and _ .tt).before a A.U = true
    rw [Cond.before_and, mv hU wc]; rfl
  · intro m meth c A a g mk Y hp
    obtain ⟨more, e1, e2⟩ := hI
    exact ⟨hp.1, wtrans hZ Y.warmed, hp.2.1, more, (by rw [← e1]; exact Y.warmed.interned_eq), e2⟩
  · intros; trivial
  · rintro _ _ _ _ ⟨v, L, h1, h2, h3⟩
    exact ⟨L, _, _, h3, rfl, rfl, v, h1, h2⟩
  · rintro m meth c A a g mk v t L k n Y hp _ _ ⟨e1, e2, v', e3, e4⟩
    cases e3; subst e1 e2
    exact ⟨L, e4, rfl, rfl, rfl⟩
theorem d2_0 : decode jdk_42_method_149_code 0 = .ok (.aload_n 0, 1) := by decide +kernel
theorem d2_1 : decode jdk_42_method_149_code 1 = .ok (.invokespecial 1, 3) := by decide +kernel
theorem d2_4 : decode jdk_42_method_149_code 4 = .ok (.iload_n 3, 1) := by decide +kernel
theorem d2_5 : decode jdk_42_method_149_code 5 = .ok (.ifCond .ne 22, 3) := by decide +kernel
theorem d2_8 : decode jdk_42_method_149_code 8 = .ok (.aload_n 0, 1) := by decide +kernel
theorem d2_9 : decode jdk_42_method_149_code 9 = .ok (.ldc 7, 2) := by decide +kernel
theorem d2_11 : decode jdk_42_method_149_code 11 = .ok (.getfield 9, 3) := by decide +kernel
theorem d2_14 : decode jdk_42_method_149_code 14 = .ok (.putfield 9, 3) := by decide +kernel
theorem d2_17 : decode jdk_42_method_149_code 17 = .ok (.aload_n 0, 1) := by decide +kernel
theorem d2_18 : decode jdk_42_method_149_code 18 = .ok (.ldc 7, 2) := by decide +kernel
theorem d2_20 : decode jdk_42_method_149_code 20 = .ok (.getfield 15, 3) := by decide +kernel
theorem d2_23 : decode jdk_42_method_149_code 23 = .ok (.putfield 15, 3) := by decide +kernel
theorem d2_26 : decode jdk_42_method_149_code 26 = .ok (.return_, 1) := by decide +kernel
theorem pn_0 : plainName "java/lang/String" = true := by first | (simp [plainName, overriddenIn]; done) | decide +kernel
theorem ef_2_rm_emp4 (m : MethodId) (x0 : Addr) (x1 : Addr) (x2 : Int32) (x3 : Int32) : entryFrame m #[(.ref x0), (.ref x1), (.int x2), (.int x3), .null] 6 = mkF m 0 #[.val (.ref x0), .val (.ref x1), .val (.int x2), .val (.int x3), .val .null, .unset] [] := by first | (simp [entryFrame, mkF, argsToLocals, Value.category]; done) | rfl
def Q_rm_emp4 (Z : State) (a0x : Addr) (a1x : Addr) (p1 : Int32) (p2 : Int32) (h0 : Heap) (n0 : Nat) (v : Option Value) (h : Heap) (L : List Loc) : Prop := v = none ∧ Fr n0 L ∧ Keep h0 h [a0x] ∧ (∃ (b : Addr) (k : ClassId), Fld Z h a0x "java/lang/String" "value" "[B" (.ref b) ∧ Fld Z h a0x "java/lang/String" "coder" "B" (.int (0 : Int32)) ∧ Arv Z h b k .byte (0 : Int32) [] (.int (0 : Int32)))
set_option maxRecDepth 65536 in
set_option maxHeartbeats 40000000 in
theorem rm_emp4 (l : Launch) (Z : State) (a0 : Array Value) (hw : ∀ d ∈ tables_1, d.before a0 Z = true) (ws : List Jvm.Cond) (a0x : Addr) (a1x : Addr) (p1 : Int32) (p2 : Int32) (h0 : Heap) (n0 : Nat) (Z0 : n0 ≤ h0.size) (X00 : Old Z n0 h0) (E0x : Exa Z h0 a0x "java/lang/String") (g0x : n0 ≤ a0x) (F0x : Fld Z h0 a0x "java/lang/String" "value" "[B" .null) (F1x : Fld Z h0 a0x "java/lang/String" "coder" "B" (.int (0 : Int32))) (Hc7 : Jvm.Lit.constHeld Z "java/lang/String" 7) (hcw : Jvm.Lit.compactW.before a0 Z = true) (hz : p2 = (0 : Int32)) :
    MetFree l (⟨"java/lang/String", "<init>", "([CIILjava/lang/Void;)V"⟩ : MethodName) (head1 (Jvm.Cond.code (⟨"java/lang/String", "<init>", "([CIILjava/lang/Void;)V"⟩ : MethodName) jdk_42_method_149_code 6 none :: ws) ({ frames := 1, cells := 2, slots := 4, locals := 12 } : Room)) (fun a U => a = #[(.ref a0x), (.ref a1x), (.int p1), (.int p2), .null] ∧ Z.Warmed39 U.vm ∧ U.heap = h0 ∧ IB Z U.vm []) (fun _ _ _ _ _ => True) (fun _ U o U' => ∃ v L, o = .returned v ∧ Q_rm_emp4 Z a0x a1x p1 p2 h0 n0 v U'.heap L ∧ ReturnedEndW U o U' L ({ frames := 1, cells := 2, slots := 4, locals := 12 } : Room).cells ({ frames := 1, cells := 2, slots := 4, locals := 12 } : Room).slots) := by
  refine MetFree.of_bodySF (plainFor_of_name pn_0) hisR ?_
  intro p e s m args below meth c s₁ Bd hml0 hP hK
  obtain ⟨rfl, hZ, hh, hI0⟩ := hP
  have hx := Bd.exec
  have hby := Bd.bytes
  have hml : c.maxLocals = 6 := hml0
  have hown : s.vm.findClass "java/lang/String" = some m.cls := findClass_of_methodNamed Bd.named
  have hnm := (name_of_methodNamed Bd.named Bd.method).1
  have X0 : Stand p l e ({ frames := 1, cells := 2, slots := 4, locals := 12 } : Room) (s.setVm s.vm) m #[(.ref a0x), (.ref a1x), (.int p1), (.int p2), .null] below meth c s₁ [] 0 0 := Stand.of_body Bd
  have e0 : s₁.heap = h0 := by rw [← hh, Bd.state]; rfl
  have N0 := Fr.nil n0
  have hS0 : s.Since s.vm s.heap.size := (State.WarmedH.refl s).since _
  have hk0 : s.heap.size ≤ h0.size := Nat.le_of_eq (congrArg Array.size hh)
  have wS : ∀ a ∈ Bundle.stringAtoms, a.before a0 Z = true := by
    intro a ha
    simp only [Bundle.stringAtoms, List.mem_cons, List.not_mem_nil, or_false] at ha
    rcases ha with rfl | rfl | rfl | rfl | rfl | rfl | rfl <;> first | exact hw _ (List.mem_of_getElem? (i := 3) rfl) | exact hw _ (List.mem_of_getElem? (i := 2) rfl) | exact hw _ (List.mem_of_getElem? (i := 15) rfl) | exact hw _ (List.mem_of_getElem? (i := 16) rfl) | exact hw _ (List.mem_of_getElem? (i := 17) rfl) | exact hw _ (List.mem_of_getElem? (i := 18) rfl) | exact hw _ (List.mem_of_getElem? (i := 19) rfl)
  have K0 : Keep h0 h0 [a0x] := Keep.refl h0 [a0x]
  have pre0 : ∀ t, Steps p.tables e below (s₁.setTop (mkF m 0 #[.val (.ref a0x), .val (.ref a1x), .val (.int p1), .val (.int p2), .val .null, .unset] [])) t → Steps p.tables e below (s₁.setTop (entryFrame m #[(.ref a0x), (.ref a1x), (.int p1), (.int p2), .null] 6)) t := fun t k => castTop (ef_2_rm_emp4 m a0x a1x p1 p2) k
  obtain ⟨T1, X1, e1, st1⟩ := initO X0 hx hZ hown (hw _ (List.mem_of_getElem? (i := 11) rfl)) (hw _ (List.mem_of_getElem? (i := 12) rfl)) (hw _ (List.mem_of_getElem? (i := 13) rfl)) e0 (g := (mkF m 1 #[.val (.ref a0x), .val (.ref a1x), .val (.int p1), .val (.int p2), .val .null, .unset] [(.ref a0x)])) rfl (by rw [hml]; rfl) rfl (hb hby d2_1) (by decide) (W := 0) (by show 2 * 0 + _ ≤ _; exact Nat.le_of_eq rfl) (by decide)
  obtain ⟨ax2, T2, h2, kk2, bb2, kb2, X2, e2, E2, hS2, hk2, hZ2, hown2, Ex2, Fc2, Fv2, Vb2, -, -, -, Li2, st2⟩ := ldcSVL X1 hx hZ hown (hw _ (List.mem_of_getElem? (i := 14) rfl)) wS e1 hS0 hk0 (Fr.nil _) (fun b cl q => by rw [hh]; exact X00.2.2 b cl q) hI0 (by simp) Hc7 hcw (vs := []) (z := 0) ⟨by decide, by decide⟩ (by decide) (by decide) (g := (mkF m 9 #[.val (.ref a0x), .val (.ref a1x), .val (.int p1), .val (.int p2), .val .null, .unset] [(.ref a0x)])) rfl (hb hby d2_9) (n := 0) (by decide) (by decide) (by decide) (by decide)
  have E0x_2 : Exa Z h2 a0x "java/lang/String" := E0x.ext E2
  have F0x_2 : Fld Z h2 a0x "java/lang/String" "value" "[B" .null := F0x.ext E2
  have F1x_2 : Fld Z h2 a0x "java/lang/String" "coder" "B" (.int (0 : Int32)) := F1x.ext E2
  have Z2 : n0 ≤ h2.size := Nat.le_trans Z0 E2.1
  have K2 : Keep h0 h2 [a0x] := K0.ext E2
  have ne_a0x_bb2 : a0x ≠ bb2 := Exa.neArv E0x_2 Vb2 (hw _ (List.mem_of_getElem? (i := 2) rfl))
  have ne_a0x_ax2 : a0x ≠ ax2 := Fld.ne F0x_2 Fv2 (fun q => nomatch q)
  obtain ⟨T3, X3, e3, st3⟩ := getF X2 hx hZ2 hown2 (host := "") (Or.inl (hw _ (List.mem_of_getElem? (i := 20) rfl))) Via.refl e2 Fv2 (g := (mkF m 11 #[.val (.ref a0x), .val (.ref a1x), .val (.int p1), .val (.int p2), .val .null, .unset] [(.ref ax2), (.ref a0x)])) rfl rfl (hb hby d2_11)
  obtain ⟨T4, h4, X4, e4, W4, st4⟩ := putF X3 hx hZ2 hown2 (host := "") (Or.inl (hw _ (List.mem_of_getElem? (i := 20) rfl))) Via.refl e3 F0x_2 E0x_2 (Or.inr ⟨(hw _ (List.mem_of_getElem? (i := 16) rfl)), rfl, hnm⟩) (hw _ (List.mem_of_getElem? (i := 2) rfl)) (ty := (.array .byte)) (by decide) rfl rfl (g := (mkF m 14 #[.val (.ref a0x), .val (.ref a1x), .val (.int p1), .val (.int p2), .val .null, .unset] [(.ref bb2), (.ref a0x)])) rfl rfl (hb hby d2_14)
  have N4 := Fr.snoc X4 N0 g0x
  have Fw4 : Fld Z h4 a0x "java/lang/String" "value" "[B" (.ref bb2) := F0x_2.same W4
  have E0x_4 : Exa Z h4 a0x "java/lang/String" := E0x_2.wr W4
  have F1x_4 : Fld Z h4 a0x "java/lang/String" "coder" "B" (.int (0 : Int32)) := F1x_2.other W4 (Or.inr (slot_ne (Or.inr (hw _ (List.mem_of_getElem? (i := 17) rfl))) (Or.inr (hw _ (List.mem_of_getElem? (i := 16) rfl))) (by decide) (t := .byte) (t' := (.array .byte)) (by decide) (by decide)))
  have Ex2_4 : Exa Z h4 ax2 "java/lang/String" := Ex2.wr W4
  have Fc2_4 : Fld Z h4 ax2 "java/lang/String" "coder" "B" (.int (0 : Int32)) := Fc2.other W4 (Or.inl (Ne.symm ne_a0x_ax2))
  have Fv2_4 : Fld Z h4 ax2 "java/lang/String" "value" "[B" (.ref bb2) := Fv2.other W4 (Or.inl (Ne.symm ne_a0x_ax2))
  have Vb2_4 : Arv Z h4 bb2 kb2 .byte (0 : Int32) [] (.int (0 : Int32)) := Vb2.other W4 (Ne.symm ne_a0x_bb2)
  have hk4' : _ ≤ h4.size := Nat.le_trans hk2 (Keep.of_wr W4).1
  have Z4 : n0 ≤ h4.size := Nat.le_trans Z2 (Keep.of_wr W4).1
  have K4 : Keep h0 h4 [a0x] := K2.wr W4 (Or.inl (List.mem_of_getElem? (i := 0) rfl))
  obtain ⟨T6, X6, e6, st6⟩ := getF X4 hx hZ2 hown2 (host := "") (Or.inl (hw _ (List.mem_of_getElem? (i := 21) rfl))) Via.refl e4 Fc2_4 (g := (mkF m 20 #[.val (.ref a0x), .val (.ref a1x), .val (.int p1), .val (.int p2), .val .null, .unset] [(.ref ax2), (.ref a0x)])) rfl rfl (hb hby d2_20)
  obtain ⟨T7, h7, X7, e7, W7, st7⟩ := putFN X6 hx hZ2 hown2 (hw _ (List.mem_of_getElem? (i := 21) rfl)) Via.refl e6 F1x_4 E0x_4 (Or.inr ⟨(hw _ (List.mem_of_getElem? (i := 17) rfl)), rfl, hnm⟩) (hw _ (List.mem_of_getElem? (i := 2) rfl)) (ty := .byte) (v' := (.int (0 : Int32).toInt8.toInt32)) (by decide) rfl (fits_nar_byte _) (g := (mkF m 23 #[.val (.ref a0x), .val (.ref a1x), .val (.int p1), .val (.int p2), .val .null, .unset] [(.int (0 : Int32)), (.ref a0x)])) rfl rfl (hb hby d2_23)
  have N7 := Fr.snoc X7 N4 g0x
  have Fw7 : Fld Z h7 a0x "java/lang/String" "coder" "B" (.int (0 : Int32).toInt8.toInt32) := F1x_4.same W7
  have E0x_7 : Exa Z h7 a0x "java/lang/String" := E0x_4.wr W7
  have Ex2_7 : Exa Z h7 ax2 "java/lang/String" := Ex2_4.wr W7
  have Fc2_7 : Fld Z h7 ax2 "java/lang/String" "coder" "B" (.int (0 : Int32)) := Fc2_4.other W7 (Or.inl (Ne.symm ne_a0x_ax2))
  have Fv2_7 : Fld Z h7 ax2 "java/lang/String" "value" "[B" (.ref bb2) := Fv2_4.other W7 (Or.inl (Ne.symm ne_a0x_ax2))
  have Vb2_7 : Arv Z h7 bb2 kb2 .byte (0 : Int32) [] (.int (0 : Int32)) := Vb2_4.other W7 (Ne.symm ne_a0x_bb2)
  have Fw4_7 : Fld Z h7 a0x "java/lang/String" "value" "[B" (.ref bb2) := Fw4.other W7 (Or.inr (slot_ne (Or.inr (hw _ (List.mem_of_getElem? (i := 16) rfl))) (Or.inr (hw _ (List.mem_of_getElem? (i := 17) rfl))) (by decide) (t := (.array .byte)) (t' := .byte) (by decide) (by decide)))
  have hk7' : _ ≤ h7.size := Nat.le_trans hk4' (Keep.of_wr W7).1
  have Z7 : n0 ≤ h7.size := Nat.le_trans Z4 (Keep.of_wr W7).1
  have K7 : Keep h0 h7 [a0x] := K4.wr W7 (Or.inl (List.mem_of_getElem? (i := 0) rfl))
  obtain ⟨fs, hr, hrun, hended, hREW⟩ := X7.leaveW hS2 (by first | exact hk7' | (rw [e7]; exact hk7')) (v := none) (fun _ => rfl)
  refine ⟨_, _, pre0 _ ?_, hrun, hended, _, _, rfl, ?_, hREW.1, hREW.2.1, hREW.2.2.1, hREW.2.2.2.mono (by decide) (by decide)⟩
  · show Steps p.tables e below (s₁.setTop (mkF m 0 #[.val (.ref a0x), .val (.ref a1x), .val (.int p1), .val (.int p2), .val .null, .unset] [])) _
    refine XS.aloadN X0.here hx rfl (hb hby d2_0) rfl rfl ?_
    show Steps p.tables e below (s₁.setTop (mkF m 1 #[.val (.ref a0x), .val (.ref a1x), .val (.int p1), .val (.int p2), .val .null, .unset] [(.ref a0x)])) _
    refine st1 _ ?_
    show Steps p.tables e below (T1.setTop (mkF m 4 #[.val (.ref a0x), .val (.ref a1x), .val (.int p1), .val (.int p2), .val .null, .unset] [])) _
    refine XS.iloadN X1.here hx rfl (hb hby d2_4) rfl ?_
    show Steps p.tables e below (T1.setTop (mkF m 5 #[.val (.ref a0x), .val (.ref a1x), .val (.int p1), .val (.int p2), .val .null, .unset] [(.int p2)])) _
    refine XS.ifNo X1.here hx rfl (hb hby d2_5) rfl ((if0 _ _).trans (teq hz).2) ?_
    show Steps p.tables e below (T1.setTop (mkF m 8 #[.val (.ref a0x), .val (.ref a1x), .val (.int p1), .val (.int p2), .val .null, .unset] [])) _
    refine XS.aloadN X1.here hx rfl (hb hby d2_8) rfl rfl ?_
    show Steps p.tables e below (T1.setTop (mkF m 9 #[.val (.ref a0x), .val (.ref a1x), .val (.int p1), .val (.int p2), .val .null, .unset] [(.ref a0x)])) _
    refine st2 _ ?_
    show Steps p.tables e below (T2.setTop (mkF m 11 #[.val (.ref a0x), .val (.ref a1x), .val (.int p1), .val (.int p2), .val .null, .unset] [(.ref ax2), (.ref a0x)])) _
    refine st3 _ ?_
    show Steps p.tables e below (T3.setTop (mkF m 14 #[.val (.ref a0x), .val (.ref a1x), .val (.int p1), .val (.int p2), .val .null, .unset] [(.ref bb2), (.ref a0x)])) _
    refine st4 _ ?_
    show Steps p.tables e below (T4.setTop (mkF m 17 #[.val (.ref a0x), .val (.ref a1x), .val (.int p1), .val (.int p2), .val .null, .unset] [])) _
    refine XS.aloadN X4.here hx rfl (hb hby d2_17) rfl rfl ?_
    show Steps p.tables e below (T4.setTop (mkF m 18 #[.val (.ref a0x), .val (.ref a1x), .val (.int p1), .val (.int p2), .val .null, .unset] [(.ref a0x)])) _
    refine ldcAgain X4 hx hZ2 hown2 (hw _ (List.mem_of_getElem? (i := 14) rfl)) Li2 (g := (mkF m 18 #[.val (.ref a0x), .val (.ref a1x), .val (.int p1), .val (.int p2), .val .null, .unset] [(.ref a0x)])) rfl (hb hby d2_18) _ ?_
    show Steps p.tables e below (T4.setTop (mkF m 20 #[.val (.ref a0x), .val (.ref a1x), .val (.int p1), .val (.int p2), .val .null, .unset] [(.ref ax2), (.ref a0x)])) _
    refine st6 _ ?_
    show Steps p.tables e below (T6.setTop (mkF m 23 #[.val (.ref a0x), .val (.ref a1x), .val (.int p1), .val (.int p2), .val .null, .unset] [(.int (0 : Int32)), (.ref a0x)])) _
    refine st7 _ ?_
    show Steps p.tables e below (T7.setTop (mkF m 26 #[.val (.ref a0x), .val (.ref a1x), .val (.int p1), .val (.int p2), .val .null, .unset] [])) _
    exact X7.returnOut hx Bd.returns (hb hby d2_26) hr
  · show Q_rm_emp4 Z a0x a1x p1 p2 h0 n0 _ T7.heap _
    rw [e7]
    exact ⟨rfl, N7, K7, ⟨bb2, kb2, Fw4_7, Fw7, Vb2_7⟩⟩
theorem d1_0 : decode jdk_42_method_3_code 0 = .ok (.aload_n 0, 1) := by decide +kernel
theorem d1_1 : decode jdk_42_method_3_code 1 = .ok (.aload_n 1, 1) := by decide +kernel
theorem d1_2 : decode jdk_42_method_3_code 2 = .ok (.iconst 0, 1) := by decide +kernel
theorem d1_3 : decode jdk_42_method_3_code 3 = .ok (.aload_n 1, 1) := by decide +kernel
theorem d1_4 : decode jdk_42_method_3_code 4 = .ok (.arraylength, 1) := by decide +kernel
theorem d1_5 : decode jdk_42_method_3_code 5 = .ok (.aconst_null, 1) := by decide +kernel
theorem d1_6 : decode jdk_42_method_3_code 6 = .ok (.invokespecial 27, 3) := by decide +kernel
theorem pd_0 : parseMethodDescriptor "([CIILjava/lang/Void;)V" = some ⟨[(.array .char), .int, .int, (.object "java/lang/Void")], none⟩ := by decide +kernel
theorem d1_9 : decode jdk_42_method_3_code 9 = .ok (.return_, 1) := by decide +kernel
theorem ef_1 (m : MethodId) (x0 : Addr) (x1 : Addr) : entryFrame m #[(.ref x0), (.ref x1)] 2 = mkF m 0 #[.val (.ref x0), .val (.ref x1)] [] := by first | (simp [entryFrame, mkF, argsToLocals, Value.category]; done) | rfl
def Q_rm_emp (Z : State) (a0x : Addr) (a1x : Addr) (kx : ClassId) (vsx : List Value) (dx : Value) (h0 : Heap) (n0 : Nat) (v : Option Value) (h : Heap) (L : List Loc) : Prop := v = none ∧ Fr n0 L ∧ Keep h0 h [a0x] ∧ (∃ (b : Addr) (k : ClassId), Fld Z h a0x "java/lang/String" "value" "[B" (.ref b) ∧ Fld Z h a0x "java/lang/String" "coder" "B" (.int (0 : Int32)) ∧ Arv Z h b k .byte (0 : Int32) [] (.int (0 : Int32)))
set_option maxRecDepth 65536 in
set_option maxHeartbeats 40000000 in
theorem rm_emp (l : Launch) (Z : State) (a0 : Array Value) (hw : ∀ d ∈ tables_1, d.before a0 Z = true) (ws : List Jvm.Cond) (a0x : Addr) (a1x : Addr) (kx : ClassId) (vsx : List Value) (dx : Value) (h0 : Heap) (n0 : Nat) (Z0 : n0 ≤ h0.size) (X00 : Old Z n0 h0) (E0x : Exa Z h0 a0x "java/lang/String") (g0x : n0 ≤ a0x) (F0x : Fld Z h0 a0x "java/lang/String" "value" "[B" .null) (F1x : Fld Z h0 a0x "java/lang/String" "coder" "B" (.int (0 : Int32))) (Hc7 : Jvm.Lit.constHeld Z "java/lang/String" 7) (hcw : Jvm.Lit.compactW.before a0 Z = true) (V1x : Arv Z h0 a1x kx .char (0 : Int32) vsx dx) (ne01 : a0x ≠ a1x) :
    MetFree l (⟨"java/lang/String", "<init>", "([C)V"⟩ : MethodName) (head1 (Jvm.Cond.code (⟨"java/lang/String", "<init>", "([C)V"⟩ : MethodName) jdk_42_method_3_code 2 none :: ws) ({ frames := 2, cells := 2, slots := 4, locals := 29 } : Room)) (fun a U => a = #[(.ref a0x), (.ref a1x)] ∧ Z.Warmed39 U.vm ∧ U.heap = h0 ∧ IB Z U.vm []) (fun _ _ _ _ _ => True) (fun _ U o U' => ∃ v L, o = .returned v ∧ Q_rm_emp Z a0x a1x kx vsx dx h0 n0 v U'.heap L ∧ ReturnedEndW U o U' L ({ frames := 2, cells := 2, slots := 4, locals := 29 } : Room).cells ({ frames := 2, cells := 2, slots := 4, locals := 29 } : Room).slots) := by
  refine MetFree.of_bodySF (plainFor_of_name pn_0) hisR ?_
  intro p e s m args below meth c s₁ Bd hml0 hP hK
  obtain ⟨rfl, hZ, hh, hI0⟩ := hP
  have hx := Bd.exec
  have hby := Bd.bytes
  have hml : c.maxLocals = 2 := hml0
  have hown : s.vm.findClass "java/lang/String" = some m.cls := findClass_of_methodNamed Bd.named
  have hnm := (name_of_methodNamed Bd.named Bd.method).1
  have X0 : Stand p l e ({ frames := 2, cells := 2, slots := 4, locals := 29 } : Room) (s.setVm s.vm) m #[(.ref a0x), (.ref a1x)] below meth c s₁ [] 0 0 := Stand.of_body Bd
  have e0 : s₁.heap = h0 := by rw [← hh, Bd.state]; rfl
  have N0 := Fr.nil n0
  have hS0 : s.Since s.vm s.heap.size := (State.WarmedH.refl s).since _
  have hk0 : s.heap.size ≤ h0.size := Nat.le_of_eq (congrArg Array.size hh)
  have wS : ∀ a ∈ Bundle.stringAtoms, a.before a0 Z = true := by
    intro a ha
    simp only [Bundle.stringAtoms, List.mem_cons, List.not_mem_nil, or_false] at ha
    rcases ha with rfl | rfl | rfl | rfl | rfl | rfl | rfl <;> first | exact hw _ (List.mem_of_getElem? (i := 3) rfl) | exact hw _ (List.mem_of_getElem? (i := 2) rfl) | exact hw _ (List.mem_of_getElem? (i := 15) rfl) | exact hw _ (List.mem_of_getElem? (i := 16) rfl) | exact hw _ (List.mem_of_getElem? (i := 17) rfl) | exact hw _ (List.mem_of_getElem? (i := 18) rfl) | exact hw _ (List.mem_of_getElem? (i := 19) rfl)
  have K0 : Keep h0 h0 [a0x] := Keep.refl h0 [a0x]
  have pre0 : ∀ t, Steps p.tables e below (s₁.setTop (mkF m 0 #[.val (.ref a0x), .val (.ref a1x)] [])) t → Steps p.tables e below (s₁.setTop (entryFrame m #[(.ref a0x), (.ref a1x)] 2)) t := fun t k => castTop (ef_1 m a0x a1x) k
  obtain ⟨cl1, Ar1, qk1, S1, N1', H1, G1⟩ := (id V1x)
  obtain ⟨_, _, ⟨T2, L2, k2, n2⟩, -, X2, hSq2, gr2, ⟨Lc2, hQ2, l2, y2, z2⟩, st2⟩ := X0.specialBackS hx (y := (⟨"java/lang/String", "<init>", "([CIILjava/lang/Void;)V"⟩ : MethodName)) rfl hown (mvT hZ (hw _ (List.mem_of_getElem? (i := 7) rfl))) (mvT hZ (hw _ (List.mem_of_getElem? (i := 8) rfl))) (mvT hZ (hw _ (List.mem_of_getElem? (i := 10) rfl))) (by decide) (own_backOfI (W := 0) (rm_emp4 l Z a0 hw [] a0x a1x (0 : Int32) (0 : Int32) h0 n0 Z0 X00 E0x g0x F0x F1x Hc7 hcw rfl) hZ hI0 (hw _ (List.mem_of_getElem? (i := 10) rfl)) (hw _ (List.mem_of_getElem? (i := 3) rfl)) (by decide) (by decide)) (g := (mkF m 6 #[.val (.ref a0x), .val (.ref a1x)] [.null, (.int (0 : Int32)), (.int (0 : Int32)), (.ref a1x), (.ref a0x)])) rfl (by rw [hml]; rfl) (Steps.refl _) (a := a0x) (argsL := [(.ref a1x), (.int (0 : Int32)), (.int (0 : Int32)), .null]) (rest := []) (lenOf pd_0 rfl) rfl (by show 2 * 0 + _ ≤ _; exact Nat.le_of_eq rfl) (hb hby d1_6) (fun _ _ => ⟨rfl, e0, (by decide : 0 + 2 ≤ _), (by decide : 0 + 4 ≤ _)⟩)
  dsimp only [Pt.U, Pt.locs, Pt.cells, Pt.slots] at X2 l2 y2 z2 st2 hQ2 hSq2 gr2
  subst l2 y2 z2
  obtain ⟨rfl, N2q, x2c0, x2c1⟩ := hQ2
  have N2 := Fr.app N0 N2q
  have E0x_2 : Exa Z T2.heap a0x "java/lang/String" := E0x.keep x2c0
  have V1x_2 : Arv Z T2.heap a1x kx .char (0 : Int32) vsx dx := V1x.keep x2c0 (ninS (Ne.symm ne01) nin0)
  have hk2' : _ ≤ T2.heap.size := Nat.le_trans hk0 x2c0.1
  have Z2 : n0 ≤ T2.heap.size := Nat.le_trans Z0 x2c0.1
  have K2 : Keep h0 T2.heap [a0x] := K0.trans x2c0 (allS (P := fun x => x ∈ [a0x] ∨ h0.size ≤ x) (Or.inl (List.mem_of_getElem? (i := 0) rfl)) all0)
  obtain ⟨eb2, ek2, eF2, eC2, eV2⟩ := x2c1
  have X2b : Stand p l e ({ frames := 2, cells := 2, slots := 4, locals := 29 } : Room) (s.setVm T2.vm) m #[(.ref a0x), (.ref a1x)] below meth c T2 _ _ _ := X2
  have hS2 : s.Since T2.vm T2.heap.size := foldS hS0 (T := s₁) (by first | exact hk0 | (rw [e0]; exact hk0)) hSq2 gr2
  have hZ2 : Z.Warmed39 (s.setVm T2.vm).vm := State.Warmed39.trans (t := s.setVm s.vm) hZ hSq2.1
  have hown2 : (s.setVm T2.vm).vm.findClass "java/lang/String" = some m.cls := by rw [show (s.setVm T2.vm).vm = T2.vm from rfl, hSq2.1.alike.findClass]; exact hown
  have hk2 := Nat.le_refl T2.heap.size
  obtain ⟨fs, hr, hrun, hended, hREW⟩ := X2b.leaveW hS2 (by first | exact hk2 | (rw [rfl]; exact hk2)) (v := none) (fun _ => rfl)
  refine ⟨_, _, pre0 _ ?_, hrun, hended, _, _, rfl, ?_, hREW.1, hREW.2.1, hREW.2.2.1, hREW.2.2.2.mono (by decide) (by decide)⟩
  · show Steps p.tables e below (s₁.setTop (mkF m 0 #[.val (.ref a0x), .val (.ref a1x)] [])) _
    refine XS.aloadN X0.here hx rfl (hb hby d1_0) rfl rfl ?_
    show Steps p.tables e below (s₁.setTop (mkF m 1 #[.val (.ref a0x), .val (.ref a1x)] [(.ref a0x)])) _
    refine XS.aloadN X0.here hx rfl (hb hby d1_1) rfl rfl ?_
    show Steps p.tables e below (s₁.setTop (mkF m 2 #[.val (.ref a0x), .val (.ref a1x)] [(.ref a1x), (.ref a0x)])) _
    refine XS.iconst X0.here hx rfl (hb hby d1_2) ?_
    show Steps p.tables e below (s₁.setTop (mkF m 3 #[.val (.ref a0x), .val (.ref a1x)] [(.int (0 : Int32)), (.ref a1x), (.ref a0x)])) _
    refine XS.aloadN X0.here hx rfl (hb hby d1_3) rfl rfl ?_
    show Steps p.tables e below (s₁.setTop (mkF m 4 #[.val (.ref a0x), .val (.ref a1x)] [(.ref a1x), (.int (0 : Int32)), (.ref a1x), (.ref a0x)])) _
    refine X0.arraylength hx (by rw [e0]; exact Ar1.1) (State.isArrayOf_alike hZ.alike Ar1.2.1) (g := (mkF m 4 #[.val (.ref a0x), .val (.ref a1x)] [(.ref a1x), (.int (0 : Int32)), (.ref a1x), (.ref a0x)])) rfl rfl (hb hby d1_4) _ ?_
    rw [len_of S1 N1']
    show Steps p.tables e below (s₁.setTop (mkF m 5 #[.val (.ref a0x), .val (.ref a1x)] [(.int (0 : Int32)), (.int (0 : Int32)), (.ref a1x), (.ref a0x)])) _
    refine XS.aconstNull X0.here hx rfl (hb hby d1_5) ?_
    show Steps p.tables e below (s₁.setTop (mkF m 6 #[.val (.ref a0x), .val (.ref a1x)] [.null, (.int (0 : Int32)), (.int (0 : Int32)), (.ref a1x), (.ref a0x)])) _
    refine st2.trans ?_
    show Steps p.tables e below (T2.setTop (mkF m 9 #[.val (.ref a0x), .val (.ref a1x)] [])) _
    exact X2b.returnOut hx Bd.returns (hb hby d1_9) hr
  · show Q_rm_emp Z a0x a1x kx vsx dx h0 n0 _ T2.heap _
    exact ⟨rfl, N2, K2, ⟨eb2, ek2, eF2, eC2, eV2⟩⟩
def own_c (b : Int32) : Int32 := nar .char ((b &&& (255 : Int32)).toUInt32.toUInt16.toUInt32.toInt32)
theorem own_cm (b : Int32) : own_c b = b &&& 255 := by unfold own_c; rw [i2c_mask]; exact i2c_mask b
theorem own_cc (b : Int32) : nar .char (own_c b) = own_c b := by rw [own_cm]; exact i2c_mask b
theorem own_lo (x : Int32) : ((x &&& (255 : Int32)).toInt8.toInt32) &&& (255 : Int32) = x &&& 255 := by
  apply Int32.toBitVec_inj.mp
  show ((((x.toBitVec &&& 255#32).signExtend 8).signExtend 32) &&& 255#32) = x.toBitVec &&& 255#32
  generalize x.toBitVec = b
  have h255 : ∀ i : Nat, (255#32 : BitVec 32).getLsbD i = decide (i < 8) := fun i => by
    rw [BitVec.getLsbD_ofNat]
    have : (255 : Nat) = 2 ^ 8 - 1 := rfl
    rw [this, Nat.testBit_two_pow_sub_one]
    by_cases h : i < 8 <;> simp [h] <;> omega
  apply BitVec.eq_of_getLsbD_eq
  intro i hi
  rw [BitVec.getLsbD_and, BitVec.getLsbD_and, h255]
  by_cases h8 : i < 8
  · rw [BitVec.getLsbD_signExtend, if_pos h8, BitVec.getLsbD_signExtend, if_pos hi, BitVec.getLsbD_and, h255, decide_eq_true h8, decide_eq_true hi]
    simp
  · rw [decide_eq_false h8]; simp
theorem own_chr (x : Int32) : own_c ((nar .char ((x &&& (255 : Int32)).toUInt32.toUInt16.toUInt32.toInt32)).toInt8.toInt32) = (x &&& (255 : Int32)).toUInt32.toUInt16.toUInt32.toInt32 := by
  have e1 : nar .char ((x &&& (255 : Int32)).toUInt32.toUInt16.toUInt32.toInt32) = x &&& 255 := by
    rw [i2c_mask]; exact i2c_mask x
  rw [own_cm, e1, i2c_mask, own_lo]
theorem d6_0 : decode jdk_22_method_1_code 0 = .ok (.aload_n 0, 1) := by decide +kernel
theorem d6_1 : decode jdk_22_method_1_code 1 = .ok (.invokespecial 1, 3) := by decide +kernel
theorem d6_4 : decode jdk_22_method_1_code 4 = .ok (.return_, 1) := by decide +kernel
theorem pn_1 : plainName "java/util/AbstractCollection" = true := by first | (simp [plainName, overriddenIn]; done) | decide +kernel
theorem ef_6 (m : MethodId) (x0 : Addr) : entryFrame m #[(.ref x0)] 1 = mkF m 0 #[.val (.ref x0)] [] := by first | (simp [entryFrame, mkF, argsToLocals, Value.category]; done) | rfl
def Q_rm_ac (Z : State) (a0x : Addr) (h0 : Heap) (n0 : Nat) (v : Option Value) (h : Heap) (L : List Loc) : Prop := v = none ∧ Fr n0 L ∧ h = h0
set_option maxRecDepth 65536 in
set_option maxHeartbeats 40000000 in
theorem rm_ac (l : Launch) (Z : State) (a0 : Array Value) (hw : ∀ d ∈ tables_1, d.before a0 Z = true) (ws : List Jvm.Cond) (a0x : Addr) (h0 : Heap) (n0 : Nat) (Z0 : n0 ≤ h0.size)  :
    MetFree l (⟨"java/util/AbstractCollection", "<init>", "()V"⟩ : MethodName) (head1 (Jvm.Cond.code (⟨"java/util/AbstractCollection", "<init>", "()V"⟩ : MethodName) jdk_22_method_1_code 1 none :: ws) ({ frames := 1, cells := 0, slots := 0, locals := 12 } : Room)) (fun a U => a = #[(.ref a0x)] ∧ Z.Warmed39 U.vm ∧ U.heap = h0) (fun _ _ _ _ _ => True) (fun _ U o U' => ∃ v L, o = .returned v ∧ Q_rm_ac Z a0x h0 n0 v U'.heap L ∧ FrameEnd U o U' L ({ frames := 1, cells := 0, slots := 0, locals := 12 } : Room).cells ({ frames := 1, cells := 0, slots := 0, locals := 12 } : Room).slots) := by
  refine MetFree.of_bodySF (plainFor_of_name pn_1) hisR ?_
  intro p e s m args below meth c s₁ Bd hml0 hP hK
  obtain ⟨rfl, hZ, hh⟩ := hP
  have hx := Bd.exec
  have hby := Bd.bytes
  have hml : c.maxLocals = 1 := hml0
  have hown : s.vm.findClass "java/util/AbstractCollection" = some m.cls := findClass_of_methodNamed Bd.named
  have hnm := (name_of_methodNamed Bd.named Bd.method).1
  have X0 : Stand p l e ({ frames := 1, cells := 0, slots := 0, locals := 12 } : Room) s m #[(.ref a0x)] below meth c s₁ [] 0 0 := Stand.of_body Bd
  have e0 : s₁.heap = h0 := by rw [← hh, Bd.state]; rfl
  have N0 := Fr.nil n0
  have pre0 : ∀ t, Steps p.tables e below (s₁.setTop (mkF m 0 #[.val (.ref a0x)] [])) t → Steps p.tables e below (s₁.setTop (entryFrame m #[(.ref a0x)] 1)) t := fun t k => castTop (ef_6 m a0x) k
  obtain ⟨T1, X1, e1, st1⟩ := initO X0 hx hZ hown (hw _ (List.mem_of_getElem? (i := 40) rfl)) (hw _ (List.mem_of_getElem? (i := 12) rfl)) (hw _ (List.mem_of_getElem? (i := 13) rfl)) e0 (g := (mkF m 1 #[.val (.ref a0x)] [(.ref a0x)])) rfl (by rw [hml]; rfl) rfl (hb hby d6_1) (by decide) (W := 0) (by show 2 * 0 + _ ≤ _; exact Nat.le_of_eq rfl) (by decide)
  obtain ⟨fs, hr, hrun, hended, hW, hsame⟩ := X1.leave (v := none) (fun _ => rfl)
  refine ⟨_, _, pre0 _ ?_, hrun, hended, _, _, rfl, ?_, ⟨_, rfl⟩, hW, hsame.mono (by decide) (by decide)⟩
  · show Steps p.tables e below (s₁.setTop (mkF m 0 #[.val (.ref a0x)] [])) _
    refine XS.aloadN X0.here hx rfl (hb hby d6_0) rfl rfl ?_
    show Steps p.tables e below (s₁.setTop (mkF m 1 #[.val (.ref a0x)] [(.ref a0x)])) _
    refine st1 _ ?_
    show Steps p.tables e below (T1.setTop (mkF m 4 #[.val (.ref a0x)] [])) _
    exact X1.returnOut hx Bd.returns (hb hby d6_4) hr
  · show Q_rm_ac Z a0x h0 n0 _ T1.heap _
    rw [e1]
    exact ⟨rfl, N0, rfl⟩
theorem d28_0 : decode jdk_47_method_1_code 0 = .ok (.aload_n 0, 1) := by decide +kernel
theorem d28_1 : decode jdk_47_method_1_code 1 = .ok (.invokespecial 1, 3) := by decide +kernel
theorem pd_1 : parseMethodDescriptor "()V" = some ⟨[], none⟩ := by decide +kernel
theorem d28_4 : decode jdk_47_method_1_code 4 = .ok (.return_, 1) := by decide +kernel
theorem pn_2 : plainName "java/util/ImmutableCollections$AbstractImmutableCollection" = true := by first | (simp [plainName, overriddenIn]; done) | decide +kernel
theorem ef_28 (m : MethodId) (x0 : Addr) : entryFrame m #[(.ref x0)] 1 = mkF m 0 #[.val (.ref x0)] [] := by first | (simp [entryFrame, mkF, argsToLocals, Value.category]; done) | rfl
def Q_rm_aic (Z : State) (a0x : Addr) (h0 : Heap) (n0 : Nat) (v : Option Value) (h : Heap) (L : List Loc) : Prop := v = none ∧ Fr n0 L ∧ h = h0
set_option maxRecDepth 65536 in
set_option maxHeartbeats 40000000 in
theorem rm_aic (l : Launch) (Z : State) (a0 : Array Value) (hw : ∀ d ∈ tables_1, d.before a0 Z = true) (ws : List Jvm.Cond) (a0x : Addr) (h0 : Heap) (n0 : Nat) (Z0 : n0 ≤ h0.size)  :
    MetFree l (⟨"java/util/ImmutableCollections$AbstractImmutableCollection", "<init>", "()V"⟩ : MethodName) (head1 (Jvm.Cond.code (⟨"java/util/ImmutableCollections$AbstractImmutableCollection", "<init>", "()V"⟩ : MethodName) jdk_47_method_1_code 1 none :: ws) ({ frames := 2, cells := 0, slots := 0, locals := 24 } : Room)) (fun a U => a = #[(.ref a0x)] ∧ Z.Warmed39 U.vm ∧ U.heap = h0) (fun _ _ _ _ _ => True) (fun _ U o U' => ∃ v L, o = .returned v ∧ Q_rm_aic Z a0x h0 n0 v U'.heap L ∧ FrameEnd U o U' L ({ frames := 2, cells := 0, slots := 0, locals := 24 } : Room).cells ({ frames := 2, cells := 0, slots := 0, locals := 24 } : Room).slots) := by
  refine MetFree.of_bodySF (plainFor_of_name pn_2) hisR ?_
  intro p e s m args below meth c s₁ Bd hml0 hP hK
  obtain ⟨rfl, hZ, hh⟩ := hP
  have hx := Bd.exec
  have hby := Bd.bytes
  have hml : c.maxLocals = 1 := hml0
  have hown : s.vm.findClass "java/util/ImmutableCollections$AbstractImmutableCollection" = some m.cls := findClass_of_methodNamed Bd.named
  have hnm := (name_of_methodNamed Bd.named Bd.method).1
  have X0 : Stand p l e ({ frames := 2, cells := 0, slots := 0, locals := 24 } : Room) s m #[(.ref a0x)] below meth c s₁ [] 0 0 := Stand.of_body Bd
  have e0 : s₁.heap = h0 := by rw [← hh, Bd.state]; rfl
  have N0 := Fr.nil n0
  have pre0 : ∀ t, Steps p.tables e below (s₁.setTop (mkF m 0 #[.val (.ref a0x)] [])) t → Steps p.tables e below (s₁.setTop (entryFrame m #[(.ref a0x)] 1)) t := fun t k => castTop (ef_28 m a0x) k
  obtain ⟨_, _, ⟨T1, L1, k1, n1⟩, -, X1, ⟨Lc1, hQ1, l1, y1, z1⟩, st1⟩ := X0.specialBack hx (y := (⟨"java/util/AbstractCollection", "<init>", "()V"⟩ : MethodName)) rfl hown (mvT hZ (hw _ (List.mem_of_getElem? (i := 176) rfl))) (mvT hZ (hw _ (List.mem_of_getElem? (i := 35) rfl))) (mvT hZ (hw _ (List.mem_of_getElem? (i := 39) rfl))) (by decide) (backOf (W := 0) (rm_ac l Z a0 hw [] a0x h0 n0 Z0) hZ (hw _ (List.mem_of_getElem? (i := 39) rfl)) (hw _ (List.mem_of_getElem? (i := 38) rfl)) (by decide) (by decide)) (g := (mkF m 1 #[.val (.ref a0x)] [(.ref a0x)])) rfl (by rw [hml]; rfl) (Steps.refl _) (a := a0x) (argsL := []) (rest := []) (lenOf pd_1 rfl) rfl (by show 2 * 0 + _ ≤ _; exact Nat.le_of_eq rfl) (hb hby d28_1) (fun _ _ => ⟨rfl, e0, (by decide : 0 + 0 ≤ _), (by decide : 0 + 0 ≤ _)⟩)
  dsimp only [Pt.U, Pt.locs, Pt.cells, Pt.slots] at X1 l1 y1 z1 st1 hQ1
  subst l1 y1 z1
  obtain ⟨rfl, N1q, e1⟩ := hQ1
  have N1 := Fr.app N0 N1q
  obtain ⟨fs, hr, hrun, hended, hW, hsame⟩ := X1.leave (v := none) (fun _ => rfl)
  refine ⟨_, _, pre0 _ ?_, hrun, hended, _, _, rfl, ?_, ⟨_, rfl⟩, hW, hsame.mono (by decide) (by decide)⟩
  · show Steps p.tables e below (s₁.setTop (mkF m 0 #[.val (.ref a0x)] [])) _
    refine XS.aloadN X0.here hx rfl (hb hby d28_0) rfl rfl ?_
    show Steps p.tables e below (s₁.setTop (mkF m 1 #[.val (.ref a0x)] [(.ref a0x)])) _
    refine st1.trans ?_
    show Steps p.tables e below (T1.setTop (mkF m 4 #[.val (.ref a0x)] [])) _
    exact X1.returnOut hx Bd.returns (hb hby d28_4) hr
  · show Q_rm_aic Z a0x h0 n0 _ T1.heap _
    rw [e1]
    exact ⟨rfl, N1, rfl⟩
theorem d27_0 : decode jdk_46_method_1_code 0 = .ok (.aload_n 0, 1) := by decide +kernel
theorem d27_1 : decode jdk_46_method_1_code 1 = .ok (.invokespecial 1, 3) := by decide +kernel
theorem d27_4 : decode jdk_46_method_1_code 4 = .ok (.return_, 1) := by decide +kernel
theorem pn_3 : plainName "java/util/ImmutableCollections$AbstractImmutableList" = true := by first | (simp [plainName, overriddenIn]; done) | decide +kernel
theorem ef_27 (m : MethodId) (x0 : Addr) : entryFrame m #[(.ref x0)] 1 = mkF m 0 #[.val (.ref x0)] [] := by first | (simp [entryFrame, mkF, argsToLocals, Value.category]; done) | rfl
def Q_rm_ail (Z : State) (a0x : Addr) (h0 : Heap) (n0 : Nat) (v : Option Value) (h : Heap) (L : List Loc) : Prop := v = none ∧ Fr n0 L ∧ h = h0
set_option maxRecDepth 65536 in
set_option maxHeartbeats 40000000 in
theorem rm_ail (l : Launch) (Z : State) (a0 : Array Value) (hw : ∀ d ∈ tables_1, d.before a0 Z = true) (ws : List Jvm.Cond) (a0x : Addr) (h0 : Heap) (n0 : Nat) (Z0 : n0 ≤ h0.size)  :
    MetFree l (⟨"java/util/ImmutableCollections$AbstractImmutableList", "<init>", "()V"⟩ : MethodName) (head1 (Jvm.Cond.code (⟨"java/util/ImmutableCollections$AbstractImmutableList", "<init>", "()V"⟩ : MethodName) jdk_46_method_1_code 1 none :: ws) ({ frames := 3, cells := 0, slots := 0, locals := 36 } : Room)) (fun a U => a = #[(.ref a0x)] ∧ Z.Warmed39 U.vm ∧ U.heap = h0) (fun _ _ _ _ _ => True) (fun _ U o U' => ∃ v L, o = .returned v ∧ Q_rm_ail Z a0x h0 n0 v U'.heap L ∧ FrameEnd U o U' L ({ frames := 3, cells := 0, slots := 0, locals := 36 } : Room).cells ({ frames := 3, cells := 0, slots := 0, locals := 36 } : Room).slots) := by
  refine MetFree.of_bodySF (plainFor_of_name pn_3) hisR ?_
  intro p e s m args below meth c s₁ Bd hml0 hP hK
  obtain ⟨rfl, hZ, hh⟩ := hP
  have hx := Bd.exec
  have hby := Bd.bytes
  have hml : c.maxLocals = 1 := hml0
  have hown : s.vm.findClass "java/util/ImmutableCollections$AbstractImmutableList" = some m.cls := findClass_of_methodNamed Bd.named
  have hnm := (name_of_methodNamed Bd.named Bd.method).1
  have X0 : Stand p l e ({ frames := 3, cells := 0, slots := 0, locals := 36 } : Room) s m #[(.ref a0x)] below meth c s₁ [] 0 0 := Stand.of_body Bd
  have e0 : s₁.heap = h0 := by rw [← hh, Bd.state]; rfl
  have N0 := Fr.nil n0
  have pre0 : ∀ t, Steps p.tables e below (s₁.setTop (mkF m 0 #[.val (.ref a0x)] [])) t → Steps p.tables e below (s₁.setTop (entryFrame m #[(.ref a0x)] 1)) t := fun t k => castTop (ef_27 m a0x) k
  obtain ⟨_, _, ⟨T1, L1, k1, n1⟩, -, X1, ⟨Lc1, hQ1, l1, y1, z1⟩, st1⟩ := X0.specialBack hx (y := (⟨"java/util/ImmutableCollections$AbstractImmutableCollection", "<init>", "()V"⟩ : MethodName)) rfl hown (mvT hZ (hw _ (List.mem_of_getElem? (i := 170) rfl))) (mvT hZ (hw _ (List.mem_of_getElem? (i := 171) rfl))) (mvT hZ (hw _ (List.mem_of_getElem? (i := 175) rfl))) (by decide) (backOf (W := 0) (rm_aic l Z a0 hw [] a0x h0 n0 Z0) hZ (hw _ (List.mem_of_getElem? (i := 175) rfl)) (hw _ (List.mem_of_getElem? (i := 174) rfl)) (by decide) (by decide)) (g := (mkF m 1 #[.val (.ref a0x)] [(.ref a0x)])) rfl (by rw [hml]; rfl) (Steps.refl _) (a := a0x) (argsL := []) (rest := []) (lenOf pd_1 rfl) rfl (by show 2 * 0 + _ ≤ _; exact Nat.le_of_eq rfl) (hb hby d27_1) (fun _ _ => ⟨rfl, e0, (by decide : 0 + 0 ≤ _), (by decide : 0 + 0 ≤ _)⟩)
  dsimp only [Pt.U, Pt.locs, Pt.cells, Pt.slots] at X1 l1 y1 z1 st1 hQ1
  subst l1 y1 z1
  obtain ⟨rfl, N1q, e1⟩ := hQ1
  have N1 := Fr.app N0 N1q
  obtain ⟨fs, hr, hrun, hended, hW, hsame⟩ := X1.leave (v := none) (fun _ => rfl)
  refine ⟨_, _, pre0 _ ?_, hrun, hended, _, _, rfl, ?_, ⟨_, rfl⟩, hW, hsame.mono (by decide) (by decide)⟩
  · show Steps p.tables e below (s₁.setTop (mkF m 0 #[.val (.ref a0x)] [])) _
    refine XS.aloadN X0.here hx rfl (hb hby d27_0) rfl rfl ?_
    show Steps p.tables e below (s₁.setTop (mkF m 1 #[.val (.ref a0x)] [(.ref a0x)])) _
    refine st1.trans ?_
    show Steps p.tables e below (T1.setTop (mkF m 4 #[.val (.ref a0x)] [])) _
    exact X1.returnOut hx Bd.returns (hb hby d27_4) hr
  · show Q_rm_ail Z a0x h0 n0 _ T1.heap _
    rw [e1]
    exact ⟨rfl, N1, rfl⟩
theorem d19_0 : decode jdk_30_method_1_code 0 = .ok (.aload_n 0, 1) := by decide +kernel
theorem d19_1 : decode jdk_30_method_1_code 1 = .ok (.invokespecial 1, 3) := by decide +kernel
theorem d19_4 : decode jdk_30_method_1_code 4 = .ok (.return_, 1) := by decide +kernel
theorem pn_4 : plainName "java/lang/Record" = true := by first | (simp [plainName, overriddenIn]; done) | decide +kernel
theorem ef_19 (m : MethodId) (x0 : Addr) : entryFrame m #[(.ref x0)] 1 = mkF m 0 #[.val (.ref x0)] [] := by first | (simp [entryFrame, mkF, argsToLocals, Value.category]; done) | rfl
def Q_rm_rec (Z : State) (a0x : Addr) (h0 : Heap) (n0 : Nat) (v : Option Value) (h : Heap) (L : List Loc) : Prop := v = none ∧ Fr n0 L ∧ h = h0
set_option maxRecDepth 65536 in
set_option maxHeartbeats 40000000 in
theorem rm_rec (l : Launch) (Z : State) (a0 : Array Value) (hw : ∀ d ∈ tables_1, d.before a0 Z = true) (ws : List Jvm.Cond) (a0x : Addr) (h0 : Heap) (n0 : Nat) (Z0 : n0 ≤ h0.size)  :
    MetFree l (⟨"java/lang/Record", "<init>", "()V"⟩ : MethodName) (head1 (Jvm.Cond.code (⟨"java/lang/Record", "<init>", "()V"⟩ : MethodName) jdk_30_method_1_code 1 none :: ws) ({ frames := 1, cells := 0, slots := 0, locals := 12 } : Room)) (fun a U => a = #[(.ref a0x)] ∧ Z.Warmed39 U.vm ∧ U.heap = h0) (fun _ _ _ _ _ => True) (fun _ U o U' => ∃ v L, o = .returned v ∧ Q_rm_rec Z a0x h0 n0 v U'.heap L ∧ FrameEnd U o U' L ({ frames := 1, cells := 0, slots := 0, locals := 12 } : Room).cells ({ frames := 1, cells := 0, slots := 0, locals := 12 } : Room).slots) := by
  refine MetFree.of_bodySF (plainFor_of_name pn_4) hisR ?_
  intro p e s m args below meth c s₁ Bd hml0 hP hK
  obtain ⟨rfl, hZ, hh⟩ := hP
  have hx := Bd.exec
  have hby := Bd.bytes
  have hml : c.maxLocals = 1 := hml0
  have hown : s.vm.findClass "java/lang/Record" = some m.cls := findClass_of_methodNamed Bd.named
  have hnm := (name_of_methodNamed Bd.named Bd.method).1
  have X0 : Stand p l e ({ frames := 1, cells := 0, slots := 0, locals := 12 } : Room) s m #[(.ref a0x)] below meth c s₁ [] 0 0 := Stand.of_body Bd
  have e0 : s₁.heap = h0 := by rw [← hh, Bd.state]; rfl
  have N0 := Fr.nil n0
  have pre0 : ∀ t, Steps p.tables e below (s₁.setTop (mkF m 0 #[.val (.ref a0x)] [])) t → Steps p.tables e below (s₁.setTop (entryFrame m #[(.ref a0x)] 1)) t := fun t k => castTop (ef_19 m a0x) k
  obtain ⟨T1, X1, e1, st1⟩ := initO X0 hx hZ hown (hw _ (List.mem_of_getElem? (i := 125) rfl)) (hw _ (List.mem_of_getElem? (i := 12) rfl)) (hw _ (List.mem_of_getElem? (i := 13) rfl)) e0 (g := (mkF m 1 #[.val (.ref a0x)] [(.ref a0x)])) rfl (by rw [hml]; rfl) rfl (hb hby d19_1) (by decide) (W := 0) (by show 2 * 0 + _ ≤ _; exact Nat.le_of_eq rfl) (by decide)
  obtain ⟨fs, hr, hrun, hended, hW, hsame⟩ := X1.leave (v := none) (fun _ => rfl)
  refine ⟨_, _, pre0 _ ?_, hrun, hended, _, _, rfl, ?_, ⟨_, rfl⟩, hW, hsame.mono (by decide) (by decide)⟩
  · show Steps p.tables e below (s₁.setTop (mkF m 0 #[.val (.ref a0x)] [])) _
    refine XS.aloadN X0.here hx rfl (hb hby d19_0) rfl rfl ?_
    show Steps p.tables e below (s₁.setTop (mkF m 1 #[.val (.ref a0x)] [(.ref a0x)])) _
    refine st1 _ ?_
    show Steps p.tables e below (T1.setTop (mkF m 4 #[.val (.ref a0x)] [])) _
    exact X1.returnOut hx Bd.returns (hb hby d19_4) hr
  · show Q_rm_rec Z a0x h0 n0 _ T1.heap _
    rw [e1]
    exact ⟨rfl, N0, rfl⟩
theorem d20_0 : decode jdk_31_method_11_code 0 = .ok (.aload_n 0, 1) := by decide +kernel
theorem d20_1 : decode jdk_31_method_11_code 1 = .ok (.ifnonnull 12, 3) := by decide +kernel
theorem d20_13 : decode jdk_31_method_11_code 13 = .ok (.aload_n 0, 1) := by decide +kernel
theorem d20_14 : decode jdk_31_method_11_code 14 = .ok (.areturn, 1) := by decide +kernel
theorem pn_5 : plainName "java/util/Objects" = true := by first | (simp [plainName, overriddenIn]; done) | decide +kernel
theorem ef_20 (m : MethodId) (x0 : Addr) (x1 : Addr) : entryFrame m #[(.ref x0), (.ref x1)] 2 = mkF m 0 #[.val (.ref x0), .val (.ref x1)] [] := by first | (simp [entryFrame, mkF, argsToLocals, Value.category]; done) | rfl
def Q_rm_nn2 (Z : State) (a1x : Addr) (s0x : Addr) (h0 : Heap) (n0 : Nat) (v : Option Value) (h : Heap) (L : List Loc) : Prop := v = some (.ref a1x) ∧ Fr n0 L ∧ h = h0
set_option maxRecDepth 65536 in
set_option maxHeartbeats 40000000 in
theorem rm_nn2 (l : Launch) (Z : State) (a0 : Array Value) (hw : ∀ d ∈ tables_1, d.before a0 Z = true) (ws : List Jvm.Cond) (a1x : Addr) (s0x : Addr) (h0 : Heap) (n0 : Nat) (Z0 : n0 ≤ h0.size)  :
    MetFree l (⟨"java/util/Objects", "requireNonNull", "(Ljava/lang/Object;Ljava/lang/String;)Ljava/lang/Object;"⟩ : MethodName) (head1 (Jvm.Cond.code (⟨"java/util/Objects", "requireNonNull", "(Ljava/lang/Object;Ljava/lang/String;)Ljava/lang/Object;"⟩ : MethodName) jdk_31_method_11_code 2 (some (.object "java/lang/Object")) :: ws) ({ frames := 0, cells := 0, slots := 0, locals := 0 } : Room)) (fun a U => a = #[(.ref a1x), (.ref s0x)] ∧ Z.Warmed39 U.vm ∧ U.heap = h0) (fun _ _ _ _ _ => True) (fun _ U o U' => ∃ v L, o = .returned v ∧ Q_rm_nn2 Z a1x s0x h0 n0 v U'.heap L ∧ FrameEnd U o U' L ({ frames := 0, cells := 0, slots := 0, locals := 0 } : Room).cells ({ frames := 0, cells := 0, slots := 0, locals := 0 } : Room).slots) := by
  refine MetFree.of_bodySF (plainFor_of_name pn_5) hisR ?_
  intro p e s m args below meth c s₁ Bd hml0 hP hK
  obtain ⟨rfl, hZ, hh⟩ := hP
  have hx := Bd.exec
  have hby := Bd.bytes
  have hml : c.maxLocals = 2 := hml0
  have hown : s.vm.findClass "java/util/Objects" = some m.cls := findClass_of_methodNamed Bd.named
  have hnm := (name_of_methodNamed Bd.named Bd.method).1
  have X0 : Stand p l e ({ frames := 0, cells := 0, slots := 0, locals := 0 } : Room) s m #[(.ref a1x), (.ref s0x)] below meth c s₁ [] 0 0 := Stand.of_body Bd
  have e0 : s₁.heap = h0 := by rw [← hh, Bd.state]; rfl
  have N0 := Fr.nil n0
  have pre0 : ∀ t, Steps p.tables e below (s₁.setTop (mkF m 0 #[.val (.ref a1x), .val (.ref s0x)] [])) t → Steps p.tables e below (s₁.setTop (entryFrame m #[(.ref a1x), (.ref s0x)] 2)) t := fun t k => castTop (ef_20 m a1x s0x) k
  obtain ⟨fs, hr, hrun, hended, hW, hsame⟩ := X0.leave (v := some (.ref a1x)) (fun h => by rw [Bd.returns] at h; cases h)
  refine ⟨_, _, pre0 _ ?_, hrun, hended, _, _, rfl, ?_, ⟨_, rfl⟩, hW, hsame.mono (by decide) (by decide)⟩
  · show Steps p.tables e below (s₁.setTop (mkF m 0 #[.val (.ref a1x), .val (.ref s0x)] [])) _
    refine XS.aloadN X0.here hx rfl (hb hby d20_0) rfl rfl ?_
    show Steps p.tables e below (s₁.setTop (mkF m 1 #[.val (.ref a1x), .val (.ref s0x)] [(.ref a1x)])) _
    refine XS.ifnonnullYes X0.here hx rfl (pc0 := 1) (pc' := 13) rfl (hb hby d20_1) rfl (by decide) (by decide) ?_
    show Steps p.tables e below (s₁.setTop (mkF m 13 #[.val (.ref a1x), .val (.ref s0x)] [])) _
    refine XS.aloadN X0.here hx rfl (hb hby d20_13) rfl rfl ?_
    show Steps p.tables e below (s₁.setTop (mkF m 14 #[.val (.ref a1x), .val (.ref s0x)] [(.ref a1x)])) _
    exact retOut X0 hx Bd.returns (by rfl) (Or.inr (Or.inr (Or.inr (Or.inr ⟨rfl, rfl, rfl⟩)))) (hb hby d20_14) hr
  · show Q_rm_nn2 Z a1x s0x h0 n0 _ s₁.heap _
    rw [e0]
    exact ⟨rfl, N0, rfl⟩
theorem d29_0 : decode jdk_31_method_10_code 0 = .ok (.aload_n 0, 1) := by decide +kernel
theorem d29_1 : decode jdk_31_method_10_code 1 = .ok (.ifnonnull 11, 3) := by decide +kernel
theorem d29_12 : decode jdk_31_method_10_code 12 = .ok (.aload_n 0, 1) := by decide +kernel
theorem d29_13 : decode jdk_31_method_10_code 13 = .ok (.areturn, 1) := by decide +kernel
theorem ef_29 (m : MethodId) (x0 : Addr) : entryFrame m #[(.ref x0)] 1 = mkF m 0 #[.val (.ref x0)] [] := by first | (simp [entryFrame, mkF, argsToLocals, Value.category]; done) | rfl
def Q_rm_nn1 (Z : State) (a1x : Addr) (h0 : Heap) (n0 : Nat) (v : Option Value) (h : Heap) (L : List Loc) : Prop := v = some (.ref a1x) ∧ Fr n0 L ∧ h = h0
set_option maxRecDepth 65536 in
set_option maxHeartbeats 40000000 in
theorem rm_nn1 (l : Launch) (Z : State) (a0 : Array Value) (hw : ∀ d ∈ tables_1, d.before a0 Z = true) (ws : List Jvm.Cond) (a1x : Addr) (h0 : Heap) (n0 : Nat) (Z0 : n0 ≤ h0.size)  :
    MetFree l (⟨"java/util/Objects", "requireNonNull", "(Ljava/lang/Object;)Ljava/lang/Object;"⟩ : MethodName) (head1 (Jvm.Cond.code (⟨"java/util/Objects", "requireNonNull", "(Ljava/lang/Object;)Ljava/lang/Object;"⟩ : MethodName) jdk_31_method_10_code 1 (some (.object "java/lang/Object")) :: ws) ({ frames := 0, cells := 0, slots := 0, locals := 0 } : Room)) (fun a U => a = #[(.ref a1x)] ∧ Z.Warmed39 U.vm ∧ U.heap = h0) (fun _ _ _ _ _ => True) (fun _ U o U' => ∃ v L, o = .returned v ∧ Q_rm_nn1 Z a1x h0 n0 v U'.heap L ∧ FrameEnd U o U' L ({ frames := 0, cells := 0, slots := 0, locals := 0 } : Room).cells ({ frames := 0, cells := 0, slots := 0, locals := 0 } : Room).slots) := by
  refine MetFree.of_bodySF (plainFor_of_name pn_5) hisR ?_
  intro p e s m args below meth c s₁ Bd hml0 hP hK
  obtain ⟨rfl, hZ, hh⟩ := hP
  have hx := Bd.exec
  have hby := Bd.bytes
  have hml : c.maxLocals = 1 := hml0
  have hown : s.vm.findClass "java/util/Objects" = some m.cls := findClass_of_methodNamed Bd.named
  have hnm := (name_of_methodNamed Bd.named Bd.method).1
  have X0 : Stand p l e ({ frames := 0, cells := 0, slots := 0, locals := 0 } : Room) s m #[(.ref a1x)] below meth c s₁ [] 0 0 := Stand.of_body Bd
  have e0 : s₁.heap = h0 := by rw [← hh, Bd.state]; rfl
  have N0 := Fr.nil n0
  have pre0 : ∀ t, Steps p.tables e below (s₁.setTop (mkF m 0 #[.val (.ref a1x)] [])) t → Steps p.tables e below (s₁.setTop (entryFrame m #[(.ref a1x)] 1)) t := fun t k => castTop (ef_29 m a1x) k
  obtain ⟨fs, hr, hrun, hended, hW, hsame⟩ := X0.leave (v := some (.ref a1x)) (fun h => by rw [Bd.returns] at h; cases h)
  refine ⟨_, _, pre0 _ ?_, hrun, hended, _, _, rfl, ?_, ⟨_, rfl⟩, hW, hsame.mono (by decide) (by decide)⟩
  · show Steps p.tables e below (s₁.setTop (mkF m 0 #[.val (.ref a1x)] [])) _
    refine XS.aloadN X0.here hx rfl (hb hby d29_0) rfl rfl ?_
    show Steps p.tables e below (s₁.setTop (mkF m 1 #[.val (.ref a1x)] [(.ref a1x)])) _
    refine XS.ifnonnullYes X0.here hx rfl (pc0 := 1) (pc' := 12) rfl (hb hby d29_1) rfl (by decide) (by decide) ?_
    show Steps p.tables e below (s₁.setTop (mkF m 12 #[.val (.ref a1x)] [])) _
    refine XS.aloadN X0.here hx rfl (hb hby d29_12) rfl rfl ?_
    show Steps p.tables e below (s₁.setTop (mkF m 13 #[.val (.ref a1x)] [(.ref a1x)])) _
    exact retOut X0 hx Bd.returns (by rfl) (Or.inr (Or.inr (Or.inr (Or.inr ⟨rfl, rfl, rfl⟩)))) (hb hby d29_13) hr
  · show Q_rm_nn1 Z a1x h0 n0 _ s₁.heap _
    rw [e0]
    exact ⟨rfl, N0, rfl⟩
theorem d11_0 : decode jdk_29_method_65_code 0 = .ok (.iload_n 0, 1) := by decide +kernel
theorem d11_1 : decode jdk_29_method_65_code 1 = .ok (.iload_n 1, 1) := by decide +kernel
theorem d11_2 : decode jdk_29_method_65_code 2 = .ok (.if_icmp .lt 7, 3) := by decide +kernel
theorem d11_5 : decode jdk_29_method_65_code 5 = .ok (.iload_n 0, 1) := by decide +kernel
theorem d11_6 : decode jdk_29_method_65_code 6 = .ok (.goto 4, 3) := by decide +kernel
theorem d11_10 : decode jdk_29_method_65_code 10 = .ok (.ireturn, 1) := by decide +kernel
theorem ef_11 (m : MethodId) (x0 : Int32) (x1 : Int32) : entryFrame m #[(.int x0), (.int x1)] 2 = mkF m 0 #[.val (.int x0), .val (.int x1)] [] := by first | (simp [entryFrame, mkF, argsToLocals, Value.category]; done) | rfl
def Q_rm_max (Z : State) (p1 : Int32) (p2 : Int32) (h0 : Heap) (n0 : Nat) (v : Option Value) (h : Heap) (L : List Loc) : Prop := v = some (.int p1) ∧ Fr n0 L ∧ h = h0
set_option maxRecDepth 65536 in
set_option maxHeartbeats 40000000 in
theorem rm_max (l : Launch) (Z : State) (a0 : Array Value) (hw : ∀ d ∈ tables_1, d.before a0 Z = true) (ws : List Jvm.Cond) (p1 : Int32) (p2 : Int32) (h0 : Heap) (n0 : Nat) (Z0 : n0 ≤ h0.size) (hm : ¬ (p1 < p2)) :
    MetFree l (⟨"java/lang/Math", "max", "(II)I"⟩ : MethodName) (head1 (Jvm.Cond.code (⟨"java/lang/Math", "max", "(II)I"⟩ : MethodName) jdk_29_method_65_code 2 (some .int) :: ws) ({ frames := 0, cells := 0, slots := 0, locals := 0 } : Room)) (fun a U => a = #[(.int p1), (.int p2)] ∧ Z.Warmed39 U.vm ∧ U.heap = h0) (fun _ _ _ _ _ => True) (fun _ U o U' => ∃ v L, o = .returned v ∧ Q_rm_max Z p1 p2 h0 n0 v U'.heap L ∧ FrameEnd U o U' L ({ frames := 0, cells := 0, slots := 0, locals := 0 } : Room).cells ({ frames := 0, cells := 0, slots := 0, locals := 0 } : Room).slots) := by
  refine MetFree.of_bodySF (Jvm.Free.JP.mathPlain rfl (by decide +kernel)) hisR ?_
  intro p e s m args below meth c s₁ Bd hml0 hP hK
  obtain ⟨rfl, hZ, hh⟩ := hP
  have hx := Bd.exec
  have hby := Bd.bytes
  have hml : c.maxLocals = 2 := hml0
  have hown : s.vm.findClass "java/lang/Math" = some m.cls := findClass_of_methodNamed Bd.named
  have hnm := (name_of_methodNamed Bd.named Bd.method).1
  have X0 : Stand p l e ({ frames := 0, cells := 0, slots := 0, locals := 0 } : Room) s m #[(.int p1), (.int p2)] below meth c s₁ [] 0 0 := Stand.of_body Bd
  have e0 : s₁.heap = h0 := by rw [← hh, Bd.state]; rfl
  have N0 := Fr.nil n0
  have pre0 : ∀ t, Steps p.tables e below (s₁.setTop (mkF m 0 #[.val (.int p1), .val (.int p2)] [])) t → Steps p.tables e below (s₁.setTop (entryFrame m #[(.int p1), (.int p2)] 2)) t := fun t k => castTop (ef_11 m p1 p2) k
  obtain ⟨fs, hr, hrun, hended, hW, hsame⟩ := X0.leave (v := some (.int p1)) (fun h => by rw [Bd.returns] at h; cases h)
  refine ⟨_, _, pre0 _ ?_, hrun, hended, _, _, rfl, ?_, ⟨_, rfl⟩, hW, hsame.mono (by decide) (by decide)⟩
  · show Steps p.tables e below (s₁.setTop (mkF m 0 #[.val (.int p1), .val (.int p2)] [])) _
    refine XS.iloadN X0.here hx rfl (hb hby d11_0) rfl ?_
    show Steps p.tables e below (s₁.setTop (mkF m 1 #[.val (.int p1), .val (.int p2)] [(.int p1)])) _
    refine XS.iloadN X0.here hx rfl (hb hby d11_1) rfl ?_
    show Steps p.tables e below (s₁.setTop (mkF m 2 #[.val (.int p1), .val (.int p2)] [(.int p2), (.int p1)])) _
    refine XS.icmpNo X0.here hx rfl (hb hby d11_2) rfl (flt hm).1 ?_
    show Steps p.tables e below (s₁.setTop (mkF m 5 #[.val (.int p1), .val (.int p2)] [])) _
    refine XS.iloadN X0.here hx rfl (hb hby d11_5) rfl ?_
    show Steps p.tables e below (s₁.setTop (mkF m 6 #[.val (.int p1), .val (.int p2)] [(.int p1)])) _
    refine XS.goto X0.here hx rfl (pc0 := 6) (pc' := 10) rfl (hb hby d11_6) (by decide) (by decide) ?_
    show Steps p.tables e below (s₁.setTop (mkF m 10 #[.val (.int p1), .val (.int p2)] [(.int p1)])) _
    exact retI X0 hx Bd.returns (hb hby d11_10) hr
  · show Q_rm_max Z p1 p2 h0 n0 _ s₁.heap _
    rw [e0]
    exact ⟨rfl, N0, rfl⟩
theorem d16_0 : decode jdk_41_method_11_code 0 = .ok (.iload_n 0, 1) := by decide +kernel
theorem d16_1 : decode jdk_41_method_11_code 1 = .ok (.ifCond .lt 8, 3) := by decide +kernel
theorem d16_4 : decode jdk_41_method_11_code 4 = .ok (.iload_n 0, 1) := by decide +kernel
theorem d16_5 : decode jdk_41_method_11_code 5 = .ok (.iload_n 1, 1) := by decide +kernel
theorem d16_6 : decode jdk_41_method_11_code 6 = .ok (.if_icmp .lt 10, 3) := by decide +kernel
theorem d16_16 : decode jdk_41_method_11_code 16 = .ok (.iload_n 0, 1) := by decide +kernel
theorem d16_17 : decode jdk_41_method_11_code 17 = .ok (.ireturn, 1) := by decide +kernel
theorem pn_6 : plainName "jdk/internal/util/Preconditions" = true := by first | (simp [plainName, overriddenIn]; done) | decide +kernel
theorem ef_16_rm_ci0 (m : MethodId) (x0 : Int32) (x1 : Int32) : entryFrame m #[(.int x0), (.int x1), .null] 3 = mkF m 0 #[.val (.int x0), .val (.int x1), .val .null] [] := by first | (simp [entryFrame, mkF, argsToLocals, Value.category]; done) | rfl
def Q_rm_ci0 (Z : State) (p1 : Int32) (p2 : Int32) (h0 : Heap) (n0 : Nat) (v : Option Value) (h : Heap) (L : List Loc) : Prop := v = some (.int p1) ∧ Fr n0 L ∧ h = h0
set_option maxRecDepth 65536 in
set_option maxHeartbeats 40000000 in
theorem rm_ci0 (l : Launch) (Z : State) (a0 : Array Value) (hw : ∀ d ∈ tables_1, d.before a0 Z = true) (ws : List Jvm.Cond) (p1 : Int32) (p2 : Int32) (h0 : Heap) (n0 : Nat) (Z0 : n0 ≤ h0.size) (h1x : ¬ (p1 < (0 : Int32))) (h2x : p1 < p2) :
    MetFree l (⟨"jdk/internal/util/Preconditions", "checkIndex", "(IILjava/util/function/BiFunction;)I"⟩ : MethodName) (head1 (Jvm.Cond.code (⟨"jdk/internal/util/Preconditions", "checkIndex", "(IILjava/util/function/BiFunction;)I"⟩ : MethodName) jdk_41_method_11_code 3 (some .int) :: ws) ({ frames := 0, cells := 0, slots := 0, locals := 0 } : Room)) (fun a U => a = #[(.int p1), (.int p2), .null] ∧ Z.Warmed39 U.vm ∧ U.heap = h0) (fun _ _ _ _ _ => True) (fun _ U o U' => ∃ v L, o = .returned v ∧ Q_rm_ci0 Z p1 p2 h0 n0 v U'.heap L ∧ FrameEnd U o U' L ({ frames := 0, cells := 0, slots := 0, locals := 0 } : Room).cells ({ frames := 0, cells := 0, slots := 0, locals := 0 } : Room).slots) := by
  refine MetFree.of_bodySF (plainFor_of_name pn_6) hisR ?_
  intro p e s m args below meth c s₁ Bd hml0 hP hK
  obtain ⟨rfl, hZ, hh⟩ := hP
  have hx := Bd.exec
  have hby := Bd.bytes
  have hml : c.maxLocals = 3 := hml0
  have hown : s.vm.findClass "jdk/internal/util/Preconditions" = some m.cls := findClass_of_methodNamed Bd.named
  have hnm := (name_of_methodNamed Bd.named Bd.method).1
  have X0 : Stand p l e ({ frames := 0, cells := 0, slots := 0, locals := 0 } : Room) s m #[(.int p1), (.int p2), .null] below meth c s₁ [] 0 0 := Stand.of_body Bd
  have e0 : s₁.heap = h0 := by rw [← hh, Bd.state]; rfl
  have N0 := Fr.nil n0
  have pre0 : ∀ t, Steps p.tables e below (s₁.setTop (mkF m 0 #[.val (.int p1), .val (.int p2), .val .null] [])) t → Steps p.tables e below (s₁.setTop (entryFrame m #[(.int p1), (.int p2), .null] 3)) t := fun t k => castTop (ef_16_rm_ci0 m p1 p2) k
  obtain ⟨fs, hr, hrun, hended, hW, hsame⟩ := X0.leave (v := some (.int p1)) (fun h => by rw [Bd.returns] at h; cases h)
  refine ⟨_, _, pre0 _ ?_, hrun, hended, _, _, rfl, ?_, ⟨_, rfl⟩, hW, hsame.mono (by decide) (by decide)⟩
  · show Steps p.tables e below (s₁.setTop (mkF m 0 #[.val (.int p1), .val (.int p2), .val .null] [])) _
    refine XS.iloadN X0.here hx rfl (hb hby d16_0) rfl ?_
    show Steps p.tables e below (s₁.setTop (mkF m 1 #[.val (.int p1), .val (.int p2), .val .null] [(.int p1)])) _
    refine XS.ifNo X0.here hx rfl (hb hby d16_1) rfl ((if0 _ _).trans (flt h1x).1) ?_
    show Steps p.tables e below (s₁.setTop (mkF m 4 #[.val (.int p1), .val (.int p2), .val .null] [])) _
    refine XS.iloadN X0.here hx rfl (hb hby d16_4) rfl ?_
    show Steps p.tables e below (s₁.setTop (mkF m 5 #[.val (.int p1), .val (.int p2), .val .null] [(.int p1)])) _
    refine XS.iloadN X0.here hx rfl (hb hby d16_5) rfl ?_
    show Steps p.tables e below (s₁.setTop (mkF m 6 #[.val (.int p1), .val (.int p2), .val .null] [(.int p2), (.int p1)])) _
    refine XS.icmpYes X0.here hx rfl (pc0 := 6) (pc' := 16) rfl (hb hby d16_6) rfl (tlt h2x).1 (by decide) (by decide) ?_
    show Steps p.tables e below (s₁.setTop (mkF m 16 #[.val (.int p1), .val (.int p2), .val .null] [])) _
    refine XS.iloadN X0.here hx rfl (hb hby d16_16) rfl ?_
    show Steps p.tables e below (s₁.setTop (mkF m 17 #[.val (.int p1), .val (.int p2), .val .null] [(.int p1)])) _
    exact retI X0 hx Bd.returns (hb hby d16_17) hr
  · show Q_rm_ci0 Z p1 p2 h0 n0 _ s₁.heap _
    rw [e0]
    exact ⟨rfl, N0, rfl⟩
theorem ef_16 (m : MethodId) (x0 : Int32) (x1 : Int32) (x2 : Addr) : entryFrame m #[(.int x0), (.int x1), (.ref x2)] 3 = mkF m 0 #[.val (.int x0), .val (.int x1), .val (.ref x2)] [] := by first | (simp [entryFrame, mkF, argsToLocals, Value.category]; done) | rfl
def Q_rm_ci1 (Z : State) (p1 : Int32) (p2 : Int32) (g1x : Addr) (h0 : Heap) (n0 : Nat) (v : Option Value) (h : Heap) (L : List Loc) : Prop := v = some (.int p1) ∧ Fr n0 L ∧ h = h0
set_option maxRecDepth 65536 in
set_option maxHeartbeats 40000000 in
theorem rm_ci1 (l : Launch) (Z : State) (a0 : Array Value) (hw : ∀ d ∈ tables_1, d.before a0 Z = true) (ws : List Jvm.Cond) (p1 : Int32) (p2 : Int32) (g1x : Addr) (h0 : Heap) (n0 : Nat) (Z0 : n0 ≤ h0.size) (h1x : ¬ (p1 < (0 : Int32))) (h2x : p1 < p2) :
    MetFree l (⟨"jdk/internal/util/Preconditions", "checkIndex", "(IILjava/util/function/BiFunction;)I"⟩ : MethodName) (head1 (Jvm.Cond.code (⟨"jdk/internal/util/Preconditions", "checkIndex", "(IILjava/util/function/BiFunction;)I"⟩ : MethodName) jdk_41_method_11_code 3 (some .int) :: ws) ({ frames := 0, cells := 0, slots := 0, locals := 0 } : Room)) (fun a U => a = #[(.int p1), (.int p2), (.ref g1x)] ∧ Z.Warmed39 U.vm ∧ U.heap = h0) (fun _ _ _ _ _ => True) (fun _ U o U' => ∃ v L, o = .returned v ∧ Q_rm_ci1 Z p1 p2 g1x h0 n0 v U'.heap L ∧ FrameEnd U o U' L ({ frames := 0, cells := 0, slots := 0, locals := 0 } : Room).cells ({ frames := 0, cells := 0, slots := 0, locals := 0 } : Room).slots) := by
  refine MetFree.of_bodySF (plainFor_of_name pn_6) hisR ?_
  intro p e s m args below meth c s₁ Bd hml0 hP hK
  obtain ⟨rfl, hZ, hh⟩ := hP
  have hx := Bd.exec
  have hby := Bd.bytes
  have hml : c.maxLocals = 3 := hml0
  have hown : s.vm.findClass "jdk/internal/util/Preconditions" = some m.cls := findClass_of_methodNamed Bd.named
  have hnm := (name_of_methodNamed Bd.named Bd.method).1
  have X0 : Stand p l e ({ frames := 0, cells := 0, slots := 0, locals := 0 } : Room) s m #[(.int p1), (.int p2), (.ref g1x)] below meth c s₁ [] 0 0 := Stand.of_body Bd
  have e0 : s₁.heap = h0 := by rw [← hh, Bd.state]; rfl
  have N0 := Fr.nil n0
  have pre0 : ∀ t, Steps p.tables e below (s₁.setTop (mkF m 0 #[.val (.int p1), .val (.int p2), .val (.ref g1x)] [])) t → Steps p.tables e below (s₁.setTop (entryFrame m #[(.int p1), (.int p2), (.ref g1x)] 3)) t := fun t k => castTop (ef_16 m p1 p2 g1x) k
  obtain ⟨fs, hr, hrun, hended, hW, hsame⟩ := X0.leave (v := some (.int p1)) (fun h => by rw [Bd.returns] at h; cases h)
  refine ⟨_, _, pre0 _ ?_, hrun, hended, _, _, rfl, ?_, ⟨_, rfl⟩, hW, hsame.mono (by decide) (by decide)⟩
  · show Steps p.tables e below (s₁.setTop (mkF m 0 #[.val (.int p1), .val (.int p2), .val (.ref g1x)] [])) _
    refine XS.iloadN X0.here hx rfl (hb hby d16_0) rfl ?_
    show Steps p.tables e below (s₁.setTop (mkF m 1 #[.val (.int p1), .val (.int p2), .val (.ref g1x)] [(.int p1)])) _
    refine XS.ifNo X0.here hx rfl (hb hby d16_1) rfl ((if0 _ _).trans (flt h1x).1) ?_
    show Steps p.tables e below (s₁.setTop (mkF m 4 #[.val (.int p1), .val (.int p2), .val (.ref g1x)] [])) _
    refine XS.iloadN X0.here hx rfl (hb hby d16_4) rfl ?_
    show Steps p.tables e below (s₁.setTop (mkF m 5 #[.val (.int p1), .val (.int p2), .val (.ref g1x)] [(.int p1)])) _
    refine XS.iloadN X0.here hx rfl (hb hby d16_5) rfl ?_
    show Steps p.tables e below (s₁.setTop (mkF m 6 #[.val (.int p1), .val (.int p2), .val (.ref g1x)] [(.int p2), (.int p1)])) _
    refine XS.icmpYes X0.here hx rfl (pc0 := 6) (pc' := 16) rfl (hb hby d16_6) rfl (tlt h2x).1 (by decide) (by decide) ?_
    show Steps p.tables e below (s₁.setTop (mkF m 16 #[.val (.int p1), .val (.int p2), .val (.ref g1x)] [])) _
    refine XS.iloadN X0.here hx rfl (hb hby d16_16) rfl ?_
    show Steps p.tables e below (s₁.setTop (mkF m 17 #[.val (.int p1), .val (.int p2), .val (.ref g1x)] [(.int p1)])) _
    exact retI X0 hx Bd.returns (hb hby d16_17) hr
  · show Q_rm_ci1 Z p1 p2 g1x h0 n0 _ s₁.heap _
    rw [e0]
    exact ⟨rfl, N0, rfl⟩
theorem d15_0 : decode jdk_31_method_17_code 0 = .ok (.iload_n 0, 1) := by decide +kernel
theorem d15_1 : decode jdk_31_method_17_code 1 = .ok (.iload_n 1, 1) := by decide +kernel
theorem d15_2 : decode jdk_31_method_17_code 2 = .ok (.aconst_null, 1) := by decide +kernel
theorem d15_3 : decode jdk_31_method_17_code 3 = .ok (.invokestatic 105, 3) := by decide +kernel
theorem pd_2 : parseMethodDescriptor "(IILjava/util/function/BiFunction;)I" = some ⟨[.int, .int, (.object "java/util/function/BiFunction")], some .int⟩ := by decide +kernel
theorem d15_6 : decode jdk_31_method_17_code 6 = .ok (.ireturn, 1) := by decide +kernel
theorem ef_15 (m : MethodId) (x0 : Int32) (x1 : Int32) : entryFrame m #[(.int x0), (.int x1)] 2 = mkF m 0 #[.val (.int x0), .val (.int x1)] [] := by first | (simp [entryFrame, mkF, argsToLocals, Value.category]; done) | rfl
def Q_rm_oci (Z : State) (p1 : Int32) (p2 : Int32) (h0 : Heap) (n0 : Nat) (v : Option Value) (h : Heap) (L : List Loc) : Prop := v = some (.int p1) ∧ Fr n0 L ∧ h = h0
set_option maxRecDepth 65536 in
set_option maxHeartbeats 40000000 in
theorem rm_oci (l : Launch) (Z : State) (a0 : Array Value) (hw : ∀ d ∈ tables_1, d.before a0 Z = true) (ws : List Jvm.Cond) (p1 : Int32) (p2 : Int32) (h0 : Heap) (n0 : Nat) (Z0 : n0 ≤ h0.size) (h1x : ¬ (p1 < (0 : Int32))) (h2x : p1 < p2) :
    MetFree l (⟨"java/util/Objects", "checkIndex", "(II)I"⟩ : MethodName) (head1 (Jvm.Cond.code (⟨"java/util/Objects", "checkIndex", "(II)I"⟩ : MethodName) jdk_31_method_17_code 2 (some .int) :: ws) ({ frames := 1, cells := 0, slots := 0, locals := 14 } : Room)) (fun a U => a = #[(.int p1), (.int p2)] ∧ Z.Warmed39 U.vm ∧ U.heap = h0) (fun _ _ _ _ _ => True) (fun _ U o U' => ∃ v L, o = .returned v ∧ Q_rm_oci Z p1 p2 h0 n0 v U'.heap L ∧ FrameEnd U o U' L ({ frames := 1, cells := 0, slots := 0, locals := 14 } : Room).cells ({ frames := 1, cells := 0, slots := 0, locals := 14 } : Room).slots) := by
  refine MetFree.of_bodySF (plainFor_of_name pn_5) hisR ?_
  intro p e s m args below meth c s₁ Bd hml0 hP hK
  obtain ⟨rfl, hZ, hh⟩ := hP
  have hx := Bd.exec
  have hby := Bd.bytes
  have hml : c.maxLocals = 2 := hml0
  have hown : s.vm.findClass "java/util/Objects" = some m.cls := findClass_of_methodNamed Bd.named
  have hnm := (name_of_methodNamed Bd.named Bd.method).1
  have X0 : Stand p l e ({ frames := 1, cells := 0, slots := 0, locals := 14 } : Room) s m #[(.int p1), (.int p2)] below meth c s₁ [] 0 0 := Stand.of_body Bd
  have e0 : s₁.heap = h0 := by rw [← hh, Bd.state]; rfl
  have N0 := Fr.nil n0
  have pre0 : ∀ t, Steps p.tables e below (s₁.setTop (mkF m 0 #[.val (.int p1), .val (.int p2)] [])) t → Steps p.tables e below (s₁.setTop (entryFrame m #[(.int p1), (.int p2)] 2)) t := fun t k => castTop (ef_15 m p1 p2) k
  obtain ⟨_, _, ⟨T1, L1, k1, n1⟩, -, X1, ⟨Lc1, hQ1, l1, y1, z1⟩, st1⟩ := Jvm.LawKit.callS X0 hx (y := (⟨"jdk/internal/util/Preconditions", "checkIndex", "(IILjava/util/function/BiFunction;)I"⟩ : MethodName)) hown (mvT hZ (hw _ (List.mem_of_getElem? (i := 107) rfl))) (mvT hZ (hw _ (List.mem_of_getElem? (i := 108) rfl))) (mvT hZ (hw _ (List.mem_of_getElem? (i := 109) rfl))) (mvT hZ (hw _ (List.mem_of_getElem? (i := 110) rfl))) (by decide) (backOf (W := 0) (rm_ci0 l Z a0 hw [] p1 p2 h0 n0 Z0 h1x h2x) hZ (hw _ (List.mem_of_getElem? (i := 110) rfl)) (hw _ (List.mem_of_getElem? (i := 109) rfl)) (by decide) (by decide)) (g := (mkF m 3 #[.val (.int p1), .val (.int p2)] [.null, (.int p2), (.int p1)])) rfl (by rw [hml]; rfl) (argsL := [(.int p1), (.int p2), .null]) (rest := []) (lenOf pd_2 rfl) rfl (by show 2 * 0 + _ ≤ _; exact Nat.le_of_eq rfl) (hb hby d15_3) (fun _ _ => ⟨rfl, e0, (by decide : 0 + 0 ≤ _), (by decide : 0 + 0 ≤ _)⟩)
  dsimp only [Pt.U, Pt.locs, Pt.cells, Pt.slots] at X1 l1 y1 z1 st1 hQ1
  subst l1 y1 z1
  obtain ⟨rfl, N1q, e1⟩ := hQ1
  have N1 := Fr.app N0 N1q
  obtain ⟨fs, hr, hrun, hended, hW, hsame⟩ := X1.leave (v := some (.int p1)) (fun h => by rw [Bd.returns] at h; cases h)
  refine ⟨_, _, pre0 _ ?_, hrun, hended, _, _, rfl, ?_, ⟨_, rfl⟩, hW, hsame.mono (by decide) (by decide)⟩
  · show Steps p.tables e below (s₁.setTop (mkF m 0 #[.val (.int p1), .val (.int p2)] [])) _
    refine XS.iloadN X0.here hx rfl (hb hby d15_0) rfl ?_
    show Steps p.tables e below (s₁.setTop (mkF m 1 #[.val (.int p1), .val (.int p2)] [(.int p1)])) _
    refine XS.iloadN X0.here hx rfl (hb hby d15_1) rfl ?_
    show Steps p.tables e below (s₁.setTop (mkF m 2 #[.val (.int p1), .val (.int p2)] [(.int p2), (.int p1)])) _
    refine XS.aconstNull X0.here hx rfl (hb hby d15_2) ?_
    show Steps p.tables e below (s₁.setTop (mkF m 3 #[.val (.int p1), .val (.int p2)] [.null, (.int p2), (.int p1)])) _
    refine st1 _ ?_
    show Steps p.tables e below (T1.setTop (mkF m 6 #[.val (.int p1), .val (.int p2)] [(.int p1)])) _
    exact retI X1 hx Bd.returns (hb hby d15_6) hr
  · show Q_rm_oci Z p1 p2 h0 n0 _ T1.heap _
    rw [e1]
    exact ⟨rfl, N1, rfl⟩
theorem d39_0 : decode jdk_42_method_155_code 0 = .ok (.iload_n 0, 1) := by decide +kernel
theorem d39_1 : decode jdk_42_method_155_code 1 = .ok (.iload_n 1, 1) := by decide +kernel
theorem d39_2 : decode jdk_42_method_155_code 2 = .ok (.getstatic 1053, 3) := by decide +kernel
theorem d39_5 : decode jdk_42_method_155_code 5 = .ok (.invokestatic 1059, 3) := by decide +kernel
theorem d39_8 : decode jdk_42_method_155_code 8 = .ok (.pop, 1) := by decide +kernel
theorem d39_9 : decode jdk_42_method_155_code 9 = .ok (.return_, 1) := by decide +kernel
theorem ef_39 (m : MethodId) (x0 : Int32) (x1 : Int32) : entryFrame m #[(.int x0), (.int x1)] 2 = mkF m 0 #[.val (.int x0), .val (.int x1)] [] := by first | (simp [entryFrame, mkF, argsToLocals, Value.category]; done) | rfl
def Q_sci0 (Z : State) (p1 : Int32) (p2 : Int32) (h0 : Heap) (n0 : Nat) (v : Option Value) (h : Heap) (L : List Loc) : Prop := v = none ∧ Fr n0 L ∧ h = h0
set_option maxRecDepth 65536 in
set_option maxHeartbeats 40000000 in
theorem rm_sci0 (l : Launch) (Z : State) (a0 : Array Value) (hw : ∀ d ∈ tables_1, d.before a0 Z = true) (ws : List Jvm.Cond) (p1 : Int32) (p2 : Int32) (h0 : Heap) (n0 : Nat) (Z0 : n0 ≤ h0.size) (S_F : Sta Z h0 "jdk/internal/util/Preconditions" "SIOOBE_FORMATTER" "Ljava/util/function/BiFunction;" .null) (h1x : ¬ (p1 < (0 : Int32))) (h2x : p1 < p2) :
    MetFree l (⟨"java/lang/String", "checkIndex", "(II)V"⟩ : MethodName) (head1 (Jvm.Cond.code (⟨"java/lang/String", "checkIndex", "(II)V"⟩ : MethodName) jdk_42_method_155_code 2 none :: ws) ({ frames := 1, cells := 0, slots := 0, locals := 14 } : Room)) (fun a U => a = #[(.int p1), (.int p2)] ∧ Z.Warmed39 U.vm ∧ U.heap = h0) (fun _ _ _ _ _ => True) (fun _ U o U' => ∃ v L, o = .returned v ∧ Q_sci0 Z p1 p2 h0 n0 v U'.heap L ∧ FrameEnd U o U' L ({ frames := 1, cells := 0, slots := 0, locals := 14 } : Room).cells ({ frames := 1, cells := 0, slots := 0, locals := 14 } : Room).slots) := by
  refine MetFree.of_bodySF (plainFor_of_name pn_0) hisR ?_
  intro p e s m args below meth c s₁ Bd hml0 hP hK
  obtain ⟨rfl, hZ, hh⟩ := hP
  have hx := Bd.exec
  have hby := Bd.bytes
  have hml : c.maxLocals = 2 := hml0
  have hown : s.vm.findClass "java/lang/String" = some m.cls := findClass_of_methodNamed Bd.named
  have hnm := (name_of_methodNamed Bd.named Bd.method).1
  have X0 : Stand p l e ({ frames := 1, cells := 0, slots := 0, locals := 14 } : Room) s m #[(.int p1), (.int p2)] below meth c s₁ [] 0 0 := Stand.of_body Bd
  have e0 : s₁.heap = h0 := by rw [← hh, Bd.state]; rfl
  have N0 := Fr.nil n0
  have pre0 : ∀ t, Steps p.tables e below (s₁.setTop (mkF m 0 #[.val (.int p1), .val (.int p2)] [])) t → Steps p.tables e below (s₁.setTop (entryFrame m #[(.int p1), (.int p2)] 2)) t := fun t k => castTop (ef_39 m p1 p2) k
  obtain ⟨T1, X1, e1, st1⟩ := getS2 X0 hx hZ hown (host := "") (Or.inl (hw _ (List.mem_of_getElem? (i := 232) rfl))) Via.refl e0 S_F (g := (mkF m 2 #[.val (.int p1), .val (.int p2)] [(.int p2), (.int p1)])) rfl (hb hby d39_2)
  obtain ⟨_, _, ⟨T2, L2, k2, n2⟩, -, X2, ⟨Lc2, hQ2, l2, y2, z2⟩, st2⟩ := Jvm.LawKit.callS X1 hx (y := (⟨"jdk/internal/util/Preconditions", "checkIndex", "(IILjava/util/function/BiFunction;)I"⟩ : MethodName)) hown (mvT hZ (hw _ (List.mem_of_getElem? (i := 233) rfl))) (mvT hZ (hw _ (List.mem_of_getElem? (i := 108) rfl))) (mvT hZ (hw _ (List.mem_of_getElem? (i := 109) rfl))) (mvT hZ (hw _ (List.mem_of_getElem? (i := 110) rfl))) (by decide) (backOf (W := 0) (rm_ci0 l Z a0 hw [] p1 p2 h0 n0 Z0 h1x h2x) hZ (hw _ (List.mem_of_getElem? (i := 110) rfl)) (hw _ (List.mem_of_getElem? (i := 109) rfl)) (by decide) (by decide)) (g := (mkF m 5 #[.val (.int p1), .val (.int p2)] [.null, (.int p2), (.int p1)])) rfl (by rw [hml]; rfl) (argsL := [(.int p1), (.int p2), .null]) (rest := []) (lenOf pd_2 rfl) rfl (by show 2 * 0 + _ ≤ _; exact Nat.le_of_eq rfl) (hb hby d39_5) (fun _ _ => ⟨rfl, e1, (by decide : 0 + 0 ≤ _), (by decide : 0 + 0 ≤ _)⟩)
  dsimp only [Pt.U, Pt.locs, Pt.cells, Pt.slots] at X2 l2 y2 z2 st2 hQ2
  subst l2 y2 z2
  obtain ⟨rfl, N2q, e2⟩ := hQ2
  have N2 := Fr.app N0 N2q
  obtain ⟨fs, hr, hrun, hended, hW, hsame⟩ := X2.leave (v := none) (fun _ => rfl)
  refine ⟨_, _, pre0 _ ?_, hrun, hended, _, _, rfl, ?_, ⟨_, rfl⟩, hW, hsame.mono (by decide) (by decide)⟩
  · show Steps p.tables e below (s₁.setTop (mkF m 0 #[.val (.int p1), .val (.int p2)] [])) _
    refine XS.iloadN X0.here hx rfl (hb hby d39_0) rfl ?_
    show Steps p.tables e below (s₁.setTop (mkF m 1 #[.val (.int p1), .val (.int p2)] [(.int p1)])) _
    refine XS.iloadN X0.here hx rfl (hb hby d39_1) rfl ?_
    show Steps p.tables e below (s₁.setTop (mkF m 2 #[.val (.int p1), .val (.int p2)] [(.int p2), (.int p1)])) _
    refine st1 _ ?_
    show Steps p.tables e below (T1.setTop (mkF m 5 #[.val (.int p1), .val (.int p2)] [.null, (.int p2), (.int p1)])) _
    refine st2 _ ?_
    show Steps p.tables e below (T2.setTop (mkF m 8 #[.val (.int p1), .val (.int p2)] [(.int p1)])) _
    refine XS.pop X2.here hx rfl (hb hby d39_8) rfl rfl ?_
    show Steps p.tables e below (T2.setTop (mkF m 9 #[.val (.int p1), .val (.int p2)] [])) _
    exact X2.returnOut hx Bd.returns (hb hby d39_9) hr
  · show Q_sci0 Z p1 p2 h0 n0 _ T2.heap _
    rw [e2]
    exact ⟨rfl, N2, rfl⟩
def Q_sci1 (Z : State) (p1 : Int32) (p2 : Int32) (g1x : Addr) (h0 : Heap) (n0 : Nat) (v : Option Value) (h : Heap) (L : List Loc) : Prop := v = none ∧ Fr n0 L ∧ h = h0
set_option maxRecDepth 65536 in
set_option maxHeartbeats 40000000 in
theorem rm_sci1 (l : Launch) (Z : State) (a0 : Array Value) (hw : ∀ d ∈ tables_1, d.before a0 Z = true) (ws : List Jvm.Cond) (p1 : Int32) (p2 : Int32) (g1x : Addr) (h0 : Heap) (n0 : Nat) (Z0 : n0 ≤ h0.size) (S_F : Sta Z h0 "jdk/internal/util/Preconditions" "SIOOBE_FORMATTER" "Ljava/util/function/BiFunction;" (.ref g1x)) (h1x : ¬ (p1 < (0 : Int32))) (h2x : p1 < p2) :
    MetFree l (⟨"java/lang/String", "checkIndex", "(II)V"⟩ : MethodName) (head1 (Jvm.Cond.code (⟨"java/lang/String", "checkIndex", "(II)V"⟩ : MethodName) jdk_42_method_155_code 2 none :: ws) ({ frames := 1, cells := 0, slots := 0, locals := 14 } : Room)) (fun a U => a = #[(.int p1), (.int p2)] ∧ Z.Warmed39 U.vm ∧ U.heap = h0) (fun _ _ _ _ _ => True) (fun _ U o U' => ∃ v L, o = .returned v ∧ Q_sci1 Z p1 p2 g1x h0 n0 v U'.heap L ∧ FrameEnd U o U' L ({ frames := 1, cells := 0, slots := 0, locals := 14 } : Room).cells ({ frames := 1, cells := 0, slots := 0, locals := 14 } : Room).slots) := by
  refine MetFree.of_bodySF (plainFor_of_name pn_0) hisR ?_
  intro p e s m args below meth c s₁ Bd hml0 hP hK
  obtain ⟨rfl, hZ, hh⟩ := hP
  have hx := Bd.exec
  have hby := Bd.bytes
  have hml : c.maxLocals = 2 := hml0
  have hown : s.vm.findClass "java/lang/String" = some m.cls := findClass_of_methodNamed Bd.named
  have hnm := (name_of_methodNamed Bd.named Bd.method).1
  have X0 : Stand p l e ({ frames := 1, cells := 0, slots := 0, locals := 14 } : Room) s m #[(.int p1), (.int p2)] below meth c s₁ [] 0 0 := Stand.of_body Bd
  have e0 : s₁.heap = h0 := by rw [← hh, Bd.state]; rfl
  have N0 := Fr.nil n0
  have pre0 : ∀ t, Steps p.tables e below (s₁.setTop (mkF m 0 #[.val (.int p1), .val (.int p2)] [])) t → Steps p.tables e below (s₁.setTop (entryFrame m #[(.int p1), (.int p2)] 2)) t := fun t k => castTop (ef_39 m p1 p2) k
  obtain ⟨T1, X1, e1, st1⟩ := getS2 X0 hx hZ hown (host := "") (Or.inl (hw _ (List.mem_of_getElem? (i := 232) rfl))) Via.refl e0 S_F (g := (mkF m 2 #[.val (.int p1), .val (.int p2)] [(.int p2), (.int p1)])) rfl (hb hby d39_2)
  obtain ⟨_, _, ⟨T2, L2, k2, n2⟩, -, X2, ⟨Lc2, hQ2, l2, y2, z2⟩, st2⟩ := Jvm.LawKit.callS X1 hx (y := (⟨"jdk/internal/util/Preconditions", "checkIndex", "(IILjava/util/function/BiFunction;)I"⟩ : MethodName)) hown (mvT hZ (hw _ (List.mem_of_getElem? (i := 233) rfl))) (mvT hZ (hw _ (List.mem_of_getElem? (i := 108) rfl))) (mvT hZ (hw _ (List.mem_of_getElem? (i := 109) rfl))) (mvT hZ (hw _ (List.mem_of_getElem? (i := 110) rfl))) (by decide) (backOf (W := 0) (rm_ci1 l Z a0 hw [] p1 p2 g1x h0 n0 Z0 h1x h2x) hZ (hw _ (List.mem_of_getElem? (i := 110) rfl)) (hw _ (List.mem_of_getElem? (i := 109) rfl)) (by decide) (by decide)) (g := (mkF m 5 #[.val (.int p1), .val (.int p2)] [(.ref g1x), (.int p2), (.int p1)])) rfl (by rw [hml]; rfl) (argsL := [(.int p1), (.int p2), (.ref g1x)]) (rest := []) (lenOf pd_2 rfl) rfl (by show 2 * 0 + _ ≤ _; exact Nat.le_of_eq rfl) (hb hby d39_5) (fun _ _ => ⟨rfl, e1, (by decide : 0 + 0 ≤ _), (by decide : 0 + 0 ≤ _)⟩)
  dsimp only [Pt.U, Pt.locs, Pt.cells, Pt.slots] at X2 l2 y2 z2 st2 hQ2
  subst l2 y2 z2
  obtain ⟨rfl, N2q, e2⟩ := hQ2
  have N2 := Fr.app N0 N2q
  obtain ⟨fs, hr, hrun, hended, hW, hsame⟩ := X2.leave (v := none) (fun _ => rfl)
  refine ⟨_, _, pre0 _ ?_, hrun, hended, _, _, rfl, ?_, ⟨_, rfl⟩, hW, hsame.mono (by decide) (by decide)⟩
  · show Steps p.tables e below (s₁.setTop (mkF m 0 #[.val (.int p1), .val (.int p2)] [])) _
    refine XS.iloadN X0.here hx rfl (hb hby d39_0) rfl ?_
    show Steps p.tables e below (s₁.setTop (mkF m 1 #[.val (.int p1), .val (.int p2)] [(.int p1)])) _
    refine XS.iloadN X0.here hx rfl (hb hby d39_1) rfl ?_
    show Steps p.tables e below (s₁.setTop (mkF m 2 #[.val (.int p1), .val (.int p2)] [(.int p2), (.int p1)])) _
    refine st1 _ ?_
    show Steps p.tables e below (T1.setTop (mkF m 5 #[.val (.int p1), .val (.int p2)] [(.ref g1x), (.int p2), (.int p1)])) _
    refine st2 _ ?_
    show Steps p.tables e below (T2.setTop (mkF m 8 #[.val (.int p1), .val (.int p2)] [(.int p1)])) _
    refine XS.pop X2.here hx rfl (hb hby d39_8) rfl rfl ?_
    show Steps p.tables e below (T2.setTop (mkF m 9 #[.val (.int p1), .val (.int p2)] [])) _
    exact X2.returnOut hx Bd.returns (hb hby d39_9) hr
  · show Q_sci1 Z p1 p2 g1x h0 n0 _ T2.heap _
    rw [e2]
    exact ⟨rfl, N2, rfl⟩
def Q_sci (Z : State) (p1 : Int32) (p2 : Int32) (GFx : Value) (h0 : Heap) (n0 : Nat) (v : Option Value) (h : Heap) (L : List Loc) : Prop := v = none ∧ Fr n0 L ∧ h = h0
theorem rm_sci (l : Launch) (Z : State) (a0 : Array Value) (hw : ∀ d ∈ tables_1, d.before a0 Z = true) (ws : List Jvm.Cond) (p1 : Int32) (p2 : Int32) (GFx : Value) (h0 : Heap) (n0 : Nat) (Z0 : n0 ≤ h0.size) (S_F : Sta Z h0 "jdk/internal/util/Preconditions" "SIOOBE_FORMATTER" "Ljava/util/function/BiFunction;" GFx) (rG3 : GFx.isRef = true) (h1x : ¬ (p1 < (0 : Int32))) (h2x : p1 < p2) :
    MetFree l (⟨"java/lang/String", "checkIndex", "(II)V"⟩ : MethodName) (head1 (Jvm.Cond.code (⟨"java/lang/String", "checkIndex", "(II)V"⟩ : MethodName) jdk_42_method_155_code 2 none :: ws) ({ frames := 1, cells := 0, slots := 0, locals := 14 } : Room)) (fun a U => a = #[(.int p1), (.int p2)] ∧ Z.Warmed39 U.vm ∧ U.heap = h0) (fun _ _ _ _ _ => True) (fun _ U o U' => ∃ v L, o = .returned v ∧ Q_sci Z p1 p2 GFx h0 n0 v U'.heap L ∧ FrameEnd U o U' L ({ frames := 1, cells := 0, slots := 0, locals := 14 } : Room).cells ({ frames := 1, cells := 0, slots := 0, locals := 14 } : Room).slots) := by
  rcases ref_cases rG3 with rfl | ⟨g, rfl⟩
  · exact rm_sci0 l Z a0 hw ws p1 p2 h0 n0 Z0 S_F h1x h2x
  · exact rm_sci1 l Z a0 hw ws p1 p2 g h0 n0 Z0 S_F h1x h2x
theorem d23_0 : decode jdk_42_method_152_code 0 = .ok (.getstatic 38, 3) := by decide +kernel
theorem d23_3 : decode jdk_42_method_152_code 3 = .ok (.ifCond .eq 10, 3) := by decide +kernel
theorem d23_6 : decode jdk_42_method_152_code 6 = .ok (.aload_n 0, 1) := by decide +kernel
theorem d23_7 : decode jdk_42_method_152_code 7 = .ok (.getfield 15, 3) := by decide +kernel
theorem d23_10 : decode jdk_42_method_152_code 10 = .ok (.goto 4, 3) := by decide +kernel
theorem d23_14 : decode jdk_42_method_152_code 14 = .ok (.ireturn, 1) := by decide +kernel
theorem ef_23 (m : MethodId) (x0 : Addr) : entryFrame m #[(.ref x0)] 1 = mkF m 0 #[.val (.ref x0)] [] := by first | (simp [entryFrame, mkF, argsToLocals, Value.category]; done) | rfl
def Q_rm_cod (Z : State) (a0x : Addr) (zc : Int32) (h0 : Heap) (n0 : Nat) (v : Option Value) (h : Heap) (L : List Loc) : Prop := v = some (.int (0 : Int32)) ∧ Fr n0 L ∧ h = h0
set_option maxRecDepth 65536 in
set_option maxHeartbeats 40000000 in
theorem rm_cod (l : Launch) (Z : State) (a0 : Array Value) (hw : ∀ d ∈ tables_1, d.before a0 Z = true) (ws : List Jvm.Cond) (a0x : Addr) (zc : Int32) (h0 : Heap) (n0 : Nat) (Z0 : n0 ≤ h0.size) (FC : Fld Z h0 a0x "java/lang/String" "coder" "B" (.int (0 : Int32))) (S_CS : Sta Z h0 "java/lang/String" "COMPACT_STRINGS" "Z" (.int zc)) (P5 : ¬ (zc = (0 : Int32))) :
    MetFree l (⟨"java/lang/String", "coder", "()B"⟩ : MethodName) (head1 (Jvm.Cond.code (⟨"java/lang/String", "coder", "()B"⟩ : MethodName) jdk_42_method_152_code 1 (some .byte) :: ws) ({ frames := 0, cells := 0, slots := 0, locals := 0 } : Room)) (fun a U => a = #[(.ref a0x)] ∧ Z.Warmed39 U.vm ∧ U.heap = h0) (fun _ _ _ _ _ => True) (fun _ U o U' => ∃ v L, o = .returned v ∧ Q_rm_cod Z a0x zc h0 n0 v U'.heap L ∧ FrameEnd U o U' L ({ frames := 0, cells := 0, slots := 0, locals := 0 } : Room).cells ({ frames := 0, cells := 0, slots := 0, locals := 0 } : Room).slots) := by
  refine MetFree.of_bodySF (plainFor_of_name pn_0) hisR ?_
  intro p e s m args below meth c s₁ Bd hml0 hP hK
  obtain ⟨rfl, hZ, hh⟩ := hP
  have hx := Bd.exec
  have hby := Bd.bytes
  have hml : c.maxLocals = 1 := hml0
  have hown : s.vm.findClass "java/lang/String" = some m.cls := findClass_of_methodNamed Bd.named
  have hnm := (name_of_methodNamed Bd.named Bd.method).1
  have X0 : Stand p l e ({ frames := 0, cells := 0, slots := 0, locals := 0 } : Room) s m #[(.ref a0x)] below meth c s₁ [] 0 0 := Stand.of_body Bd
  have e0 : s₁.heap = h0 := by rw [← hh, Bd.state]; rfl
  have N0 := Fr.nil n0
  have pre0 : ∀ t, Steps p.tables e below (s₁.setTop (mkF m 0 #[.val (.ref a0x)] [])) t → Steps p.tables e below (s₁.setTop (entryFrame m #[(.ref a0x)] 1)) t := fun t k => castTop (ef_23 m a0x) k
  obtain ⟨T1, X1, e1, st1⟩ := getS2 X0 hx hZ hown (host := "") (Or.inl (hw _ (List.mem_of_getElem? (i := 147) rfl))) Via.refl e0 S_CS (g := (mkF m 0 #[.val (.ref a0x)] [])) rfl (hb hby d23_0)
  obtain ⟨T2, X2, e2, st2⟩ := getF X1 hx hZ hown (host := "") (Or.inl (hw _ (List.mem_of_getElem? (i := 21) rfl))) Via.refl e1 FC (g := (mkF m 7 #[.val (.ref a0x)] [(.ref a0x)])) rfl rfl (hb hby d23_7)
  obtain ⟨fs, hr, hrun, hended, hW, hsame⟩ := X2.leave (v := some (.int (0 : Int32))) (fun h => by rw [Bd.returns] at h; cases h)
  refine ⟨_, _, pre0 _ ?_, hrun, hended, _, _, rfl, ?_, ⟨_, rfl⟩, hW, hsame.mono (by decide) (by decide)⟩
  · show Steps p.tables e below (s₁.setTop (mkF m 0 #[.val (.ref a0x)] [])) _
    refine st1 _ ?_
    show Steps p.tables e below (T1.setTop (mkF m 3 #[.val (.ref a0x)] [(.int zc)])) _
    refine XS.ifNo X1.here hx rfl (hb hby d23_3) rfl ((if0 _ _).trans (feq P5).1) ?_
    show Steps p.tables e below (T1.setTop (mkF m 6 #[.val (.ref a0x)] [])) _
    refine XS.aloadN X1.here hx rfl (hb hby d23_6) rfl rfl ?_
    show Steps p.tables e below (T1.setTop (mkF m 7 #[.val (.ref a0x)] [(.ref a0x)])) _
    refine st2 _ ?_
    show Steps p.tables e below (T2.setTop (mkF m 10 #[.val (.ref a0x)] [(.int (0 : Int32))])) _
    refine XS.goto X2.here hx rfl (pc0 := 10) (pc' := 14) rfl (hb hby d23_10) (by decide) (by decide) ?_
    show Steps p.tables e below (T2.setTop (mkF m 14 #[.val (.ref a0x)] [(.int (0 : Int32))])) _
    exact retN X2 hx (t := .byte) Bd.returns (by simp) (hb hby d23_14) hr
  · show Q_rm_cod Z a0x zc h0 n0 _ T2.heap _
    rw [e2]
    exact ⟨rfl, N0, rfl⟩
theorem d37_0 : decode jdk_42_method_154_code 0 = .ok (.getstatic 38, 3) := by decide +kernel
theorem d37_3 : decode jdk_42_method_154_code 3 = .ok (.ifCond .eq 14, 3) := by decide +kernel
theorem d37_6 : decode jdk_42_method_154_code 6 = .ok (.aload_n 0, 1) := by decide +kernel
theorem d37_7 : decode jdk_42_method_154_code 7 = .ok (.getfield 15, 3) := by decide +kernel
theorem d37_10 : decode jdk_42_method_154_code 10 = .ok (.ifCond .ne 7, 3) := by decide +kernel
theorem d37_13 : decode jdk_42_method_154_code 13 = .ok (.iconst 1, 1) := by decide +kernel
theorem d37_14 : decode jdk_42_method_154_code 14 = .ok (.goto 4, 3) := by decide +kernel
theorem d37_18 : decode jdk_42_method_154_code 18 = .ok (.ireturn, 1) := by decide +kernel
theorem ef_37 (m : MethodId) (x0 : Addr) : entryFrame m #[(.ref x0)] 1 = mkF m 0 #[.val (.ref x0)] [] := by first | (simp [entryFrame, mkF, argsToLocals, Value.category]; done) | rfl
def Q_rm_lat (Z : State) (a0x : Addr) (zc : Int32) (h0 : Heap) (n0 : Nat) (v : Option Value) (h : Heap) (L : List Loc) : Prop := v = some (.int (1 : Int32)) ∧ Fr n0 L ∧ h = h0
set_option maxRecDepth 65536 in
set_option maxHeartbeats 40000000 in
theorem rm_lat (l : Launch) (Z : State) (a0 : Array Value) (hw : ∀ d ∈ tables_1, d.before a0 Z = true) (ws : List Jvm.Cond) (a0x : Addr) (zc : Int32) (h0 : Heap) (n0 : Nat) (Z0 : n0 ≤ h0.size) (FC : Fld Z h0 a0x "java/lang/String" "coder" "B" (.int (0 : Int32))) (S_CS : Sta Z h0 "java/lang/String" "COMPACT_STRINGS" "Z" (.int zc)) (P5 : ¬ (zc = (0 : Int32))) :
    MetFree l (⟨"java/lang/String", "isLatin1", "()Z"⟩ : MethodName) (head1 (Jvm.Cond.code (⟨"java/lang/String", "isLatin1", "()Z"⟩ : MethodName) jdk_42_method_154_code 1 (some .boolean) :: ws) ({ frames := 0, cells := 0, slots := 0, locals := 0 } : Room)) (fun a U => a = #[(.ref a0x)] ∧ Z.Warmed39 U.vm ∧ U.heap = h0) (fun _ _ _ _ _ => True) (fun _ U o U' => ∃ v L, o = .returned v ∧ Q_rm_lat Z a0x zc h0 n0 v U'.heap L ∧ FrameEnd U o U' L ({ frames := 0, cells := 0, slots := 0, locals := 0 } : Room).cells ({ frames := 0, cells := 0, slots := 0, locals := 0 } : Room).slots) := by
  refine MetFree.of_bodySF (plainFor_of_name pn_0) hisR ?_
  intro p e s m args below meth c s₁ Bd hml0 hP hK
  obtain ⟨rfl, hZ, hh⟩ := hP
  have hx := Bd.exec
  have hby := Bd.bytes
  have hml : c.maxLocals = 1 := hml0
  have hown : s.vm.findClass "java/lang/String" = some m.cls := findClass_of_methodNamed Bd.named
  have hnm := (name_of_methodNamed Bd.named Bd.method).1
  have X0 : Stand p l e ({ frames := 0, cells := 0, slots := 0, locals := 0 } : Room) s m #[(.ref a0x)] below meth c s₁ [] 0 0 := Stand.of_body Bd
  have e0 : s₁.heap = h0 := by rw [← hh, Bd.state]; rfl
  have N0 := Fr.nil n0
  have pre0 : ∀ t, Steps p.tables e below (s₁.setTop (mkF m 0 #[.val (.ref a0x)] [])) t → Steps p.tables e below (s₁.setTop (entryFrame m #[(.ref a0x)] 1)) t := fun t k => castTop (ef_37 m a0x) k
  obtain ⟨T1, X1, e1, st1⟩ := getS2 X0 hx hZ hown (host := "") (Or.inl (hw _ (List.mem_of_getElem? (i := 147) rfl))) Via.refl e0 S_CS (g := (mkF m 0 #[.val (.ref a0x)] [])) rfl (hb hby d37_0)
  obtain ⟨T2, X2, e2, st2⟩ := getF X1 hx hZ hown (host := "") (Or.inl (hw _ (List.mem_of_getElem? (i := 21) rfl))) Via.refl e1 FC (g := (mkF m 7 #[.val (.ref a0x)] [(.ref a0x)])) rfl rfl (hb hby d37_7)
  obtain ⟨fs, hr, hrun, hended, hW, hsame⟩ := X2.leave (v := some (.int (1 : Int32))) (fun h => by rw [Bd.returns] at h; cases h)
  refine ⟨_, _, pre0 _ ?_, hrun, hended, _, _, rfl, ?_, ⟨_, rfl⟩, hW, hsame.mono (by decide) (by decide)⟩
  · show Steps p.tables e below (s₁.setTop (mkF m 0 #[.val (.ref a0x)] [])) _
    refine st1 _ ?_
    show Steps p.tables e below (T1.setTop (mkF m 3 #[.val (.ref a0x)] [(.int zc)])) _
    refine XS.ifNo X1.here hx rfl (hb hby d37_3) rfl ((if0 _ _).trans (feq P5).1) ?_
    show Steps p.tables e below (T1.setTop (mkF m 6 #[.val (.ref a0x)] [])) _
    refine XS.aloadN X1.here hx rfl (hb hby d37_6) rfl rfl ?_
    show Steps p.tables e below (T1.setTop (mkF m 7 #[.val (.ref a0x)] [(.ref a0x)])) _
    refine st2 _ ?_
    show Steps p.tables e below (T2.setTop (mkF m 10 #[.val (.ref a0x)] [(.int (0 : Int32))])) _
    refine XS.ifNo X2.here hx rfl (hb hby d37_10) rfl ((if0 _ _).trans (teq (by decide : (0 : Int32) = (0 : Int32))).2) ?_
    show Steps p.tables e below (T2.setTop (mkF m 13 #[.val (.ref a0x)] [])) _
    refine XS.iconst X2.here hx rfl (hb hby d37_13) ?_
    show Steps p.tables e below (T2.setTop (mkF m 14 #[.val (.ref a0x)] [(.int (1 : Int32))])) _
    refine XS.goto X2.here hx rfl (pc0 := 14) (pc' := 18) rfl (hb hby d37_14) (by decide) (by decide) ?_
    show Steps p.tables e below (T2.setTop (mkF m 18 #[.val (.ref a0x)] [(.int (1 : Int32))])) _
    exact retN X2 hx (t := .boolean) Bd.returns (by simp) (hb hby d37_18) hr
  · show Q_rm_lat Z a0x zc h0 n0 _ T2.heap _
    rw [e2]
    exact ⟨rfl, N0, rfl⟩
theorem d22_0 : decode jdk_42_method_54_code 0 = .ok (.aload_n 0, 1) := by decide +kernel
theorem d22_1 : decode jdk_42_method_54_code 1 = .ok (.getfield 9, 3) := by decide +kernel
theorem d22_4 : decode jdk_42_method_54_code 4 = .ok (.arraylength, 1) := by decide +kernel
theorem d22_5 : decode jdk_42_method_54_code 5 = .ok (.aload_n 0, 1) := by decide +kernel
theorem d22_6 : decode jdk_42_method_54_code 6 = .ok (.invokevirtual 335, 3) := by decide +kernel
theorem pd_3 : parseMethodDescriptor "()B" = some ⟨[], some .byte⟩ := by decide +kernel
theorem d22_9 : decode jdk_42_method_54_code 9 = .ok (.ishr, 1) := by decide +kernel
theorem d22_10 : decode jdk_42_method_54_code 10 = .ok (.ireturn, 1) := by decide +kernel
theorem ef_22 (m : MethodId) (x0 : Addr) : entryFrame m #[(.ref x0)] 1 = mkF m 0 #[.val (.ref x0)] [] := by first | (simp [entryFrame, mkF, argsToLocals, Value.category]; done) | rfl
def Q_rm_len (Z : State) (a0x : Addr) (zc : Int32) (t1x : Addr) (kx : ClassId) (zx : Int32) (vsx : List Value) (h0 : Heap) (n0 : Nat) (v : Option Value) (h : Heap) (L : List Loc) : Prop := v = some (.int (zx >>> ((0 : Int32) &&& 31))) ∧ Fr n0 L ∧ h = h0
set_option maxRecDepth 65536 in
set_option maxHeartbeats 40000000 in
theorem rm_len (l : Launch) (Z : State) (a0 : Array Value) (hw : ∀ d ∈ tables_1, d.before a0 Z = true) (ws : List Jvm.Cond) (a0x : Addr) (zc : Int32) (t1x : Addr) (kx : ClassId) (zx : Int32) (vsx : List Value) (h0 : Heap) (n0 : Nat) (Z0 : n0 ≤ h0.size) (FC : Fld Z h0 a0x "java/lang/String" "coder" "B" (.int (0 : Int32))) (S_CS : Sta Z h0 "java/lang/String" "COMPACT_STRINGS" "Z" (.int zc)) (P5 : ¬ (zc = (0 : Int32))) (FV : Fld Z h0 a0x "java/lang/String" "value" "[B" (.ref t1x)) (VT : Arv Z h0 t1x kx .byte zx vsx (.int (0 : Int32))) (E0x : Exa Z h0 a0x "java/lang/String") :
    MetFree l (⟨"java/lang/String", "length", "()I"⟩ : MethodName) (head1 (Jvm.Cond.code (⟨"java/lang/String", "length", "()I"⟩ : MethodName) jdk_42_method_54_code 1 (some .int) :: ws) ({ frames := 1, cells := 0, slots := 0, locals := 13 } : Room)) (fun a U => a = #[(.ref a0x)] ∧ Z.Warmed39 U.vm ∧ U.heap = h0) (fun _ _ _ _ _ => True) (fun _ U o U' => ∃ v L, o = .returned v ∧ Q_rm_len Z a0x zc t1x kx zx vsx h0 n0 v U'.heap L ∧ FrameEnd U o U' L ({ frames := 1, cells := 0, slots := 0, locals := 13 } : Room).cells ({ frames := 1, cells := 0, slots := 0, locals := 13 } : Room).slots) := by
  refine MetFree.of_bodySF (plainFor_of_name pn_0) hisR ?_
  intro p e s m args below meth c s₁ Bd hml0 hP hK
  obtain ⟨rfl, hZ, hh⟩ := hP
  have hx := Bd.exec
  have hby := Bd.bytes
  have hml : c.maxLocals = 1 := hml0
  have hown : s.vm.findClass "java/lang/String" = some m.cls := findClass_of_methodNamed Bd.named
  have hnm := (name_of_methodNamed Bd.named Bd.method).1
  have X0 : Stand p l e ({ frames := 1, cells := 0, slots := 0, locals := 13 } : Room) s m #[(.ref a0x)] below meth c s₁ [] 0 0 := Stand.of_body Bd
  have e0 : s₁.heap = h0 := by rw [← hh, Bd.state]; rfl
  have N0 := Fr.nil n0
  have pre0 : ∀ t, Steps p.tables e below (s₁.setTop (mkF m 0 #[.val (.ref a0x)] [])) t → Steps p.tables e below (s₁.setTop (entryFrame m #[(.ref a0x)] 1)) t := fun t k => castTop (ef_22 m a0x) k
  obtain ⟨T1, X1, e1, st1⟩ := getF X0 hx hZ hown (host := "") (Or.inl (hw _ (List.mem_of_getElem? (i := 20) rfl))) Via.refl e0 FV (g := (mkF m 1 #[.val (.ref a0x)] [(.ref a0x)])) rfl rfl (hb hby d22_1)
  obtain ⟨cl2, Ar2, qk2, S2, N2', H2, G2⟩ := (id VT)
  obtain ⟨cq3, kq3, q3a, q3b, q3c⟩ := isOf hZ e1 E0x
  obtain ⟨_, _, ⟨T3, L3, k3, n3⟩, -, X3, ⟨Lc3, hQ3, l3, y3, z3⟩, st3⟩ := X1.virtualBack hx (y := (⟨"java/lang/String", "coder", "()B"⟩ : MethodName)) (z := (⟨"java/lang/String", "coder", "()B"⟩ : MethodName)) hown (mvT hZ (hw _ (List.mem_of_getElem? (i := 142) rfl))) (mvT hZ (hw _ (List.mem_of_getElem? (i := 143) rfl))) (notFace_of_selects (args := #[]) (mvT hZ (hw _ (List.mem_of_getElem? (i := 145) rfl)))) (mvT hZ (hw _ (List.mem_of_getElem? (i := 145) rfl))) (mvT hZ (hw _ (List.mem_of_getElem? (i := 144) rfl))) (by decide) (backOf (W := 1) (rm_cod l Z a0 hw [] a0x zc h0 n0 Z0 FC S_CS P5) hZ (hw _ (List.mem_of_getElem? (i := 146) rfl)) (hw _ (List.mem_of_getElem? (i := 3) rfl)) (by decide) (by decide)) q3a q3c (g := (mkF m 6 #[.val (.ref a0x)] [(.ref a0x), (.int zx)])) rfl (by rw [hml]; rfl) (Steps.refl _) (argsL := []) (rest := [(.int zx)]) (lenOf pd_3 rfl) rfl (by show 2 * 0 + _ ≤ _; exact Nat.le_of_eq rfl) (hb hby d22_6) (fun _ _ => ⟨rfl, e1, (by decide : 0 + 0 ≤ _), (by decide : 0 + 0 ≤ _)⟩)
  dsimp only [Pt.U, Pt.locs, Pt.cells, Pt.slots] at X3 l3 y3 z3 st3 hQ3
  subst l3 y3 z3
  obtain ⟨rfl, N3q, e3⟩ := hQ3
  have N3 := Fr.app N0 N3q
  obtain ⟨fs, hr, hrun, hended, hW, hsame⟩ := X3.leave (v := some (.int (zx >>> ((0 : Int32) &&& 31)))) (fun h => by rw [Bd.returns] at h; cases h)
  refine ⟨_, _, pre0 _ ?_, hrun, hended, _, _, rfl, ?_, ⟨_, rfl⟩, hW, hsame.mono (by decide) (by decide)⟩
  · show Steps p.tables e below (s₁.setTop (mkF m 0 #[.val (.ref a0x)] [])) _
    refine XS.aloadN X0.here hx rfl (hb hby d22_0) rfl rfl ?_
    show Steps p.tables e below (s₁.setTop (mkF m 1 #[.val (.ref a0x)] [(.ref a0x)])) _
    refine st1 _ ?_
    show Steps p.tables e below (T1.setTop (mkF m 4 #[.val (.ref a0x)] [(.ref t1x)])) _
    refine X1.arraylength hx (by rw [e1]; exact Ar2.1) (State.isArrayOf_alike hZ.alike Ar2.2.1) (g := (mkF m 4 #[.val (.ref a0x)] [(.ref t1x)])) rfl rfl (hb hby d22_4) _ ?_
    rw [len_of S2 N2']
    show Steps p.tables e below (T1.setTop (mkF m 5 #[.val (.ref a0x)] [(.int zx)])) _
    refine XS.aloadN X1.here hx rfl (hb hby d22_5) rfl rfl ?_
    show Steps p.tables e below (T1.setTop (mkF m 6 #[.val (.ref a0x)] [(.ref a0x), (.int zx)])) _
    refine st3.trans ?_
    show Steps p.tables e below (T3.setTop (mkF m 9 #[.val (.ref a0x)] [(.int (0 : Int32)), (.int zx)])) _
    refine XS.ishr X3.here hx rfl (hb hby d22_9) rfl ?_
    show Steps p.tables e below (T3.setTop (mkF m 10 #[.val (.ref a0x)] [(.int (zx >>> ((0 : Int32) &&& 31)))])) _
    exact retI X3 hx Bd.returns (hb hby d22_10) hr
  · show Q_rm_len Z a0x zc t1x kx zx vsx h0 n0 _ T3.heap _
    rw [e3]
    exact ⟨rfl, N3, rfl⟩
theorem d38_0 : decode jdk_43_method_2_code 0 = .ok (.iload_n 1, 1) := by decide +kernel
theorem d38_1 : decode jdk_43_method_2_code 1 = .ok (.aload_n 0, 1) := by decide +kernel
theorem d38_2 : decode jdk_43_method_2_code 2 = .ok (.arraylength, 1) := by decide +kernel
theorem d38_3 : decode jdk_43_method_2_code 3 = .ok (.invokestatic 9, 3) := by decide +kernel
theorem pd_4 : parseMethodDescriptor "(II)V" = some ⟨[.int, .int], none⟩ := by decide +kernel
theorem d38_6 : decode jdk_43_method_2_code 6 = .ok (.aload_n 0, 1) := by decide +kernel
theorem d38_7 : decode jdk_43_method_2_code 7 = .ok (.iload_n 1, 1) := by decide +kernel
theorem d38_8 : decode jdk_43_method_2_code 8 = .ok (.baload, 1) := by decide +kernel
theorem d38_9 : decode jdk_43_method_2_code 9 = .ok (.sipush 255, 3) := by decide +kernel
theorem d38_12 : decode jdk_43_method_2_code 12 = .ok (.iand, 1) := by decide +kernel
theorem d38_13 : decode jdk_43_method_2_code 13 = .ok (.i2c, 1) := by decide +kernel
theorem d38_14 : decode jdk_43_method_2_code 14 = .ok (.ireturn, 1) := by decide +kernel
theorem pn_7 : plainName "java/lang/StringLatin1" = true := by first | (simp [plainName, overriddenIn]; done) | decide +kernel
theorem ef_38 (m : MethodId) (x0 : Addr) (x1 : Int32) : entryFrame m #[(.ref x0), (.int x1)] 2 = mkF m 0 #[.val (.ref x0), .val (.int x1)] [] := by first | (simp [entryFrame, mkF, argsToLocals, Value.category]; done) | rfl
def Q_rm_lca (Z : State) (t1x : Addr) (p1 : Int32) (kx : ClassId) (zx : Int32) (vsx : List Value) (rx : Int32) (GFx : Value) (h0 : Heap) (n0 : Nat) (v : Option Value) (h : Heap) (L : List Loc) : Prop := v = some (.int (own_c rx)) ∧ Fr n0 L ∧ h = h0
set_option maxRecDepth 65536 in
set_option maxHeartbeats 40000000 in
theorem rm_lca (l : Launch) (Z : State) (a0 : Array Value) (hw : ∀ d ∈ tables_1, d.before a0 Z = true) (ws : List Jvm.Cond) (t1x : Addr) (p1 : Int32) (kx : ClassId) (zx : Int32) (vsx : List Value) (rx : Int32) (GFx : Value) (h0 : Heap) (n0 : Nat) (Z0 : n0 ≤ h0.size) (VT : Arv Z h0 t1x kx .byte zx vsx (.int (0 : Int32))) (S_F : Sta Z h0 "jdk/internal/util/Preconditions" "SIOOBE_FORMATTER" "Ljava/util/function/BiFunction;" GFx) (rG3 : GFx.isRef = true) (h1x : ¬ (p1 < (0 : Int32))) (h2x : p1 < zx) (hg : vsx.getD p1.toNatClampNeg (.int (0 : Int32)) = .int rx) :
    MetFree l (⟨"java/lang/StringLatin1", "charAt", "([BI)C"⟩ : MethodName) (head1 (Jvm.Cond.code (⟨"java/lang/StringLatin1", "charAt", "([BI)C"⟩ : MethodName) jdk_43_method_2_code 2 (some .char) :: ws) ({ frames := 2, cells := 0, slots := 0, locals := 27 } : Room)) (fun a U => a = #[(.ref t1x), (.int p1)] ∧ Z.Warmed39 U.vm ∧ U.heap = h0) (fun _ _ _ _ _ => True) (fun _ U o U' => ∃ v L, o = .returned v ∧ Q_rm_lca Z t1x p1 kx zx vsx rx GFx h0 n0 v U'.heap L ∧ FrameEnd U o U' L ({ frames := 2, cells := 0, slots := 0, locals := 27 } : Room).cells ({ frames := 2, cells := 0, slots := 0, locals := 27 } : Room).slots) := by
  refine MetFree.of_bodySF (plainFor_of_name pn_7) hisR ?_
  intro p e s m args below meth c s₁ Bd hml0 hP hK
  obtain ⟨rfl, hZ, hh⟩ := hP
  have hx := Bd.exec
  have hby := Bd.bytes
  have hml : c.maxLocals = 2 := hml0
  have hown : s.vm.findClass "java/lang/StringLatin1" = some m.cls := findClass_of_methodNamed Bd.named
  have hnm := (name_of_methodNamed Bd.named Bd.method).1
  have X0 : Stand p l e ({ frames := 2, cells := 0, slots := 0, locals := 27 } : Room) s m #[(.ref t1x), (.int p1)] below meth c s₁ [] 0 0 := Stand.of_body Bd
  have e0 : s₁.heap = h0 := by rw [← hh, Bd.state]; rfl
  have N0 := Fr.nil n0
  have pre0 : ∀ t, Steps p.tables e below (s₁.setTop (mkF m 0 #[.val (.ref t1x), .val (.int p1)] [])) t → Steps p.tables e below (s₁.setTop (entryFrame m #[(.ref t1x), (.int p1)] 2)) t := fun t k => castTop (ef_38 m t1x p1) k
  obtain ⟨cl1, Ar1, qk1, S1, N1', H1, G1⟩ := (id VT)
  obtain ⟨_, _, ⟨T2, L2, k2, n2⟩, -, X2, ⟨Lc2, hQ2, l2, y2, z2⟩, st2⟩ := Jvm.LawKit.callS X0 hx (y := (⟨"java/lang/String", "checkIndex", "(II)V"⟩ : MethodName)) hown (mvT hZ (hw _ (List.mem_of_getElem? (i := 229) rfl))) (mvT hZ (hw _ (List.mem_of_getElem? (i := 230) rfl))) (mvT hZ (hw _ (List.mem_of_getElem? (i := 3) rfl))) (mvT hZ (hw _ (List.mem_of_getElem? (i := 231) rfl))) (by decide) (backOf (W := 0) (rm_sci l Z a0 hw [] p1 zx GFx h0 n0 Z0 S_F rG3 h1x h2x) hZ (hw _ (List.mem_of_getElem? (i := 231) rfl)) (hw _ (List.mem_of_getElem? (i := 3) rfl)) (by decide) (by decide)) (g := (mkF m 3 #[.val (.ref t1x), .val (.int p1)] [(.int zx), (.int p1)])) rfl (by rw [hml]; rfl) (argsL := [(.int p1), (.int zx)]) (rest := []) (lenOf pd_4 rfl) rfl (by show 2 * 0 + _ ≤ _; exact Nat.le_of_eq rfl) (hb hby d38_3) (fun _ _ => ⟨rfl, e0, (by decide : 0 + 0 ≤ _), (by decide : 0 + 0 ≤ _)⟩)
  dsimp only [Pt.U, Pt.locs, Pt.cells, Pt.slots] at X2 l2 y2 z2 st2 hQ2
  subst l2 y2 z2
  obtain ⟨rfl, N2q, e2⟩ := hQ2
  have N2 := Fr.app N0 N2q
  obtain ⟨cl3, Ar3, qk3, S3, N3', H3, G3⟩ := (id VT)
  have hin3 : ¬ (p1 < 0 ∨ cl3.slots.size ≤ (p1).toNatClampNeg) := inb_of S3 ⟨h1x, h2x⟩
  have hat3 : cl3.slots[(p1).toNatClampNeg]? = some (.int rx) := Has.at H3 hin3 hg
  obtain ⟨fs, hr, hrun, hended, hW, hsame⟩ := X2.leave (v := some (.int (nar .char (rx &&& (255 : Int32)).toUInt32.toUInt16.toUInt32.toInt32))) (fun h => by rw [Bd.returns] at h; cases h)
  refine ⟨_, _, pre0 _ ?_, hrun, hended, _, _, rfl, ?_, ⟨_, rfl⟩, hW, hsame.mono (by decide) (by decide)⟩
  · show Steps p.tables e below (s₁.setTop (mkF m 0 #[.val (.ref t1x), .val (.int p1)] [])) _
    refine XS.iloadN X0.here hx rfl (hb hby d38_0) rfl ?_
    show Steps p.tables e below (s₁.setTop (mkF m 1 #[.val (.ref t1x), .val (.int p1)] [(.int p1)])) _
    refine XS.aloadN X0.here hx rfl (hb hby d38_1) rfl rfl ?_
    show Steps p.tables e below (s₁.setTop (mkF m 2 #[.val (.ref t1x), .val (.int p1)] [(.ref t1x), (.int p1)])) _
    refine X0.arraylength hx (by rw [e0]; exact Ar1.1) (State.isArrayOf_alike hZ.alike Ar1.2.1) (g := (mkF m 2 #[.val (.ref t1x), .val (.int p1)] [(.ref t1x), (.int p1)])) rfl rfl (hb hby d38_2) _ ?_
    rw [len_of S1 N1']
    show Steps p.tables e below (s₁.setTop (mkF m 3 #[.val (.ref t1x), .val (.int p1)] [(.int zx), (.int p1)])) _
    refine st2 _ ?_
    show Steps p.tables e below (T2.setTop (mkF m 6 #[.val (.ref t1x), .val (.int p1)] [])) _
    refine XS.aloadN X2.here hx rfl (hb hby d38_6) rfl rfl ?_
    show Steps p.tables e below (T2.setTop (mkF m 7 #[.val (.ref t1x), .val (.int p1)] [(.ref t1x)])) _
    refine XS.iloadN X2.here hx rfl (hb hby d38_7) rfl ?_
    show Steps p.tables e below (T2.setTop (mkF m 8 #[.val (.ref t1x), .val (.int p1)] [(.int p1), (.ref t1x)])) _
    refine X2.baloadBytes hx (j := p1) (v := (.int rx)) (by rw [e2]; exact Ar3.1) (State.isArrayOf_alike hZ.alike Ar3.2.1) Ar3.2.2 hin3 hat3 (g := (mkF m 8 #[.val (.ref t1x), .val (.int p1)] [(.int p1), (.ref t1x)])) rfl rfl (hb hby d38_8) _ ?_
    show Steps p.tables e below (T2.setTop (mkF m 9 #[.val (.ref t1x), .val (.int p1)] [(.int rx)])) _
    refine XS.sipush X2.here hx rfl (hb hby d38_9) ?_
    show Steps p.tables e below (T2.setTop (mkF m 12 #[.val (.ref t1x), .val (.int p1)] [(.int (255 : Int32)), (.int rx)])) _
    refine XS.iand X2.here hx rfl (hb hby d38_12) rfl ?_
    show Steps p.tables e below (T2.setTop (mkF m 13 #[.val (.ref t1x), .val (.int p1)] [(.int (rx &&& (255 : Int32)))])) _
    refine XS.i2c X2.here hx rfl (hb hby d38_13) rfl ?_
    show Steps p.tables e below (T2.setTop (mkF m 14 #[.val (.ref t1x), .val (.int p1)] [(.int (rx &&& (255 : Int32)).toUInt32.toUInt16.toUInt32.toInt32)])) _
    exact retN X2 hx (t := .char) Bd.returns (by simp) (hb hby d38_14) hr
  · show Q_rm_lca Z t1x p1 kx zx vsx rx GFx h0 n0 _ T2.heap _
    rw [e2]
    exact ⟨rfl, N2, rfl⟩
theorem d36_0 : decode jdk_42_method_56_code 0 = .ok (.aload_n 0, 1) := by decide +kernel
theorem d36_1 : decode jdk_42_method_56_code 1 = .ok (.invokevirtual 492, 3) := by decide +kernel
theorem pd_5 : parseMethodDescriptor "()Z" = some ⟨[], some .boolean⟩ := by decide +kernel
theorem d36_4 : decode jdk_42_method_56_code 4 = .ok (.ifCond .eq 12, 3) := by decide +kernel
theorem d36_7 : decode jdk_42_method_56_code 7 = .ok (.aload_n 0, 1) := by decide +kernel
theorem d36_8 : decode jdk_42_method_56_code 8 = .ok (.getfield 9, 3) := by decide +kernel
theorem d36_11 : decode jdk_42_method_56_code 11 = .ok (.iload_n 1, 1) := by decide +kernel
theorem d36_12 : decode jdk_42_method_56_code 12 = .ok (.invokestatic 495, 3) := by decide +kernel
theorem pd_6 : parseMethodDescriptor "([BI)C" = some ⟨[(.array .byte), .int], some .char⟩ := by decide +kernel
theorem d36_15 : decode jdk_42_method_56_code 15 = .ok (.ireturn, 1) := by decide +kernel
theorem ef_36 (m : MethodId) (x0 : Addr) (x1 : Int32) : entryFrame m #[(.ref x0), (.int x1)] 2 = mkF m 0 #[.val (.ref x0), .val (.int x1)] [] := by first | (simp [entryFrame, mkF, argsToLocals, Value.category]; done) | rfl
def Q_rm_cat (Z : State) (a0x : Addr) (p1 : Int32) (zc : Int32) (t1x : Addr) (kx : ClassId) (zx : Int32) (vsx : List Value) (rx : Int32) (GFx : Value) (h0 : Heap) (n0 : Nat) (v : Option Value) (h : Heap) (L : List Loc) : Prop := v = some (.int (own_c rx)) ∧ Fr n0 L ∧ h = h0
set_option maxRecDepth 65536 in
set_option maxHeartbeats 40000000 in
theorem rm_cat (l : Launch) (Z : State) (a0 : Array Value) (hw : ∀ d ∈ tables_1, d.before a0 Z = true) (ws : List Jvm.Cond) (a0x : Addr) (p1 : Int32) (zc : Int32) (t1x : Addr) (kx : ClassId) (zx : Int32) (vsx : List Value) (rx : Int32) (GFx : Value) (h0 : Heap) (n0 : Nat) (Z0 : n0 ≤ h0.size) (FC : Fld Z h0 a0x "java/lang/String" "coder" "B" (.int (0 : Int32))) (S_CS : Sta Z h0 "java/lang/String" "COMPACT_STRINGS" "Z" (.int zc)) (P5 : ¬ (zc = (0 : Int32))) (FV : Fld Z h0 a0x "java/lang/String" "value" "[B" (.ref t1x)) (VT : Arv Z h0 t1x kx .byte zx vsx (.int (0 : Int32))) (E0x : Exa Z h0 a0x "java/lang/String") (S_F : Sta Z h0 "jdk/internal/util/Preconditions" "SIOOBE_FORMATTER" "Ljava/util/function/BiFunction;" GFx) (rG3 : GFx.isRef = true) (h1x : ¬ (p1 < (0 : Int32))) (h2x : p1 < zx) (hg : vsx.getD p1.toNatClampNeg (.int (0 : Int32)) = .int rx) :
    MetFree l (⟨"java/lang/String", "charAt", "(I)C"⟩ : MethodName) (head1 (Jvm.Cond.code (⟨"java/lang/String", "charAt", "(I)C"⟩ : MethodName) jdk_42_method_56_code 2 (some .char) :: ws) ({ frames := 3, cells := 0, slots := 0, locals := 40 } : Room)) (fun a U => a = #[(.ref a0x), (.int p1)] ∧ Z.Warmed39 U.vm ∧ U.heap = h0) (fun _ _ _ _ _ => True) (fun _ U o U' => ∃ v L, o = .returned v ∧ Q_rm_cat Z a0x p1 zc t1x kx zx vsx rx GFx h0 n0 v U'.heap L ∧ FrameEnd U o U' L ({ frames := 3, cells := 0, slots := 0, locals := 40 } : Room).cells ({ frames := 3, cells := 0, slots := 0, locals := 40 } : Room).slots) := by
  refine MetFree.of_bodySF (plainFor_of_name pn_0) hisR ?_
  intro p e s m args below meth c s₁ Bd hml0 hP hK
  obtain ⟨rfl, hZ, hh⟩ := hP
  have hx := Bd.exec
  have hby := Bd.bytes
  have hml : c.maxLocals = 2 := hml0
  have hown : s.vm.findClass "java/lang/String" = some m.cls := findClass_of_methodNamed Bd.named
  have hnm := (name_of_methodNamed Bd.named Bd.method).1
  have X0 : Stand p l e ({ frames := 3, cells := 0, slots := 0, locals := 40 } : Room) s m #[(.ref a0x), (.int p1)] below meth c s₁ [] 0 0 := Stand.of_body Bd
  have e0 : s₁.heap = h0 := by rw [← hh, Bd.state]; rfl
  have N0 := Fr.nil n0
  have pre0 : ∀ t, Steps p.tables e below (s₁.setTop (mkF m 0 #[.val (.ref a0x), .val (.int p1)] [])) t → Steps p.tables e below (s₁.setTop (entryFrame m #[(.ref a0x), (.int p1)] 2)) t := fun t k => castTop (ef_36 m a0x p1) k
  obtain ⟨cq1, kq1, q1a, q1b, q1c⟩ := isOf hZ e0 E0x
  obtain ⟨_, _, ⟨T1, L1, k1, n1⟩, -, X1, ⟨Lc1, hQ1, l1, y1, z1⟩, st1⟩ := X0.virtualBack hx (y := (⟨"java/lang/String", "isLatin1", "()Z"⟩ : MethodName)) (z := (⟨"java/lang/String", "isLatin1", "()Z"⟩ : MethodName)) hown (mvT hZ (hw _ (List.mem_of_getElem? (i := 220) rfl))) (mvT hZ (hw _ (List.mem_of_getElem? (i := 221) rfl))) (notFace_of_selects (args := #[]) (mvT hZ (hw _ (List.mem_of_getElem? (i := 223) rfl)))) (mvT hZ (hw _ (List.mem_of_getElem? (i := 223) rfl))) (mvT hZ (hw _ (List.mem_of_getElem? (i := 222) rfl))) (by decide) (backOf (W := 0) (rm_lat l Z a0 hw [] a0x zc h0 n0 Z0 FC S_CS P5) hZ (hw _ (List.mem_of_getElem? (i := 224) rfl)) (hw _ (List.mem_of_getElem? (i := 3) rfl)) (by decide) (by decide)) q1a q1c (g := (mkF m 1 #[.val (.ref a0x), .val (.int p1)] [(.ref a0x)])) rfl (by rw [hml]; rfl) (Steps.refl _) (argsL := []) (rest := []) (lenOf pd_5 rfl) rfl (by show 2 * 0 + _ ≤ _; exact Nat.le_of_eq rfl) (hb hby d36_1) (fun _ _ => ⟨rfl, e0, (by decide : 0 + 0 ≤ _), (by decide : 0 + 0 ≤ _)⟩)
  dsimp only [Pt.U, Pt.locs, Pt.cells, Pt.slots] at X1 l1 y1 z1 st1 hQ1
  subst l1 y1 z1
  obtain ⟨rfl, N1q, e1⟩ := hQ1
  have N1 := Fr.app N0 N1q
  obtain ⟨T2, X2, e2, st2⟩ := getF X1 hx hZ hown (host := "") (Or.inl (hw _ (List.mem_of_getElem? (i := 20) rfl))) Via.refl e1 FV (g := (mkF m 8 #[.val (.ref a0x), .val (.int p1)] [(.ref a0x)])) rfl rfl (hb hby d36_8)
  obtain ⟨_, _, ⟨T3, L3, k3, n3⟩, -, X3, ⟨Lc3, hQ3, l3, y3, z3⟩, st3⟩ := Jvm.LawKit.callS X2 hx (y := (⟨"java/lang/StringLatin1", "charAt", "([BI)C"⟩ : MethodName)) hown (mvT hZ (hw _ (List.mem_of_getElem? (i := 225) rfl))) (mvT hZ (hw _ (List.mem_of_getElem? (i := 226) rfl))) (mvT hZ (hw _ (List.mem_of_getElem? (i := 227) rfl))) (mvT hZ (hw _ (List.mem_of_getElem? (i := 228) rfl))) (by decide) (backOf (W := 0) (rm_lca l Z a0 hw [] t1x p1 kx zx vsx rx GFx h0 n0 Z0 VT S_F rG3 h1x h2x hg) hZ (hw _ (List.mem_of_getElem? (i := 228) rfl)) (hw _ (List.mem_of_getElem? (i := 227) rfl)) (by decide) (by decide)) (g := (mkF m 12 #[.val (.ref a0x), .val (.int p1)] [(.int p1), (.ref t1x)])) rfl (by rw [hml]; rfl) (argsL := [(.ref t1x), (.int p1)]) (rest := []) (lenOf pd_6 rfl) rfl (by show 2 * 0 + _ ≤ _; exact Nat.le_of_eq rfl) (hb hby d36_12) (fun _ _ => ⟨rfl, e2, (by decide : 0 + 0 ≤ _), (by decide : 0 + 0 ≤ _)⟩)
  dsimp only [Pt.U, Pt.locs, Pt.cells, Pt.slots] at X3 l3 y3 z3 st3 hQ3
  subst l3 y3 z3
  obtain ⟨rfl, N3q, e3⟩ := hQ3
  have N3 := Fr.app N1 N3q
  obtain ⟨fs, hr, hrun, hended, hW, hsame⟩ := X3.leave (v := some (.int (nar .char (own_c rx)))) (fun h => by rw [Bd.returns] at h; cases h)
  refine ⟨_, _, pre0 _ ?_, hrun, hended, _, _, rfl, ?_, ⟨_, rfl⟩, hW, hsame.mono (by decide) (by decide)⟩
  · show Steps p.tables e below (s₁.setTop (mkF m 0 #[.val (.ref a0x), .val (.int p1)] [])) _
    refine XS.aloadN X0.here hx rfl (hb hby d36_0) rfl rfl ?_
    show Steps p.tables e below (s₁.setTop (mkF m 1 #[.val (.ref a0x), .val (.int p1)] [(.ref a0x)])) _
    refine st1.trans ?_
    show Steps p.tables e below (T1.setTop (mkF m 4 #[.val (.ref a0x), .val (.int p1)] [(.int (1 : Int32))])) _
    refine XS.ifNo X1.here hx rfl (hb hby d36_4) rfl ((if0 _ _).trans (feq (by decide : ¬ ((1 : Int32) = (0 : Int32)))).1) ?_
    show Steps p.tables e below (T1.setTop (mkF m 7 #[.val (.ref a0x), .val (.int p1)] [])) _
    refine XS.aloadN X1.here hx rfl (hb hby d36_7) rfl rfl ?_
    show Steps p.tables e below (T1.setTop (mkF m 8 #[.val (.ref a0x), .val (.int p1)] [(.ref a0x)])) _
    refine st2 _ ?_
    show Steps p.tables e below (T2.setTop (mkF m 11 #[.val (.ref a0x), .val (.int p1)] [(.ref t1x)])) _
    refine XS.iloadN X2.here hx rfl (hb hby d36_11) rfl ?_
    show Steps p.tables e below (T2.setTop (mkF m 12 #[.val (.ref a0x), .val (.int p1)] [(.int p1), (.ref t1x)])) _
    refine st3 _ ?_
    show Steps p.tables e below (T3.setTop (mkF m 15 #[.val (.ref a0x), .val (.int p1)] [(.int (own_c rx))])) _
    exact retN X3 hx (t := .char) Bd.returns (by simp) (hb hby d36_15) hr
  · show Q_rm_cat Z a0x p1 zc t1x kx zx vsx rx GFx h0 n0 _ T3.heap _
    rw [e3]
    exact ⟨(by rw [own_cc]), N3, rfl⟩
theorem d30_0 : decode jdk_42_method_66_code 0 = .ok (.aload_n 0, 1) := by decide +kernel
theorem d30_1 : decode jdk_42_method_66_code 1 = .ok (.aload_n 1, 1) := by decide +kernel
theorem d30_2 : decode jdk_42_method_66_code 2 = .ok (.if_acmp .ne 5, 3) := by decide +kernel
theorem d30_5 : decode jdk_42_method_66_code 5 = .ok (.iconst 1, 1) := by decide +kernel
theorem d30_6 : decode jdk_42_method_66_code 6 = .ok (.ireturn, 1) := by decide +kernel
theorem ef_30 (m : MethodId) (x0 : Addr) (x1 : Addr) : entryFrame m #[(.ref x0), (.ref x1)] 3 = mkF m 0 #[.val (.ref x0), .val (.ref x1), .unset] [] := by first | (simp [entryFrame, mkF, argsToLocals, Value.category]; done) | rfl
def Q_rm_eq (Z : State) (a0x : Addr) (a1x : Addr) (h0 : Heap) (n0 : Nat) (v : Option Value) (h : Heap) (L : List Loc) : Prop := v = some (.int (1 : Int32)) ∧ Fr n0 L ∧ h = h0
set_option maxRecDepth 65536 in
set_option maxHeartbeats 40000000 in
theorem rm_eq (l : Launch) (Z : State) (a0 : Array Value) (hw : ∀ d ∈ tables_1, d.before a0 Z = true) (ws : List Jvm.Cond) (a0x : Addr) (a1x : Addr) (h0 : Heap) (n0 : Nat) (Z0 : n0 ≤ h0.size) (heq : a0x = a1x) :
    MetFree l (⟨"java/lang/String", "equals", "(Ljava/lang/Object;)Z"⟩ : MethodName) (head1 (Jvm.Cond.code (⟨"java/lang/String", "equals", "(Ljava/lang/Object;)Z"⟩ : MethodName) jdk_42_method_66_code 3 (some .boolean) :: ws) ({ frames := 0, cells := 0, slots := 0, locals := 0 } : Room)) (fun a U => a = #[(.ref a0x), (.ref a1x)] ∧ Z.Warmed39 U.vm ∧ U.heap = h0) (fun _ _ _ _ _ => True) (fun _ U o U' => ∃ v L, o = .returned v ∧ Q_rm_eq Z a0x a1x h0 n0 v U'.heap L ∧ FrameEnd U o U' L ({ frames := 0, cells := 0, slots := 0, locals := 0 } : Room).cells ({ frames := 0, cells := 0, slots := 0, locals := 0 } : Room).slots) := by
  refine MetFree.of_bodySF (plainFor_of_name pn_0) hisR ?_
  intro p e s m args below meth c s₁ Bd hml0 hP hK
  obtain ⟨rfl, hZ, hh⟩ := hP
  have hx := Bd.exec
  have hby := Bd.bytes
  have hml : c.maxLocals = 3 := hml0
  have hown : s.vm.findClass "java/lang/String" = some m.cls := findClass_of_methodNamed Bd.named
  have hnm := (name_of_methodNamed Bd.named Bd.method).1
  have X0 : Stand p l e ({ frames := 0, cells := 0, slots := 0, locals := 0 } : Room) s m #[(.ref a0x), (.ref a1x)] below meth c s₁ [] 0 0 := Stand.of_body Bd
  have e0 : s₁.heap = h0 := by rw [← hh, Bd.state]; rfl
  have N0 := Fr.nil n0
  have pre0 : ∀ t, Steps p.tables e below (s₁.setTop (mkF m 0 #[.val (.ref a0x), .val (.ref a1x), .unset] [])) t → Steps p.tables e below (s₁.setTop (entryFrame m #[(.ref a0x), (.ref a1x)] 3)) t := fun t k => castTop (ef_30 m a0x a1x) k
  obtain ⟨fs, hr, hrun, hended, hW, hsame⟩ := X0.leave (v := some (.int (1 : Int32))) (fun h => by rw [Bd.returns] at h; cases h)
  refine ⟨_, _, pre0 _ ?_, hrun, hended, _, _, rfl, ?_, ⟨_, rfl⟩, hW, hsame.mono (by decide) (by decide)⟩
  · show Steps p.tables e below (s₁.setTop (mkF m 0 #[.val (.ref a0x), .val (.ref a1x), .unset] [])) _
    refine XS.aloadN X0.here hx rfl (hb hby d30_0) rfl rfl ?_
    show Steps p.tables e below (s₁.setTop (mkF m 1 #[.val (.ref a0x), .val (.ref a1x), .unset] [(.ref a0x)])) _
    refine XS.aloadN X0.here hx rfl (hb hby d30_1) rfl rfl ?_
    show Steps p.tables e below (s₁.setTop (mkF m 2 #[.val (.ref a0x), .val (.ref a1x), .unset] [(.ref a1x), (.ref a0x)])) _
    refine Jvm.RoadKit.acmp (g := (mkF m 2 #[.val (.ref a0x), .val (.ref a1x), .unset] [(.ref a1x), (.ref a0x)])) X0 hx rfl rfl rfl (pc0 := 2) (pc' := 5) (same := true) rfl (hb hby d30_2) rfl (decide_eq_true (congrArg Value.ref heq)) (by decide) (by decide) ?_
    show Steps p.tables e below (s₁.setTop (mkF m 5 #[.val (.ref a0x), .val (.ref a1x), .unset] [])) _
    refine XS.iconst X0.here hx rfl (hb hby d30_5) ?_
    show Steps p.tables e below (s₁.setTop (mkF m 6 #[.val (.ref a0x), .val (.ref a1x), .unset] [(.int (1 : Int32))])) _
    exact retN X0 hx (t := .boolean) Bd.returns (by simp) (hb hby d30_6) hr
  · show Q_rm_eq Z a0x a1x h0 n0 _ s₁.heap _
    rw [e0]
    exact ⟨rfl, N0, rfl⟩
theorem d5_0 : decode jdk_39_method_1_code 0 = .ok (.aload_n 0, 1) := by decide +kernel
theorem d5_1 : decode jdk_39_method_1_code 1 = .ok (.invokespecial 1, 3) := by decide +kernel
theorem d5_4 : decode jdk_39_method_1_code 4 = .ok (.aload_n 0, 1) := by decide +kernel
theorem d5_5 : decode jdk_39_method_1_code 5 = .ok (.iconst 0, 1) := by decide +kernel
theorem d5_6 : decode jdk_39_method_1_code 6 = .ok (.putfield 7, 3) := by decide +kernel
theorem d5_9 : decode jdk_39_method_1_code 9 = .ok (.return_, 1) := by decide +kernel
theorem pn_8 : plainName "java/util/AbstractList" = true := by first | (simp [plainName, overriddenIn]; done) | decide +kernel
theorem ef_5 (m : MethodId) (x0 : Addr) : entryFrame m #[(.ref x0)] 1 = mkF m 0 #[.val (.ref x0)] [] := by first | (simp [entryFrame, mkF, argsToLocals, Value.category]; done) | rfl
def Q_rm_abl (Z : State) (a0x : Addr) (h0 : Heap) (n0 : Nat) (v : Option Value) (h : Heap) (L : List Loc) : Prop := v = none ∧ Fr n0 L ∧ Keep h0 h [a0x] ∧ Fld Z h a0x "java/util/AbstractList" "modCount" "I" (.int (0 : Int32)) ∧ Fld Z h a0x "java/util/ArrayList" "elementData" "[Ljava/lang/Object;" .null ∧ Fld Z h a0x "java/util/ArrayList" "size" "I" (.int (0 : Int32))
set_option maxRecDepth 65536 in
set_option maxHeartbeats 40000000 in
theorem rm_abl (l : Launch) (Z : State) (a0 : Array Value) (hw : ∀ d ∈ tables_1, d.before a0 Z = true) (ws : List Jvm.Cond) (a0x : Addr) (h0 : Heap) (n0 : Nat) (Z0 : n0 ≤ h0.size) (E0x : Exa Z h0 a0x "java/util/ArrayList") (F0x0 : Fld Z h0 a0x "java/util/AbstractList" "modCount" "I" (.int (0 : Int32))) (F0x1 : Fld Z h0 a0x "java/util/ArrayList" "elementData" "[Ljava/lang/Object;" .null) (F0x2 : Fld Z h0 a0x "java/util/ArrayList" "size" "I" (.int (0 : Int32))) (g0x : n0 ≤ a0x) :
    MetFree l (⟨"java/util/AbstractList", "<init>", "()V"⟩ : MethodName) (head1 (Jvm.Cond.code (⟨"java/util/AbstractList", "<init>", "()V"⟩ : MethodName) jdk_39_method_1_code 1 none :: ws) ({ frames := 2, cells := 0, slots := 0, locals := 24 } : Room)) (fun a U => a = #[(.ref a0x)] ∧ Z.Warmed39 U.vm ∧ U.heap = h0) (fun _ _ _ _ _ => True) (fun _ U o U' => ∃ v L, o = .returned v ∧ Q_rm_abl Z a0x h0 n0 v U'.heap L ∧ FrameEnd U o U' L ({ frames := 2, cells := 0, slots := 0, locals := 24 } : Room).cells ({ frames := 2, cells := 0, slots := 0, locals := 24 } : Room).slots) := by
  refine MetFree.of_bodySF (plainFor_of_name pn_8) hisR ?_
  intro p e s m args below meth c s₁ Bd hml0 hP hK
  obtain ⟨rfl, hZ, hh⟩ := hP
  have hx := Bd.exec
  have hby := Bd.bytes
  have hml : c.maxLocals = 1 := hml0
  have hown : s.vm.findClass "java/util/AbstractList" = some m.cls := findClass_of_methodNamed Bd.named
  have hnm := (name_of_methodNamed Bd.named Bd.method).1
  have X0 : Stand p l e ({ frames := 2, cells := 0, slots := 0, locals := 24 } : Room) s m #[(.ref a0x)] below meth c s₁ [] 0 0 := Stand.of_body Bd
  have e0 : s₁.heap = h0 := by rw [← hh, Bd.state]; rfl
  have N0 := Fr.nil n0
  have K0 : Keep h0 h0 [a0x] := Keep.refl h0 [a0x]
  have pre0 : ∀ t, Steps p.tables e below (s₁.setTop (mkF m 0 #[.val (.ref a0x)] [])) t → Steps p.tables e below (s₁.setTop (entryFrame m #[(.ref a0x)] 1)) t := fun t k => castTop (ef_5 m a0x) k
  obtain ⟨_, _, ⟨T1, L1, k1, n1⟩, -, X1, ⟨Lc1, hQ1, l1, y1, z1⟩, st1⟩ := X0.specialBack hx (y := (⟨"java/util/AbstractCollection", "<init>", "()V"⟩ : MethodName)) rfl hown (mvT hZ (hw _ (List.mem_of_getElem? (i := 34) rfl))) (mvT hZ (hw _ (List.mem_of_getElem? (i := 35) rfl))) (mvT hZ (hw _ (List.mem_of_getElem? (i := 39) rfl))) (by decide) (backOf (W := 0) (rm_ac l Z a0 hw [] a0x h0 n0 Z0) hZ (hw _ (List.mem_of_getElem? (i := 39) rfl)) (hw _ (List.mem_of_getElem? (i := 38) rfl)) (by decide) (by decide)) (g := (mkF m 1 #[.val (.ref a0x)] [(.ref a0x)])) rfl (by rw [hml]; rfl) (Steps.refl _) (a := a0x) (argsL := []) (rest := []) (lenOf pd_1 rfl) rfl (by show 2 * 0 + _ ≤ _; exact Nat.le_of_eq rfl) (hb hby d5_1) (fun _ _ => ⟨rfl, e0, (by decide : 0 + 0 ≤ _), (by decide : 0 + 0 ≤ _)⟩)
  dsimp only [Pt.U, Pt.locs, Pt.cells, Pt.slots] at X1 l1 y1 z1 st1 hQ1
  subst l1 y1 z1
  obtain ⟨rfl, N1q, e1⟩ := hQ1
  have N1 := Fr.app N0 N1q
  obtain ⟨T2, h2, X2, e2, W2, st2⟩ := putF X1 hx hZ hown (host := "") (Or.inl (hw _ (List.mem_of_getElem? (i := 41) rfl))) Via.refl e1 F0x0 E0x (Or.inl (hw _ (List.mem_of_getElem? (i := 42) rfl))) (hw _ (List.mem_of_getElem? (i := 23) rfl)) (ty := .int) (by decide) rfl rfl (g := (mkF m 6 #[.val (.ref a0x)] [(.int (0 : Int32)), (.ref a0x)])) rfl rfl (hb hby d5_6)
  have N2 := Fr.snoc X2 N1 g0x
  have Fw2 : Fld Z h2 a0x "java/util/AbstractList" "modCount" "I" (.int (0 : Int32)) := F0x0.same W2
  have E0x_2 : Exa Z h2 a0x "java/util/ArrayList" := E0x.wr W2
  have F0x1_2 : Fld Z h2 a0x "java/util/ArrayList" "elementData" "[Ljava/lang/Object;" .null := F0x1.other W2 (Or.inr (slot_ne (Or.inl (hw _ (List.mem_of_getElem? (i := 45) rfl))) (Or.inl (hw _ (List.mem_of_getElem? (i := 42) rfl))) (by decide) (t := (.array (.object "java/lang/Object"))) (t' := .int) (by decide) (by decide)))
  have F0x2_2 : Fld Z h2 a0x "java/util/ArrayList" "size" "I" (.int (0 : Int32)) := F0x2.other W2 (Or.inr (slot_ne (Or.inl (hw _ (List.mem_of_getElem? (i := 58) rfl))) (Or.inl (hw _ (List.mem_of_getElem? (i := 42) rfl))) (by decide) (t := .int) (t' := .int) (by decide) (by decide)))
  have Z2 : n0 ≤ h2.size := Nat.le_trans Z0 (Keep.of_wr W2).1
  have K2 : Keep h0 h2 [a0x] := K0.wr W2 (Or.inl (List.mem_of_getElem? (i := 0) rfl))
  obtain ⟨fs, hr, hrun, hended, hW, hsame⟩ := X2.leave (v := none) (fun _ => rfl)
  refine ⟨_, _, pre0 _ ?_, hrun, hended, _, _, rfl, ?_, ⟨_, rfl⟩, hW, hsame.mono (by decide) (by decide)⟩
  · show Steps p.tables e below (s₁.setTop (mkF m 0 #[.val (.ref a0x)] [])) _
    refine XS.aloadN X0.here hx rfl (hb hby d5_0) rfl rfl ?_
    show Steps p.tables e below (s₁.setTop (mkF m 1 #[.val (.ref a0x)] [(.ref a0x)])) _
    refine st1.trans ?_
    show Steps p.tables e below (T1.setTop (mkF m 4 #[.val (.ref a0x)] [])) _
    refine XS.aloadN X1.here hx rfl (hb hby d5_4) rfl rfl ?_
    show Steps p.tables e below (T1.setTop (mkF m 5 #[.val (.ref a0x)] [(.ref a0x)])) _
    refine XS.iconst X1.here hx rfl (hb hby d5_5) ?_
    show Steps p.tables e below (T1.setTop (mkF m 6 #[.val (.ref a0x)] [(.int (0 : Int32)), (.ref a0x)])) _
    refine st2 _ ?_
    show Steps p.tables e below (T2.setTop (mkF m 9 #[.val (.ref a0x)] [])) _
    exact X2.returnOut hx Bd.returns (hb hby d5_9) hr
  · show Q_rm_abl Z a0x h0 n0 _ T2.heap _
    rw [e2]
    exact ⟨rfl, N2, K2, Fw2, F0x1_2, F0x2_2⟩
theorem d4_0 : decode jdk_38_method_2_code 0 = .ok (.aload_n 0, 1) := by decide +kernel
theorem d4_1 : decode jdk_38_method_2_code 1 = .ok (.invokespecial 1, 3) := by decide +kernel
theorem d4_4 : decode jdk_38_method_2_code 4 = .ok (.aload_n 0, 1) := by decide +kernel
theorem d4_5 : decode jdk_38_method_2_code 5 = .ok (.getstatic 39, 3) := by decide +kernel
theorem d4_8 : decode jdk_38_method_2_code 8 = .ok (.putfield 9, 3) := by decide +kernel
theorem d4_11 : decode jdk_38_method_2_code 11 = .ok (.return_, 1) := by decide +kernel
theorem pn_9 : plainName "java/util/ArrayList" = true := by first | (simp [plainName, overriddenIn]; done) | decide +kernel
theorem ef_4 (m : MethodId) (x0 : Addr) : entryFrame m #[(.ref x0)] 1 = mkF m 0 #[.val (.ref x0)] [] := by first | (simp [entryFrame, mkF, argsToLocals, Value.category]; done) | rfl
def Q_rm_al (Z : State) (a0x : Addr) (w_D : Addr) (h0 : Heap) (n0 : Nat) (v : Option Value) (h : Heap) (L : List Loc) : Prop := v = none ∧ Fr n0 L ∧ Keep h0 h [a0x] ∧ Fld Z h a0x "java/util/AbstractList" "modCount" "I" (.int (0 : Int32)) ∧ Fld Z h a0x "java/util/ArrayList" "elementData" "[Ljava/lang/Object;" (.ref w_D) ∧ Fld Z h a0x "java/util/ArrayList" "size" "I" (.int (0 : Int32))
set_option maxRecDepth 65536 in
set_option maxHeartbeats 40000000 in
theorem rm_al (l : Launch) (Z : State) (a0 : Array Value) (hw : ∀ d ∈ tables_1, d.before a0 Z = true) (ws : List Jvm.Cond) (a0x : Addr) (w_D : Addr) (h0 : Heap) (n0 : Nat) (Z0 : n0 ≤ h0.size) (E0x : Exa Z h0 a0x "java/util/ArrayList") (F0x0 : Fld Z h0 a0x "java/util/AbstractList" "modCount" "I" (.int (0 : Int32))) (F0x1 : Fld Z h0 a0x "java/util/ArrayList" "elementData" "[Ljava/lang/Object;" .null) (F0x2 : Fld Z h0 a0x "java/util/ArrayList" "size" "I" (.int (0 : Int32))) (g0x : n0 ≤ a0x) (X00 : Old Z n0 h0) (S_D : Sta Z Z.heap "java/util/ArrayList" "DEFAULTCAPACITY_EMPTY_ELEMENTDATA" "[Ljava/lang/Object;" (.ref w_D)) :
    MetFree l (⟨"java/util/ArrayList", "<init>", "()V"⟩ : MethodName) (head1 (Jvm.Cond.code (⟨"java/util/ArrayList", "<init>", "()V"⟩ : MethodName) jdk_38_method_2_code 1 none :: ws) ({ frames := 3, cells := 0, slots := 0, locals := 36 } : Room)) (fun a U => a = #[(.ref a0x)] ∧ Z.Warmed39 U.vm ∧ U.heap = h0) (fun _ _ _ _ _ => True) (fun _ U o U' => ∃ v L, o = .returned v ∧ Q_rm_al Z a0x w_D h0 n0 v U'.heap L ∧ FrameEnd U o U' L ({ frames := 3, cells := 0, slots := 0, locals := 36 } : Room).cells ({ frames := 3, cells := 0, slots := 0, locals := 36 } : Room).slots) := by
  refine MetFree.of_bodySF (plainFor_of_name pn_9) hisR ?_
  intro p e s m args below meth c s₁ Bd hml0 hP hK
  obtain ⟨rfl, hZ, hh⟩ := hP
  have hx := Bd.exec
  have hby := Bd.bytes
  have hml : c.maxLocals = 1 := hml0
  have hown : s.vm.findClass "java/util/ArrayList" = some m.cls := findClass_of_methodNamed Bd.named
  have hnm := (name_of_methodNamed Bd.named Bd.method).1
  have X0 : Stand p l e ({ frames := 3, cells := 0, slots := 0, locals := 36 } : Room) s m #[(.ref a0x)] below meth c s₁ [] 0 0 := Stand.of_body Bd
  have e0 : s₁.heap = h0 := by rw [← hh, Bd.state]; rfl
  have N0 := Fr.nil n0
  have K0 : Keep h0 h0 [a0x] := Keep.refl h0 [a0x]
  have pre0 : ∀ t, Steps p.tables e below (s₁.setTop (mkF m 0 #[.val (.ref a0x)] [])) t → Steps p.tables e below (s₁.setTop (entryFrame m #[(.ref a0x)] 1)) t := fun t k => castTop (ef_4 m a0x) k
  have Sh_D : Sta Z h0 "java/util/ArrayList" "DEFAULTCAPACITY_EMPTY_ELEMENTDATA" "[Ljava/lang/Object;" (.ref w_D) := S_D.ext X00.2
  obtain ⟨_, _, ⟨T1, L1, k1, n1⟩, -, X1, ⟨Lc1, hQ1, l1, y1, z1⟩, st1⟩ := X0.specialBack hx (y := (⟨"java/util/AbstractList", "<init>", "()V"⟩ : MethodName)) rfl hown (mvT hZ (hw _ (List.mem_of_getElem? (i := 28) rfl))) (mvT hZ (hw _ (List.mem_of_getElem? (i := 29) rfl))) (mvT hZ (hw _ (List.mem_of_getElem? (i := 33) rfl))) (by decide) (backOf (W := 0) (rm_abl l Z a0 hw [] a0x h0 n0 Z0 E0x F0x0 F0x1 F0x2 g0x) hZ (hw _ (List.mem_of_getElem? (i := 33) rfl)) (hw _ (List.mem_of_getElem? (i := 32) rfl)) (by decide) (by decide)) (g := (mkF m 1 #[.val (.ref a0x)] [(.ref a0x)])) rfl (by rw [hml]; rfl) (Steps.refl _) (a := a0x) (argsL := []) (rest := []) (lenOf pd_1 rfl) rfl (by show 2 * 0 + _ ≤ _; exact Nat.le_of_eq rfl) (hb hby d4_1) (fun _ _ => ⟨rfl, e0, (by decide : 0 + 0 ≤ _), (by decide : 0 + 0 ≤ _)⟩)
  dsimp only [Pt.U, Pt.locs, Pt.cells, Pt.slots] at X1 l1 y1 z1 st1 hQ1
  subst l1 y1 z1
  obtain ⟨rfl, N1q, x1c0, x1c1, x1c2, x1c3⟩ := hQ1
  have N1 := Fr.app N0 N1q
  have E0x_1 : Exa Z T1.heap a0x "java/util/ArrayList" := E0x.keep x1c0
  have X00_1 : Old Z n0 T1.heap := X00.keep x1c0 (allS g0x all0)
  have Sh_D_1 : Sta Z T1.heap "java/util/ArrayList" "DEFAULTCAPACITY_EMPTY_ELEMENTDATA" "[Ljava/lang/Object;" (.ref w_D) := S_D.ext X00_1.2
  have Z1 : n0 ≤ T1.heap.size := Nat.le_trans Z0 x1c0.1
  have K1 : Keep h0 T1.heap [a0x] := K0.trans x1c0 (allS (P := fun x => x ∈ [a0x] ∨ h0.size ≤ x) (Or.inl (List.mem_of_getElem? (i := 0) rfl)) all0)
  obtain ⟨T2, X2, e2, st2⟩ := getS2 X1 hx hZ hown (host := "") (Or.inl (hw _ (List.mem_of_getElem? (i := 43) rfl))) Via.refl rfl Sh_D_1 (g := (mkF m 5 #[.val (.ref a0x)] [(.ref a0x)])) rfl (hb hby d4_5)
  obtain ⟨T3, h3, X3, e3, W3, st3⟩ := putF X2 hx hZ hown (host := "") (Or.inl (hw _ (List.mem_of_getElem? (i := 44) rfl))) Via.refl e2 x1c2 E0x_1 (Or.inl (hw _ (List.mem_of_getElem? (i := 45) rfl))) (hw _ (List.mem_of_getElem? (i := 23) rfl)) (ty := (.array (.object "java/lang/Object"))) (by decide) rfl rfl (g := (mkF m 8 #[.val (.ref a0x)] [(.ref w_D), (.ref a0x)])) rfl rfl (hb hby d4_8)
  have N3 := Fr.snoc X3 N1 g0x
  have Fw3 : Fld Z h3 a0x "java/util/ArrayList" "elementData" "[Ljava/lang/Object;" (.ref w_D) := x1c2.same W3
  have E0x_3 : Exa Z h3 a0x "java/util/ArrayList" := E0x_1.wr W3
  have X00_3 : Old Z n0 h3 := X00_1.wr W3 g0x
  have Sh_D_3 : Sta Z h3 "java/util/ArrayList" "DEFAULTCAPACITY_EMPTY_ELEMENTDATA" "[Ljava/lang/Object;" (.ref w_D) := Sh_D_1.wr W3
  have x1c1_3 : Fld Z h3 a0x "java/util/AbstractList" "modCount" "I" (.int (0 : Int32)) := x1c1.other W3 (Or.inr (slot_ne (Or.inl (hw _ (List.mem_of_getElem? (i := 42) rfl))) (Or.inl (hw _ (List.mem_of_getElem? (i := 45) rfl))) (by decide) (t := .int) (t' := (.array (.object "java/lang/Object"))) (by decide) (by decide)))
  have x1c3_3 : Fld Z h3 a0x "java/util/ArrayList" "size" "I" (.int (0 : Int32)) := x1c3.other W3 (Or.inr (slot_ne (Or.inl (hw _ (List.mem_of_getElem? (i := 58) rfl))) (Or.inl (hw _ (List.mem_of_getElem? (i := 45) rfl))) (by decide) (t := .int) (t' := (.array (.object "java/lang/Object"))) (by decide) (by decide)))
  have Z3 : n0 ≤ h3.size := Nat.le_trans Z1 (Keep.of_wr W3).1
  have K3 : Keep h0 h3 [a0x] := K1.wr W3 (Or.inl (List.mem_of_getElem? (i := 0) rfl))
  obtain ⟨fs, hr, hrun, hended, hW, hsame⟩ := X3.leave (v := none) (fun _ => rfl)
  refine ⟨_, _, pre0 _ ?_, hrun, hended, _, _, rfl, ?_, ⟨_, rfl⟩, hW, hsame.mono (by decide) (by decide)⟩
  · show Steps p.tables e below (s₁.setTop (mkF m 0 #[.val (.ref a0x)] [])) _
    refine XS.aloadN X0.here hx rfl (hb hby d4_0) rfl rfl ?_
    show Steps p.tables e below (s₁.setTop (mkF m 1 #[.val (.ref a0x)] [(.ref a0x)])) _
    refine st1.trans ?_
    show Steps p.tables e below (T1.setTop (mkF m 4 #[.val (.ref a0x)] [])) _
    refine XS.aloadN X1.here hx rfl (hb hby d4_4) rfl rfl ?_
    show Steps p.tables e below (T1.setTop (mkF m 5 #[.val (.ref a0x)] [(.ref a0x)])) _
    refine st2 _ ?_
    show Steps p.tables e below (T2.setTop (mkF m 8 #[.val (.ref a0x)] [(.ref w_D), (.ref a0x)])) _
    refine st3 _ ?_
    show Steps p.tables e below (T3.setTop (mkF m 11 #[.val (.ref a0x)] [])) _
    exact X3.returnOut hx Bd.returns (hb hby d4_11) hr
  · show Q_rm_al Z a0x w_D h0 n0 _ T3.heap _
    rw [e3]
    exact ⟨rfl, N3, K3, x1c1_3, Fw3, x1c3_3⟩
theorem d10_0 : decode jdk_38_method_6_code 0 = .ok (.aload_n 0, 1) := by decide +kernel
theorem d10_1 : decode jdk_38_method_6_code 1 = .ok (.getfield 9, 3) := by decide +kernel
theorem d10_4 : decode jdk_38_method_6_code 4 = .ok (.arraylength, 1) := by decide +kernel
theorem d10_5 : decode jdk_38_method_6_code 5 = .ok (.istore_n 2, 1) := by decide +kernel
theorem d10_6 : decode jdk_38_method_6_code 6 = .ok (.iload_n 2, 1) := by decide +kernel
theorem d10_7 : decode jdk_38_method_6_code 7 = .ok (.ifCond .gt 13, 3) := by decide +kernel
theorem d10_10 : decode jdk_38_method_6_code 10 = .ok (.aload_n 0, 1) := by decide +kernel
theorem d10_11 : decode jdk_38_method_6_code 11 = .ok (.getfield 9, 3) := by decide +kernel
theorem d10_14 : decode jdk_38_method_6_code 14 = .ok (.getstatic 39, 3) := by decide +kernel
theorem d10_17 : decode jdk_38_method_6_code 17 = .ok (.if_acmp .eq 28, 3) := by decide +kernel
theorem d10_45 : decode jdk_38_method_6_code 45 = .ok (.aload_n 0, 1) := by decide +kernel
theorem d10_46 : decode jdk_38_method_6_code 46 = .ok (.bipush 10, 2) := by decide +kernel
theorem d10_48 : decode jdk_38_method_6_code 48 = .ok (.iload_n 1, 1) := by decide +kernel
theorem d10_49 : decode jdk_38_method_6_code 49 = .ok (.invokestatic 79, 3) := by decide +kernel
theorem pd_7 : parseMethodDescriptor "(II)I" = some ⟨[.int, .int], some .int⟩ := by decide +kernel
theorem d10_52 : decode jdk_38_method_6_code 52 = .ok (.anewarray 7, 3) := by decide +kernel
theorem d10_55 : decode jdk_38_method_6_code 55 = .ok (.dup_x1, 1) := by decide +kernel
theorem d10_56 : decode jdk_38_method_6_code 56 = .ok (.putfield 9, 3) := by decide +kernel
theorem d10_59 : decode jdk_38_method_6_code 59 = .ok (.areturn, 1) := by decide +kernel
theorem ef_10 (m : MethodId) (x0 : Addr) (x1 : Int32) : entryFrame m #[(.ref x0), (.int x1)] 4 = mkF m 0 #[.val (.ref x0), .val (.int x1), .unset, .unset] [] := by first | (simp [entryFrame, mkF, argsToLocals, Value.category]; done) | rfl
def Q_rm_growi (Z : State) (a0x : Addr) (p1 : Int32) (w_D : Addr) (kd : ClassId) (vsd : List Value) (dd : Value) (h0 : Heap) (n0 : Nat) (v : Option Value) (h : Heap) (L : List Loc) : Prop := ∃ bq : Addr, v = some (.ref bq) ∧ Fr n0 L ∧ Keep h0 h [a0x] ∧ n0 ≤ bq ∧ h0.size ≤ bq ∧ Fld Z h a0x "java/util/ArrayList" "elementData" "[Ljava/lang/Object;" (.ref bq) ∧ Fld Z h a0x "java/util/ArrayList" "size" "I" (.int (0 : Int32)) ∧ (∃ kq : ClassId, Arv Z h bq kq (.object "java/lang/Object") (10 : Int32) [.null, .null, .null, .null, .null, .null, .null, .null, .null, .null] .null ∧ Ovr Z kq "java/lang/Object")
set_option maxRecDepth 65536 in
set_option maxHeartbeats 40000000 in
theorem rm_growi (l : Launch) (Z : State) (a0 : Array Value) (hw : ∀ d ∈ tables_1, d.before a0 Z = true) (ws : List Jvm.Cond) (a0x : Addr) (p1 : Int32) (w_D : Addr) (kd : ClassId) (vsd : List Value) (dd : Value) (h0 : Heap) (n0 : Nat) (Z0 : n0 ≤ h0.size) (E0x : Exa Z h0 a0x "java/util/ArrayList") (g0x : n0 ≤ a0x) (FE : Fld Z h0 a0x "java/util/ArrayList" "elementData" "[Ljava/lang/Object;" (.ref w_D)) (FS : Fld Z h0 a0x "java/util/ArrayList" "size" "I" (.int (0 : Int32))) (S_D : Sta Z h0 "java/util/ArrayList" "DEFAULTCAPACITY_EMPTY_ELEMENTDATA" "[Ljava/lang/Object;" (.ref w_D)) (VD : Arv Z h0 w_D kd (.object "java/lang/Object") (0 : Int32) vsd dd) (neD : a0x ≠ w_D) (hm : ¬ ((10 : Int32) < p1)) :
    MetFree l (⟨"java/util/ArrayList", "grow", "(I)[Ljava/lang/Object;"⟩ : MethodName) (head1 (Jvm.Cond.code (⟨"java/util/ArrayList", "grow", "(I)[Ljava/lang/Object;"⟩ : MethodName) jdk_38_method_6_code 4 (some (.array (.object "java/lang/Object"))) :: ws) ({ frames := 1, cells := 1, slots := 10, locals := 14 } : Room)) (fun a U => a = #[(.ref a0x), (.int p1)] ∧ Z.Warmed39 U.vm ∧ U.heap = h0) (fun _ _ _ _ _ => True) (fun _ U o U' => ∃ v L, o = .returned v ∧ Q_rm_growi Z a0x p1 w_D kd vsd dd h0 n0 v U'.heap L ∧ FrameEnd U o U' L ({ frames := 1, cells := 1, slots := 10, locals := 14 } : Room).cells ({ frames := 1, cells := 1, slots := 10, locals := 14 } : Room).slots) := by
  refine MetFree.of_bodySF (plainFor_of_name pn_9) hisR ?_
  intro p e s m args below meth c s₁ Bd hml0 hP hK
  obtain ⟨rfl, hZ, hh⟩ := hP
  have hx := Bd.exec
  have hby := Bd.bytes
  have hml : c.maxLocals = 4 := hml0
  have hown : s.vm.findClass "java/util/ArrayList" = some m.cls := findClass_of_methodNamed Bd.named
  have hnm := (name_of_methodNamed Bd.named Bd.method).1
  have X0 : Stand p l e ({ frames := 1, cells := 1, slots := 10, locals := 14 } : Room) s m #[(.ref a0x), (.int p1)] below meth c s₁ [] 0 0 := Stand.of_body Bd
  have e0 : s₁.heap = h0 := by rw [← hh, Bd.state]; rfl
  have N0 := Fr.nil n0
  have K0 : Keep h0 h0 [a0x] := Keep.refl h0 [a0x]
  have pre0 : ∀ t, Steps p.tables e below (s₁.setTop (mkF m 0 #[.val (.ref a0x), .val (.int p1), .unset, .unset] [])) t → Steps p.tables e below (s₁.setTop (entryFrame m #[(.ref a0x), (.int p1)] 4)) t := fun t k => castTop (ef_10 m a0x p1) k
  obtain ⟨T1, X1, e1, st1⟩ := getF X0 hx hZ hown (host := "") (Or.inl (hw _ (List.mem_of_getElem? (i := 44) rfl))) Via.refl e0 FE (g := (mkF m 1 #[.val (.ref a0x), .val (.int p1), .unset, .unset] [(.ref a0x)])) rfl rfl (hb hby d10_1)
  obtain ⟨cl2, Ar2, qk2, S2, N2', H2, G2⟩ := (id VD)
  obtain ⟨T3, X3, e3, st3⟩ := getF X1 hx hZ hown (host := "") (Or.inl (hw _ (List.mem_of_getElem? (i := 44) rfl))) Via.refl e1 FE (g := (mkF m 11 #[.val (.ref a0x), .val (.int p1), .val (.int (0 : Int32)), .unset] [(.ref a0x)])) rfl rfl (hb hby d10_11)
  obtain ⟨T4, X4, e4, st4⟩ := getS2 X3 hx hZ hown (host := "") (Or.inl (hw _ (List.mem_of_getElem? (i := 43) rfl))) Via.refl e3 S_D (g := (mkF m 14 #[.val (.ref a0x), .val (.int p1), .val (.int (0 : Int32)), .unset] [(.ref w_D)])) rfl (hb hby d10_14)
  obtain ⟨_, _, ⟨T5, L5, k5, n5⟩, -, X5, ⟨Lc5, hQ5, l5, y5, z5⟩, st5⟩ := Jvm.LawKit.callS X4 hx (y := (⟨"java/lang/Math", "max", "(II)I"⟩ : MethodName)) hown (mvT hZ (hw _ (List.mem_of_getElem? (i := 74) rfl))) (mvT hZ (hw _ (List.mem_of_getElem? (i := 75) rfl))) (mvT hZ (hw _ (List.mem_of_getElem? (i := 76) rfl))) (mvT hZ (hw _ (List.mem_of_getElem? (i := 77) rfl))) (by decide) (backOf (W := 1) (rm_max l Z a0 hw [] (10 : Int32) p1 h0 n0 Z0 hm) hZ (hw _ (List.mem_of_getElem? (i := 77) rfl)) (hw _ (List.mem_of_getElem? (i := 76) rfl)) (by decide) (by decide)) (g := (mkF m 49 #[.val (.ref a0x), .val (.int p1), .val (.int (0 : Int32)), .unset] [(.int p1), (.int (10 : Int32)), (.ref a0x)])) rfl (by rw [hml]; rfl) (argsL := [(.int (10 : Int32)), (.int p1)]) (rest := [(.ref a0x)]) (lenOf pd_7 rfl) rfl (by show 2 * 0 + _ ≤ _; exact Nat.le_of_eq rfl) (hb hby d10_49) (fun _ _ => ⟨rfl, e4, (by decide : 0 + 0 ≤ _), (by decide : 0 + 0 ≤ _)⟩)
  dsimp only [Pt.U, Pt.locs, Pt.cells, Pt.slots] at X5 l5 y5 z5 st5 hQ5
  subst l5 y5 z5
  obtain ⟨rfl, N5q, e5⟩ := hQ5
  have N5 := Fr.app N0 N5q
  obtain ⟨T6, h6, k6, X6, e6, E6, A6, O6, st6⟩ := newR X5 hx hZ hown (hw _ (List.mem_of_getElem? (i := 78) rfl)) (hw _ (List.mem_of_getElem? (i := 79) rfl)) e5 (g := (mkF m 52 #[.val (.ref a0x), .val (.int p1), .val (.int (0 : Int32)), .unset] [(.int (10 : Int32)), (.ref a0x)])) rfl (hb hby d10_52) rfl (by decide) (cap := 10) (by decide) (by decide) (by decide) (by decide)
  obtain ⟨b6, g6⟩ : ∃ z, z = h0.size := ⟨_, rfl⟩
  rw [← g6] at A6 st6
  have ne_a0x_b6 : a0x ≠ b6 := Nat.ne_of_lt (Nat.lt_of_lt_of_le E0x.lt (Nat.le_of_eq g6.symm))
  have ne_w_D_b6 : w_D ≠ b6 := Nat.ne_of_lt (Nat.lt_of_lt_of_le VD.lt (Nat.le_of_eq g6.symm))
  have g_b6 : n0 ≤ b6 := Nat.le_trans Z0 (Nat.le_of_eq g6.symm)
  have sz_b6 : h0.size ≤ b6 := Nat.le_trans K0.1 (Nat.le_of_eq g6.symm)
  have E0x_6 : Exa Z h6 a0x "java/util/ArrayList" := E0x.ext E6
  have FE_6 : Fld Z h6 a0x "java/util/ArrayList" "elementData" "[Ljava/lang/Object;" (.ref w_D) := FE.ext E6
  have FS_6 : Fld Z h6 a0x "java/util/ArrayList" "size" "I" (.int (0 : Int32)) := FS.ext E6
  have S_D_6 : Sta Z h6 "java/util/ArrayList" "DEFAULTCAPACITY_EMPTY_ELEMENTDATA" "[Ljava/lang/Object;" (.ref w_D) := S_D.ext E6
  have VD_6 : Arv Z h6 w_D kd (.object "java/lang/Object") (0 : Int32) vsd dd := VD.ext E6
  have Z6 : n0 ≤ h6.size := Nat.le_trans Z0 E6.1
  have K6 : Keep h0 h6 [a0x] := K0.ext E6
  have V_b6 : Arv Z h6 b6 k6 (.object "java/lang/Object") (10 : Int32) [.null, .null, .null, .null, .null, .null, .null, .null, .null, .null] .null := (Arv.new A6 (by decide)).pad (pad_rep [] .null 10)
  obtain ⟨T7, h7, X7, e7, W7, st7⟩ := putF X6 hx hZ hown (host := "") (Or.inl (hw _ (List.mem_of_getElem? (i := 44) rfl))) Via.refl e6 FE_6 E0x_6 (Or.inl (hw _ (List.mem_of_getElem? (i := 45) rfl))) (hw _ (List.mem_of_getElem? (i := 23) rfl)) (ty := (.array (.object "java/lang/Object"))) (by decide) rfl rfl (g := (mkF m 56 #[.val (.ref a0x), .val (.int p1), .val (.int (0 : Int32)), .unset] [(.ref b6), (.ref a0x), (.ref b6)])) rfl rfl (hb hby d10_56)
  have N7 := Fr.snoc X7 N5 g0x
  have Fw7 : Fld Z h7 a0x "java/util/ArrayList" "elementData" "[Ljava/lang/Object;" (.ref b6) := FE_6.same W7
  have E0x_7 : Exa Z h7 a0x "java/util/ArrayList" := E0x_6.wr W7
  have FS_7 : Fld Z h7 a0x "java/util/ArrayList" "size" "I" (.int (0 : Int32)) := FS_6.other W7 (Or.inr (slot_ne (Or.inl (hw _ (List.mem_of_getElem? (i := 58) rfl))) (Or.inl (hw _ (List.mem_of_getElem? (i := 45) rfl))) (by decide) (t := .int) (t' := (.array (.object "java/lang/Object"))) (by decide) (by decide)))
  have S_D_7 : Sta Z h7 "java/util/ArrayList" "DEFAULTCAPACITY_EMPTY_ELEMENTDATA" "[Ljava/lang/Object;" (.ref w_D) := S_D_6.wr W7
  have VD_7 : Arv Z h7 w_D kd (.object "java/lang/Object") (0 : Int32) vsd dd := VD_6.other W7 (Ne.symm neD)
  have V_b6_7 : Arv Z h7 b6 k6 (.object "java/lang/Object") (10 : Int32) [.null, .null, .null, .null, .null, .null, .null, .null, .null, .null] .null := V_b6.other W7 (Ne.symm ne_a0x_b6)
  have Z7 : n0 ≤ h7.size := Nat.le_trans Z6 (Keep.of_wr W7).1
  have K7 : Keep h0 h7 [a0x] := K6.wr W7 (Or.inl (List.mem_of_getElem? (i := 0) rfl))
  obtain ⟨fs, hr, hrun, hended, hW, hsame⟩ := X7.leave (v := some (.ref b6)) (fun h => by rw [Bd.returns] at h; cases h)
  refine ⟨_, _, pre0 _ ?_, hrun, hended, _, _, rfl, ?_, ⟨_, rfl⟩, hW, hsame.mono (by decide) (by decide)⟩
  · show Steps p.tables e below (s₁.setTop (mkF m 0 #[.val (.ref a0x), .val (.int p1), .unset, .unset] [])) _
    refine XS.aloadN X0.here hx rfl (hb hby d10_0) rfl rfl ?_
    show Steps p.tables e below (s₁.setTop (mkF m 1 #[.val (.ref a0x), .val (.int p1), .unset, .unset] [(.ref a0x)])) _
    refine st1 _ ?_
    show Steps p.tables e below (T1.setTop (mkF m 4 #[.val (.ref a0x), .val (.int p1), .unset, .unset] [(.ref w_D)])) _
    refine X1.arraylength hx (by rw [e1]; exact Ar2.1) (State.isArrayOf_alike hZ.alike Ar2.2.1) (g := (mkF m 4 #[.val (.ref a0x), .val (.int p1), .unset, .unset] [(.ref w_D)])) rfl rfl (hb hby d10_4) _ ?_
    rw [len_of S2 N2']
    show Steps p.tables e below (T1.setTop (mkF m 5 #[.val (.ref a0x), .val (.int p1), .unset, .unset] [(.int (0 : Int32))])) _
    refine XS.istoreN X1.here hx rfl (hb hby d10_5) rfl (l' := #[.val (.ref a0x), .val (.int p1), .val (.int (0 : Int32)), .unset]) rfl ?_
    show Steps p.tables e below (T1.setTop (mkF m 6 #[.val (.ref a0x), .val (.int p1), .val (.int (0 : Int32)), .unset] [])) _
    refine XS.iloadN X1.here hx rfl (hb hby d10_6) rfl ?_
    show Steps p.tables e below (T1.setTop (mkF m 7 #[.val (.ref a0x), .val (.int p1), .val (.int (0 : Int32)), .unset] [(.int (0 : Int32))])) _
    refine XS.ifNo X1.here hx rfl (hb hby d10_7) rfl ((if0 _ _).trans (flt (by decide : ¬ ((0 : Int32) < (0 : Int32)))).2.2.1) ?_
    show Steps p.tables e below (T1.setTop (mkF m 10 #[.val (.ref a0x), .val (.int p1), .val (.int (0 : Int32)), .unset] [])) _
    refine XS.aloadN X1.here hx rfl (hb hby d10_10) rfl rfl ?_
    show Steps p.tables e below (T1.setTop (mkF m 11 #[.val (.ref a0x), .val (.int p1), .val (.int (0 : Int32)), .unset] [(.ref a0x)])) _
    refine st3 _ ?_
    show Steps p.tables e below (T3.setTop (mkF m 14 #[.val (.ref a0x), .val (.int p1), .val (.int (0 : Int32)), .unset] [(.ref w_D)])) _
    refine st4 _ ?_
    show Steps p.tables e below (T4.setTop (mkF m 17 #[.val (.ref a0x), .val (.int p1), .val (.int (0 : Int32)), .unset] [(.ref w_D), (.ref w_D)])) _
    refine Jvm.RoadKit.acmp (g := (mkF m 17 #[.val (.ref a0x), .val (.int p1), .val (.int (0 : Int32)), .unset] [(.ref w_D), (.ref w_D)])) X4 hx rfl rfl rfl (pc0 := 17) (pc' := 45) (same := true) rfl (hb hby d10_17) rfl (decide_eq_true rfl) (by decide) (by decide) ?_
    show Steps p.tables e below (T4.setTop (mkF m 45 #[.val (.ref a0x), .val (.int p1), .val (.int (0 : Int32)), .unset] [])) _
    refine XS.aloadN X4.here hx rfl (hb hby d10_45) rfl rfl ?_
    show Steps p.tables e below (T4.setTop (mkF m 46 #[.val (.ref a0x), .val (.int p1), .val (.int (0 : Int32)), .unset] [(.ref a0x)])) _
    refine XS.bipush X4.here hx rfl (hb hby d10_46) ?_
    show Steps p.tables e below (T4.setTop (mkF m 48 #[.val (.ref a0x), .val (.int p1), .val (.int (0 : Int32)), .unset] [(.int (10 : Int32)), (.ref a0x)])) _
    refine XS.iloadN X4.here hx rfl (hb hby d10_48) rfl ?_
    show Steps p.tables e below (T4.setTop (mkF m 49 #[.val (.ref a0x), .val (.int p1), .val (.int (0 : Int32)), .unset] [(.int p1), (.int (10 : Int32)), (.ref a0x)])) _
    refine st5 _ ?_
    show Steps p.tables e below (T5.setTop (mkF m 52 #[.val (.ref a0x), .val (.int p1), .val (.int (0 : Int32)), .unset] [(.int (10 : Int32)), (.ref a0x)])) _
    refine st6 _ ?_
    show Steps p.tables e below (T6.setTop (mkF m 55 #[.val (.ref a0x), .val (.int p1), .val (.int (0 : Int32)), .unset] [(.ref b6), (.ref a0x)])) _
    refine XS.dupX1 X6.here hx rfl (hb hby d10_55) rfl rfl rfl ?_
    show Steps p.tables e below (T6.setTop (mkF m 56 #[.val (.ref a0x), .val (.int p1), .val (.int (0 : Int32)), .unset] [(.ref b6), (.ref a0x), (.ref b6)])) _
    refine st7 _ ?_
    show Steps p.tables e below (T7.setTop (mkF m 59 #[.val (.ref a0x), .val (.int p1), .val (.int (0 : Int32)), .unset] [(.ref b6)])) _
    exact retOut X7 hx Bd.returns (by rfl) (Or.inr (Or.inr (Or.inr (Or.inr ⟨rfl, rfl, rfl⟩)))) (hb hby d10_59) hr
  · show Q_rm_growi Z a0x p1 w_D kd vsd dd h0 n0 _ T7.heap _
    rw [e7]
    exact ⟨b6, rfl, N7, K7, g_b6, sz_b6, Fw7, FS_7, ⟨k6, V_b6_7, O6⟩⟩
theorem d9_0 : decode jdk_38_method_7_code 0 = .ok (.aload_n 0, 1) := by decide +kernel
theorem d9_1 : decode jdk_38_method_7_code 1 = .ok (.aload_n 0, 1) := by decide +kernel
theorem d9_2 : decode jdk_38_method_7_code 2 = .ok (.getfield 48, 3) := by decide +kernel
theorem d9_5 : decode jdk_38_method_7_code 5 = .ok (.iconst 1, 1) := by decide +kernel
theorem d9_6 : decode jdk_38_method_7_code 6 = .ok (.iadd, 1) := by decide +kernel
theorem d9_7 : decode jdk_38_method_7_code 7 = .ok (.invokevirtual 69, 3) := by decide +kernel
theorem pd_8 : parseMethodDescriptor "(I)[Ljava/lang/Object;" = some ⟨[.int], some (.array (.object "java/lang/Object"))⟩ := by decide +kernel
theorem d9_10 : decode jdk_38_method_7_code 10 = .ok (.areturn, 1) := by decide +kernel
theorem ef_9 (m : MethodId) (x0 : Addr) : entryFrame m #[(.ref x0)] 1 = mkF m 0 #[.val (.ref x0)] [] := by first | (simp [entryFrame, mkF, argsToLocals, Value.category]; done) | rfl
def Q_rm_grow (Z : State) (a0x : Addr) (w_D : Addr) (kd : ClassId) (vsd : List Value) (dd : Value) (h0 : Heap) (n0 : Nat) (v : Option Value) (h : Heap) (L : List Loc) : Prop := ∃ bq : Addr, v = some (.ref bq) ∧ Fr n0 L ∧ Keep h0 h [a0x] ∧ n0 ≤ bq ∧ h0.size ≤ bq ∧ Fld Z h a0x "java/util/ArrayList" "elementData" "[Ljava/lang/Object;" (.ref bq) ∧ Fld Z h a0x "java/util/ArrayList" "size" "I" (.int (0 : Int32)) ∧ (∃ kq : ClassId, Arv Z h bq kq (.object "java/lang/Object") (10 : Int32) [.null, .null, .null, .null, .null, .null, .null, .null, .null, .null] .null ∧ Ovr Z kq "java/lang/Object")
set_option maxRecDepth 65536 in
set_option maxHeartbeats 40000000 in
theorem rm_grow (l : Launch) (Z : State) (a0 : Array Value) (hw : ∀ d ∈ tables_1, d.before a0 Z = true) (ws : List Jvm.Cond) (a0x : Addr) (w_D : Addr) (kd : ClassId) (vsd : List Value) (dd : Value) (h0 : Heap) (n0 : Nat) (Z0 : n0 ≤ h0.size) (E0x : Exa Z h0 a0x "java/util/ArrayList") (g0x : n0 ≤ a0x) (FE : Fld Z h0 a0x "java/util/ArrayList" "elementData" "[Ljava/lang/Object;" (.ref w_D)) (FS : Fld Z h0 a0x "java/util/ArrayList" "size" "I" (.int (0 : Int32))) (S_D : Sta Z h0 "java/util/ArrayList" "DEFAULTCAPACITY_EMPTY_ELEMENTDATA" "[Ljava/lang/Object;" (.ref w_D)) (VD : Arv Z h0 w_D kd (.object "java/lang/Object") (0 : Int32) vsd dd) (neD : a0x ≠ w_D) :
    MetFree l (⟨"java/util/ArrayList", "grow", "()[Ljava/lang/Object;"⟩ : MethodName) (head1 (Jvm.Cond.code (⟨"java/util/ArrayList", "grow", "()[Ljava/lang/Object;"⟩ : MethodName) jdk_38_method_7_code 1 (some (.array (.object "java/lang/Object"))) :: ws) ({ frames := 2, cells := 1, slots := 10, locals := 29 } : Room)) (fun a U => a = #[(.ref a0x)] ∧ Z.Warmed39 U.vm ∧ U.heap = h0) (fun _ _ _ _ _ => True) (fun _ U o U' => ∃ v L, o = .returned v ∧ Q_rm_grow Z a0x w_D kd vsd dd h0 n0 v U'.heap L ∧ FrameEnd U o U' L ({ frames := 2, cells := 1, slots := 10, locals := 29 } : Room).cells ({ frames := 2, cells := 1, slots := 10, locals := 29 } : Room).slots) := by
  refine MetFree.of_bodySF (plainFor_of_name pn_9) hisR ?_
  intro p e s m args below meth c s₁ Bd hml0 hP hK
  obtain ⟨rfl, hZ, hh⟩ := hP
  have hx := Bd.exec
  have hby := Bd.bytes
  have hml : c.maxLocals = 1 := hml0
  have hown : s.vm.findClass "java/util/ArrayList" = some m.cls := findClass_of_methodNamed Bd.named
  have hnm := (name_of_methodNamed Bd.named Bd.method).1
  have X0 : Stand p l e ({ frames := 2, cells := 1, slots := 10, locals := 29 } : Room) s m #[(.ref a0x)] below meth c s₁ [] 0 0 := Stand.of_body Bd
  have e0 : s₁.heap = h0 := by rw [← hh, Bd.state]; rfl
  have N0 := Fr.nil n0
  have K0 : Keep h0 h0 [a0x] := Keep.refl h0 [a0x]
  have pre0 : ∀ t, Steps p.tables e below (s₁.setTop (mkF m 0 #[.val (.ref a0x)] [])) t → Steps p.tables e below (s₁.setTop (entryFrame m #[(.ref a0x)] 1)) t := fun t k => castTop (ef_9 m a0x) k
  obtain ⟨T1, X1, e1, st1⟩ := getF X0 hx hZ hown (host := "") (Or.inl (hw _ (List.mem_of_getElem? (i := 57) rfl))) Via.refl e0 FS (g := (mkF m 2 #[.val (.ref a0x)] [(.ref a0x), (.ref a0x)])) rfl rfl (hb hby d9_2)
  obtain ⟨cq2, qv2, qv2'⟩ := E0x.cell
  obtain ⟨_, _, ⟨T2, L2, k2, n2⟩, -, X2, ⟨Lc2, hQ2, l2, y2, z2⟩, st2⟩ := X1.privateBack hx (y := (⟨"java/util/ArrayList", "grow", "(I)[Ljava/lang/Object;"⟩ : MethodName)) hown (mvT hZ (hw _ (List.mem_of_getElem? (i := 69) rfl))) (mvT hZ (hw _ (List.mem_of_getElem? (i := 70) rfl))) (mvT hZ (hw _ (List.mem_of_getElem? (i := 72) rfl))) (Cond.privateMethod_at (mvP hZ (hw _ (List.mem_of_getElem? (i := 71) rfl)) (args := #[]))) (mvT hZ (hw _ (List.mem_of_getElem? (i := 73) rfl))) (by decide) (backOf (W := 0) (rm_growi l Z a0 hw [] a0x (1 : Int32) w_D kd vsd dd h0 n0 Z0 E0x g0x FE FS S_D VD neD (by decide)) hZ (hw _ (List.mem_of_getElem? (i := 73) rfl)) (hw _ (List.mem_of_getElem? (i := 24) rfl)) (by decide) (by decide)) (g := (mkF m 7 #[.val (.ref a0x)] [(.int (1 : Int32)), (.ref a0x)])) rfl (by rw [hml]; rfl) (Steps.refl _) (a := a0x) (by rw [e1]; exact qv2) qv2' (argsL := [(.int (1 : Int32))]) (rest := []) (lenOf pd_8 rfl) rfl (by show 2 * 0 + _ ≤ _; exact Nat.le_of_eq rfl) (hb hby d9_7) (fun _ _ => ⟨rfl, e1, (by decide : 0 + 1 ≤ _), (by decide : 0 + 10 ≤ _)⟩)
  dsimp only [Pt.U, Pt.locs, Pt.cells, Pt.slots] at X2 l2 y2 z2 st2 hQ2
  subst l2 y2 z2
  obtain ⟨bx2, rfl, N2q, x2c0, x2c1, x2c2, x2c3, x2c4, x2c5⟩ := hQ2
  have N2 := Fr.app N0 N2q
  have ne_a0x_bx2 : a0x ≠ bx2 := Nat.ne_of_lt (Nat.lt_of_lt_of_le E0x.lt x2c2)
  have ne_w_D_bx2 : w_D ≠ bx2 := Nat.ne_of_lt (Nat.lt_of_lt_of_le VD.lt x2c2)
  have E0x_2 : Exa Z T2.heap a0x "java/util/ArrayList" := E0x.keep x2c0
  have VD_2 : Arv Z T2.heap w_D kd (.object "java/lang/Object") (0 : Int32) vsd dd := VD.keep x2c0 (ninS (Ne.symm neD) nin0)
  have Z2 : n0 ≤ T2.heap.size := Nat.le_trans Z0 x2c0.1
  have K2 : Keep h0 T2.heap [a0x] := K0.trans x2c0 (allS (P := fun x => x ∈ [a0x] ∨ h0.size ≤ x) (Or.inl (List.mem_of_getElem? (i := 0) rfl)) all0)
  obtain ⟨kq2, Vq2, Oq2⟩ := x2c5
  obtain ⟨fs, hr, hrun, hended, hW, hsame⟩ := X2.leave (v := some (.ref bx2)) (fun h => by rw [Bd.returns] at h; cases h)
  refine ⟨_, _, pre0 _ ?_, hrun, hended, _, _, rfl, ?_, ⟨_, rfl⟩, hW, hsame.mono (by decide) (by decide)⟩
  · show Steps p.tables e below (s₁.setTop (mkF m 0 #[.val (.ref a0x)] [])) _
    refine XS.aloadN X0.here hx rfl (hb hby d9_0) rfl rfl ?_
    show Steps p.tables e below (s₁.setTop (mkF m 1 #[.val (.ref a0x)] [(.ref a0x)])) _
    refine XS.aloadN X0.here hx rfl (hb hby d9_1) rfl rfl ?_
    show Steps p.tables e below (s₁.setTop (mkF m 2 #[.val (.ref a0x)] [(.ref a0x), (.ref a0x)])) _
    refine st1 _ ?_
    show Steps p.tables e below (T1.setTop (mkF m 5 #[.val (.ref a0x)] [(.int (0 : Int32)), (.ref a0x)])) _
    refine XS.iconst X1.here hx rfl (hb hby d9_5) ?_
    show Steps p.tables e below (T1.setTop (mkF m 6 #[.val (.ref a0x)] [(.int (1 : Int32)), (.int (0 : Int32)), (.ref a0x)])) _
    refine XS.iadd X1.here hx rfl (hb hby d9_6) rfl ?_
    show Steps p.tables e below (T1.setTop (mkF m 7 #[.val (.ref a0x)] [(.int (1 : Int32)), (.ref a0x)])) _
    refine st2.trans ?_
    show Steps p.tables e below (T2.setTop (mkF m 10 #[.val (.ref a0x)] [(.ref bx2)])) _
    exact retOut X2 hx Bd.returns (by rfl) (Or.inr (Or.inr (Or.inr (Or.inr ⟨rfl, rfl, rfl⟩)))) (hb hby d9_10) hr
  · show Q_rm_grow Z a0x w_D kd vsd dd h0 n0 _ T2.heap _
    exact ⟨bx2, rfl, N2, K2, x2c1, (Nat.le_trans K0.1 x2c2), x2c3, x2c4, ⟨kq2, Vq2, Oq2⟩⟩
theorem d8_0 : decode jdk_38_method_24_code 0 = .ok (.iload_n 3, 1) := by decide +kernel
theorem d8_1 : decode jdk_38_method_24_code 1 = .ok (.aload_n 2, 1) := by decide +kernel
theorem d8_2 : decode jdk_38_method_24_code 2 = .ok (.arraylength, 1) := by decide +kernel
theorem d8_3 : decode jdk_38_method_24_code 3 = .ok (.if_icmp .ne 8, 3) := by decide +kernel
theorem d8_6 : decode jdk_38_method_24_code 6 = .ok (.aload_n 0, 1) := by decide +kernel
theorem d8_7 : decode jdk_38_method_24_code 7 = .ok (.invokevirtual 129, 3) := by decide +kernel
theorem pd_9 : parseMethodDescriptor "()[Ljava/lang/Object;" = some ⟨[], some (.array (.object "java/lang/Object"))⟩ := by decide +kernel
theorem d8_10 : decode jdk_38_method_24_code 10 = .ok (.astore_n 2, 1) := by decide +kernel
theorem d8_11 : decode jdk_38_method_24_code 11 = .ok (.aload_n 2, 1) := by decide +kernel
theorem d8_12 : decode jdk_38_method_24_code 12 = .ok (.iload_n 3, 1) := by decide +kernel
theorem d8_13 : decode jdk_38_method_24_code 13 = .ok (.aload_n 1, 1) := by decide +kernel
theorem d8_14 : decode jdk_38_method_24_code 14 = .ok (.aastore, 1) := by decide +kernel
theorem d8_15 : decode jdk_38_method_24_code 15 = .ok (.aload_n 0, 1) := by decide +kernel
theorem d8_16 : decode jdk_38_method_24_code 16 = .ok (.iload_n 3, 1) := by decide +kernel
theorem d8_17 : decode jdk_38_method_24_code 17 = .ok (.iconst 1, 1) := by decide +kernel
theorem d8_18 : decode jdk_38_method_24_code 18 = .ok (.iadd, 1) := by decide +kernel
theorem d8_19 : decode jdk_38_method_24_code 19 = .ok (.putfield 48, 3) := by decide +kernel
theorem d8_22 : decode jdk_38_method_24_code 22 = .ok (.return_, 1) := by decide +kernel
theorem ef_8 (m : MethodId) (x0 : Addr) (x1 : Addr) (x2 : Addr) (x3 : Int32) : entryFrame m #[(.ref x0), (.ref x1), (.ref x2), (.int x3)] 4 = mkF m 0 #[.val (.ref x0), .val (.ref x1), .val (.ref x2), .val (.int x3)] [] := by first | (simp [entryFrame, mkF, argsToLocals, Value.category]; done) | rfl
def Q_rm_add3 (Z : State) (a0x : Addr) (a1x : Addr) (w_D : Addr) (p1 : Int32) (kd : ClassId) (vsd : List Value) (dd : Value) (h0 : Heap) (n0 : Nat) (v : Option Value) (h : Heap) (L : List Loc) : Prop := v = none ∧ Fr n0 L ∧ Keep h0 h [a0x] ∧ Fld Z h a0x "java/util/ArrayList" "size" "I" (.int (1 : Int32)) ∧ (∃ (b : Addr) (kq : ClassId), n0 ≤ b ∧ h0.size ≤ b ∧ Fld Z h a0x "java/util/ArrayList" "elementData" "[Ljava/lang/Object;" (.ref b) ∧ Arv Z h b kq (.object "java/lang/Object") (10 : Int32) [(.ref a1x), .null, .null, .null, .null, .null, .null, .null, .null, .null] .null)
set_option maxRecDepth 65536 in
set_option maxHeartbeats 40000000 in
theorem rm_add3 (l : Launch) (Z : State) (a0 : Array Value) (hw : ∀ d ∈ tables_1, d.before a0 Z = true) (ws : List Jvm.Cond) (a0x : Addr) (a1x : Addr) (w_D : Addr) (p1 : Int32) (kd : ClassId) (vsd : List Value) (dd : Value) (h0 : Heap) (n0 : Nat) (Z0 : n0 ≤ h0.size) (E0x : Exa Z h0 a0x "java/util/ArrayList") (g0x : n0 ≤ a0x) (FE : Fld Z h0 a0x "java/util/ArrayList" "elementData" "[Ljava/lang/Object;" (.ref w_D)) (FS : Fld Z h0 a0x "java/util/ArrayList" "size" "I" (.int (0 : Int32))) (S_D : Sta Z h0 "java/util/ArrayList" "DEFAULTCAPACITY_EMPTY_ELEMENTDATA" "[Ljava/lang/Object;" (.ref w_D)) (VD : Arv Z h0 w_D kd (.object "java/lang/Object") (0 : Int32) vsd dd) (neD : a0x ≠ w_D) (E1x : Exa Z h0 a1x "java/lang/String") (hp : p1 = (0 : Int32)) :
    MetFree l (⟨"java/util/ArrayList", "add", "(Ljava/lang/Object;[Ljava/lang/Object;I)V"⟩ : MethodName) (head1 (Jvm.Cond.code (⟨"java/util/ArrayList", "add", "(Ljava/lang/Object;[Ljava/lang/Object;I)V"⟩ : MethodName) jdk_38_method_24_code 4 none :: ws) ({ frames := 3, cells := 1, slots := 10, locals := 41 } : Room)) (fun a U => a = #[(.ref a0x), (.ref a1x), (.ref w_D), (.int p1)] ∧ Z.Warmed39 U.vm ∧ U.heap = h0) (fun _ _ _ _ _ => True) (fun _ U o U' => ∃ v L, o = .returned v ∧ Q_rm_add3 Z a0x a1x w_D p1 kd vsd dd h0 n0 v U'.heap L ∧ FrameEnd U o U' L ({ frames := 3, cells := 1, slots := 10, locals := 41 } : Room).cells ({ frames := 3, cells := 1, slots := 10, locals := 41 } : Room).slots) := by
  refine MetFree.of_bodySF (plainFor_of_name pn_9) hisR ?_
  intro p e s m args below meth c s₁ Bd hml0 hP hK
  obtain ⟨rfl, hZ, hh⟩ := hP
  have hx := Bd.exec
  have hby := Bd.bytes
  have hml : c.maxLocals = 4 := hml0
  have hown : s.vm.findClass "java/util/ArrayList" = some m.cls := findClass_of_methodNamed Bd.named
  have hnm := (name_of_methodNamed Bd.named Bd.method).1
  have X0 : Stand p l e ({ frames := 3, cells := 1, slots := 10, locals := 41 } : Room) s m #[(.ref a0x), (.ref a1x), (.ref w_D), (.int p1)] below meth c s₁ [] 0 0 := Stand.of_body Bd
  have e0 : s₁.heap = h0 := by rw [← hh, Bd.state]; rfl
  have N0 := Fr.nil n0
  have K0 : Keep h0 h0 [a0x] := Keep.refl h0 [a0x]
  have pre0 : ∀ t, Steps p.tables e below (s₁.setTop (mkF m 0 #[.val (.ref a0x), .val (.ref a1x), .val (.ref w_D), .val (.int p1)] [])) t → Steps p.tables e below (s₁.setTop (entryFrame m #[(.ref a0x), (.ref a1x), (.ref w_D), (.int p1)] 4)) t := fun t k => castTop (ef_8 m a0x a1x w_D p1) k
  obtain ⟨cl1, Ar1, qk1, S1, N1', H1, G1⟩ := (id VD)
  obtain ⟨cq2, qv2, qv2'⟩ := E0x.cell
  obtain ⟨_, _, ⟨T2, L2, k2, n2⟩, -, X2, ⟨Lc2, hQ2, l2, y2, z2⟩, st2⟩ := X0.privateBack hx (y := (⟨"java/util/ArrayList", "grow", "()[Ljava/lang/Object;"⟩ : MethodName)) hown (mvT hZ (hw _ (List.mem_of_getElem? (i := 64) rfl))) (mvT hZ (hw _ (List.mem_of_getElem? (i := 65) rfl))) (mvT hZ (hw _ (List.mem_of_getElem? (i := 67) rfl))) (Cond.privateMethod_at (mvP hZ (hw _ (List.mem_of_getElem? (i := 66) rfl)) (args := #[]))) (mvT hZ (hw _ (List.mem_of_getElem? (i := 68) rfl))) (by decide) (backOf (W := 0) (rm_grow l Z a0 hw [] a0x w_D kd vsd dd h0 n0 Z0 E0x g0x FE FS S_D VD neD) hZ (hw _ (List.mem_of_getElem? (i := 68) rfl)) (hw _ (List.mem_of_getElem? (i := 24) rfl)) (by decide) (by decide)) (g := (mkF m 7 #[.val (.ref a0x), .val (.ref a1x), .val (.ref w_D), .val (.int (0 : Int32))] [(.ref a0x)])) rfl (by rw [hml]; rfl) (Steps.refl _) (a := a0x) (by rw [e0]; exact qv2) qv2' (argsL := []) (rest := []) (lenOf pd_9 rfl) rfl (by show 2 * 0 + _ ≤ _; exact Nat.le_of_eq rfl) (hb hby d8_7) (fun _ _ => ⟨rfl, e0, (by decide : 0 + 1 ≤ _), (by decide : 0 + 10 ≤ _)⟩)
  dsimp only [Pt.U, Pt.locs, Pt.cells, Pt.slots] at X2 l2 y2 z2 st2 hQ2
  subst l2 y2 z2
  obtain ⟨bx2, rfl, N2q, x2c0, x2c1, x2c2, x2c3, x2c4, x2c5⟩ := hQ2
  have N2 := Fr.app N0 N2q
  have ne_a0x_bx2 : a0x ≠ bx2 := Nat.ne_of_lt (Nat.lt_of_lt_of_le E0x.lt x2c2)
  have ne_w_D_bx2 : w_D ≠ bx2 := Nat.ne_of_lt (Nat.lt_of_lt_of_le VD.lt x2c2)
  have ne_a1x_bx2 : a1x ≠ bx2 := Nat.ne_of_lt (Nat.lt_of_lt_of_le E1x.lt x2c2)
  have E0x_2 : Exa Z T2.heap a0x "java/util/ArrayList" := E0x.keep x2c0
  have VD_2 : Arv Z T2.heap w_D kd (.object "java/lang/Object") (0 : Int32) vsd dd := VD.keep x2c0 (ninS (Ne.symm neD) nin0)
  have E1x_2 : Exa Z T2.heap a1x "java/lang/String" := E1x.keep x2c0
  have Z2 : n0 ≤ T2.heap.size := Nat.le_trans Z0 x2c0.1
  have K2 : Keep h0 T2.heap [a0x] := K0.trans x2c0 (allS (P := fun x => x ∈ [a0x] ∨ h0.size ≤ x) (Or.inl (List.mem_of_getElem? (i := 0) rfl)) all0)
  obtain ⟨kq2, Vq2, Oq2⟩ := x2c5
  obtain ⟨cl3, Ar3, qk3, S3, N3', H3, G3⟩ := (id Vq2)
  have hin3 : ¬ ((0 : Int32) < 0 ∨ cl3.slots.size ≤ ((0 : Int32)).toNatClampNeg) := inb_of S3 ⟨by decide, by decide⟩
  obtain ⟨T4, h4, X4, e4, W4, st4⟩ := stR X2 hx hZ rfl Ar3 (j := (0 : Int32)) hin3 rfl (Sto.ofV Ar3 qk3 Oq2 (Ins.of_exa E1x_2 (hw _ (List.mem_of_getElem? (i := 80) rfl)))) (g := (mkF m 14 #[.val (.ref a0x), .val (.ref a1x), .val (.ref bx2), .val (.int (0 : Int32))] [(.ref a1x), (.int (0 : Int32)), (.ref bx2)])) rfl rfl (hb hby d8_14)
  have V4 : Arv Z h4 bx2 kq2 (.object "java/lang/Object") (10 : Int32) [(.ref a1x), .null, .null, .null, .null, .null, .null, .null, .null, .null] .null := Arv.set Ar3 qk3 S3 N3' H3 G3 rfl W4 0 rfl (Nat.le_of_ble_eq_true rfl)
  have N4 := Fr.snoc X4 N2 x2c1
  have E0x_4 : Exa Z h4 a0x "java/util/ArrayList" := E0x_2.wr W4
  have VD_4 : Arv Z h4 w_D kd (.object "java/lang/Object") (0 : Int32) vsd dd := VD_2.other W4 ne_w_D_bx2
  have E1x_4 : Exa Z h4 a1x "java/lang/String" := E1x_2.wr W4
  have x2c3_4 : Fld Z h4 a0x "java/util/ArrayList" "elementData" "[Ljava/lang/Object;" (.ref bx2) := x2c3.other W4 (Or.inl ne_a0x_bx2)
  have x2c4_4 : Fld Z h4 a0x "java/util/ArrayList" "size" "I" (.int (0 : Int32)) := x2c4.other W4 (Or.inl ne_a0x_bx2)
  have Z4 : n0 ≤ h4.size := Nat.le_trans Z2 (Keep.of_wr W4).1
  have K4 : Keep h0 h4 [a0x] := K2.wr W4 (Or.inr (Nat.le_trans K0.1 x2c2))
  obtain ⟨T5, h5, X5, e5, W5, st5⟩ := putF X4 hx hZ hown (host := "") (Or.inl (hw _ (List.mem_of_getElem? (i := 57) rfl))) Via.refl e4 x2c4_4 E0x_4 (Or.inl (hw _ (List.mem_of_getElem? (i := 58) rfl))) (hw _ (List.mem_of_getElem? (i := 23) rfl)) (ty := .int) (by decide) rfl rfl (g := (mkF m 19 #[.val (.ref a0x), .val (.ref a1x), .val (.ref bx2), .val (.int (0 : Int32))] [(.int (1 : Int32)), (.ref a0x)])) rfl rfl (hb hby d8_19)
  have N5 := Fr.snoc X5 N4 g0x
  have Fw5 : Fld Z h5 a0x "java/util/ArrayList" "size" "I" (.int (1 : Int32)) := x2c4_4.same W5
  have E0x_5 : Exa Z h5 a0x "java/util/ArrayList" := E0x_4.wr W5
  have VD_5 : Arv Z h5 w_D kd (.object "java/lang/Object") (0 : Int32) vsd dd := VD_4.other W5 (Ne.symm neD)
  have E1x_5 : Exa Z h5 a1x "java/lang/String" := E1x_4.wr W5
  have x2c3_5 : Fld Z h5 a0x "java/util/ArrayList" "elementData" "[Ljava/lang/Object;" (.ref bx2) := x2c3_4.other W5 (Or.inr (slot_ne (Or.inl (hw _ (List.mem_of_getElem? (i := 45) rfl))) (Or.inl (hw _ (List.mem_of_getElem? (i := 58) rfl))) (by decide) (t := (.array (.object "java/lang/Object"))) (t' := .int) (by decide) (by decide)))
  have V4_5 : Arv Z h5 bx2 kq2 (.object "java/lang/Object") (10 : Int32) [(.ref a1x), .null, .null, .null, .null, .null, .null, .null, .null, .null] .null := V4.other W5 (Ne.symm ne_a0x_bx2)
  have Z5 : n0 ≤ h5.size := Nat.le_trans Z4 (Keep.of_wr W5).1
  have K5 : Keep h0 h5 [a0x] := K4.wr W5 (Or.inl (List.mem_of_getElem? (i := 0) rfl))
  obtain ⟨fs, hr, hrun, hended, hW, hsame⟩ := X5.leave (v := none) (fun _ => rfl)
  refine ⟨_, _, pre0 _ ?_, hrun, hended, _, _, rfl, ?_, ⟨_, rfl⟩, hW, hsame.mono (by decide) (by decide)⟩
  · show Steps p.tables e below (s₁.setTop (mkF m 0 #[.val (.ref a0x), .val (.ref a1x), .val (.ref w_D), .val (.int p1)] [])) _
    rw [hp]
    show Steps p.tables e below (s₁.setTop (mkF m 0 #[.val (.ref a0x), .val (.ref a1x), .val (.ref w_D), .val (.int (0 : Int32))] [])) _
    refine XS.iloadN X0.here hx rfl (hb hby d8_0) rfl ?_
    show Steps p.tables e below (s₁.setTop (mkF m 1 #[.val (.ref a0x), .val (.ref a1x), .val (.ref w_D), .val (.int (0 : Int32))] [(.int (0 : Int32))])) _
    refine XS.aloadN X0.here hx rfl (hb hby d8_1) rfl rfl ?_
    show Steps p.tables e below (s₁.setTop (mkF m 2 #[.val (.ref a0x), .val (.ref a1x), .val (.ref w_D), .val (.int (0 : Int32))] [(.ref w_D), (.int (0 : Int32))])) _
    refine X0.arraylength hx (by rw [e0]; exact Ar1.1) (State.isArrayOf_alike hZ.alike Ar1.2.1) (g := (mkF m 2 #[.val (.ref a0x), .val (.ref a1x), .val (.ref w_D), .val (.int (0 : Int32))] [(.ref w_D), (.int (0 : Int32))])) rfl rfl (hb hby d8_2) _ ?_
    rw [len_of S1 N1']
    show Steps p.tables e below (s₁.setTop (mkF m 3 #[.val (.ref a0x), .val (.ref a1x), .val (.ref w_D), .val (.int (0 : Int32))] [(.int (0 : Int32)), (.int (0 : Int32))])) _
    refine XS.icmpNo X0.here hx rfl (hb hby d8_3) rfl (teq (by decide : (0 : Int32) = (0 : Int32))).2 ?_
    show Steps p.tables e below (s₁.setTop (mkF m 6 #[.val (.ref a0x), .val (.ref a1x), .val (.ref w_D), .val (.int (0 : Int32))] [])) _
    refine XS.aloadN X0.here hx rfl (hb hby d8_6) rfl rfl ?_
    show Steps p.tables e below (s₁.setTop (mkF m 7 #[.val (.ref a0x), .val (.ref a1x), .val (.ref w_D), .val (.int (0 : Int32))] [(.ref a0x)])) _
    refine st2.trans ?_
    show Steps p.tables e below (T2.setTop (mkF m 10 #[.val (.ref a0x), .val (.ref a1x), .val (.ref w_D), .val (.int (0 : Int32))] [(.ref bx2)])) _
    refine XS.astoreN X2.here hx rfl (hb hby d8_10) rfl rfl (l' := #[.val (.ref a0x), .val (.ref a1x), .val (.ref bx2), .val (.int (0 : Int32))]) rfl ?_
    show Steps p.tables e below (T2.setTop (mkF m 11 #[.val (.ref a0x), .val (.ref a1x), .val (.ref bx2), .val (.int (0 : Int32))] [])) _
    refine XS.aloadN X2.here hx rfl (hb hby d8_11) rfl rfl ?_
    show Steps p.tables e below (T2.setTop (mkF m 12 #[.val (.ref a0x), .val (.ref a1x), .val (.ref bx2), .val (.int (0 : Int32))] [(.ref bx2)])) _
    refine XS.iloadN X2.here hx rfl (hb hby d8_12) rfl ?_
    show Steps p.tables e below (T2.setTop (mkF m 13 #[.val (.ref a0x), .val (.ref a1x), .val (.ref bx2), .val (.int (0 : Int32))] [(.int (0 : Int32)), (.ref bx2)])) _
    refine XS.aloadN X2.here hx rfl (hb hby d8_13) rfl rfl ?_
    show Steps p.tables e below (T2.setTop (mkF m 14 #[.val (.ref a0x), .val (.ref a1x), .val (.ref bx2), .val (.int (0 : Int32))] [(.ref a1x), (.int (0 : Int32)), (.ref bx2)])) _
    refine st4 _ ?_
    show Steps p.tables e below (T4.setTop (mkF m 15 #[.val (.ref a0x), .val (.ref a1x), .val (.ref bx2), .val (.int (0 : Int32))] [])) _
    refine XS.aloadN X4.here hx rfl (hb hby d8_15) rfl rfl ?_
    show Steps p.tables e below (T4.setTop (mkF m 16 #[.val (.ref a0x), .val (.ref a1x), .val (.ref bx2), .val (.int (0 : Int32))] [(.ref a0x)])) _
    refine XS.iloadN X4.here hx rfl (hb hby d8_16) rfl ?_
    show Steps p.tables e below (T4.setTop (mkF m 17 #[.val (.ref a0x), .val (.ref a1x), .val (.ref bx2), .val (.int (0 : Int32))] [(.int (0 : Int32)), (.ref a0x)])) _
    refine XS.iconst X4.here hx rfl (hb hby d8_17) ?_
    show Steps p.tables e below (T4.setTop (mkF m 18 #[.val (.ref a0x), .val (.ref a1x), .val (.ref bx2), .val (.int (0 : Int32))] [(.int (1 : Int32)), (.int (0 : Int32)), (.ref a0x)])) _
    refine XS.iadd X4.here hx rfl (hb hby d8_18) rfl ?_
    show Steps p.tables e below (T4.setTop (mkF m 19 #[.val (.ref a0x), .val (.ref a1x), .val (.ref bx2), .val (.int (0 : Int32))] [(.int (1 : Int32)), (.ref a0x)])) _
    refine st5 _ ?_
    show Steps p.tables e below (T5.setTop (mkF m 22 #[.val (.ref a0x), .val (.ref a1x), .val (.ref bx2), .val (.int (0 : Int32))] [])) _
    exact X5.returnOut hx Bd.returns (hb hby d8_22) hr
  · show Q_rm_add3 Z a0x a1x w_D p1 kd vsd dd h0 n0 _ T5.heap _
    rw [e5]
    exact ⟨rfl, N5, K5, Fw5, ⟨bx2, kq2, x2c1, (Nat.le_trans K0.1 x2c2), x2c3_5, V4_5⟩⟩
theorem d7_0 : decode jdk_38_method_25_code 0 = .ok (.aload_n 0, 1) := by decide +kernel
theorem d7_1 : decode jdk_38_method_25_code 1 = .ok (.dup, 1) := by decide +kernel
theorem d7_2 : decode jdk_38_method_25_code 2 = .ok (.getfield 63, 3) := by decide +kernel
theorem d7_5 : decode jdk_38_method_25_code 5 = .ok (.iconst 1, 1) := by decide +kernel
theorem d7_6 : decode jdk_38_method_25_code 6 = .ok (.iadd, 1) := by decide +kernel
theorem d7_7 : decode jdk_38_method_25_code 7 = .ok (.putfield 63, 3) := by decide +kernel
theorem d7_10 : decode jdk_38_method_25_code 10 = .ok (.aload_n 0, 1) := by decide +kernel
theorem d7_11 : decode jdk_38_method_25_code 11 = .ok (.aload_n 1, 1) := by decide +kernel
theorem d7_12 : decode jdk_38_method_25_code 12 = .ok (.aload_n 0, 1) := by decide +kernel
theorem d7_13 : decode jdk_38_method_25_code 13 = .ok (.getfield 9, 3) := by decide +kernel
theorem d7_16 : decode jdk_38_method_25_code 16 = .ok (.aload_n 0, 1) := by decide +kernel
theorem d7_17 : decode jdk_38_method_25_code 17 = .ok (.getfield 48, 3) := by decide +kernel
theorem d7_20 : decode jdk_38_method_25_code 20 = .ok (.invokevirtual 131, 3) := by decide +kernel
theorem pd_10 : parseMethodDescriptor "(Ljava/lang/Object;[Ljava/lang/Object;I)V" = some ⟨[(.object "java/lang/Object"), (.array (.object "java/lang/Object")), .int], none⟩ := by decide +kernel
theorem d7_23 : decode jdk_38_method_25_code 23 = .ok (.iconst 1, 1) := by decide +kernel
theorem d7_24 : decode jdk_38_method_25_code 24 = .ok (.ireturn, 1) := by decide +kernel
theorem ef_7 (m : MethodId) (x0 : Addr) (x1 : Addr) : entryFrame m #[(.ref x0), (.ref x1)] 2 = mkF m 0 #[.val (.ref x0), .val (.ref x1)] [] := by first | (simp [entryFrame, mkF, argsToLocals, Value.category]; done) | rfl
def Q_rm_add (Z : State) (a0x : Addr) (a1x : Addr) (w_D : Addr) (kd : ClassId) (vsd : List Value) (dd : Value) (h0 : Heap) (n0 : Nat) (v : Option Value) (h : Heap) (L : List Loc) : Prop := v = some (.int (1 : Int32)) ∧ Fr n0 L ∧ Keep h0 h [a0x] ∧ Fld Z h a0x "java/util/ArrayList" "size" "I" (.int (1 : Int32)) ∧ (∃ (b : Addr) (kq : ClassId), n0 ≤ b ∧ h0.size ≤ b ∧ Fld Z h a0x "java/util/ArrayList" "elementData" "[Ljava/lang/Object;" (.ref b) ∧ Arv Z h b kq (.object "java/lang/Object") (10 : Int32) [(.ref a1x), .null, .null, .null, .null, .null, .null, .null, .null, .null] .null)
set_option maxRecDepth 65536 in
set_option maxHeartbeats 40000000 in
theorem rm_add (l : Launch) (Z : State) (a0 : Array Value) (hw : ∀ d ∈ tables_1, d.before a0 Z = true) (ws : List Jvm.Cond) (a0x : Addr) (a1x : Addr) (w_D : Addr) (kd : ClassId) (vsd : List Value) (dd : Value) (h0 : Heap) (n0 : Nat) (Z0 : n0 ≤ h0.size) (E0x : Exa Z h0 a0x "java/util/ArrayList") (g0x : n0 ≤ a0x) (FE : Fld Z h0 a0x "java/util/ArrayList" "elementData" "[Ljava/lang/Object;" (.ref w_D)) (FS : Fld Z h0 a0x "java/util/ArrayList" "size" "I" (.int (0 : Int32))) (S_D : Sta Z h0 "java/util/ArrayList" "DEFAULTCAPACITY_EMPTY_ELEMENTDATA" "[Ljava/lang/Object;" (.ref w_D)) (VD : Arv Z h0 w_D kd (.object "java/lang/Object") (0 : Int32) vsd dd) (neD : a0x ≠ w_D) (E1x : Exa Z h0 a1x "java/lang/String") (FM : Fld Z h0 a0x "java/util/AbstractList" "modCount" "I" (.int (0 : Int32))) :
    MetFree l (⟨"java/util/ArrayList", "add", "(Ljava/lang/Object;)Z"⟩ : MethodName) (head1 (Jvm.Cond.code (⟨"java/util/ArrayList", "add", "(Ljava/lang/Object;)Z"⟩ : MethodName) jdk_38_method_25_code 2 (some .boolean) :: ws) ({ frames := 4, cells := 1, slots := 10, locals := 56 } : Room)) (fun a U => a = #[(.ref a0x), (.ref a1x)] ∧ Z.Warmed39 U.vm ∧ U.heap = h0) (fun _ _ _ _ _ => True) (fun _ U o U' => ∃ v L, o = .returned v ∧ Q_rm_add Z a0x a1x w_D kd vsd dd h0 n0 v U'.heap L ∧ FrameEnd U o U' L ({ frames := 4, cells := 1, slots := 10, locals := 56 } : Room).cells ({ frames := 4, cells := 1, slots := 10, locals := 56 } : Room).slots) := by
  refine MetFree.of_bodySF (plainFor_of_name pn_9) hisR ?_
  intro p e s m args below meth c s₁ Bd hml0 hP hK
  obtain ⟨rfl, hZ, hh⟩ := hP
  have hx := Bd.exec
  have hby := Bd.bytes
  have hml : c.maxLocals = 2 := hml0
  have hown : s.vm.findClass "java/util/ArrayList" = some m.cls := findClass_of_methodNamed Bd.named
  have hnm := (name_of_methodNamed Bd.named Bd.method).1
  have X0 : Stand p l e ({ frames := 4, cells := 1, slots := 10, locals := 56 } : Room) s m #[(.ref a0x), (.ref a1x)] below meth c s₁ [] 0 0 := Stand.of_body Bd
  have e0 : s₁.heap = h0 := by rw [← hh, Bd.state]; rfl
  have N0 := Fr.nil n0
  have K0 : Keep h0 h0 [a0x] := Keep.refl h0 [a0x]
  have pre0 : ∀ t, Steps p.tables e below (s₁.setTop (mkF m 0 #[.val (.ref a0x), .val (.ref a1x)] [])) t → Steps p.tables e below (s₁.setTop (entryFrame m #[(.ref a0x), (.ref a1x)] 2)) t := fun t k => castTop (ef_7 m a0x a1x) k
  obtain ⟨T1, X1, e1, st1⟩ := getF X0 hx hZ hown (host := "") (Or.inl (hw _ (List.mem_of_getElem? (i := 55) rfl))) (Via.of (hw _ (List.mem_of_getElem? (i := 56) rfl))) e0 FM (g := (mkF m 2 #[.val (.ref a0x), .val (.ref a1x)] [(.ref a0x), (.ref a0x)])) rfl rfl (hb hby d7_2)
  obtain ⟨T2, h2, X2, e2, W2, st2⟩ := putF X1 hx hZ hown (host := "") (Or.inl (hw _ (List.mem_of_getElem? (i := 55) rfl))) (Via.of (hw _ (List.mem_of_getElem? (i := 56) rfl))) e1 FM E0x (Or.inl (hw _ (List.mem_of_getElem? (i := 42) rfl))) (hw _ (List.mem_of_getElem? (i := 23) rfl)) (ty := .int) (by decide) rfl rfl (g := (mkF m 7 #[.val (.ref a0x), .val (.ref a1x)] [(.int (1 : Int32)), (.ref a0x)])) rfl rfl (hb hby d7_7)
  have N2 := Fr.snoc X2 N0 g0x
  have Fw2 : Fld Z h2 a0x "java/util/AbstractList" "modCount" "I" (.int (1 : Int32)) := FM.same W2
  have E0x_2 : Exa Z h2 a0x "java/util/ArrayList" := E0x.wr W2
  have FE_2 : Fld Z h2 a0x "java/util/ArrayList" "elementData" "[Ljava/lang/Object;" (.ref w_D) := FE.other W2 (Or.inr (slot_ne (Or.inl (hw _ (List.mem_of_getElem? (i := 45) rfl))) (Or.inl (hw _ (List.mem_of_getElem? (i := 42) rfl))) (by decide) (t := (.array (.object "java/lang/Object"))) (t' := .int) (by decide) (by decide)))
  have FS_2 : Fld Z h2 a0x "java/util/ArrayList" "size" "I" (.int (0 : Int32)) := FS.other W2 (Or.inr (slot_ne (Or.inl (hw _ (List.mem_of_getElem? (i := 58) rfl))) (Or.inl (hw _ (List.mem_of_getElem? (i := 42) rfl))) (by decide) (t := .int) (t' := .int) (by decide) (by decide)))
  have S_D_2 : Sta Z h2 "java/util/ArrayList" "DEFAULTCAPACITY_EMPTY_ELEMENTDATA" "[Ljava/lang/Object;" (.ref w_D) := S_D.wr W2
  have VD_2 : Arv Z h2 w_D kd (.object "java/lang/Object") (0 : Int32) vsd dd := VD.other W2 (Ne.symm neD)
  have E1x_2 : Exa Z h2 a1x "java/lang/String" := E1x.wr W2
  have Z2 : n0 ≤ h2.size := Nat.le_trans Z0 (Keep.of_wr W2).1
  have K2 : Keep h0 h2 [a0x] := K0.wr W2 (Or.inl (List.mem_of_getElem? (i := 0) rfl))
  obtain ⟨T3, X3, e3, st3⟩ := getF X2 hx hZ hown (host := "") (Or.inl (hw _ (List.mem_of_getElem? (i := 44) rfl))) Via.refl e2 FE_2 (g := (mkF m 13 #[.val (.ref a0x), .val (.ref a1x)] [(.ref a0x), (.ref a1x), (.ref a0x)])) rfl rfl (hb hby d7_13)
  obtain ⟨T4, X4, e4, st4⟩ := getF X3 hx hZ hown (host := "") (Or.inl (hw _ (List.mem_of_getElem? (i := 57) rfl))) Via.refl e3 FS_2 (g := (mkF m 17 #[.val (.ref a0x), .val (.ref a1x)] [(.ref a0x), (.ref w_D), (.ref a1x), (.ref a0x)])) rfl rfl (hb hby d7_17)
  obtain ⟨cq5, qv5, qv5'⟩ := E0x_2.cell
  obtain ⟨_, _, ⟨T5, L5, k5, n5⟩, -, X5, ⟨Lc5, hQ5, l5, y5, z5⟩, st5⟩ := X4.privateBack hx (y := (⟨"java/util/ArrayList", "add", "(Ljava/lang/Object;[Ljava/lang/Object;I)V"⟩ : MethodName)) hown (mvT hZ (hw _ (List.mem_of_getElem? (i := 59) rfl))) (mvT hZ (hw _ (List.mem_of_getElem? (i := 60) rfl))) (mvT hZ (hw _ (List.mem_of_getElem? (i := 62) rfl))) (Cond.privateMethod_at (mvP hZ (hw _ (List.mem_of_getElem? (i := 61) rfl)) (args := #[]))) (mvT hZ (hw _ (List.mem_of_getElem? (i := 63) rfl))) (by decide) (backOf (W := 0) (rm_add3 l Z a0 hw [] a0x a1x w_D (0 : Int32) kd vsd dd h2 n0 Z2 E0x_2 g0x FE_2 FS_2 S_D_2 VD_2 neD E1x_2 rfl) hZ (hw _ (List.mem_of_getElem? (i := 63) rfl)) (hw _ (List.mem_of_getElem? (i := 24) rfl)) (by decide) (by decide)) (g := (mkF m 20 #[.val (.ref a0x), .val (.ref a1x)] [(.int (0 : Int32)), (.ref w_D), (.ref a1x), (.ref a0x)])) rfl (by rw [hml]; rfl) (Steps.refl _) (a := a0x) (by rw [e4]; exact qv5) qv5' (argsL := [(.ref a1x), (.ref w_D), (.int (0 : Int32))]) (rest := []) (lenOf pd_10 rfl) rfl (by show 2 * 0 + _ ≤ _; exact Nat.le_of_eq rfl) (hb hby d7_20) (fun _ _ => ⟨rfl, e4, (by decide : 0 + 1 ≤ _), (by decide : 0 + 10 ≤ _)⟩)
  dsimp only [Pt.U, Pt.locs, Pt.cells, Pt.slots] at X5 l5 y5 z5 st5 hQ5
  subst l5 y5 z5
  obtain ⟨rfl, N5q, x5c0, x5c1, x5c2⟩ := hQ5
  have N5 := Fr.app N2 N5q
  obtain ⟨ab5, ak5, ag5, ah5, aF5, aV5⟩ := x5c2
  have ne_a0x_ab5 : a0x ≠ ab5 := Nat.ne_of_lt (Nat.lt_of_lt_of_le E0x_2.lt ah5)
  have ne_w_D_ab5 : w_D ≠ ab5 := Nat.ne_of_lt (Nat.lt_of_lt_of_le VD_2.lt ah5)
  have ne_a1x_ab5 : a1x ≠ ab5 := Nat.ne_of_lt (Nat.lt_of_lt_of_le E1x_2.lt ah5)
  have E0x_5 : Exa Z T5.heap a0x "java/util/ArrayList" := E0x_2.keep x5c0
  have VD_5 : Arv Z T5.heap w_D kd (.object "java/lang/Object") (0 : Int32) vsd dd := VD_2.keep x5c0 (ninS (Ne.symm neD) nin0)
  have E1x_5 : Exa Z T5.heap a1x "java/lang/String" := E1x_2.keep x5c0
  have Z5 : n0 ≤ T5.heap.size := Nat.le_trans Z2 x5c0.1
  have K5 : Keep h0 T5.heap [a0x] := K2.trans x5c0 (allS (P := fun x => x ∈ [a0x] ∨ h0.size ≤ x) (Or.inl (List.mem_of_getElem? (i := 0) rfl)) all0)
  obtain ⟨fs, hr, hrun, hended, hW, hsame⟩ := X5.leave (v := some (.int (1 : Int32))) (fun h => by rw [Bd.returns] at h; cases h)
  refine ⟨_, _, pre0 _ ?_, hrun, hended, _, _, rfl, ?_, ⟨_, rfl⟩, hW, hsame.mono (by decide) (by decide)⟩
  · show Steps p.tables e below (s₁.setTop (mkF m 0 #[.val (.ref a0x), .val (.ref a1x)] [])) _
    refine XS.aloadN X0.here hx rfl (hb hby d7_0) rfl rfl ?_
    show Steps p.tables e below (s₁.setTop (mkF m 1 #[.val (.ref a0x), .val (.ref a1x)] [(.ref a0x)])) _
    refine XS.dup X0.here hx rfl (hb hby d7_1) rfl rfl ?_
    show Steps p.tables e below (s₁.setTop (mkF m 2 #[.val (.ref a0x), .val (.ref a1x)] [(.ref a0x), (.ref a0x)])) _
    refine st1 _ ?_
    show Steps p.tables e below (T1.setTop (mkF m 5 #[.val (.ref a0x), .val (.ref a1x)] [(.int (0 : Int32)), (.ref a0x)])) _
    refine XS.iconst X1.here hx rfl (hb hby d7_5) ?_
    show Steps p.tables e below (T1.setTop (mkF m 6 #[.val (.ref a0x), .val (.ref a1x)] [(.int (1 : Int32)), (.int (0 : Int32)), (.ref a0x)])) _
    refine XS.iadd X1.here hx rfl (hb hby d7_6) rfl ?_
    show Steps p.tables e below (T1.setTop (mkF m 7 #[.val (.ref a0x), .val (.ref a1x)] [(.int (1 : Int32)), (.ref a0x)])) _
    refine st2 _ ?_
    show Steps p.tables e below (T2.setTop (mkF m 10 #[.val (.ref a0x), .val (.ref a1x)] [])) _
    refine XS.aloadN X2.here hx rfl (hb hby d7_10) rfl rfl ?_
    show Steps p.tables e below (T2.setTop (mkF m 11 #[.val (.ref a0x), .val (.ref a1x)] [(.ref a0x)])) _
    refine XS.aloadN X2.here hx rfl (hb hby d7_11) rfl rfl ?_
    show Steps p.tables e below (T2.setTop (mkF m 12 #[.val (.ref a0x), .val (.ref a1x)] [(.ref a1x), (.ref a0x)])) _
    refine XS.aloadN X2.here hx rfl (hb hby d7_12) rfl rfl ?_
    show Steps p.tables e below (T2.setTop (mkF m 13 #[.val (.ref a0x), .val (.ref a1x)] [(.ref a0x), (.ref a1x), (.ref a0x)])) _
    refine st3 _ ?_
    show Steps p.tables e below (T3.setTop (mkF m 16 #[.val (.ref a0x), .val (.ref a1x)] [(.ref w_D), (.ref a1x), (.ref a0x)])) _
    refine XS.aloadN X3.here hx rfl (hb hby d7_16) rfl rfl ?_
    show Steps p.tables e below (T3.setTop (mkF m 17 #[.val (.ref a0x), .val (.ref a1x)] [(.ref a0x), (.ref w_D), (.ref a1x), (.ref a0x)])) _
    refine st4 _ ?_
    show Steps p.tables e below (T4.setTop (mkF m 20 #[.val (.ref a0x), .val (.ref a1x)] [(.int (0 : Int32)), (.ref w_D), (.ref a1x), (.ref a0x)])) _
    refine st5.trans ?_
    show Steps p.tables e below (T5.setTop (mkF m 23 #[.val (.ref a0x), .val (.ref a1x)] [])) _
    refine XS.iconst X5.here hx rfl (hb hby d7_23) ?_
    show Steps p.tables e below (T5.setTop (mkF m 24 #[.val (.ref a0x), .val (.ref a1x)] [(.int (1 : Int32))])) _
    exact retN X5 hx (t := .boolean) Bd.returns (by simp) (hb hby d7_24) hr
  · show Q_rm_add Z a0x a1x w_D kd vsd dd h0 n0 _ T5.heap _
    exact ⟨rfl, N5, K5, x5c1, ⟨ab5, ak5, ag5, (Nat.le_trans K2.1 ah5), aF5, aV5⟩⟩
theorem d13_0 : decode jdk_38_method_8_code 0 = .ok (.aload_n 0, 1) := by decide +kernel
theorem d13_1 : decode jdk_38_method_8_code 1 = .ok (.getfield 48, 3) := by decide +kernel
theorem d13_4 : decode jdk_38_method_8_code 4 = .ok (.ireturn, 1) := by decide +kernel
theorem ef_13 (m : MethodId) (x0 : Addr) : entryFrame m #[(.ref x0)] 1 = mkF m 0 #[.val (.ref x0)] [] := by first | (simp [entryFrame, mkF, argsToLocals, Value.category]; done) | rfl
def Q_rm_size (Z : State) (a0x : Addr) (h0 : Heap) (n0 : Nat) (v : Option Value) (h : Heap) (L : List Loc) : Prop := v = some (.int (1 : Int32)) ∧ Fr n0 L ∧ h = h0
set_option maxRecDepth 65536 in
set_option maxHeartbeats 40000000 in
theorem rm_size (l : Launch) (Z : State) (a0 : Array Value) (hw : ∀ d ∈ tables_1, d.before a0 Z = true) (ws : List Jvm.Cond) (a0x : Addr) (h0 : Heap) (n0 : Nat) (Z0 : n0 ≤ h0.size) (FS : Fld Z h0 a0x "java/util/ArrayList" "size" "I" (.int (1 : Int32))) :
    MetFree l (⟨"java/util/ArrayList", "size", "()I"⟩ : MethodName) (head1 (Jvm.Cond.code (⟨"java/util/ArrayList", "size", "()I"⟩ : MethodName) jdk_38_method_8_code 1 (some .int) :: ws) ({ frames := 0, cells := 0, slots := 0, locals := 0 } : Room)) (fun a U => a = #[(.ref a0x)] ∧ Z.Warmed39 U.vm ∧ U.heap = h0) (fun _ _ _ _ _ => True) (fun _ U o U' => ∃ v L, o = .returned v ∧ Q_rm_size Z a0x h0 n0 v U'.heap L ∧ FrameEnd U o U' L ({ frames := 0, cells := 0, slots := 0, locals := 0 } : Room).cells ({ frames := 0, cells := 0, slots := 0, locals := 0 } : Room).slots) := by
  refine MetFree.of_bodySF (plainFor_of_name pn_9) hisR ?_
  intro p e s m args below meth c s₁ Bd hml0 hP hK
  obtain ⟨rfl, hZ, hh⟩ := hP
  have hx := Bd.exec
  have hby := Bd.bytes
  have hml : c.maxLocals = 1 := hml0
  have hown : s.vm.findClass "java/util/ArrayList" = some m.cls := findClass_of_methodNamed Bd.named
  have hnm := (name_of_methodNamed Bd.named Bd.method).1
  have X0 : Stand p l e ({ frames := 0, cells := 0, slots := 0, locals := 0 } : Room) s m #[(.ref a0x)] below meth c s₁ [] 0 0 := Stand.of_body Bd
  have e0 : s₁.heap = h0 := by rw [← hh, Bd.state]; rfl
  have N0 := Fr.nil n0
  have pre0 : ∀ t, Steps p.tables e below (s₁.setTop (mkF m 0 #[.val (.ref a0x)] [])) t → Steps p.tables e below (s₁.setTop (entryFrame m #[(.ref a0x)] 1)) t := fun t k => castTop (ef_13 m a0x) k
  obtain ⟨T1, X1, e1, st1⟩ := getF X0 hx hZ hown (host := "") (Or.inl (hw _ (List.mem_of_getElem? (i := 57) rfl))) Via.refl e0 FS (g := (mkF m 1 #[.val (.ref a0x)] [(.ref a0x)])) rfl rfl (hb hby d13_1)
  obtain ⟨fs, hr, hrun, hended, hW, hsame⟩ := X1.leave (v := some (.int (1 : Int32))) (fun h => by rw [Bd.returns] at h; cases h)
  refine ⟨_, _, pre0 _ ?_, hrun, hended, _, _, rfl, ?_, ⟨_, rfl⟩, hW, hsame.mono (by decide) (by decide)⟩
  · show Steps p.tables e below (s₁.setTop (mkF m 0 #[.val (.ref a0x)] [])) _
    refine XS.aloadN X0.here hx rfl (hb hby d13_0) rfl rfl ?_
    show Steps p.tables e below (s₁.setTop (mkF m 1 #[.val (.ref a0x)] [(.ref a0x)])) _
    refine st1 _ ?_
    show Steps p.tables e below (T1.setTop (mkF m 4 #[.val (.ref a0x)] [(.int (1 : Int32))])) _
    exact retI X1 hx Bd.returns (hb hby d13_4) hr
  · show Q_rm_size Z a0x h0 n0 _ T1.heap _
    rw [e1]
    exact ⟨rfl, N0, rfl⟩
theorem d17_0 : decode jdk_38_method_18_code 0 = .ok (.aload_n 0, 1) := by decide +kernel
theorem d17_1 : decode jdk_38_method_18_code 1 = .ok (.getfield 9, 3) := by decide +kernel
theorem d17_4 : decode jdk_38_method_18_code 4 = .ok (.iload_n 1, 1) := by decide +kernel
theorem d17_5 : decode jdk_38_method_18_code 5 = .ok (.aaload, 1) := by decide +kernel
theorem d17_6 : decode jdk_38_method_18_code 6 = .ok (.areturn, 1) := by decide +kernel
theorem ef_17 (m : MethodId) (x0 : Addr) (x1 : Int32) : entryFrame m #[(.ref x0), (.int x1)] 2 = mkF m 0 #[.val (.ref x0), .val (.int x1)] [] := by first | (simp [entryFrame, mkF, argsToLocals, Value.category]; done) | rfl
def Q_rm_ed (Z : State) (a0x : Addr) (p1 : Int32) (b1x : Addr) (kx : ClassId) (r1x : Addr) (h0 : Heap) (n0 : Nat) (v : Option Value) (h : Heap) (L : List Loc) : Prop := v = some (.ref r1x) ∧ Fr n0 L ∧ h = h0
set_option maxRecDepth 65536 in
set_option maxHeartbeats 40000000 in
theorem rm_ed (l : Launch) (Z : State) (a0 : Array Value) (hw : ∀ d ∈ tables_1, d.before a0 Z = true) (ws : List Jvm.Cond) (a0x : Addr) (p1 : Int32) (b1x : Addr) (kx : ClassId) (r1x : Addr) (h0 : Heap) (n0 : Nat) (Z0 : n0 ≤ h0.size) (FE : Fld Z h0 a0x "java/util/ArrayList" "elementData" "[Ljava/lang/Object;" (.ref b1x)) (VE : Arv Z h0 b1x kx (.object "java/lang/Object") (10 : Int32) [(.ref r1x), .null, .null, .null, .null, .null, .null, .null, .null, .null] .null) (hp : p1 = (0 : Int32)) :
    MetFree l (⟨"java/util/ArrayList", "elementData", "(I)Ljava/lang/Object;"⟩ : MethodName) (head1 (Jvm.Cond.code (⟨"java/util/ArrayList", "elementData", "(I)Ljava/lang/Object;"⟩ : MethodName) jdk_38_method_18_code 2 (some (.object "java/lang/Object")) :: ws) ({ frames := 0, cells := 0, slots := 0, locals := 0 } : Room)) (fun a U => a = #[(.ref a0x), (.int p1)] ∧ Z.Warmed39 U.vm ∧ U.heap = h0) (fun _ _ _ _ _ => True) (fun _ U o U' => ∃ v L, o = .returned v ∧ Q_rm_ed Z a0x p1 b1x kx r1x h0 n0 v U'.heap L ∧ FrameEnd U o U' L ({ frames := 0, cells := 0, slots := 0, locals := 0 } : Room).cells ({ frames := 0, cells := 0, slots := 0, locals := 0 } : Room).slots) := by
  refine MetFree.of_bodySF (plainFor_of_name pn_9) hisR ?_
  intro p e s m args below meth c s₁ Bd hml0 hP hK
  obtain ⟨rfl, hZ, hh⟩ := hP
  have hx := Bd.exec
  have hby := Bd.bytes
  have hml : c.maxLocals = 2 := hml0
  have hown : s.vm.findClass "java/util/ArrayList" = some m.cls := findClass_of_methodNamed Bd.named
  have hnm := (name_of_methodNamed Bd.named Bd.method).1
  have X0 : Stand p l e ({ frames := 0, cells := 0, slots := 0, locals := 0 } : Room) s m #[(.ref a0x), (.int p1)] below meth c s₁ [] 0 0 := Stand.of_body Bd
  have e0 : s₁.heap = h0 := by rw [← hh, Bd.state]; rfl
  have N0 := Fr.nil n0
  have pre0 : ∀ t, Steps p.tables e below (s₁.setTop (mkF m 0 #[.val (.ref a0x), .val (.int p1)] [])) t → Steps p.tables e below (s₁.setTop (entryFrame m #[(.ref a0x), (.int p1)] 2)) t := fun t k => castTop (ef_17 m a0x p1) k
  obtain ⟨T1, X1, e1, st1⟩ := getF X0 hx hZ hown (host := "") (Or.inl (hw _ (List.mem_of_getElem? (i := 44) rfl))) Via.refl e0 FE (g := (mkF m 1 #[.val (.ref a0x), .val (.int (0 : Int32))] [(.ref a0x)])) rfl rfl (hb hby d17_1)
  obtain ⟨cl2, Ar2, qk2, S2, N2', H2, G2⟩ := (id VE)
  have hin2 : ¬ ((0 : Int32) < 0 ∨ cl2.slots.size ≤ ((0 : Int32)).toNatClampNeg) := inb_of S2 ⟨by decide, by decide⟩
  have hat2 : cl2.slots[((0 : Int32)).toNatClampNeg]? = some (.ref r1x) := Has.at H2 hin2 rfl
  obtain ⟨fs, hr, hrun, hended, hW, hsame⟩ := X1.leave (v := some (.ref r1x)) (fun h => by rw [Bd.returns] at h; cases h)
  refine ⟨_, _, pre0 _ ?_, hrun, hended, _, _, rfl, ?_, ⟨_, rfl⟩, hW, hsame.mono (by decide) (by decide)⟩
  · show Steps p.tables e below (s₁.setTop (mkF m 0 #[.val (.ref a0x), .val (.int p1)] [])) _
    rw [hp]
    show Steps p.tables e below (s₁.setTop (mkF m 0 #[.val (.ref a0x), .val (.int (0 : Int32))] [])) _
    refine XS.aloadN X0.here hx rfl (hb hby d17_0) rfl rfl ?_
    show Steps p.tables e below (s₁.setTop (mkF m 1 #[.val (.ref a0x), .val (.int (0 : Int32))] [(.ref a0x)])) _
    refine st1 _ ?_
    show Steps p.tables e below (T1.setTop (mkF m 4 #[.val (.ref a0x), .val (.int (0 : Int32))] [(.ref b1x)])) _
    refine XS.iloadN X1.here hx rfl (hb hby d17_4) rfl ?_
    show Steps p.tables e below (T1.setTop (mkF m 5 #[.val (.ref a0x), .val (.int (0 : Int32))] [(.int (0 : Int32)), (.ref b1x)])) _
    refine X1.aaload hx (j := (0 : Int32)) (v := (.ref r1x)) (by rw [e1]; exact Ar2.1) (State.isArrayOf_alike hZ.alike Ar2.2.1) rfl Ar2.2.2 hin2 hat2 (g := (mkF m 5 #[.val (.ref a0x), .val (.int (0 : Int32))] [(.int (0 : Int32)), (.ref b1x)])) rfl rfl (hb hby d17_5) _ ?_
    show Steps p.tables e below (T1.setTop (mkF m 6 #[.val (.ref a0x), .val (.int (0 : Int32))] [(.ref r1x)])) _
    exact retOut X1 hx Bd.returns (by rfl) (Or.inr (Or.inr (Or.inr (Or.inr ⟨rfl, rfl, rfl⟩)))) (hb hby d17_6) hr
  · show Q_rm_ed Z a0x p1 b1x kx r1x h0 n0 _ T1.heap _
    rw [e1]
    exact ⟨rfl, N0, rfl⟩
theorem d14_0 : decode jdk_38_method_20_code 0 = .ok (.iload_n 1, 1) := by decide +kernel
theorem d14_1 : decode jdk_38_method_20_code 1 = .ok (.aload_n 0, 1) := by decide +kernel
theorem d14_2 : decode jdk_38_method_20_code 2 = .ok (.getfield 48, 3) := by decide +kernel
theorem d14_5 : decode jdk_38_method_20_code 5 = .ok (.invokestatic 118, 3) := by decide +kernel
theorem d14_8 : decode jdk_38_method_20_code 8 = .ok (.pop, 1) := by decide +kernel
theorem d14_9 : decode jdk_38_method_20_code 9 = .ok (.aload_n 0, 1) := by decide +kernel
theorem d14_10 : decode jdk_38_method_20_code 10 = .ok (.iload_n 1, 1) := by decide +kernel
theorem d14_11 : decode jdk_38_method_20_code 11 = .ok (.invokevirtual 123, 3) := by decide +kernel
theorem pd_11 : parseMethodDescriptor "(I)Ljava/lang/Object;" = some ⟨[.int], some (.object "java/lang/Object")⟩ := by decide +kernel
theorem d14_14 : decode jdk_38_method_20_code 14 = .ok (.areturn, 1) := by decide +kernel
theorem ef_14 (m : MethodId) (x0 : Addr) (x1 : Int32) : entryFrame m #[(.ref x0), (.int x1)] 2 = mkF m 0 #[.val (.ref x0), .val (.int x1)] [] := by first | (simp [entryFrame, mkF, argsToLocals, Value.category]; done) | rfl
def Q_rm_get (Z : State) (a0x : Addr) (p1 : Int32) (b1x : Addr) (kx : ClassId) (r1x : Addr) (h0 : Heap) (n0 : Nat) (v : Option Value) (h : Heap) (L : List Loc) : Prop := v = some (.ref r1x) ∧ Fr n0 L ∧ h = h0
set_option maxRecDepth 65536 in
set_option maxHeartbeats 40000000 in
theorem rm_get (l : Launch) (Z : State) (a0 : Array Value) (hw : ∀ d ∈ tables_1, d.before a0 Z = true) (ws : List Jvm.Cond) (a0x : Addr) (p1 : Int32) (b1x : Addr) (kx : ClassId) (r1x : Addr) (h0 : Heap) (n0 : Nat) (Z0 : n0 ≤ h0.size) (FE : Fld Z h0 a0x "java/util/ArrayList" "elementData" "[Ljava/lang/Object;" (.ref b1x)) (VE : Arv Z h0 b1x kx (.object "java/lang/Object") (10 : Int32) [(.ref r1x), .null, .null, .null, .null, .null, .null, .null, .null, .null] .null) (FS : Fld Z h0 a0x "java/util/ArrayList" "size" "I" (.int (1 : Int32))) (E0x : Exa Z h0 a0x "java/util/ArrayList") (hp : p1 = (0 : Int32)) :
    MetFree l (⟨"java/util/ArrayList", "get", "(I)Ljava/lang/Object;"⟩ : MethodName) (head1 (Jvm.Cond.code (⟨"java/util/ArrayList", "get", "(I)Ljava/lang/Object;"⟩ : MethodName) jdk_38_method_20_code 2 (some (.object "java/lang/Object")) :: ws) ({ frames := 2, cells := 0, slots := 0, locals := 27 } : Room)) (fun a U => a = #[(.ref a0x), (.int p1)] ∧ Z.Warmed39 U.vm ∧ U.heap = h0) (fun _ _ _ _ _ => True) (fun _ U o U' => ∃ v L, o = .returned v ∧ Q_rm_get Z a0x p1 b1x kx r1x h0 n0 v U'.heap L ∧ FrameEnd U o U' L ({ frames := 2, cells := 0, slots := 0, locals := 27 } : Room).cells ({ frames := 2, cells := 0, slots := 0, locals := 27 } : Room).slots) := by
  refine MetFree.of_bodySF (plainFor_of_name pn_9) hisR ?_
  intro p e s m args below meth c s₁ Bd hml0 hP hK
  obtain ⟨rfl, hZ, hh⟩ := hP
  have hx := Bd.exec
  have hby := Bd.bytes
  have hml : c.maxLocals = 2 := hml0
  have hown : s.vm.findClass "java/util/ArrayList" = some m.cls := findClass_of_methodNamed Bd.named
  have hnm := (name_of_methodNamed Bd.named Bd.method).1
  have X0 : Stand p l e ({ frames := 2, cells := 0, slots := 0, locals := 27 } : Room) s m #[(.ref a0x), (.int p1)] below meth c s₁ [] 0 0 := Stand.of_body Bd
  have e0 : s₁.heap = h0 := by rw [← hh, Bd.state]; rfl
  have N0 := Fr.nil n0
  have pre0 : ∀ t, Steps p.tables e below (s₁.setTop (mkF m 0 #[.val (.ref a0x), .val (.int p1)] [])) t → Steps p.tables e below (s₁.setTop (entryFrame m #[(.ref a0x), (.int p1)] 2)) t := fun t k => castTop (ef_14 m a0x p1) k
  obtain ⟨T1, X1, e1, st1⟩ := getF X0 hx hZ hown (host := "") (Or.inl (hw _ (List.mem_of_getElem? (i := 57) rfl))) Via.refl e0 FS (g := (mkF m 2 #[.val (.ref a0x), .val (.int (0 : Int32))] [(.ref a0x), (.int (0 : Int32))])) rfl rfl (hb hby d14_2)
  obtain ⟨_, _, ⟨T2, L2, k2, n2⟩, -, X2, ⟨Lc2, hQ2, l2, y2, z2⟩, st2⟩ := Jvm.LawKit.callS X1 hx (y := (⟨"java/util/Objects", "checkIndex", "(II)I"⟩ : MethodName)) hown (mvT hZ (hw _ (List.mem_of_getElem? (i := 103) rfl))) (mvT hZ (hw _ (List.mem_of_getElem? (i := 104) rfl))) (mvT hZ (hw _ (List.mem_of_getElem? (i := 105) rfl))) (mvT hZ (hw _ (List.mem_of_getElem? (i := 106) rfl))) (by decide) (backOf (W := 0) (rm_oci l Z a0 hw [] (0 : Int32) (1 : Int32) h0 n0 Z0 (by decide) (by decide)) hZ (hw _ (List.mem_of_getElem? (i := 106) rfl)) (hw _ (List.mem_of_getElem? (i := 105) rfl)) (by decide) (by decide)) (g := (mkF m 5 #[.val (.ref a0x), .val (.int (0 : Int32))] [(.int (1 : Int32)), (.int (0 : Int32))])) rfl (by rw [hml]; rfl) (argsL := [(.int (0 : Int32)), (.int (1 : Int32))]) (rest := []) (lenOf pd_7 rfl) rfl (by show 2 * 0 + _ ≤ _; exact Nat.le_of_eq rfl) (hb hby d14_5) (fun _ _ => ⟨rfl, e1, (by decide : 0 + 0 ≤ _), (by decide : 0 + 0 ≤ _)⟩)
  dsimp only [Pt.U, Pt.locs, Pt.cells, Pt.slots] at X2 l2 y2 z2 st2 hQ2
  subst l2 y2 z2
  obtain ⟨rfl, N2q, e2⟩ := hQ2
  have N2 := Fr.app N0 N2q
  obtain ⟨cq3, kq3, q3a, q3b, q3c⟩ := isOf hZ e2 E0x
  obtain ⟨_, _, ⟨T3, L3, k3, n3⟩, -, X3, ⟨Lc3, hQ3, l3, y3, z3⟩, st3⟩ := X2.virtualBack hx (y := (⟨"java/util/ArrayList", "elementData", "(I)Ljava/lang/Object;"⟩ : MethodName)) (z := (⟨"java/util/ArrayList", "elementData", "(I)Ljava/lang/Object;"⟩ : MethodName)) hown (mvT hZ (hw _ (List.mem_of_getElem? (i := 111) rfl))) (mvT hZ (hw _ (List.mem_of_getElem? (i := 112) rfl))) (notFace_of_selects (args := #[]) (mvT hZ (hw _ (List.mem_of_getElem? (i := 114) rfl)))) (mvT hZ (hw _ (List.mem_of_getElem? (i := 114) rfl))) (mvT hZ (hw _ (List.mem_of_getElem? (i := 113) rfl))) (by decide) (backOf (W := 0) (rm_ed l Z a0 hw [] a0x (0 : Int32) b1x kx r1x h0 n0 Z0 FE VE rfl) hZ (hw _ (List.mem_of_getElem? (i := 115) rfl)) (hw _ (List.mem_of_getElem? (i := 24) rfl)) (by decide) (by decide)) q3a q3c (g := (mkF m 11 #[.val (.ref a0x), .val (.int (0 : Int32))] [(.int (0 : Int32)), (.ref a0x)])) rfl (by rw [hml]; rfl) (Steps.refl _) (argsL := [(.int (0 : Int32))]) (rest := []) (lenOf pd_11 rfl) rfl (by show 2 * 0 + _ ≤ _; exact Nat.le_of_eq rfl) (hb hby d14_11) (fun _ _ => ⟨rfl, e2, (by decide : 0 + 0 ≤ _), (by decide : 0 + 0 ≤ _)⟩)
  dsimp only [Pt.U, Pt.locs, Pt.cells, Pt.slots] at X3 l3 y3 z3 st3 hQ3
  subst l3 y3 z3
  obtain ⟨rfl, N3q, e3⟩ := hQ3
  have N3 := Fr.app N2 N3q
  obtain ⟨fs, hr, hrun, hended, hW, hsame⟩ := X3.leave (v := some (.ref r1x)) (fun h => by rw [Bd.returns] at h; cases h)
  refine ⟨_, _, pre0 _ ?_, hrun, hended, _, _, rfl, ?_, ⟨_, rfl⟩, hW, hsame.mono (by decide) (by decide)⟩
  · show Steps p.tables e below (s₁.setTop (mkF m 0 #[.val (.ref a0x), .val (.int p1)] [])) _
    rw [hp]
    show Steps p.tables e below (s₁.setTop (mkF m 0 #[.val (.ref a0x), .val (.int (0 : Int32))] [])) _
    refine XS.iloadN X0.here hx rfl (hb hby d14_0) rfl ?_
    show Steps p.tables e below (s₁.setTop (mkF m 1 #[.val (.ref a0x), .val (.int (0 : Int32))] [(.int (0 : Int32))])) _
    refine XS.aloadN X0.here hx rfl (hb hby d14_1) rfl rfl ?_
    show Steps p.tables e below (s₁.setTop (mkF m 2 #[.val (.ref a0x), .val (.int (0 : Int32))] [(.ref a0x), (.int (0 : Int32))])) _
    refine st1 _ ?_
    show Steps p.tables e below (T1.setTop (mkF m 5 #[.val (.ref a0x), .val (.int (0 : Int32))] [(.int (1 : Int32)), (.int (0 : Int32))])) _
    refine st2 _ ?_
    show Steps p.tables e below (T2.setTop (mkF m 8 #[.val (.ref a0x), .val (.int (0 : Int32))] [(.int (0 : Int32))])) _
    refine XS.pop X2.here hx rfl (hb hby d14_8) rfl rfl ?_
    show Steps p.tables e below (T2.setTop (mkF m 9 #[.val (.ref a0x), .val (.int (0 : Int32))] [])) _
    refine XS.aloadN X2.here hx rfl (hb hby d14_9) rfl rfl ?_
    show Steps p.tables e below (T2.setTop (mkF m 10 #[.val (.ref a0x), .val (.int (0 : Int32))] [(.ref a0x)])) _
    refine XS.iloadN X2.here hx rfl (hb hby d14_10) rfl ?_
    show Steps p.tables e below (T2.setTop (mkF m 11 #[.val (.ref a0x), .val (.int (0 : Int32))] [(.int (0 : Int32)), (.ref a0x)])) _
    refine st3.trans ?_
    show Steps p.tables e below (T3.setTop (mkF m 14 #[.val (.ref a0x), .val (.int (0 : Int32))] [(.ref r1x)])) _
    exact retOut X3 hx Bd.returns (by rfl) (Or.inr (Or.inr (Or.inr (Or.inr ⟨rfl, rfl, rfl⟩)))) (hb hby d14_14) hr
  · show Q_rm_get Z a0x p1 b1x kx r1x h0 n0 _ T3.heap _
    rw [e3]
    exact ⟨rfl, N3, rfl⟩
theorem d18_0 : decode prog_34_method_1_code 0 = .ok (.aload_n 0, 1) := by decide +kernel
theorem d18_1 : decode prog_34_method_1_code 1 = .ok (.invokespecial 1, 3) := by decide +kernel
theorem d18_4 : decode prog_34_method_1_code 4 = .ok (.aload_n 1, 1) := by decide +kernel
theorem d18_5 : decode prog_34_method_1_code 5 = .ok (.ldc 7, 2) := by decide +kernel
theorem d18_7 : decode prog_34_method_1_code 7 = .ok (.invokestatic 9, 3) := by decide +kernel
theorem pd_12 : parseMethodDescriptor "(Ljava/lang/Object;Ljava/lang/String;)Ljava/lang/Object;" = some ⟨[(.object "java/lang/Object"), (.object "java/lang/String")], some (.object "java/lang/Object")⟩ := by decide +kernel
theorem d18_10 : decode prog_34_method_1_code 10 = .ok (.pop, 1) := by decide +kernel
theorem d18_11 : decode prog_34_method_1_code 11 = .ok (.aload_n 0, 1) := by decide +kernel
theorem d18_12 : decode prog_34_method_1_code 12 = .ok (.aload_n 1, 1) := by decide +kernel
theorem d18_13 : decode prog_34_method_1_code 13 = .ok (.putfield 15, 3) := by decide +kernel
theorem d18_16 : decode prog_34_method_1_code 16 = .ok (.return_, 1) := by decide +kernel
theorem pn_10 : plainName "com/example/fyfo/fyfo/Runner$Shell" = true := by first | (simp [plainName, overriddenIn]; done) | decide +kernel
theorem ef_18 (m : MethodId) (x0 : Addr) (x1 : Addr) : entryFrame m #[(.ref x0), (.ref x1)] 2 = mkF m 0 #[.val (.ref x0), .val (.ref x1)] [] := by first | (simp [entryFrame, mkF, argsToLocals, Value.category]; done) | rfl
def Q_rm_shell (Z : State) (a0x : Addr) (a1x : Addr) (h0 : Heap) (n0 : Nat) (v : Option Value) (h : Heap) (L : List Loc) : Prop := v = none ∧ Fr n0 L ∧ Keep h0 h [a0x] ∧ Fld Z h a0x "com/example/fyfo/fyfo/Runner$Shell" "command" "Ljava/lang/String;" (.ref a1x)
set_option maxRecDepth 65536 in
set_option maxHeartbeats 40000000 in
theorem rm_shell (l : Launch) (Z : State) (a0 : Array Value) (hw : ∀ d ∈ tables_1, d.before a0 Z = true) (ws : List Jvm.Cond) (a0x : Addr) (a1x : Addr) (h0 : Heap) (n0 : Nat) (Z0 : n0 ≤ h0.size) (E0x : Exa Z h0 a0x "com/example/fyfo/fyfo/Runner$Shell") (F0x0 : Fld Z h0 a0x "com/example/fyfo/fyfo/Runner$Shell" "command" "Ljava/lang/String;" .null) (g0x : n0 ≤ a0x) :
    MetFree l (⟨"com/example/fyfo/fyfo/Runner$Shell", "<init>", "(Ljava/lang/String;)V"⟩ : MethodName) (head1 (Jvm.Cond.code (⟨"com/example/fyfo/fyfo/Runner$Shell", "<init>", "(Ljava/lang/String;)V"⟩ : MethodName) prog_34_method_1_code 2 none :: ws) ({ frames := 2, cells := 2, slots := 32, locals := 24 } : Room)) (fun a U => a = #[(.ref a0x), (.ref a1x)] ∧ Z.Warmed39 U.vm ∧ U.heap = h0) (fun _ _ _ _ _ => True) (fun _ U o U' => ∃ v L, o = .returned v ∧ Q_rm_shell Z a0x a1x h0 n0 v U'.heap L ∧ ReturnedEndW U o U' L ({ frames := 2, cells := 2, slots := 32, locals := 24 } : Room).cells ({ frames := 2, cells := 2, slots := 32, locals := 24 } : Room).slots) := by
  refine MetFree.of_bodySF (plainFor_of_name pn_10) hisR ?_
  intro p e s m args below meth c s₁ Bd hml0 hP hK
  obtain ⟨rfl, hZ, hh⟩ := hP
  have hx := Bd.exec
  have hby := Bd.bytes
  have hml : c.maxLocals = 2 := hml0
  have hown : s.vm.findClass "com/example/fyfo/fyfo/Runner$Shell" = some m.cls := findClass_of_methodNamed Bd.named
  have hnm := (name_of_methodNamed Bd.named Bd.method).1
  have X0 : Stand p l e ({ frames := 2, cells := 2, slots := 32, locals := 24 } : Room) (s.setVm s.vm) m #[(.ref a0x), (.ref a1x)] below meth c s₁ [] 0 0 := Stand.of_body Bd
  have e0 : s₁.heap = h0 := by rw [← hh, Bd.state]; rfl
  have N0 := Fr.nil n0
  have hS0 : s.Since s.vm s.heap.size := (State.WarmedH.refl s).since _
  have hk0 : s.heap.size ≤ h0.size := Nat.le_of_eq (congrArg Array.size hh)
  have wS : ∀ a ∈ Bundle.stringAtoms, a.before a0 Z = true := by
    intro a ha
    simp only [Bundle.stringAtoms, List.mem_cons, List.not_mem_nil, or_false] at ha
    rcases ha with rfl | rfl | rfl | rfl | rfl | rfl | rfl <;> first | exact hw _ (List.mem_of_getElem? (i := 3) rfl) | exact hw _ (List.mem_of_getElem? (i := 2) rfl) | exact hw _ (List.mem_of_getElem? (i := 15) rfl) | exact hw _ (List.mem_of_getElem? (i := 16) rfl) | exact hw _ (List.mem_of_getElem? (i := 17) rfl) | exact hw _ (List.mem_of_getElem? (i := 18) rfl) | exact hw _ (List.mem_of_getElem? (i := 19) rfl)
  have K0 : Keep h0 h0 [a0x] := Keep.refl h0 [a0x]
  have pre0 : ∀ t, Steps p.tables e below (s₁.setTop (mkF m 0 #[.val (.ref a0x), .val (.ref a1x)] [])) t → Steps p.tables e below (s₁.setTop (entryFrame m #[(.ref a0x), (.ref a1x)] 2)) t := fun t k => castTop (ef_18 m a0x a1x) k
  obtain ⟨_, _, ⟨T1, L1, k1, n1⟩, -, X1, ⟨Lc1, hQ1, l1, y1, z1⟩, st1⟩ := X0.specialBack hx (y := (⟨"java/lang/Record", "<init>", "()V"⟩ : MethodName)) rfl hown (mvT hZ (hw _ (List.mem_of_getElem? (i := 120) rfl))) (mvT hZ (hw _ (List.mem_of_getElem? (i := 121) rfl))) (mvT hZ (hw _ (List.mem_of_getElem? (i := 124) rfl))) (by decide) (backOf (W := 0) (rm_rec l Z a0 hw [] a0x h0 n0 Z0) hZ (hw _ (List.mem_of_getElem? (i := 124) rfl)) (hw _ (List.mem_of_getElem? (i := 123) rfl)) (by decide) (by decide)) (g := (mkF m 1 #[.val (.ref a0x), .val (.ref a1x)] [(.ref a0x)])) rfl (by rw [hml]; rfl) (Steps.refl _) (a := a0x) (argsL := []) (rest := []) (lenOf pd_1 rfl) rfl (by show 2 * 0 + _ ≤ _; exact Nat.le_of_eq rfl) (hb hby d18_1) (fun _ _ => ⟨rfl, e0, (by decide : 0 + 0 ≤ _), (by decide : 0 + 0 ≤ _)⟩)
  dsimp only [Pt.U, Pt.locs, Pt.cells, Pt.slots] at X1 l1 y1 z1 st1 hQ1
  subst l1 y1 z1
  obtain ⟨rfl, N1q, e1⟩ := hQ1
  have N1 := Fr.app N0 N1q
  obtain ⟨ax2, T2, h2, kk2, X2, e2, E2, hS2, hk2, hZ2, hown2, st2⟩ := ldcS X1 hx hZ hown (hw _ (List.mem_of_getElem? (i := 126) rfl)) wS e1 hS0 hk0 (g := (mkF m 5 #[.val (.ref a0x), .val (.ref a1x)] [(.ref a1x)])) rfl (hb hby d18_5) (n := 28) (by decide) (by decide) (by decide) (by decide)
  have E0x_2 : Exa Z h2 a0x "com/example/fyfo/fyfo/Runner$Shell" := E0x.ext E2
  have F0x0_2 : Fld Z h2 a0x "com/example/fyfo/fyfo/Runner$Shell" "command" "Ljava/lang/String;" .null := F0x0.ext E2
  have Z2 : n0 ≤ h2.size := Nat.le_trans Z0 E2.1
  have K2 : Keep h0 h2 [a0x] := K0.ext E2
  obtain ⟨_, _, ⟨T3, L3, k3, n3⟩, -, X3, ⟨Lc3, hQ3, l3, y3, z3⟩, st3⟩ := Jvm.LawKit.callS X2 hx (y := (⟨"java/util/Objects", "requireNonNull", "(Ljava/lang/Object;Ljava/lang/String;)Ljava/lang/Object;"⟩ : MethodName)) hown2 (mvT hZ2 (hw _ (List.mem_of_getElem? (i := 127) rfl))) (mvT hZ2 (hw _ (List.mem_of_getElem? (i := 128) rfl))) (mvT hZ2 (hw _ (List.mem_of_getElem? (i := 105) rfl))) (mvT hZ2 (hw _ (List.mem_of_getElem? (i := 129) rfl))) (by decide) (backOf (W := 0) (rm_nn2 l Z a0 hw [] a1x ax2 h2 n0 Z2) hZ2 (hw _ (List.mem_of_getElem? (i := 129) rfl)) (hw _ (List.mem_of_getElem? (i := 105) rfl)) (by decide) (by decide)) (g := (mkF m 7 #[.val (.ref a0x), .val (.ref a1x)] [(.ref ax2), (.ref a1x)])) rfl (by rw [hml]; rfl) (argsL := [(.ref a1x), (.ref ax2)]) (rest := []) (lenOf pd_12 rfl) rfl (by show 2 * 0 + _ ≤ _; exact Nat.le_of_eq rfl) (hb hby d18_7) (fun _ _ => ⟨rfl, e2, (by decide : 2 + 0 ≤ _), (by decide : 32 + 0 ≤ _)⟩)
  dsimp only [Pt.U, Pt.locs, Pt.cells, Pt.slots] at X3 l3 y3 z3 st3 hQ3
  subst l3 y3 z3
  obtain ⟨rfl, N3q, e3⟩ := hQ3
  have N3 := Fr.app N1 N3q
  obtain ⟨T4, h4, X4, e4, W4, st4⟩ := putF X3 hx hZ2 hown2 (host := "") (Or.inl (hw _ (List.mem_of_getElem? (i := 130) rfl))) Via.refl e3 F0x0_2 E0x_2 (Or.inr ⟨(hw _ (List.mem_of_getElem? (i := 131) rfl)), rfl, hnm⟩) (hw _ (List.mem_of_getElem? (i := 94) rfl)) (ty := (.object "java/lang/String")) (by decide) rfl rfl (g := (mkF m 13 #[.val (.ref a0x), .val (.ref a1x)] [(.ref a1x), (.ref a0x)])) rfl rfl (hb hby d18_13)
  have N4 := Fr.snoc X4 N3 g0x
  have Fw4 : Fld Z h4 a0x "com/example/fyfo/fyfo/Runner$Shell" "command" "Ljava/lang/String;" (.ref a1x) := F0x0_2.same W4
  have E0x_4 : Exa Z h4 a0x "com/example/fyfo/fyfo/Runner$Shell" := E0x_2.wr W4
  have hk4' : _ ≤ h4.size := Nat.le_trans hk2 (Keep.of_wr W4).1
  have Z4 : n0 ≤ h4.size := Nat.le_trans Z2 (Keep.of_wr W4).1
  have K4 : Keep h0 h4 [a0x] := K2.wr W4 (Or.inl (List.mem_of_getElem? (i := 0) rfl))
  obtain ⟨fs, hr, hrun, hended, hREW⟩ := X4.leaveW hS2 (by first | exact hk4' | (rw [e4]; exact hk4')) (v := none) (fun _ => rfl)
  refine ⟨_, _, pre0 _ ?_, hrun, hended, _, _, rfl, ?_, hREW.1, hREW.2.1, hREW.2.2.1, hREW.2.2.2.mono (by decide) (by decide)⟩
  · show Steps p.tables e below (s₁.setTop (mkF m 0 #[.val (.ref a0x), .val (.ref a1x)] [])) _
    refine XS.aloadN X0.here hx rfl (hb hby d18_0) rfl rfl ?_
    show Steps p.tables e below (s₁.setTop (mkF m 1 #[.val (.ref a0x), .val (.ref a1x)] [(.ref a0x)])) _
    refine st1.trans ?_
    show Steps p.tables e below (T1.setTop (mkF m 4 #[.val (.ref a0x), .val (.ref a1x)] [])) _
    refine XS.aloadN X1.here hx rfl (hb hby d18_4) rfl rfl ?_
    show Steps p.tables e below (T1.setTop (mkF m 5 #[.val (.ref a0x), .val (.ref a1x)] [(.ref a1x)])) _
    refine st2 _ ?_
    show Steps p.tables e below (T2.setTop (mkF m 7 #[.val (.ref a0x), .val (.ref a1x)] [(.ref ax2), (.ref a1x)])) _
    refine st3 _ ?_
    show Steps p.tables e below (T3.setTop (mkF m 10 #[.val (.ref a0x), .val (.ref a1x)] [(.ref a1x)])) _
    refine XS.pop X3.here hx rfl (hb hby d18_10) rfl rfl ?_
    show Steps p.tables e below (T3.setTop (mkF m 11 #[.val (.ref a0x), .val (.ref a1x)] [])) _
    refine XS.aloadN X3.here hx rfl (hb hby d18_11) rfl rfl ?_
    show Steps p.tables e below (T3.setTop (mkF m 12 #[.val (.ref a0x), .val (.ref a1x)] [(.ref a0x)])) _
    refine XS.aloadN X3.here hx rfl (hb hby d18_12) rfl rfl ?_
    show Steps p.tables e below (T3.setTop (mkF m 13 #[.val (.ref a0x), .val (.ref a1x)] [(.ref a1x), (.ref a0x)])) _
    refine st4 _ ?_
    show Steps p.tables e below (T4.setTop (mkF m 16 #[.val (.ref a0x), .val (.ref a1x)] [])) _
    exact X4.returnOut hx Bd.returns (hb hby d18_16) hr
  · show Q_rm_shell Z a0x a1x h0 n0 _ T4.heap _
    rw [e4]
    exact ⟨rfl, N4, K4, Fw4⟩
theorem d12_0 : decode prog_34_method_2_code 0 = .ok (.aload_n 0, 1) := by decide +kernel
theorem d12_1 : decode prog_34_method_2_code 1 = .ok (.invokeinterface 20 1, 5) := by decide +kernel
theorem pd_13 : parseMethodDescriptor "()I" = some ⟨[], some .int⟩ := by decide +kernel
theorem d12_6 : decode prog_34_method_2_code 6 = .ok (.iconst 1, 1) := by decide +kernel
theorem d12_7 : decode prog_34_method_2_code 7 = .ok (.if_icmp .le 13, 3) := by decide +kernel
theorem d12_20 : decode prog_34_method_2_code 20 = .ok (.new 16, 3) := by decide +kernel
theorem d12_23 : decode prog_34_method_2_code 23 = .ok (.dup, 1) := by decide +kernel
theorem d12_24 : decode prog_34_method_2_code 24 = .ok (.aload_n 0, 1) := by decide +kernel
theorem d12_25 : decode prog_34_method_2_code 25 = .ok (.iconst 0, 1) := by decide +kernel
theorem d12_26 : decode prog_34_method_2_code 26 = .ok (.invokeinterface 33 2, 5) := by decide +kernel
theorem d12_31 : decode prog_34_method_2_code 31 = .ok (.checkcast 37, 3) := by decide +kernel
theorem d12_34 : decode prog_34_method_2_code 34 = .ok (.invokespecial 39, 3) := by decide +kernel
theorem pd_14 : parseMethodDescriptor "(Ljava/lang/String;)V" = some ⟨[(.object "java/lang/String")], none⟩ := by decide +kernel
theorem d12_37 : decode prog_34_method_2_code 37 = .ok (.areturn, 1) := by decide +kernel
theorem ef_12 (m : MethodId) (x0 : Addr) : entryFrame m #[(.ref x0)] 1 = mkF m 0 #[.val (.ref x0)] [] := by first | (simp [entryFrame, mkF, argsToLocals, Value.category]; done) | rfl
def Q_rm_from (Z : State) (a0x : Addr) (b1x : Addr) (kx : ClassId) (r1x : Addr) (h0 : Heap) (n0 : Nat) (v : Option Value) (h : Heap) (L : List Loc) : Prop := ∃ bq : Addr, v = some (.ref bq) ∧ Fr n0 L ∧ Keep h0 h [] ∧ n0 ≤ bq ∧ h0.size ≤ bq ∧ Exa Z h bq "com/example/fyfo/fyfo/Runner$Shell" ∧ Fld Z h bq "com/example/fyfo/fyfo/Runner$Shell" "command" "Ljava/lang/String;" (.ref r1x)
set_option maxRecDepth 65536 in
set_option maxHeartbeats 40000000 in
theorem rm_from (l : Launch) (Z : State) (a0 : Array Value) (hw : ∀ d ∈ tables_1, d.before a0 Z = true) (ws : List Jvm.Cond) (a0x : Addr) (b1x : Addr) (kx : ClassId) (r1x : Addr) (h0 : Heap) (n0 : Nat) (Z0 : n0 ≤ h0.size) (FE : Fld Z h0 a0x "java/util/ArrayList" "elementData" "[Ljava/lang/Object;" (.ref b1x)) (VE : Arv Z h0 b1x kx (.object "java/lang/Object") (10 : Int32) [(.ref r1x), .null, .null, .null, .null, .null, .null, .null, .null, .null] .null) (FS : Fld Z h0 a0x "java/util/ArrayList" "size" "I" (.int (1 : Int32))) (E0x : Exa Z h0 a0x "java/util/ArrayList") (E1x : Exa Z h0 r1x "java/lang/String") :
    MetFree l (⟨"com/example/fyfo/fyfo/Runner$Shell", "fromWords", "(Ljava/util/List;)Lcom/example/fyfo/fyfo/Runner$Shell;"⟩ : MethodName) (head1 (Jvm.Cond.code (⟨"com/example/fyfo/fyfo/Runner$Shell", "fromWords", "(Ljava/util/List;)Lcom/example/fyfo/fyfo/Runner$Shell;"⟩ : MethodName) prog_34_method_2_code 1 (some (.object "com/example/fyfo/fyfo/Runner$Shell")) :: ws) ({ frames := 3, cells := 3, slots := 33, locals := 42 } : Room)) (fun a U => a = #[(.ref a0x)] ∧ Z.Warmed39 U.vm ∧ U.heap = h0) (fun _ _ _ _ _ => True) (fun _ U o U' => ∃ v L, o = .returned v ∧ Q_rm_from Z a0x b1x kx r1x h0 n0 v U'.heap L ∧ ReturnedEndW U o U' L ({ frames := 3, cells := 3, slots := 33, locals := 42 } : Room).cells ({ frames := 3, cells := 3, slots := 33, locals := 42 } : Room).slots) := by
  refine MetFree.of_bodySF (plainFor_of_name pn_10) hisR ?_
  intro p e s m args below meth c s₁ Bd hml0 hP hK
  obtain ⟨rfl, hZ, hh⟩ := hP
  have hx := Bd.exec
  have hby := Bd.bytes
  have hml : c.maxLocals = 1 := hml0
  have hown : s.vm.findClass "com/example/fyfo/fyfo/Runner$Shell" = some m.cls := findClass_of_methodNamed Bd.named
  have hnm := (name_of_methodNamed Bd.named Bd.method).1
  have X0 : Stand p l e ({ frames := 3, cells := 3, slots := 33, locals := 42 } : Room) (s.setVm s.vm) m #[(.ref a0x)] below meth c s₁ [] 0 0 := Stand.of_body Bd
  have e0 : s₁.heap = h0 := by rw [← hh, Bd.state]; rfl
  have N0 := Fr.nil n0
  have hS0 : s.Since s.vm s.heap.size := (State.WarmedH.refl s).since _
  have hk0 : s.heap.size ≤ h0.size := Nat.le_of_eq (congrArg Array.size hh)
  have wS : ∀ a ∈ Bundle.stringAtoms, a.before a0 Z = true := by
    intro a ha
    simp only [Bundle.stringAtoms, List.mem_cons, List.not_mem_nil, or_false] at ha
    rcases ha with rfl | rfl | rfl | rfl | rfl | rfl | rfl <;> first | exact hw _ (List.mem_of_getElem? (i := 3) rfl) | exact hw _ (List.mem_of_getElem? (i := 2) rfl) | exact hw _ (List.mem_of_getElem? (i := 15) rfl) | exact hw _ (List.mem_of_getElem? (i := 16) rfl) | exact hw _ (List.mem_of_getElem? (i := 17) rfl) | exact hw _ (List.mem_of_getElem? (i := 18) rfl) | exact hw _ (List.mem_of_getElem? (i := 19) rfl)
  have K0 : Keep h0 h0 [] := Keep.refl h0 []
  have pre0 : ∀ t, Steps p.tables e below (s₁.setTop (mkF m 0 #[.val (.ref a0x)] [])) t → Steps p.tables e below (s₁.setTop (entryFrame m #[(.ref a0x)] 1)) t := fun t k => castTop (ef_12 m a0x) k
  obtain ⟨cq1, kq1, q1a, q1b, q1c⟩ := isOf hZ e0 E0x
  obtain ⟨_, _, ⟨T1, L1, k1, n1⟩, -, X1, ⟨Lc1, hQ1, l1, y1, z1⟩, st1⟩ := X0.interfaceBack hx (xi := (⟨"java/util/List", "size", "()I"⟩ : MethodName)) (y := (⟨"java/util/ArrayList", "size", "()I"⟩ : MethodName)) hown (mvT hZ (hw _ (List.mem_of_getElem? (i := 85) rfl))) (mvT hZ (hw _ (List.mem_of_getElem? (i := 86) rfl))) (mvT hZ (hw _ (List.mem_of_getElem? (i := 87) rfl))) (mvT hZ (hw _ (List.mem_of_getElem? (i := 88) rfl))) (mvT hZ (hw _ (List.mem_of_getElem? (i := 89) rfl))) (mvT hZ (hw _ (List.mem_of_getElem? (i := 90) rfl))) (mvT hZ (hw _ (List.mem_of_getElem? (i := 91) rfl))) (mvT hZ (hw _ (List.mem_of_getElem? (i := 53) rfl))) (by decide) (backOf (W := 0) (rm_size l Z a0 hw [] a0x h0 n0 Z0 FS) hZ (hw _ (List.mem_of_getElem? (i := 92) rfl)) (hw _ (List.mem_of_getElem? (i := 24) rfl)) (by decide) (by decide)) q1a q1b q1c (g := (mkF m 1 #[.val (.ref a0x)] [(.ref a0x)])) rfl (by rw [hml]; rfl) (Steps.refl _) (argsL := []) (rest := []) (lenOf pd_13 rfl) rfl (by show 2 * 0 + _ ≤ _; exact Nat.le_of_eq rfl) (hb hby d12_1) (fun _ _ => ⟨rfl, e0, (by decide : 0 + 0 ≤ _), (by decide : 0 + 0 ≤ _)⟩)
  dsimp only [Pt.U, Pt.locs, Pt.cells, Pt.slots] at X1 l1 y1 z1 st1 hQ1
  subst l1 y1 z1
  obtain ⟨rfl, N1q, e1⟩ := hQ1
  have N1 := Fr.app N0 N1q
  obtain ⟨T2, h2, X2, e2, E2, A2, D2, -, st2⟩ := newO X1 hx hZ hown (hw _ (List.mem_of_getElem? (i := 93) rfl)) (hw _ (List.mem_of_getElem? (i := 94) rfl)) (hw _ (List.mem_of_getElem? (i := 83) rfl)) e1 (g := (mkF m 20 #[.val (.ref a0x)] [])) rfl (hb hby d12_20) (by decide) (by decide)
  obtain ⟨b2, g2⟩ : ∃ z, z = h0.size := ⟨_, rfl⟩
  rw [← g2] at A2 D2 st2
  have ne_a0x_b2 : a0x ≠ b2 := Nat.ne_of_lt (Nat.lt_of_lt_of_le FE.lt (Nat.le_of_eq g2.symm))
  have ne_b1x_b2 : b1x ≠ b2 := Nat.ne_of_lt (Nat.lt_of_lt_of_le VE.lt (Nat.le_of_eq g2.symm))
  have ne_r1x_b2 : r1x ≠ b2 := Nat.ne_of_lt (Nat.lt_of_lt_of_le E1x.lt (Nat.le_of_eq g2.symm))
  have g_b2 : n0 ≤ b2 := Nat.le_trans Z0 (Nat.le_of_eq g2.symm)
  have sz_b2 : h0.size ≤ b2 := Nat.le_trans K0.1 (Nat.le_of_eq g2.symm)
  have FE_2 : Fld Z h2 a0x "java/util/ArrayList" "elementData" "[Ljava/lang/Object;" (.ref b1x) := FE.ext E2
  have VE_2 : Arv Z h2 b1x kx (.object "java/lang/Object") (10 : Int32) [(.ref r1x), .null, .null, .null, .null, .null, .null, .null, .null, .null] .null := VE.ext E2
  have FS_2 : Fld Z h2 a0x "java/util/ArrayList" "size" "I" (.int (1 : Int32)) := FS.ext E2
  have E0x_2 : Exa Z h2 a0x "java/util/ArrayList" := E0x.ext E2
  have E1x_2 : Exa Z h2 r1x "java/lang/String" := E1x.ext E2
  have hk2' : _ ≤ h2.size := Nat.le_trans hk0 E2.1
  have Z2 : n0 ≤ h2.size := Nat.le_trans Z0 E2.1
  have K2 : Keep h0 h2 [] := K0.ext E2
  have F_command_b2 : Fld Z h2 b2 "com/example/fyfo/fyfo/Runner$Shell" "command" "Ljava/lang/String;" .null := D2 (Or.inr (hw _ (List.mem_of_getElem? (i := 131) rfl))) (ty := (.object "java/lang/String")) (by decide)
  obtain ⟨cq3, kq3, q3a, q3b, q3c⟩ := isOf hZ e2 E0x_2
  obtain ⟨_, _, ⟨T3, L3, k3, n3⟩, -, X3, ⟨Lc3, hQ3, l3, y3, z3⟩, st3⟩ := X2.interfaceBack hx (xi := (⟨"java/util/List", "get", "(I)Ljava/lang/Object;"⟩ : MethodName)) (y := (⟨"java/util/ArrayList", "get", "(I)Ljava/lang/Object;"⟩ : MethodName)) hown (mvT hZ (hw _ (List.mem_of_getElem? (i := 95) rfl))) (mvT hZ (hw _ (List.mem_of_getElem? (i := 96) rfl))) (mvT hZ (hw _ (List.mem_of_getElem? (i := 97) rfl))) (mvT hZ (hw _ (List.mem_of_getElem? (i := 98) rfl))) (mvT hZ (hw _ (List.mem_of_getElem? (i := 99) rfl))) (mvT hZ (hw _ (List.mem_of_getElem? (i := 100) rfl))) (mvT hZ (hw _ (List.mem_of_getElem? (i := 101) rfl))) (mvT hZ (hw _ (List.mem_of_getElem? (i := 53) rfl))) (by decide) (backOf (W := 2) (rm_get l Z a0 hw [] a0x (0 : Int32) b1x kx r1x h2 n0 Z2 FE_2 VE_2 FS_2 E0x_2 rfl) hZ (hw _ (List.mem_of_getElem? (i := 102) rfl)) (hw _ (List.mem_of_getElem? (i := 24) rfl)) (by decide) (by decide)) q3a q3b q3c (g := (mkF m 26 #[.val (.ref a0x)] [(.int (0 : Int32)), (.ref a0x), (.ref b2), (.ref b2)])) rfl (by rw [hml]; rfl) (Steps.refl _) (argsL := [(.int (0 : Int32))]) (rest := [(.ref b2), (.ref b2)]) (lenOf pd_11 rfl) rfl (by show 2 * 0 + _ ≤ _; exact Nat.le_of_eq rfl) (hb hby d12_26) (fun _ _ => ⟨rfl, e2, (by decide : 1 + 0 ≤ _), (by decide : 1 + 0 ≤ _)⟩)
  dsimp only [Pt.U, Pt.locs, Pt.cells, Pt.slots] at X3 l3 y3 z3 st3 hQ3
  subst l3 y3 z3
  obtain ⟨rfl, N3q, e3⟩ := hQ3
  have N3 := Fr.app N1 N3q
  obtain ⟨T4, X4, e4, st4⟩ := castY X3 hx hZ hown (hw _ (List.mem_of_getElem? (i := 116) rfl)) e3 (Ins.self E1x_2) (g := (mkF m 31 #[.val (.ref a0x)] [(.ref r1x), (.ref b2), (.ref b2)])) rfl rfl (hb hby d12_31)
  obtain ⟨_, _, ⟨T5, L5, k5, n5⟩, -, X5, hSq5, gr5, ⟨Lc5, hQ5, l5, y5, z5⟩, st5⟩ := X4.specialBackS hx (y := (⟨"com/example/fyfo/fyfo/Runner$Shell", "<init>", "(Ljava/lang/String;)V"⟩ : MethodName)) rfl hown (mvT hZ (hw _ (List.mem_of_getElem? (i := 117) rfl))) (mvT hZ (hw _ (List.mem_of_getElem? (i := 118) rfl))) (mvT hZ (hw _ (List.mem_of_getElem? (i := 119) rfl))) (by decide) (backOfS (W := 1) (rm_shell l Z a0 hw [] b2 r1x h2 n0 Z2 A2 F_command_b2 g_b2) hZ (hw _ (List.mem_of_getElem? (i := 119) rfl)) (hw _ (List.mem_of_getElem? (i := 83) rfl)) (by decide) (by decide)) (g := (mkF m 34 #[.val (.ref a0x)] [(.ref r1x), (.ref b2), (.ref b2)])) rfl (by rw [hml]; rfl) (Steps.refl _) (a := b2) (argsL := [(.ref r1x)]) (rest := [(.ref b2)]) (lenOf pd_14 rfl) rfl (by show 2 * 0 + _ ≤ _; exact Nat.le_of_eq rfl) (hb hby d12_34) (fun _ _ => ⟨rfl, e4, (by decide : 1 + 2 ≤ _), (by decide : 1 + 32 ≤ _)⟩)
  dsimp only [Pt.U, Pt.locs, Pt.cells, Pt.slots] at X5 l5 y5 z5 st5 hQ5 hSq5 gr5
  subst l5 y5 z5
  obtain ⟨rfl, N5q, x5c0, x5c1⟩ := hQ5
  have N5 := Fr.app N3 N5q
  have FE_5 : Fld Z T5.heap a0x "java/util/ArrayList" "elementData" "[Ljava/lang/Object;" (.ref b1x) := FE_2.keep x5c0 (ninS ne_a0x_b2 nin0)
  have VE_5 : Arv Z T5.heap b1x kx (.object "java/lang/Object") (10 : Int32) [(.ref r1x), .null, .null, .null, .null, .null, .null, .null, .null, .null] .null := VE_2.keep x5c0 (ninS ne_b1x_b2 nin0)
  have FS_5 : Fld Z T5.heap a0x "java/util/ArrayList" "size" "I" (.int (1 : Int32)) := FS_2.keep x5c0 (ninS ne_a0x_b2 nin0)
  have E0x_5 : Exa Z T5.heap a0x "java/util/ArrayList" := E0x_2.keep x5c0
  have E1x_5 : Exa Z T5.heap r1x "java/lang/String" := E1x_2.keep x5c0
  have A2_5 : Exa Z T5.heap b2 "com/example/fyfo/fyfo/Runner$Shell" := A2.keep x5c0
  have hk5' : _ ≤ T5.heap.size := Nat.le_trans hk2' x5c0.1
  have Z5 : n0 ≤ T5.heap.size := Nat.le_trans Z2 x5c0.1
  have K5 : Keep h0 T5.heap [] := K2.trans x5c0 (allS (P := fun x => x ∈ [] ∨ h0.size ≤ x) (Or.inr sz_b2) all0)
  have X5b : Stand p l e ({ frames := 3, cells := 3, slots := 33, locals := 42 } : Room) (s.setVm T5.vm) m #[(.ref a0x)] below meth c T5 _ _ _ := X5
  have hS5 : s.Since T5.vm T5.heap.size := foldS hS0 (T := T4) (by first | exact hk2' | (rw [e4]; exact hk2')) hSq5 gr5
  have hZ5 : Z.Warmed39 (s.setVm T5.vm).vm := State.Warmed39.trans (t := s.setVm s.vm) hZ hSq5.1
  have hown5 : (s.setVm T5.vm).vm.findClass "com/example/fyfo/fyfo/Runner$Shell" = some m.cls := by rw [show (s.setVm T5.vm).vm = T5.vm from rfl, hSq5.1.alike.findClass]; exact hown
  have hk5 := Nat.le_refl T5.heap.size
  obtain ⟨fs, hr, hrun, hended, hREW⟩ := X5b.leaveW hS5 (by first | exact hk5 | (rw [rfl]; exact hk5)) (v := some (.ref b2)) (fun h => by rw [Bd.returns] at h; cases h)
  refine ⟨_, _, pre0 _ ?_, hrun, hended, _, _, rfl, ?_, hREW.1, hREW.2.1, hREW.2.2.1, hREW.2.2.2.mono (by decide) (by decide)⟩
  · show Steps p.tables e below (s₁.setTop (mkF m 0 #[.val (.ref a0x)] [])) _
    refine XS.aloadN X0.here hx rfl (hb hby d12_0) rfl rfl ?_
    show Steps p.tables e below (s₁.setTop (mkF m 1 #[.val (.ref a0x)] [(.ref a0x)])) _
    refine st1.trans ?_
    show Steps p.tables e below (T1.setTop (mkF m 6 #[.val (.ref a0x)] [(.int (1 : Int32))])) _
    refine XS.iconst X1.here hx rfl (hb hby d12_6) ?_
    show Steps p.tables e below (T1.setTop (mkF m 7 #[.val (.ref a0x)] [(.int (1 : Int32)), (.int (1 : Int32))])) _
    refine XS.icmpYes X1.here hx rfl (pc0 := 7) (pc' := 20) rfl (hb hby d12_7) rfl (flt (by decide : ¬ ((1 : Int32) < (1 : Int32)))).2.2.2 (by decide) (by decide) ?_
    show Steps p.tables e below (T1.setTop (mkF m 20 #[.val (.ref a0x)] [])) _
    refine st2 _ ?_
    show Steps p.tables e below (T2.setTop (mkF m 23 #[.val (.ref a0x)] [(.ref b2)])) _
    refine XS.dup X2.here hx rfl (hb hby d12_23) rfl rfl ?_
    show Steps p.tables e below (T2.setTop (mkF m 24 #[.val (.ref a0x)] [(.ref b2), (.ref b2)])) _
    refine XS.aloadN X2.here hx rfl (hb hby d12_24) rfl rfl ?_
    show Steps p.tables e below (T2.setTop (mkF m 25 #[.val (.ref a0x)] [(.ref a0x), (.ref b2), (.ref b2)])) _
    refine XS.iconst X2.here hx rfl (hb hby d12_25) ?_
    show Steps p.tables e below (T2.setTop (mkF m 26 #[.val (.ref a0x)] [(.int (0 : Int32)), (.ref a0x), (.ref b2), (.ref b2)])) _
    refine st3.trans ?_
    show Steps p.tables e below (T3.setTop (mkF m 31 #[.val (.ref a0x)] [(.ref r1x), (.ref b2), (.ref b2)])) _
    refine st4 _ ?_
    show Steps p.tables e below (T4.setTop (mkF m 34 #[.val (.ref a0x)] [(.ref r1x), (.ref b2), (.ref b2)])) _
    refine st5.trans ?_
    show Steps p.tables e below (T5.setTop (mkF m 37 #[.val (.ref a0x)] [(.ref b2)])) _
    exact retOut X5b hx Bd.returns (by rfl) (Or.inr (Or.inr (Or.inr (Or.inr ⟨rfl, rfl, rfl⟩)))) (hb hby d12_37) hr
  · show Q_rm_from Z a0x b1x kx r1x h0 n0 _ T5.heap _
    exact ⟨b2, rfl, N5, K5, g_b2, sz_b2, A2_5, x5c1⟩
theorem d21_0 : decode prog_34_method_9_code 0 = .ok (.aload_n 0, 1) := by decide +kernel
theorem d21_1 : decode prog_34_method_9_code 1 = .ok (.getfield 15, 3) := by decide +kernel
theorem d21_4 : decode prog_34_method_9_code 4 = .ok (.areturn, 1) := by decide +kernel
theorem ef_21 (m : MethodId) (x0 : Addr) : entryFrame m #[(.ref x0)] 1 = mkF m 0 #[.val (.ref x0)] [] := by first | (simp [entryFrame, mkF, argsToLocals, Value.category]; done) | rfl
def Q_rm_cmd (Z : State) (a0x : Addr) (c1x : Addr) (h0 : Heap) (n0 : Nat) (v : Option Value) (h : Heap) (L : List Loc) : Prop := v = some (.ref c1x) ∧ Fr n0 L ∧ h = h0
set_option maxRecDepth 65536 in
set_option maxHeartbeats 40000000 in
theorem rm_cmd (l : Launch) (Z : State) (a0 : Array Value) (hw : ∀ d ∈ tables_1, d.before a0 Z = true) (ws : List Jvm.Cond) (a0x : Addr) (c1x : Addr) (h0 : Heap) (n0 : Nat) (Z0 : n0 ≤ h0.size) (FC1 : Fld Z h0 a0x "com/example/fyfo/fyfo/Runner$Shell" "command" "Ljava/lang/String;" (.ref c1x)) :
    MetFree l (⟨"com/example/fyfo/fyfo/Runner$Shell", "command", "()Ljava/lang/String;"⟩ : MethodName) (head1 (Jvm.Cond.code (⟨"com/example/fyfo/fyfo/Runner$Shell", "command", "()Ljava/lang/String;"⟩ : MethodName) prog_34_method_9_code 1 (some (.object "java/lang/String")) :: ws) ({ frames := 0, cells := 0, slots := 0, locals := 0 } : Room)) (fun a U => a = #[(.ref a0x)] ∧ Z.Warmed39 U.vm ∧ U.heap = h0) (fun _ _ _ _ _ => True) (fun _ U o U' => ∃ v L, o = .returned v ∧ Q_rm_cmd Z a0x c1x h0 n0 v U'.heap L ∧ FrameEnd U o U' L ({ frames := 0, cells := 0, slots := 0, locals := 0 } : Room).cells ({ frames := 0, cells := 0, slots := 0, locals := 0 } : Room).slots) := by
  refine MetFree.of_bodySF (plainFor_of_name pn_10) hisR ?_
  intro p e s m args below meth c s₁ Bd hml0 hP hK
  obtain ⟨rfl, hZ, hh⟩ := hP
  have hx := Bd.exec
  have hby := Bd.bytes
  have hml : c.maxLocals = 1 := hml0
  have hown : s.vm.findClass "com/example/fyfo/fyfo/Runner$Shell" = some m.cls := findClass_of_methodNamed Bd.named
  have hnm := (name_of_methodNamed Bd.named Bd.method).1
  have X0 : Stand p l e ({ frames := 0, cells := 0, slots := 0, locals := 0 } : Room) s m #[(.ref a0x)] below meth c s₁ [] 0 0 := Stand.of_body Bd
  have e0 : s₁.heap = h0 := by rw [← hh, Bd.state]; rfl
  have N0 := Fr.nil n0
  have pre0 : ∀ t, Steps p.tables e below (s₁.setTop (mkF m 0 #[.val (.ref a0x)] [])) t → Steps p.tables e below (s₁.setTop (entryFrame m #[(.ref a0x)] 1)) t := fun t k => castTop (ef_21 m a0x) k
  obtain ⟨T1, X1, e1, st1⟩ := getF X0 hx hZ hown (host := "") (Or.inl (hw _ (List.mem_of_getElem? (i := 130) rfl))) Via.refl e0 FC1 (g := (mkF m 1 #[.val (.ref a0x)] [(.ref a0x)])) rfl rfl (hb hby d21_1)
  obtain ⟨fs, hr, hrun, hended, hW, hsame⟩ := X1.leave (v := some (.ref c1x)) (fun h => by rw [Bd.returns] at h; cases h)
  refine ⟨_, _, pre0 _ ?_, hrun, hended, _, _, rfl, ?_, ⟨_, rfl⟩, hW, hsame.mono (by decide) (by decide)⟩
  · show Steps p.tables e below (s₁.setTop (mkF m 0 #[.val (.ref a0x)] [])) _
    refine XS.aloadN X0.here hx rfl (hb hby d21_0) rfl rfl ?_
    show Steps p.tables e below (s₁.setTop (mkF m 1 #[.val (.ref a0x)] [(.ref a0x)])) _
    refine st1 _ ?_
    show Steps p.tables e below (T1.setTop (mkF m 4 #[.val (.ref a0x)] [(.ref c1x)])) _
    exact retOut X1 hx Bd.returns (by rfl) (Or.inr (Or.inr (Or.inr (Or.inr ⟨rfl, rfl, rfl⟩)))) (hb hby d21_4) hr
  · show Q_rm_cmd Z a0x c1x h0 n0 _ T1.heap _
    rw [e1]
    exact ⟨rfl, N0, rfl⟩
theorem d26_0 : decode jdk_44_method_1_code 0 = .ok (.aload_n 0, 1) := by decide +kernel
theorem d26_1 : decode jdk_44_method_1_code 1 = .ok (.invokespecial 1, 3) := by decide +kernel
theorem d26_4 : decode jdk_44_method_1_code 4 = .ok (.aload_n 0, 1) := by decide +kernel
theorem d26_5 : decode jdk_44_method_1_code 5 = .ok (.aload_n 1, 1) := by decide +kernel
theorem d26_6 : decode jdk_44_method_1_code 6 = .ok (.invokestatic 7, 3) := by decide +kernel
theorem pd_15 : parseMethodDescriptor "(Ljava/lang/Object;)Ljava/lang/Object;" = some ⟨[(.object "java/lang/Object")], some (.object "java/lang/Object")⟩ := by decide +kernel
theorem d26_9 : decode jdk_44_method_1_code 9 = .ok (.putfield 13, 3) := by decide +kernel
theorem d26_12 : decode jdk_44_method_1_code 12 = .ok (.aload_n 0, 1) := by decide +kernel
theorem d26_13 : decode jdk_44_method_1_code 13 = .ok (.getstatic 19, 3) := by decide +kernel
theorem d26_16 : decode jdk_44_method_1_code 16 = .ok (.putfield 24, 3) := by decide +kernel
theorem d26_19 : decode jdk_44_method_1_code 19 = .ok (.return_, 1) := by decide +kernel
theorem pn_11 : plainName "java/util/ImmutableCollections$List12" = true := by first | (simp [plainName, overriddenIn]; done) | decide +kernel
theorem ef_26 (m : MethodId) (x0 : Addr) (x1 : Addr) : entryFrame m #[(.ref x0), (.ref x1)] 2 = mkF m 0 #[.val (.ref x0), .val (.ref x1)] [] := by first | (simp [entryFrame, mkF, argsToLocals, Value.category]; done) | rfl
def Q_rm_l12 (Z : State) (a0x : Addr) (a1x : Addr) (w_E : Addr) (h0 : Heap) (n0 : Nat) (v : Option Value) (h : Heap) (L : List Loc) : Prop := v = none ∧ Fr n0 L ∧ Keep h0 h [a0x] ∧ Fld Z h a0x "java/util/ImmutableCollections$List12" "e0" "Ljava/lang/Object;" (.ref a1x) ∧ Fld Z h a0x "java/util/ImmutableCollections$List12" "e1" "Ljava/lang/Object;" (.ref w_E)
set_option maxRecDepth 65536 in
set_option maxHeartbeats 40000000 in
theorem rm_l12 (l : Launch) (Z : State) (a0 : Array Value) (hw : ∀ d ∈ tables_1, d.before a0 Z = true) (ws : List Jvm.Cond) (a0x : Addr) (a1x : Addr) (w_E : Addr) (h0 : Heap) (n0 : Nat) (Z0 : n0 ≤ h0.size) (E0x : Exa Z h0 a0x "java/util/ImmutableCollections$List12") (F0x0 : Fld Z h0 a0x "java/util/ImmutableCollections$List12" "e0" "Ljava/lang/Object;" .null) (F0x1 : Fld Z h0 a0x "java/util/ImmutableCollections$List12" "e1" "Ljava/lang/Object;" .null) (g0x : n0 ≤ a0x) (S_E : Sta Z h0 "java/util/ImmutableCollections" "EMPTY" "Ljava/lang/Object;" (.ref w_E)) :
    MetFree l (⟨"java/util/ImmutableCollections$List12", "<init>", "(Ljava/lang/Object;)V"⟩ : MethodName) (head1 (Jvm.Cond.code (⟨"java/util/ImmutableCollections$List12", "<init>", "(Ljava/lang/Object;)V"⟩ : MethodName) jdk_44_method_1_code 2 none :: ws) ({ frames := 4, cells := 0, slots := 0, locals := 48 } : Room)) (fun a U => a = #[(.ref a0x), (.ref a1x)] ∧ Z.Warmed39 U.vm ∧ U.heap = h0) (fun _ _ _ _ _ => True) (fun _ U o U' => ∃ v L, o = .returned v ∧ Q_rm_l12 Z a0x a1x w_E h0 n0 v U'.heap L ∧ FrameEnd U o U' L ({ frames := 4, cells := 0, slots := 0, locals := 48 } : Room).cells ({ frames := 4, cells := 0, slots := 0, locals := 48 } : Room).slots) := by
  refine MetFree.of_bodySF (plainFor_of_name pn_11) hisR ?_
  intro p e s m args below meth c s₁ Bd hml0 hP hK
  obtain ⟨rfl, hZ, hh⟩ := hP
  have hx := Bd.exec
  have hby := Bd.bytes
  have hml : c.maxLocals = 2 := hml0
  have hown : s.vm.findClass "java/util/ImmutableCollections$List12" = some m.cls := findClass_of_methodNamed Bd.named
  have hnm := (name_of_methodNamed Bd.named Bd.method).1
  have X0 : Stand p l e ({ frames := 4, cells := 0, slots := 0, locals := 48 } : Room) s m #[(.ref a0x), (.ref a1x)] below meth c s₁ [] 0 0 := Stand.of_body Bd
  have e0 : s₁.heap = h0 := by rw [← hh, Bd.state]; rfl
  have N0 := Fr.nil n0
  have K0 : Keep h0 h0 [a0x] := Keep.refl h0 [a0x]
  have pre0 : ∀ t, Steps p.tables e below (s₁.setTop (mkF m 0 #[.val (.ref a0x), .val (.ref a1x)] [])) t → Steps p.tables e below (s₁.setTop (entryFrame m #[(.ref a0x), (.ref a1x)] 2)) t := fun t k => castTop (ef_26 m a0x a1x) k
  obtain ⟨_, _, ⟨T1, L1, k1, n1⟩, -, X1, ⟨Lc1, hQ1, l1, y1, z1⟩, st1⟩ := X0.specialBack hx (y := (⟨"java/util/ImmutableCollections$AbstractImmutableList", "<init>", "()V"⟩ : MethodName)) rfl hown (mvT hZ (hw _ (List.mem_of_getElem? (i := 164) rfl))) (mvT hZ (hw _ (List.mem_of_getElem? (i := 165) rfl))) (mvT hZ (hw _ (List.mem_of_getElem? (i := 169) rfl))) (by decide) (backOf (W := 0) (rm_ail l Z a0 hw [] a0x h0 n0 Z0) hZ (hw _ (List.mem_of_getElem? (i := 169) rfl)) (hw _ (List.mem_of_getElem? (i := 168) rfl)) (by decide) (by decide)) (g := (mkF m 1 #[.val (.ref a0x), .val (.ref a1x)] [(.ref a0x)])) rfl (by rw [hml]; rfl) (Steps.refl _) (a := a0x) (argsL := []) (rest := []) (lenOf pd_1 rfl) rfl (by show 2 * 0 + _ ≤ _; exact Nat.le_of_eq rfl) (hb hby d26_1) (fun _ _ => ⟨rfl, e0, (by decide : 0 + 0 ≤ _), (by decide : 0 + 0 ≤ _)⟩)
  dsimp only [Pt.U, Pt.locs, Pt.cells, Pt.slots] at X1 l1 y1 z1 st1 hQ1
  subst l1 y1 z1
  obtain ⟨rfl, N1q, e1⟩ := hQ1
  have N1 := Fr.app N0 N1q
  obtain ⟨_, _, ⟨T2, L2, k2, n2⟩, -, X2, ⟨Lc2, hQ2, l2, y2, z2⟩, st2⟩ := Jvm.LawKit.callS X1 hx (y := (⟨"java/util/Objects", "requireNonNull", "(Ljava/lang/Object;)Ljava/lang/Object;"⟩ : MethodName)) hown (mvT hZ (hw _ (List.mem_of_getElem? (i := 178) rfl))) (mvT hZ (hw _ (List.mem_of_getElem? (i := 179) rfl))) (mvT hZ (hw _ (List.mem_of_getElem? (i := 105) rfl))) (mvT hZ (hw _ (List.mem_of_getElem? (i := 180) rfl))) (by decide) (backOf (W := 1) (rm_nn1 l Z a0 hw [] a1x h0 n0 Z0) hZ (hw _ (List.mem_of_getElem? (i := 180) rfl)) (hw _ (List.mem_of_getElem? (i := 105) rfl)) (by decide) (by decide)) (g := (mkF m 6 #[.val (.ref a0x), .val (.ref a1x)] [(.ref a1x), (.ref a0x)])) rfl (by rw [hml]; rfl) (argsL := [(.ref a1x)]) (rest := [(.ref a0x)]) (lenOf pd_15 rfl) rfl (by show 2 * 0 + _ ≤ _; exact Nat.le_of_eq rfl) (hb hby d26_6) (fun _ _ => ⟨rfl, e1, (by decide : 0 + 0 ≤ _), (by decide : 0 + 0 ≤ _)⟩)
  dsimp only [Pt.U, Pt.locs, Pt.cells, Pt.slots] at X2 l2 y2 z2 st2 hQ2
  subst l2 y2 z2
  obtain ⟨rfl, N2q, e2⟩ := hQ2
  have N2 := Fr.app N1 N2q
  obtain ⟨T3, h3, X3, e3, W3, st3⟩ := putF X2 hx hZ hown (host := "") (Or.inl (hw _ (List.mem_of_getElem? (i := 181) rfl))) Via.refl e2 F0x0 E0x (Or.inr ⟨(hw _ (List.mem_of_getElem? (i := 182) rfl)), rfl, hnm⟩) (hw _ (List.mem_of_getElem? (i := 158) rfl)) (ty := (.object "java/lang/Object")) (by decide) rfl rfl (g := (mkF m 9 #[.val (.ref a0x), .val (.ref a1x)] [(.ref a1x), (.ref a0x)])) rfl rfl (hb hby d26_9)
  have N3 := Fr.snoc X3 N2 g0x
  have Fw3 : Fld Z h3 a0x "java/util/ImmutableCollections$List12" "e0" "Ljava/lang/Object;" (.ref a1x) := F0x0.same W3
  have E0x_3 : Exa Z h3 a0x "java/util/ImmutableCollections$List12" := E0x.wr W3
  have F0x1_3 : Fld Z h3 a0x "java/util/ImmutableCollections$List12" "e1" "Ljava/lang/Object;" .null := F0x1.other W3 (Or.inr (slot_ne (Or.inr (hw _ (List.mem_of_getElem? (i := 186) rfl))) (Or.inr (hw _ (List.mem_of_getElem? (i := 182) rfl))) (by decide) (t := (.object "java/lang/Object")) (t' := (.object "java/lang/Object")) (by decide) (by decide)))
  have S_E_3 : Sta Z h3 "java/util/ImmutableCollections" "EMPTY" "Ljava/lang/Object;" (.ref w_E) := S_E.wr W3
  have Z3 : n0 ≤ h3.size := Nat.le_trans Z0 (Keep.of_wr W3).1
  have K3 : Keep h0 h3 [a0x] := K0.wr W3 (Or.inl (List.mem_of_getElem? (i := 0) rfl))
  obtain ⟨T4, X4, e4, st4⟩ := getS2 X3 hx hZ hown (Or.inr (hw _ (List.mem_of_getElem? (i := 183) rfl))) Via.refl e3 S_E_3 (g := (mkF m 13 #[.val (.ref a0x), .val (.ref a1x)] [(.ref a0x)])) rfl (hb hby d26_13)
  obtain ⟨T5, h5, X5, e5, W5, st5⟩ := putF X4 hx hZ hown (host := "") (Or.inl (hw _ (List.mem_of_getElem? (i := 185) rfl))) Via.refl e4 F0x1_3 E0x_3 (Or.inr ⟨(hw _ (List.mem_of_getElem? (i := 186) rfl)), rfl, hnm⟩) (hw _ (List.mem_of_getElem? (i := 158) rfl)) (ty := (.object "java/lang/Object")) (by decide) rfl rfl (g := (mkF m 16 #[.val (.ref a0x), .val (.ref a1x)] [(.ref w_E), (.ref a0x)])) rfl rfl (hb hby d26_16)
  have N5 := Fr.snoc X5 N3 g0x
  have Fw5 : Fld Z h5 a0x "java/util/ImmutableCollections$List12" "e1" "Ljava/lang/Object;" (.ref w_E) := F0x1_3.same W5
  have E0x_5 : Exa Z h5 a0x "java/util/ImmutableCollections$List12" := E0x_3.wr W5
  have S_E_5 : Sta Z h5 "java/util/ImmutableCollections" "EMPTY" "Ljava/lang/Object;" (.ref w_E) := S_E_3.wr W5
  have Fw3_5 : Fld Z h5 a0x "java/util/ImmutableCollections$List12" "e0" "Ljava/lang/Object;" (.ref a1x) := Fw3.other W5 (Or.inr (slot_ne (Or.inr (hw _ (List.mem_of_getElem? (i := 182) rfl))) (Or.inr (hw _ (List.mem_of_getElem? (i := 186) rfl))) (by decide) (t := (.object "java/lang/Object")) (t' := (.object "java/lang/Object")) (by decide) (by decide)))
  have Z5 : n0 ≤ h5.size := Nat.le_trans Z3 (Keep.of_wr W5).1
  have K5 : Keep h0 h5 [a0x] := K3.wr W5 (Or.inl (List.mem_of_getElem? (i := 0) rfl))
  obtain ⟨fs, hr, hrun, hended, hW, hsame⟩ := X5.leave (v := none) (fun _ => rfl)
  refine ⟨_, _, pre0 _ ?_, hrun, hended, _, _, rfl, ?_, ⟨_, rfl⟩, hW, hsame.mono (by decide) (by decide)⟩
  · show Steps p.tables e below (s₁.setTop (mkF m 0 #[.val (.ref a0x), .val (.ref a1x)] [])) _
    refine XS.aloadN X0.here hx rfl (hb hby d26_0) rfl rfl ?_
    show Steps p.tables e below (s₁.setTop (mkF m 1 #[.val (.ref a0x), .val (.ref a1x)] [(.ref a0x)])) _
    refine st1.trans ?_
    show Steps p.tables e below (T1.setTop (mkF m 4 #[.val (.ref a0x), .val (.ref a1x)] [])) _
    refine XS.aloadN X1.here hx rfl (hb hby d26_4) rfl rfl ?_
    show Steps p.tables e below (T1.setTop (mkF m 5 #[.val (.ref a0x), .val (.ref a1x)] [(.ref a0x)])) _
    refine XS.aloadN X1.here hx rfl (hb hby d26_5) rfl rfl ?_
    show Steps p.tables e below (T1.setTop (mkF m 6 #[.val (.ref a0x), .val (.ref a1x)] [(.ref a1x), (.ref a0x)])) _
    refine st2 _ ?_
    show Steps p.tables e below (T2.setTop (mkF m 9 #[.val (.ref a0x), .val (.ref a1x)] [(.ref a1x), (.ref a0x)])) _
    refine st3 _ ?_
    show Steps p.tables e below (T3.setTop (mkF m 12 #[.val (.ref a0x), .val (.ref a1x)] [])) _
    refine XS.aloadN X3.here hx rfl (hb hby d26_12) rfl rfl ?_
    show Steps p.tables e below (T3.setTop (mkF m 13 #[.val (.ref a0x), .val (.ref a1x)] [(.ref a0x)])) _
    refine st4 _ ?_
    show Steps p.tables e below (T4.setTop (mkF m 16 #[.val (.ref a0x), .val (.ref a1x)] [(.ref w_E), (.ref a0x)])) _
    refine st5 _ ?_
    show Steps p.tables e below (T5.setTop (mkF m 19 #[.val (.ref a0x), .val (.ref a1x)] [])) _
    exact X5.returnOut hx Bd.returns (hb hby d26_19) hr
  · show Q_rm_l12 Z a0x a1x w_E h0 n0 _ T5.heap _
    rw [e5]
    exact ⟨rfl, N5, K5, Fw3_5, Fw5⟩
theorem d25_0 : decode jdk_40_method_37_code 0 = .ok (.new 96, 3) := by decide +kernel
theorem d25_3 : decode jdk_40_method_37_code 3 = .ok (.dup, 1) := by decide +kernel
theorem d25_4 : decode jdk_40_method_37_code 4 = .ok (.aload_n 0, 1) := by decide +kernel
theorem d25_5 : decode jdk_40_method_37_code 5 = .ok (.invokespecial 98, 3) := by decide +kernel
theorem pd_16 : parseMethodDescriptor "(Ljava/lang/Object;)V" = some ⟨[(.object "java/lang/Object")], none⟩ := by decide +kernel
theorem d25_8 : decode jdk_40_method_37_code 8 = .ok (.areturn, 1) := by decide +kernel
theorem pn_12 : plainName "java/util/List" = true := by first | (simp [plainName, overriddenIn]; done) | decide +kernel
theorem ef_25 (m : MethodId) (x0 : Addr) : entryFrame m #[(.ref x0)] 1 = mkF m 0 #[.val (.ref x0)] [] := by first | (simp [entryFrame, mkF, argsToLocals, Value.category]; done) | rfl
def Q_rm_of (Z : State) (a1x : Addr) (w_E : Addr) (h0 : Heap) (n0 : Nat) (v : Option Value) (h : Heap) (L : List Loc) : Prop := ∃ bq : Addr, v = some (.ref bq) ∧ Fr n0 L ∧ Keep h0 h [] ∧ n0 ≤ bq ∧ h0.size ≤ bq ∧ Exa Z h bq "java/util/ImmutableCollections$List12" ∧ Fld Z h bq "java/util/ImmutableCollections$List12" "e0" "Ljava/lang/Object;" (.ref a1x) ∧ Fld Z h bq "java/util/ImmutableCollections$List12" "e1" "Ljava/lang/Object;" (.ref w_E)
set_option maxRecDepth 65536 in
set_option maxHeartbeats 40000000 in
theorem rm_of (l : Launch) (Z : State) (a0 : Array Value) (hw : ∀ d ∈ tables_1, d.before a0 Z = true) (ws : List Jvm.Cond) (a1x : Addr) (w_E : Addr) (h0 : Heap) (n0 : Nat) (Z0 : n0 ≤ h0.size) (S_E : Sta Z h0 "java/util/ImmutableCollections" "EMPTY" "Ljava/lang/Object;" (.ref w_E)) :
    MetFree l (⟨"java/util/List", "of", "(Ljava/lang/Object;)Ljava/util/List;"⟩ : MethodName) (head1 (Jvm.Cond.code (⟨"java/util/List", "of", "(Ljava/lang/Object;)Ljava/util/List;"⟩ : MethodName) jdk_40_method_37_code 1 (some (.object "java/util/List")) :: ws) ({ frames := 5, cells := 1, slots := 2, locals := 62 } : Room)) (fun a U => a = #[(.ref a1x)] ∧ Z.Warmed39 U.vm ∧ U.heap = h0) (fun _ _ _ _ _ => True) (fun _ U o U' => ∃ v L, o = .returned v ∧ Q_rm_of Z a1x w_E h0 n0 v U'.heap L ∧ FrameEnd U o U' L ({ frames := 5, cells := 1, slots := 2, locals := 62 } : Room).cells ({ frames := 5, cells := 1, slots := 2, locals := 62 } : Room).slots) := by
  refine MetFree.of_bodySF (plainFor_of_name pn_12) hisR ?_
  intro p e s m args below meth c s₁ Bd hml0 hP hK
  obtain ⟨rfl, hZ, hh⟩ := hP
  have hx := Bd.exec
  have hby := Bd.bytes
  have hml : c.maxLocals = 1 := hml0
  have hown : s.vm.findClass "java/util/List" = some m.cls := findClass_of_methodNamed Bd.named
  have hnm := (name_of_methodNamed Bd.named Bd.method).1
  have X0 : Stand p l e ({ frames := 5, cells := 1, slots := 2, locals := 62 } : Room) s m #[(.ref a1x)] below meth c s₁ [] 0 0 := Stand.of_body Bd
  have e0 : s₁.heap = h0 := by rw [← hh, Bd.state]; rfl
  have N0 := Fr.nil n0
  have K0 : Keep h0 h0 [] := Keep.refl h0 []
  have pre0 : ∀ t, Steps p.tables e below (s₁.setTop (mkF m 0 #[.val (.ref a1x)] [])) t → Steps p.tables e below (s₁.setTop (entryFrame m #[(.ref a1x)] 1)) t := fun t k => castTop (ef_25 m a1x) k
  obtain ⟨T1, h1, X1, e1, E1, A1, D1, -, st1⟩ := newO X0 hx hZ hown (hw _ (List.mem_of_getElem? (i := 157) rfl)) (hw _ (List.mem_of_getElem? (i := 158) rfl)) (hw _ (List.mem_of_getElem? (i := 159) rfl)) e0 (g := (mkF m 0 #[.val (.ref a1x)] [])) rfl (hb hby d25_0) (by decide) (by decide)
  obtain ⟨b1, g1⟩ : ∃ z, z = h0.size := ⟨_, rfl⟩
  rw [← g1] at A1 D1 st1
  have g_b1 : n0 ≤ b1 := Nat.le_trans Z0 (Nat.le_of_eq g1.symm)
  have sz_b1 : h0.size ≤ b1 := Nat.le_trans K0.1 (Nat.le_of_eq g1.symm)
  have S_E_1 : Sta Z h1 "java/util/ImmutableCollections" "EMPTY" "Ljava/lang/Object;" (.ref w_E) := S_E.ext E1
  have Z1 : n0 ≤ h1.size := Nat.le_trans Z0 E1.1
  have K1 : Keep h0 h1 [] := K0.ext E1
  have F_e0_b1 : Fld Z h1 b1 "java/util/ImmutableCollections$List12" "e0" "Ljava/lang/Object;" .null := D1 (Or.inr (hw _ (List.mem_of_getElem? (i := 182) rfl))) (ty := (.object "java/lang/Object")) (by decide)
  have F_e1_b1 : Fld Z h1 b1 "java/util/ImmutableCollections$List12" "e1" "Ljava/lang/Object;" .null := D1 (Or.inr (hw _ (List.mem_of_getElem? (i := 186) rfl))) (ty := (.object "java/lang/Object")) (by decide)
  obtain ⟨_, _, ⟨T2, L2, k2, n2⟩, -, X2, ⟨Lc2, hQ2, l2, y2, z2⟩, st2⟩ := X1.specialBack hx (y := (⟨"java/util/ImmutableCollections$List12", "<init>", "(Ljava/lang/Object;)V"⟩ : MethodName)) rfl hown (mvT hZ (hw _ (List.mem_of_getElem? (i := 160) rfl))) (mvT hZ (hw _ (List.mem_of_getElem? (i := 161) rfl))) (mvT hZ (hw _ (List.mem_of_getElem? (i := 163) rfl))) (by decide) (backOf (W := 1) (rm_l12 l Z a0 hw [] b1 a1x w_E h1 n0 Z1 A1 F_e0_b1 F_e1_b1 g_b1 S_E_1) hZ (hw _ (List.mem_of_getElem? (i := 163) rfl)) (hw _ (List.mem_of_getElem? (i := 159) rfl)) (by decide) (by decide)) (g := (mkF m 5 #[.val (.ref a1x)] [(.ref a1x), (.ref b1), (.ref b1)])) rfl (by rw [hml]; rfl) (Steps.refl _) (a := b1) (argsL := [(.ref a1x)]) (rest := [(.ref b1)]) (lenOf pd_16 rfl) rfl (by show 2 * 0 + _ ≤ _; exact Nat.le_of_eq rfl) (hb hby d25_5) (fun _ _ => ⟨rfl, e1, (by decide : 1 + 0 ≤ _), (by decide : 2 + 0 ≤ _)⟩)
  dsimp only [Pt.U, Pt.locs, Pt.cells, Pt.slots] at X2 l2 y2 z2 st2 hQ2
  subst l2 y2 z2
  obtain ⟨rfl, N2q, x2c0, x2c1, x2c2⟩ := hQ2
  have N2 := Fr.app N0 N2q
  have A1_2 : Exa Z T2.heap b1 "java/util/ImmutableCollections$List12" := A1.keep x2c0
  have Z2 : n0 ≤ T2.heap.size := Nat.le_trans Z1 x2c0.1
  have K2 : Keep h0 T2.heap [] := K1.trans x2c0 (allS (P := fun x => x ∈ [] ∨ h0.size ≤ x) (Or.inr sz_b1) all0)
  obtain ⟨fs, hr, hrun, hended, hW, hsame⟩ := X2.leave (v := some (.ref b1)) (fun h => by rw [Bd.returns] at h; cases h)
  refine ⟨_, _, pre0 _ ?_, hrun, hended, _, _, rfl, ?_, ⟨_, rfl⟩, hW, hsame.mono (by decide) (by decide)⟩
  · show Steps p.tables e below (s₁.setTop (mkF m 0 #[.val (.ref a1x)] [])) _
    refine st1 _ ?_
    show Steps p.tables e below (T1.setTop (mkF m 3 #[.val (.ref a1x)] [(.ref b1)])) _
    refine XS.dup X1.here hx rfl (hb hby d25_3) rfl rfl ?_
    show Steps p.tables e below (T1.setTop (mkF m 4 #[.val (.ref a1x)] [(.ref b1), (.ref b1)])) _
    refine XS.aloadN X1.here hx rfl (hb hby d25_4) rfl rfl ?_
    show Steps p.tables e below (T1.setTop (mkF m 5 #[.val (.ref a1x)] [(.ref a1x), (.ref b1), (.ref b1)])) _
    refine st2.trans ?_
    show Steps p.tables e below (T2.setTop (mkF m 8 #[.val (.ref a1x)] [(.ref b1)])) _
    exact retOut X2 hx Bd.returns (by rfl) (Or.inr (Or.inr (Or.inr (Or.inr ⟨rfl, rfl, rfl⟩)))) (hb hby d25_8) hr
  · show Q_rm_of Z a1x w_E h0 n0 _ T2.heap _
    exact ⟨b1, rfl, N2, K2, g_b1, sz_b1, A1_2, x2c1, x2c2⟩
theorem d24_0 : decode prog_34_method_4_code 0 = .ok (.aload_n 0, 1) := by decide +kernel
theorem d24_1 : decode prog_34_method_4_code 1 = .ok (.getfield 15, 3) := by decide +kernel
theorem d24_4 : decode prog_34_method_4_code 4 = .ok (.invokestatic 46, 3) := by decide +kernel
theorem pd_17 : parseMethodDescriptor "(Ljava/lang/Object;)Ljava/util/List;" = some ⟨[(.object "java/lang/Object")], some (.object "java/util/List")⟩ := by decide +kernel
theorem d24_7 : decode prog_34_method_4_code 7 = .ok (.areturn, 1) := by decide +kernel
theorem ef_24 (m : MethodId) (x0 : Addr) : entryFrame m #[(.ref x0)] 1 = mkF m 0 #[.val (.ref x0)] [] := by first | (simp [entryFrame, mkF, argsToLocals, Value.category]; done) | rfl
def Q_rm_words (Z : State) (a0x : Addr) (c1x : Addr) (w_E : Addr) (h0 : Heap) (n0 : Nat) (v : Option Value) (h : Heap) (L : List Loc) : Prop := ∃ bq : Addr, v = some (.ref bq) ∧ Fr n0 L ∧ Keep h0 h [] ∧ n0 ≤ bq ∧ h0.size ≤ bq ∧ Exa Z h bq "java/util/ImmutableCollections$List12" ∧ Fld Z h bq "java/util/ImmutableCollections$List12" "e0" "Ljava/lang/Object;" (.ref c1x) ∧ Fld Z h bq "java/util/ImmutableCollections$List12" "e1" "Ljava/lang/Object;" (.ref w_E)
set_option maxRecDepth 65536 in
set_option maxHeartbeats 40000000 in
theorem rm_words (l : Launch) (Z : State) (a0 : Array Value) (hw : ∀ d ∈ tables_1, d.before a0 Z = true) (ws : List Jvm.Cond) (a0x : Addr) (c1x : Addr) (w_E : Addr) (h0 : Heap) (n0 : Nat) (Z0 : n0 ≤ h0.size) (FC1 : Fld Z h0 a0x "com/example/fyfo/fyfo/Runner$Shell" "command" "Ljava/lang/String;" (.ref c1x)) (S_E : Sta Z h0 "java/util/ImmutableCollections" "EMPTY" "Ljava/lang/Object;" (.ref w_E)) :
    MetFree l (⟨"com/example/fyfo/fyfo/Runner$Shell", "words", "()Ljava/util/List;"⟩ : MethodName) (head1 (Jvm.Cond.code (⟨"com/example/fyfo/fyfo/Runner$Shell", "words", "()Ljava/util/List;"⟩ : MethodName) prog_34_method_4_code 1 (some (.object "java/util/List")) :: ws) ({ frames := 6, cells := 1, slots := 2, locals := 74 } : Room)) (fun a U => a = #[(.ref a0x)] ∧ Z.Warmed39 U.vm ∧ U.heap = h0) (fun _ _ _ _ _ => True) (fun _ U o U' => ∃ v L, o = .returned v ∧ Q_rm_words Z a0x c1x w_E h0 n0 v U'.heap L ∧ FrameEnd U o U' L ({ frames := 6, cells := 1, slots := 2, locals := 74 } : Room).cells ({ frames := 6, cells := 1, slots := 2, locals := 74 } : Room).slots) := by
  refine MetFree.of_bodySF (plainFor_of_name pn_10) hisR ?_
  intro p e s m args below meth c s₁ Bd hml0 hP hK
  obtain ⟨rfl, hZ, hh⟩ := hP
  have hx := Bd.exec
  have hby := Bd.bytes
  have hml : c.maxLocals = 1 := hml0
  have hown : s.vm.findClass "com/example/fyfo/fyfo/Runner$Shell" = some m.cls := findClass_of_methodNamed Bd.named
  have hnm := (name_of_methodNamed Bd.named Bd.method).1
  have X0 : Stand p l e ({ frames := 6, cells := 1, slots := 2, locals := 74 } : Room) s m #[(.ref a0x)] below meth c s₁ [] 0 0 := Stand.of_body Bd
  have e0 : s₁.heap = h0 := by rw [← hh, Bd.state]; rfl
  have N0 := Fr.nil n0
  have K0 : Keep h0 h0 [] := Keep.refl h0 []
  have pre0 : ∀ t, Steps p.tables e below (s₁.setTop (mkF m 0 #[.val (.ref a0x)] [])) t → Steps p.tables e below (s₁.setTop (entryFrame m #[(.ref a0x)] 1)) t := fun t k => castTop (ef_24 m a0x) k
  obtain ⟨T1, X1, e1, st1⟩ := getF X0 hx hZ hown (host := "") (Or.inl (hw _ (List.mem_of_getElem? (i := 130) rfl))) Via.refl e0 FC1 (g := (mkF m 1 #[.val (.ref a0x)] [(.ref a0x)])) rfl rfl (hb hby d24_1)
  obtain ⟨_, _, ⟨T2, L2, k2, n2⟩, -, X2, ⟨Lc2, hQ2, l2, y2, z2⟩, st2⟩ := Jvm.LawKit.callS X1 hx (y := (⟨"java/util/List", "of", "(Ljava/lang/Object;)Ljava/util/List;"⟩ : MethodName)) hown (mvT hZ (hw _ (List.mem_of_getElem? (i := 153) rfl))) (mvT hZ (hw _ (List.mem_of_getElem? (i := 154) rfl))) (mvT hZ (hw _ (List.mem_of_getElem? (i := 155) rfl))) (mvT hZ (hw _ (List.mem_of_getElem? (i := 156) rfl))) (by decide) (backOf (W := 0) (rm_of l Z a0 hw [] c1x w_E h0 n0 Z0 S_E) hZ (hw _ (List.mem_of_getElem? (i := 156) rfl)) (hw _ (List.mem_of_getElem? (i := 155) rfl)) (by decide) (by decide)) (g := (mkF m 4 #[.val (.ref a0x)] [(.ref c1x)])) rfl (by rw [hml]; rfl) (argsL := [(.ref c1x)]) (rest := []) (lenOf pd_17 rfl) rfl (by show 2 * 0 + _ ≤ _; exact Nat.le_of_eq rfl) (hb hby d24_4) (fun _ _ => ⟨rfl, e1, (by decide : 0 + 1 ≤ _), (by decide : 0 + 2 ≤ _)⟩)
  dsimp only [Pt.U, Pt.locs, Pt.cells, Pt.slots] at X2 l2 y2 z2 st2 hQ2
  subst l2 y2 z2
  obtain ⟨bx2, rfl, N2q, x2c0, x2c1, x2c2, x2c3, x2c4, x2c5⟩ := hQ2
  have N2 := Fr.app N0 N2q
  have ne_a0x_bx2 : a0x ≠ bx2 := Nat.ne_of_lt (Nat.lt_of_lt_of_le FC1.lt x2c2)
  have FC1_2 : Fld Z T2.heap a0x "com/example/fyfo/fyfo/Runner$Shell" "command" "Ljava/lang/String;" (.ref c1x) := FC1.keep x2c0 nin0
  have Z2 : n0 ≤ T2.heap.size := Nat.le_trans Z0 x2c0.1
  have K2 : Keep h0 T2.heap [] := K0.trans x2c0 (all0 (P := fun x => x ∈ [] ∨ h0.size ≤ x))
  obtain ⟨fs, hr, hrun, hended, hW, hsame⟩ := X2.leave (v := some (.ref bx2)) (fun h => by rw [Bd.returns] at h; cases h)
  refine ⟨_, _, pre0 _ ?_, hrun, hended, _, _, rfl, ?_, ⟨_, rfl⟩, hW, hsame.mono (by decide) (by decide)⟩
  · show Steps p.tables e below (s₁.setTop (mkF m 0 #[.val (.ref a0x)] [])) _
    refine XS.aloadN X0.here hx rfl (hb hby d24_0) rfl rfl ?_
    show Steps p.tables e below (s₁.setTop (mkF m 1 #[.val (.ref a0x)] [(.ref a0x)])) _
    refine st1 _ ?_
    show Steps p.tables e below (T1.setTop (mkF m 4 #[.val (.ref a0x)] [(.ref c1x)])) _
    refine st2 _ ?_
    show Steps p.tables e below (T2.setTop (mkF m 7 #[.val (.ref a0x)] [(.ref bx2)])) _
    exact retOut X2 hx Bd.returns (by rfl) (Or.inr (Or.inr (Or.inr (Or.inr ⟨rfl, rfl, rfl⟩)))) (hb hby d24_7) hr
  · show Q_rm_words Z a0x c1x w_E h0 n0 _ T2.heap _
    exact ⟨bx2, rfl, N2, K2, x2c1, (Nat.le_trans K0.1 x2c2), x2c3, x2c4, x2c5⟩
theorem d31_0 : decode jdk_44_method_3_code 0 = .ok (.aload_n 0, 1) := by decide +kernel
theorem d31_1 : decode jdk_44_method_3_code 1 = .ok (.getfield 24, 3) := by decide +kernel
theorem d31_4 : decode jdk_44_method_3_code 4 = .ok (.getstatic 19, 3) := by decide +kernel
theorem d31_7 : decode jdk_44_method_3_code 7 = .ok (.if_acmp .eq 7, 3) := by decide +kernel
theorem d31_14 : decode jdk_44_method_3_code 14 = .ok (.iconst 1, 1) := by decide +kernel
theorem d31_15 : decode jdk_44_method_3_code 15 = .ok (.ireturn, 1) := by decide +kernel
theorem ef_31 (m : MethodId) (x0 : Addr) : entryFrame m #[(.ref x0)] 1 = mkF m 0 #[.val (.ref x0)] [] := by first | (simp [entryFrame, mkF, argsToLocals, Value.category]; done) | rfl
def Q_rm_l12s (Z : State) (a0x : Addr) (w_E : Addr) (h0 : Heap) (n0 : Nat) (v : Option Value) (h : Heap) (L : List Loc) : Prop := v = some (.int (1 : Int32)) ∧ Fr n0 L ∧ h = h0
set_option maxRecDepth 65536 in
set_option maxHeartbeats 40000000 in
theorem rm_l12s (l : Launch) (Z : State) (a0 : Array Value) (hw : ∀ d ∈ tables_1, d.before a0 Z = true) (ws : List Jvm.Cond) (a0x : Addr) (w_E : Addr) (h0 : Heap) (n0 : Nat) (Z0 : n0 ≤ h0.size) (F1 : Fld Z h0 a0x "java/util/ImmutableCollections$List12" "e1" "Ljava/lang/Object;" (.ref w_E)) (S_E : Sta Z h0 "java/util/ImmutableCollections" "EMPTY" "Ljava/lang/Object;" (.ref w_E)) :
    MetFree l (⟨"java/util/ImmutableCollections$List12", "size", "()I"⟩ : MethodName) (head1 (Jvm.Cond.code (⟨"java/util/ImmutableCollections$List12", "size", "()I"⟩ : MethodName) jdk_44_method_3_code 1 (some .int) :: ws) ({ frames := 0, cells := 0, slots := 0, locals := 0 } : Room)) (fun a U => a = #[(.ref a0x)] ∧ Z.Warmed39 U.vm ∧ U.heap = h0) (fun _ _ _ _ _ => True) (fun _ U o U' => ∃ v L, o = .returned v ∧ Q_rm_l12s Z a0x w_E h0 n0 v U'.heap L ∧ FrameEnd U o U' L ({ frames := 0, cells := 0, slots := 0, locals := 0 } : Room).cells ({ frames := 0, cells := 0, slots := 0, locals := 0 } : Room).slots) := by
  refine MetFree.of_bodySF (plainFor_of_name pn_11) hisR ?_
  intro p e s m args below meth c s₁ Bd hml0 hP hK
  obtain ⟨rfl, hZ, hh⟩ := hP
  have hx := Bd.exec
  have hby := Bd.bytes
  have hml : c.maxLocals = 1 := hml0
  have hown : s.vm.findClass "java/util/ImmutableCollections$List12" = some m.cls := findClass_of_methodNamed Bd.named
  have hnm := (name_of_methodNamed Bd.named Bd.method).1
  have X0 : Stand p l e ({ frames := 0, cells := 0, slots := 0, locals := 0 } : Room) s m #[(.ref a0x)] below meth c s₁ [] 0 0 := Stand.of_body Bd
  have e0 : s₁.heap = h0 := by rw [← hh, Bd.state]; rfl
  have N0 := Fr.nil n0
  have pre0 : ∀ t, Steps p.tables e below (s₁.setTop (mkF m 0 #[.val (.ref a0x)] [])) t → Steps p.tables e below (s₁.setTop (entryFrame m #[(.ref a0x)] 1)) t := fun t k => castTop (ef_31 m a0x) k
  obtain ⟨T1, X1, e1, st1⟩ := getF X0 hx hZ hown (host := "") (Or.inl (hw _ (List.mem_of_getElem? (i := 185) rfl))) Via.refl e0 F1 (g := (mkF m 1 #[.val (.ref a0x)] [(.ref a0x)])) rfl rfl (hb hby d31_1)
  obtain ⟨T2, X2, e2, st2⟩ := getS2 X1 hx hZ hown (Or.inr (hw _ (List.mem_of_getElem? (i := 183) rfl))) Via.refl e1 S_E (g := (mkF m 4 #[.val (.ref a0x)] [(.ref w_E)])) rfl (hb hby d31_4)
  obtain ⟨fs, hr, hrun, hended, hW, hsame⟩ := X2.leave (v := some (.int (1 : Int32))) (fun h => by rw [Bd.returns] at h; cases h)
  refine ⟨_, _, pre0 _ ?_, hrun, hended, _, _, rfl, ?_, ⟨_, rfl⟩, hW, hsame.mono (by decide) (by decide)⟩
  · show Steps p.tables e below (s₁.setTop (mkF m 0 #[.val (.ref a0x)] [])) _
    refine XS.aloadN X0.here hx rfl (hb hby d31_0) rfl rfl ?_
    show Steps p.tables e below (s₁.setTop (mkF m 1 #[.val (.ref a0x)] [(.ref a0x)])) _
    refine st1 _ ?_
    show Steps p.tables e below (T1.setTop (mkF m 4 #[.val (.ref a0x)] [(.ref w_E)])) _
    refine st2 _ ?_
    show Steps p.tables e below (T2.setTop (mkF m 7 #[.val (.ref a0x)] [(.ref w_E), (.ref w_E)])) _
    refine Jvm.RoadKit.acmp (g := (mkF m 7 #[.val (.ref a0x)] [(.ref w_E), (.ref w_E)])) X2 hx rfl rfl rfl (pc0 := 7) (pc' := 14) (same := true) rfl (hb hby d31_7) rfl (decide_eq_true rfl) (by decide) (by decide) ?_
    show Steps p.tables e below (T2.setTop (mkF m 14 #[.val (.ref a0x)] [])) _
    refine XS.iconst X2.here hx rfl (hb hby d31_14) ?_
    show Steps p.tables e below (T2.setTop (mkF m 15 #[.val (.ref a0x)] [(.int (1 : Int32))])) _
    exact retI X2 hx Bd.returns (hb hby d31_15) hr
  · show Q_rm_l12s Z a0x w_E h0 n0 _ T2.heap _
    rw [e2]
    exact ⟨rfl, N0, rfl⟩
theorem d32_0 : decode jdk_44_method_5_code 0 = .ok (.iload_n 1, 1) := by decide +kernel
theorem d32_1 : decode jdk_44_method_5_code 1 = .ok (.ifCond .ne 8, 3) := by decide +kernel
theorem d32_4 : decode jdk_44_method_5_code 4 = .ok (.aload_n 0, 1) := by decide +kernel
theorem d32_5 : decode jdk_44_method_5_code 5 = .ok (.getfield 13, 3) := by decide +kernel
theorem d32_8 : decode jdk_44_method_5_code 8 = .ok (.areturn, 1) := by decide +kernel
theorem ef_32 (m : MethodId) (x0 : Addr) (x1 : Int32) : entryFrame m #[(.ref x0), (.int x1)] 2 = mkF m 0 #[.val (.ref x0), .val (.int x1)] [] := by first | (simp [entryFrame, mkF, argsToLocals, Value.category]; done) | rfl
def Q_rm_l12g (Z : State) (a0x : Addr) (p1 : Int32) (r1x : Addr) (h0 : Heap) (n0 : Nat) (v : Option Value) (h : Heap) (L : List Loc) : Prop := v = some (.ref r1x) ∧ Fr n0 L ∧ h = h0
set_option maxRecDepth 65536 in
set_option maxHeartbeats 40000000 in
theorem rm_l12g (l : Launch) (Z : State) (a0 : Array Value) (hw : ∀ d ∈ tables_1, d.before a0 Z = true) (ws : List Jvm.Cond) (a0x : Addr) (p1 : Int32) (r1x : Addr) (h0 : Heap) (n0 : Nat) (Z0 : n0 ≤ h0.size) (F1 : Fld Z h0 a0x "java/util/ImmutableCollections$List12" "e0" "Ljava/lang/Object;" (.ref r1x)) (hp : p1 = (0 : Int32)) :
    MetFree l (⟨"java/util/ImmutableCollections$List12", "get", "(I)Ljava/lang/Object;"⟩ : MethodName) (head1 (Jvm.Cond.code (⟨"java/util/ImmutableCollections$List12", "get", "(I)Ljava/lang/Object;"⟩ : MethodName) jdk_44_method_5_code 2 (some (.object "java/lang/Object")) :: ws) ({ frames := 0, cells := 0, slots := 0, locals := 0 } : Room)) (fun a U => a = #[(.ref a0x), (.int p1)] ∧ Z.Warmed39 U.vm ∧ U.heap = h0) (fun _ _ _ _ _ => True) (fun _ U o U' => ∃ v L, o = .returned v ∧ Q_rm_l12g Z a0x p1 r1x h0 n0 v U'.heap L ∧ FrameEnd U o U' L ({ frames := 0, cells := 0, slots := 0, locals := 0 } : Room).cells ({ frames := 0, cells := 0, slots := 0, locals := 0 } : Room).slots) := by
  refine MetFree.of_bodySF (plainFor_of_name pn_11) hisR ?_
  intro p e s m args below meth c s₁ Bd hml0 hP hK
  obtain ⟨rfl, hZ, hh⟩ := hP
  have hx := Bd.exec
  have hby := Bd.bytes
  have hml : c.maxLocals = 2 := hml0
  have hown : s.vm.findClass "java/util/ImmutableCollections$List12" = some m.cls := findClass_of_methodNamed Bd.named
  have hnm := (name_of_methodNamed Bd.named Bd.method).1
  have X0 : Stand p l e ({ frames := 0, cells := 0, slots := 0, locals := 0 } : Room) s m #[(.ref a0x), (.int p1)] below meth c s₁ [] 0 0 := Stand.of_body Bd
  have e0 : s₁.heap = h0 := by rw [← hh, Bd.state]; rfl
  have N0 := Fr.nil n0
  have pre0 : ∀ t, Steps p.tables e below (s₁.setTop (mkF m 0 #[.val (.ref a0x), .val (.int p1)] [])) t → Steps p.tables e below (s₁.setTop (entryFrame m #[(.ref a0x), (.int p1)] 2)) t := fun t k => castTop (ef_32 m a0x p1) k
  obtain ⟨T1, X1, e1, st1⟩ := getF X0 hx hZ hown (host := "") (Or.inl (hw _ (List.mem_of_getElem? (i := 181) rfl))) Via.refl e0 F1 (g := (mkF m 5 #[.val (.ref a0x), .val (.int p1)] [(.ref a0x)])) rfl rfl (hb hby d32_5)
  obtain ⟨fs, hr, hrun, hended, hW, hsame⟩ := X1.leave (v := some (.ref r1x)) (fun h => by rw [Bd.returns] at h; cases h)
  refine ⟨_, _, pre0 _ ?_, hrun, hended, _, _, rfl, ?_, ⟨_, rfl⟩, hW, hsame.mono (by decide) (by decide)⟩
  · show Steps p.tables e below (s₁.setTop (mkF m 0 #[.val (.ref a0x), .val (.int p1)] [])) _
    refine XS.iloadN X0.here hx rfl (hb hby d32_0) rfl ?_
    show Steps p.tables e below (s₁.setTop (mkF m 1 #[.val (.ref a0x), .val (.int p1)] [(.int p1)])) _
    refine XS.ifNo X0.here hx rfl (hb hby d32_1) rfl ((if0 _ _).trans (teq hp).2) ?_
    show Steps p.tables e below (s₁.setTop (mkF m 4 #[.val (.ref a0x), .val (.int p1)] [])) _
    refine XS.aloadN X0.here hx rfl (hb hby d32_4) rfl rfl ?_
    show Steps p.tables e below (s₁.setTop (mkF m 5 #[.val (.ref a0x), .val (.int p1)] [(.ref a0x)])) _
    refine st1 _ ?_
    show Steps p.tables e below (T1.setTop (mkF m 8 #[.val (.ref a0x), .val (.int p1)] [(.ref r1x)])) _
    exact retOut X1 hx Bd.returns (by rfl) (Or.inr (Or.inr (Or.inr (Or.inr ⟨rfl, rfl, rfl⟩)))) (hb hby d32_8) hr
  · show Q_rm_l12g Z a0x p1 r1x h0 n0 _ T1.heap _
    rw [e1]
    exact ⟨rfl, N0, rfl⟩
theorem own_three {x : Int32} (h0 : ¬ (x &&& (3 : Int32)) = (0 : Int32)) (h1 : ¬ (x &&& (3 : Int32)) = (1 : Int32)) (h2 : ¬ (x &&& (3 : Int32)) = (2 : Int32)) : (x &&& (3 : Int32)) = (3 : Int32) := by
  have e : (x &&& (3 : Int32)).toInt = x.toInt % 2 ^ 2 := Jvm.Kit.i32_mask x 3 (k := 2) (by decide) (by decide)
  have k1 := Int.emod_nonneg x.toInt (show (2 ^ 2 : Int) ≠ 0 by decide)
  have k2 := Int.emod_lt_of_pos x.toInt (show (0 : Int) < 2 ^ 2 by decide)
  simp only [← Int32.toInt_inj, e, show (0 : Int32).toInt = 0 from rfl, show (1 : Int32).toInt = 1 from rfl, show (2 : Int32).toInt = 2 from rfl, show (3 : Int32).toInt = 3 from rfl] at *
  omega
theorem pd_18 : parseMethodDescriptor "([C)V" = some ⟨[(.array .char)], none⟩ := by decide +kernel
theorem pd_19 : parseMethodDescriptor "(Ljava/lang/Object;)Z" = some ⟨[(.object "java/lang/Object")], some .boolean⟩ := by decide +kernel
theorem pd_20 : parseMethodDescriptor "(Ljava/util/List;)Lcom/example/fyfo/fyfo/Runner$Shell;" = some ⟨[(.object "java/util/List")], some (.object "com/example/fyfo/fyfo/Runner$Shell")⟩ := by decide +kernel
theorem pd_21 : parseMethodDescriptor "()Ljava/lang/String;" = some ⟨[], some (.object "java/lang/String")⟩ := by decide +kernel
theorem pd_22 : parseMethodDescriptor "()Ljava/util/List;" = some ⟨[], some (.object "java/util/List")⟩ := by decide +kernel
theorem pd_23 : parseMethodDescriptor "(I)C" = some ⟨[.int], some .char⟩ := by decide +kernel
theorem pn_13 : plainName "com/example/fyfo/fyfo/ShellFromWordsPinLaw" = true := by first | (simp [plainName, overriddenIn]; done) | decide +kernel
theorem ef_0 (m : MethodId) (x0 : Int32) (x1 : Int32) (x2 : Int32) (x3 : Int32) : entryFrame m #[(.int x0), (.int x1), (.int x2), (.int x3)] maxLocals = mkF m 0 #[.val (.int x0), .val (.int x1), .val (.int x2), .val (.int x3), .unset, .unset, .unset, .unset, .unset, .unset, .unset, .unset, .unset, .unset] [] := by first | (simp [entryFrame, mkF, argsToLocals, Value.category, maxLocals]; done) | rfl
def Q_rm_law (Z : State) (p0 : Int32) (p1 : Int32) (p2 : Int32) (p3 : Int32) (zc : Int32) (w_D : Addr) (kd : ClassId) (w_E : Addr) (GFx : Value) (h0 : Heap) (n0 : Nat) (v : Option Value) (h : Heap) (L : List Loc) : Prop := v = some (.int (1 : Int32)) ∧ Fr n0 L ∧ True
set_option maxRecDepth 65536 in
set_option maxHeartbeats 40000000 in
theorem rm_law (l : Launch) (Z : State) (a0 : Array Value) (hw : ∀ d ∈ tables_1, d.before a0 Z = true) (ws : List Jvm.Cond) (p0 : Int32) (p1 : Int32) (p2 : Int32) (p3 : Int32) (zc : Int32) (w_D : Addr) (kd : ClassId) (w_E : Addr) (GFx : Value) (h0 : Heap) (n0 : Nat) (Z0 : n0 ≤ h0.size) (X00 : Old Z n0 h0) (S_CS : Sta Z Z.heap "java/lang/String" "COMPACT_STRINGS" "Z" (.int zc)) (P5 : ¬ (zc = (0 : Int32))) (S_D : Sta Z Z.heap "java/util/ArrayList" "DEFAULTCAPACITY_EMPTY_ELEMENTDATA" "[Ljava/lang/Object;" (.ref w_D)) (S_E : Sta Z Z.heap "java/util/ImmutableCollections" "EMPTY" "Ljava/lang/Object;" (.ref w_E)) (S_F : Sta Z Z.heap "jdk/internal/util/Preconditions" "SIOOBE_FORMATTER" "Ljava/util/function/BiFunction;" GFx) (rG3 : GFx.isRef = true) (VD : Arv Z h0 w_D kd (.object "java/lang/Object") (0 : Int32) [] .null) (Hc7 : Jvm.Lit.constHeld Z "java/lang/String" 7) (hcw : Jvm.Lit.compactW.before a0 Z = true) :
    MetFree l x (head1 (Jvm.Cond.code x code maxLocals ret :: ws) room_1) (fun a U => a = #[(.int p0), (.int p1), (.int p2), (.int p3)] ∧ Z.Warmed39 U.vm ∧ U.heap = h0 ∧ IB Z U.vm []) (fun _ _ _ _ _ => True) (fun _ U o U' => ∃ v L, o = .returned v ∧ Q_rm_law Z p0 p1 p2 p3 zc w_D kd w_E GFx h0 n0 v U'.heap L ∧ ReturnedEndW U o U' L room_1.cells room_1.slots) := by
  refine MetFree.of_bodySF (plainFor_of_name pn_13) hisR ?_
  intro p e s m args below meth c s₁ Bd hml0 hP hK
  obtain ⟨rfl, hZ, hh, hI0⟩ := hP
  have hx := Bd.exec
  have hby := Bd.bytes
  have hml : c.maxLocals = 14 := hml0
  have hown : s.vm.findClass "com/example/fyfo/fyfo/ShellFromWordsPinLaw" = some m.cls := findClass_of_methodNamed Bd.named
  have hnm := (name_of_methodNamed Bd.named Bd.method).1
  have X0 : Stand p l e room_1 (s.setVm s.vm) m #[(.int p0), (.int p1), (.int p2), (.int p3)] below meth c s₁ [] 0 0 := Stand.of_body Bd
  have e0 : s₁.heap = h0 := by rw [← hh, Bd.state]; rfl
  have N0 := Fr.nil n0
  have hS0 : s.Since s.vm s.heap.size := (State.WarmedH.refl s).since _
  have hk0 : s.heap.size ≤ h0.size := Nat.le_of_eq (congrArg Array.size hh)
  have wS : ∀ a ∈ Bundle.stringAtoms, a.before a0 Z = true := by
    intro a ha
    simp only [Bundle.stringAtoms, List.mem_cons, List.not_mem_nil, or_false] at ha
    rcases ha with rfl | rfl | rfl | rfl | rfl | rfl | rfl <;> first | exact hw _ (List.mem_of_getElem? (i := 3) rfl) | exact hw _ (List.mem_of_getElem? (i := 2) rfl) | exact hw _ (List.mem_of_getElem? (i := 15) rfl) | exact hw _ (List.mem_of_getElem? (i := 16) rfl) | exact hw _ (List.mem_of_getElem? (i := 17) rfl) | exact hw _ (List.mem_of_getElem? (i := 18) rfl) | exact hw _ (List.mem_of_getElem? (i := 19) rfl)
  have pre0 : ∀ t, Steps p.tables e below (s₁.setTop (mkF m 0 #[.val (.int p0), .val (.int p1), .val (.int p2), .val (.int p3), .unset, .unset, .unset, .unset, .unset, .unset, .unset, .unset, .unset, .unset] [])) t → Steps p.tables e below (s₁.setTop (entryFrame m #[(.int p0), (.int p1), (.int p2), (.int p3)] maxLocals)) t := fun t k => castTop (ef_0 m p0 p1 p2 p3) k
  have Sh_CS : Sta Z h0 "java/lang/String" "COMPACT_STRINGS" "Z" (.int zc) := S_CS.ext X00.2
  have Sh_D : Sta Z h0 "java/util/ArrayList" "DEFAULTCAPACITY_EMPTY_ELEMENTDATA" "[Ljava/lang/Object;" (.ref w_D) := S_D.ext X00.2
  have Sh_E : Sta Z h0 "java/util/ImmutableCollections" "EMPTY" "Ljava/lang/Object;" (.ref w_E) := S_E.ext X00.2
  have hws : ∀ d ∈ StrChars.Road.words, d.before a0 Z = true := fun d hd => hw d ((by decide +kernel : ∀ d ∈ StrChars.Road.words, d ∈ tables_1) d hd)
  have Sh_F : Sta Z h0 "jdk/internal/util/Preconditions" "SIOOBE_FORMATTER" "Ljava/util/function/BiFunction;" GFx := S_F.ext X00.2
  have k1 : ∀ target, Steps p.tables e below (s₁.setTop (mkF m 31 #[.val (.int p0), .val (.int p1), .val (.int p2), .val (.int p3), .val (.int (p0 &&& (3 : Int32))), .val (.int (p1 &&& (255 : Int32)).toUInt32.toUInt16.toUInt32.toInt32), .val (.int (p2 &&& (255 : Int32)).toUInt32.toUInt16.toUInt32.toInt32), .val (.int (p3 &&& (255 : Int32)).toUInt32.toUInt16.toUInt32.toInt32), .unset, .unset, .unset, .unset, .unset, .unset] [(.int (p0 &&& (3 : Int32)))])) target → Steps p.tables e below (s₁.setTop (mkF m 0 #[.val (.int p0), .val (.int p1), .val (.int p2), .val (.int p3), .unset, .unset, .unset, .unset, .unset, .unset, .unset, .unset, .unset, .unset] [])) target := by
    intro target kt
    show Steps p.tables e below (s₁.setTop (mkF m 0 #[.val (.int p0), .val (.int p1), .val (.int p2), .val (.int p3), .unset, .unset, .unset, .unset, .unset, .unset, .unset, .unset, .unset, .unset] [])) _
    refine XS.iloadN X0.here hx rfl (hb hby at_0) rfl ?_
    show Steps p.tables e below (s₁.setTop (mkF m 1 #[.val (.int p0), .val (.int p1), .val (.int p2), .val (.int p3), .unset, .unset, .unset, .unset, .unset, .unset, .unset, .unset, .unset, .unset] [(.int p0)])) _
    refine XS.iconst X0.here hx rfl (hb hby at_1) ?_
    show Steps p.tables e below (s₁.setTop (mkF m 2 #[.val (.int p0), .val (.int p1), .val (.int p2), .val (.int p3), .unset, .unset, .unset, .unset, .unset, .unset, .unset, .unset, .unset, .unset] [(.int (3 : Int32)), (.int p0)])) _
    refine XS.iand X0.here hx rfl (hb hby at_2) rfl ?_
    show Steps p.tables e below (s₁.setTop (mkF m 3 #[.val (.int p0), .val (.int p1), .val (.int p2), .val (.int p3), .unset, .unset, .unset, .unset, .unset, .unset, .unset, .unset, .unset, .unset] [(.int (p0 &&& (3 : Int32)))])) _
    refine XS.istore X0.here hx rfl (hb hby at_3) rfl (l' := #[.val (.int p0), .val (.int p1), .val (.int p2), .val (.int p3), .val (.int (p0 &&& (3 : Int32))), .unset, .unset, .unset, .unset, .unset, .unset, .unset, .unset, .unset]) rfl ?_
    show Steps p.tables e below (s₁.setTop (mkF m 5 #[.val (.int p0), .val (.int p1), .val (.int p2), .val (.int p3), .val (.int (p0 &&& (3 : Int32))), .unset, .unset, .unset, .unset, .unset, .unset, .unset, .unset, .unset] [])) _
    refine XS.iloadN X0.here hx rfl (hb hby at_5) rfl ?_
    show Steps p.tables e below (s₁.setTop (mkF m 6 #[.val (.int p0), .val (.int p1), .val (.int p2), .val (.int p3), .val (.int (p0 &&& (3 : Int32))), .unset, .unset, .unset, .unset, .unset, .unset, .unset, .unset, .unset] [(.int p1)])) _
    refine XS.sipush X0.here hx rfl (hb hby at_6) ?_
    show Steps p.tables e below (s₁.setTop (mkF m 9 #[.val (.int p0), .val (.int p1), .val (.int p2), .val (.int p3), .val (.int (p0 &&& (3 : Int32))), .unset, .unset, .unset, .unset, .unset, .unset, .unset, .unset, .unset] [(.int (255 : Int32)), (.int p1)])) _
    refine XS.iand X0.here hx rfl (hb hby at_9) rfl ?_
    show Steps p.tables e below (s₁.setTop (mkF m 10 #[.val (.int p0), .val (.int p1), .val (.int p2), .val (.int p3), .val (.int (p0 &&& (3 : Int32))), .unset, .unset, .unset, .unset, .unset, .unset, .unset, .unset, .unset] [(.int (p1 &&& (255 : Int32)))])) _
    refine XS.i2c X0.here hx rfl (hb hby at_10) rfl ?_
    show Steps p.tables e below (s₁.setTop (mkF m 11 #[.val (.int p0), .val (.int p1), .val (.int p2), .val (.int p3), .val (.int (p0 &&& (3 : Int32))), .unset, .unset, .unset, .unset, .unset, .unset, .unset, .unset, .unset] [(.int (p1 &&& (255 : Int32)).toUInt32.toUInt16.toUInt32.toInt32)])) _
    refine XS.istore X0.here hx rfl (hb hby at_11) rfl (l' := #[.val (.int p0), .val (.int p1), .val (.int p2), .val (.int p3), .val (.int (p0 &&& (3 : Int32))), .val (.int (p1 &&& (255 : Int32)).toUInt32.toUInt16.toUInt32.toInt32), .unset, .unset, .unset, .unset, .unset, .unset, .unset, .unset]) rfl ?_
    show Steps p.tables e below (s₁.setTop (mkF m 13 #[.val (.int p0), .val (.int p1), .val (.int p2), .val (.int p3), .val (.int (p0 &&& (3 : Int32))), .val (.int (p1 &&& (255 : Int32)).toUInt32.toUInt16.toUInt32.toInt32), .unset, .unset, .unset, .unset, .unset, .unset, .unset, .unset] [])) _
    refine XS.iloadN X0.here hx rfl (hb hby at_13) rfl ?_
    show Steps p.tables e below (s₁.setTop (mkF m 14 #[.val (.int p0), .val (.int p1), .val (.int p2), .val (.int p3), .val (.int (p0 &&& (3 : Int32))), .val (.int (p1 &&& (255 : Int32)).toUInt32.toUInt16.toUInt32.toInt32), .unset, .unset, .unset, .unset, .unset, .unset, .unset, .unset] [(.int p2)])) _
    refine XS.sipush X0.here hx rfl (hb hby at_14) ?_
    show Steps p.tables e below (s₁.setTop (mkF m 17 #[.val (.int p0), .val (.int p1), .val (.int p2), .val (.int p3), .val (.int (p0 &&& (3 : Int32))), .val (.int (p1 &&& (255 : Int32)).toUInt32.toUInt16.toUInt32.toInt32), .unset, .unset, .unset, .unset, .unset, .unset, .unset, .unset] [(.int (255 : Int32)), (.int p2)])) _
    refine XS.iand X0.here hx rfl (hb hby at_17) rfl ?_
    show Steps p.tables e below (s₁.setTop (mkF m 18 #[.val (.int p0), .val (.int p1), .val (.int p2), .val (.int p3), .val (.int (p0 &&& (3 : Int32))), .val (.int (p1 &&& (255 : Int32)).toUInt32.toUInt16.toUInt32.toInt32), .unset, .unset, .unset, .unset, .unset, .unset, .unset, .unset] [(.int (p2 &&& (255 : Int32)))])) _
    refine XS.i2c X0.here hx rfl (hb hby at_18) rfl ?_
    show Steps p.tables e below (s₁.setTop (mkF m 19 #[.val (.int p0), .val (.int p1), .val (.int p2), .val (.int p3), .val (.int (p0 &&& (3 : Int32))), .val (.int (p1 &&& (255 : Int32)).toUInt32.toUInt16.toUInt32.toInt32), .unset, .unset, .unset, .unset, .unset, .unset, .unset, .unset] [(.int (p2 &&& (255 : Int32)).toUInt32.toUInt16.toUInt32.toInt32)])) _
    refine XS.istore X0.here hx rfl (hb hby at_19) rfl (l' := #[.val (.int p0), .val (.int p1), .val (.int p2), .val (.int p3), .val (.int (p0 &&& (3 : Int32))), .val (.int (p1 &&& (255 : Int32)).toUInt32.toUInt16.toUInt32.toInt32), .val (.int (p2 &&& (255 : Int32)).toUInt32.toUInt16.toUInt32.toInt32), .unset, .unset, .unset, .unset, .unset, .unset, .unset]) rfl ?_
    show Steps p.tables e below (s₁.setTop (mkF m 21 #[.val (.int p0), .val (.int p1), .val (.int p2), .val (.int p3), .val (.int (p0 &&& (3 : Int32))), .val (.int (p1 &&& (255 : Int32)).toUInt32.toUInt16.toUInt32.toInt32), .val (.int (p2 &&& (255 : Int32)).toUInt32.toUInt16.toUInt32.toInt32), .unset, .unset, .unset, .unset, .unset, .unset, .unset] [])) _
    refine XS.iloadN X0.here hx rfl (hb hby at_21) rfl ?_
    show Steps p.tables e below (s₁.setTop (mkF m 22 #[.val (.int p0), .val (.int p1), .val (.int p2), .val (.int p3), .val (.int (p0 &&& (3 : Int32))), .val (.int (p1 &&& (255 : Int32)).toUInt32.toUInt16.toUInt32.toInt32), .val (.int (p2 &&& (255 : Int32)).toUInt32.toUInt16.toUInt32.toInt32), .unset, .unset, .unset, .unset, .unset, .unset, .unset] [(.int p3)])) _
    refine XS.sipush X0.here hx rfl (hb hby at_22) ?_
    show Steps p.tables e below (s₁.setTop (mkF m 25 #[.val (.int p0), .val (.int p1), .val (.int p2), .val (.int p3), .val (.int (p0 &&& (3 : Int32))), .val (.int (p1 &&& (255 : Int32)).toUInt32.toUInt16.toUInt32.toInt32), .val (.int (p2 &&& (255 : Int32)).toUInt32.toUInt16.toUInt32.toInt32), .unset, .unset, .unset, .unset, .unset, .unset, .unset] [(.int (255 : Int32)), (.int p3)])) _
    refine XS.iand X0.here hx rfl (hb hby at_25) rfl ?_
    show Steps p.tables e below (s₁.setTop (mkF m 26 #[.val (.int p0), .val (.int p1), .val (.int p2), .val (.int p3), .val (.int (p0 &&& (3 : Int32))), .val (.int (p1 &&& (255 : Int32)).toUInt32.toUInt16.toUInt32.toInt32), .val (.int (p2 &&& (255 : Int32)).toUInt32.toUInt16.toUInt32.toInt32), .unset, .unset, .unset, .unset, .unset, .unset, .unset] [(.int (p3 &&& (255 : Int32)))])) _
    refine XS.i2c X0.here hx rfl (hb hby at_26) rfl ?_
    show Steps p.tables e below (s₁.setTop (mkF m 27 #[.val (.int p0), .val (.int p1), .val (.int p2), .val (.int p3), .val (.int (p0 &&& (3 : Int32))), .val (.int (p1 &&& (255 : Int32)).toUInt32.toUInt16.toUInt32.toInt32), .val (.int (p2 &&& (255 : Int32)).toUInt32.toUInt16.toUInt32.toInt32), .unset, .unset, .unset, .unset, .unset, .unset, .unset] [(.int (p3 &&& (255 : Int32)).toUInt32.toUInt16.toUInt32.toInt32)])) _
    refine XS.istore X0.here hx rfl (hb hby at_27) rfl (l' := #[.val (.int p0), .val (.int p1), .val (.int p2), .val (.int p3), .val (.int (p0 &&& (3 : Int32))), .val (.int (p1 &&& (255 : Int32)).toUInt32.toUInt16.toUInt32.toInt32), .val (.int (p2 &&& (255 : Int32)).toUInt32.toUInt16.toUInt32.toInt32), .val (.int (p3 &&& (255 : Int32)).toUInt32.toUInt16.toUInt32.toInt32), .unset, .unset, .unset, .unset, .unset, .unset]) rfl ?_
    show Steps p.tables e below (s₁.setTop (mkF m 29 #[.val (.int p0), .val (.int p1), .val (.int p2), .val (.int p3), .val (.int (p0 &&& (3 : Int32))), .val (.int (p1 &&& (255 : Int32)).toUInt32.toUInt16.toUInt32.toInt32), .val (.int (p2 &&& (255 : Int32)).toUInt32.toUInt16.toUInt32.toInt32), .val (.int (p3 &&& (255 : Int32)).toUInt32.toUInt16.toUInt32.toInt32), .unset, .unset, .unset, .unset, .unset, .unset] [])) _
    refine XS.iload X0.here hx rfl (hb hby at_29) rfl ?_
    exact kt
  by_cases hc31 : (p0 &&& (3 : Int32)) = (0 : Int32)
  · obtain ⟨T2, h2, k2, X2, e2, E2, A2, st2⟩ := newP X0 hx hZ (hw _ (List.mem_of_getElem? (i := 0) rfl)) e0 (g := (mkF m 35 #[.val (.int p0), .val (.int p1), .val (.int p2), .val (.int p3), .val (.int (p0 &&& (3 : Int32))), .val (.int (p1 &&& (255 : Int32)).toUInt32.toUInt16.toUInt32.toInt32), .val (.int (p2 &&& (255 : Int32)).toUInt32.toUInt16.toUInt32.toInt32), .val (.int (p3 &&& (255 : Int32)).toUInt32.toUInt16.toUInt32.toInt32), .unset, .unset, .unset, .unset, .unset, .unset] [(.int (0 : Int32))])) rfl (hb hby at_35) rfl (by decide) (cap := 0) (by decide) (by decide) (by decide) (by decide)
    obtain ⟨b2, g2⟩ : ∃ z, z = h0.size := ⟨_, rfl⟩
    rw [← g2] at A2 st2
    have ne_w_D_b2 : w_D ≠ b2 := Nat.ne_of_lt (Nat.lt_of_lt_of_le VD.lt (Nat.le_of_eq g2.symm))
    have g_b2 : n0 ≤ b2 := Nat.le_trans Z0 (Nat.le_of_eq g2.symm)
    have X00_2 : Old Z n0 h2 := Old.ext X00 E2
    have Sh_CS_2 : Sta Z h2 "java/lang/String" "COMPACT_STRINGS" "Z" (.int zc) := Sh_CS.ext E2
    have Sh_D_2 : Sta Z h2 "java/util/ArrayList" "DEFAULTCAPACITY_EMPTY_ELEMENTDATA" "[Ljava/lang/Object;" (.ref w_D) := Sh_D.ext E2
    have Sh_E_2 : Sta Z h2 "java/util/ImmutableCollections" "EMPTY" "Ljava/lang/Object;" (.ref w_E) := Sh_E.ext E2
    have Sh_F_2 : Sta Z h2 "jdk/internal/util/Preconditions" "SIOOBE_FORMATTER" "Ljava/util/function/BiFunction;" GFx := Sh_F.ext E2
    have VD_2 : Arv Z h2 w_D kd (.object "java/lang/Object") (0 : Int32) [] .null := VD.ext E2
    have hk2' : _ ≤ h2.size := Nat.le_trans hk0 E2.1
    have Z2 : n0 ≤ h2.size := Nat.le_trans Z0 E2.1
    have V_b2 : Arv Z h2 b2 k2 .char (0 : Int32) [] (.int (0 : Int32)) := (Arv.new A2 (by decide)).pad (pad_rep [] (.int (0 : Int32)) 0)
    obtain ⟨T3, h3, X3, e3, E3, A3, D3, -, st3⟩ := newO X2 hx hZ hown (hw _ (List.mem_of_getElem? (i := 1) rfl)) (hw _ (List.mem_of_getElem? (i := 2) rfl)) (hw _ (List.mem_of_getElem? (i := 3) rfl)) e2 (g := (mkF m 105 #[.val (.int p0), .val (.int p1), .val (.int p2), .val (.int p3), .val (.int (0 : Int32)), .val (.int (p1 &&& (255 : Int32)).toUInt32.toUInt16.toUInt32.toInt32), .val (.int (p2 &&& (255 : Int32)).toUInt32.toUInt16.toUInt32.toInt32), .val (.int (p3 &&& (255 : Int32)).toUInt32.toUInt16.toUInt32.toInt32), .val (.ref b2), .unset, .unset, .unset, .unset, .unset] [])) rfl (hb hby at_105) (by decide) (by decide)
    obtain ⟨b3, g3⟩ : ∃ z, z = h2.size := ⟨_, rfl⟩
    rw [← g3] at A3 D3 st3
    have ne_w_D_b3 : w_D ≠ b3 := Nat.ne_of_lt (Nat.lt_of_lt_of_le VD_2.lt (Nat.le_of_eq g3.symm))
    have ne_b2_b3 : b2 ≠ b3 := Nat.ne_of_lt (Nat.lt_of_lt_of_le V_b2.lt (Nat.le_of_eq g3.symm))
    have g_b3 : n0 ≤ b3 := Nat.le_trans Z2 (Nat.le_of_eq g3.symm)
    have X00_3 : Old Z n0 h3 := Old.ext X00_2 E3
    have Sh_CS_3 : Sta Z h3 "java/lang/String" "COMPACT_STRINGS" "Z" (.int zc) := Sh_CS_2.ext E3
    have Sh_D_3 : Sta Z h3 "java/util/ArrayList" "DEFAULTCAPACITY_EMPTY_ELEMENTDATA" "[Ljava/lang/Object;" (.ref w_D) := Sh_D_2.ext E3
    have Sh_E_3 : Sta Z h3 "java/util/ImmutableCollections" "EMPTY" "Ljava/lang/Object;" (.ref w_E) := Sh_E_2.ext E3
    have Sh_F_3 : Sta Z h3 "jdk/internal/util/Preconditions" "SIOOBE_FORMATTER" "Ljava/util/function/BiFunction;" GFx := Sh_F_2.ext E3
    have VD_3 : Arv Z h3 w_D kd (.object "java/lang/Object") (0 : Int32) [] .null := VD_2.ext E3
    have V_b2_3 : Arv Z h3 b2 k2 .char (0 : Int32) [] (.int (0 : Int32)) := V_b2.ext E3
    have hk3' : _ ≤ h3.size := Nat.le_trans hk2' E3.1
    have Z3 : n0 ≤ h3.size := Nat.le_trans Z2 E3.1
    have F_value_b3 : Fld Z h3 b3 "java/lang/String" "value" "[B" .null := D3 (Or.inr (hw _ (List.mem_of_getElem? (i := 16) rfl))) (ty := (.array .byte)) (by decide)
    have F_coder_b3 : Fld Z h3 b3 "java/lang/String" "coder" "B" (.int (0 : Int32)) := D3 (Or.inr (hw _ (List.mem_of_getElem? (i := 17) rfl))) (ty := .byte) (by decide)
    obtain ⟨_, _, ⟨T4, L4, k4, n4⟩, -, X4, hSq4, gr4, ⟨Lc4, hQ4, l4, y4, z4⟩, st4⟩ := X3.specialBackS hx (y := (⟨"java/lang/String", "<init>", "([C)V"⟩ : MethodName)) rfl hown (mvT hZ (hw _ (List.mem_of_getElem? (i := 4) rfl))) (mvT hZ (hw _ (List.mem_of_getElem? (i := 5) rfl))) (mvT hZ (hw _ (List.mem_of_getElem? (i := 6) rfl))) (by decide) (own_backOfI (W := 1) (rm_emp l Z a0 hw [] b3 b2 k2 [] (.int (0 : Int32)) h3 n0 Z3 X00_3 A3 g_b3 F_value_b3 F_coder_b3 Hc7 hcw V_b2_3 (Ne.symm ne_b2_b3)) hZ hI0 (hw _ (List.mem_of_getElem? (i := 6) rfl)) (hw _ (List.mem_of_getElem? (i := 3) rfl)) (by decide) (by decide)) (g := (mkF m 111 #[.val (.int p0), .val (.int p1), .val (.int p2), .val (.int p3), .val (.int (0 : Int32)), .val (.int (p1 &&& (255 : Int32)).toUInt32.toUInt16.toUInt32.toInt32), .val (.int (p2 &&& (255 : Int32)).toUInt32.toUInt16.toUInt32.toInt32), .val (.int (p3 &&& (255 : Int32)).toUInt32.toUInt16.toUInt32.toInt32), .val (.ref b2), .unset, .unset, .unset, .unset, .unset] [(.ref b2), (.ref b3), (.ref b3)])) rfl (by rw [hml]; rfl) (Steps.refl _) (a := b3) (argsL := [(.ref b2)]) (rest := [(.ref b3)]) (lenOf pd_18 rfl) rfl (by show 2 * 0 + _ ≤ _; exact Nat.le_of_eq rfl) (hb hby at_111) (fun _ _ => ⟨rfl, e3, (by decide : 2 + 2 ≤ _), (by decide : 4 + 4 ≤ _)⟩)
    dsimp only [Pt.U, Pt.locs, Pt.cells, Pt.slots] at X4 l4 y4 z4 st4 hQ4 hSq4 gr4
    subst l4 y4 z4
    obtain ⟨rfl, N4q, x4c0, x4c1⟩ := hQ4
    have N4 := Fr.app N0 N4q
    have X00_4 : Old Z n0 T4.heap := X00_3.keep x4c0 (allS g_b3 all0)
    have VD_4 : Arv Z T4.heap w_D kd (.object "java/lang/Object") (0 : Int32) [] .null := VD_3.keep x4c0 (ninS ne_w_D_b3 nin0)
    have V_b2_4 : Arv Z T4.heap b2 k2 .char (0 : Int32) [] (.int (0 : Int32)) := V_b2_3.keep x4c0 (ninS ne_b2_b3 nin0)
    have A3_4 : Exa Z T4.heap b3 "java/lang/String" := A3.keep x4c0
    have Sh_CS_4 : Sta Z T4.heap "java/lang/String" "COMPACT_STRINGS" "Z" (.int zc) := S_CS.ext X00_4.2
    have Sh_D_4 : Sta Z T4.heap "java/util/ArrayList" "DEFAULTCAPACITY_EMPTY_ELEMENTDATA" "[Ljava/lang/Object;" (.ref w_D) := S_D.ext X00_4.2
    have Sh_E_4 : Sta Z T4.heap "java/util/ImmutableCollections" "EMPTY" "Ljava/lang/Object;" (.ref w_E) := S_E.ext X00_4.2
    have Sh_F_4 : Sta Z T4.heap "jdk/internal/util/Preconditions" "SIOOBE_FORMATTER" "Ljava/util/function/BiFunction;" GFx := S_F.ext X00_4.2
    have hk4' : _ ≤ T4.heap.size := Nat.le_trans hk3' x4c0.1
    have Z4 : n0 ≤ T4.heap.size := Nat.le_trans Z3 x4c0.1
    obtain ⟨eb4, ek4, eF4, eC4, eV4⟩ := x4c1
    have X4b : Stand p l e room_1 (s.setVm T4.vm) m #[(.int p0), (.int p1), (.int p2), (.int p3)] below meth c T4 _ _ _ := X4
    have hS4 : s.Since T4.vm T4.heap.size := foldS hS0 (T := T3) (by first | exact hk3' | (rw [e3]; exact hk3')) hSq4 gr4
    have hZ4 : Z.Warmed39 (s.setVm T4.vm).vm := State.Warmed39.trans (t := s.setVm s.vm) hZ hSq4.1
    have hown4 : (s.setVm T4.vm).vm.findClass "com/example/fyfo/fyfo/ShellFromWordsPinLaw" = some m.cls := by rw [show (s.setVm T4.vm).vm = T4.vm from rfl, hSq4.1.alike.findClass]; exact hown
    have hk4 := Nat.le_refl T4.heap.size
    obtain ⟨T5, h5, X5, e5, E5, A5, D5, -, st5⟩ := newO X4b hx hZ4 hown4 (hw _ (List.mem_of_getElem? (i := 22) rfl)) (hw _ (List.mem_of_getElem? (i := 23) rfl)) (hw _ (List.mem_of_getElem? (i := 24) rfl)) rfl (g := (mkF m 116 #[.val (.int p0), .val (.int p1), .val (.int p2), .val (.int p3), .val (.int (0 : Int32)), .val (.int (p1 &&& (255 : Int32)).toUInt32.toUInt16.toUInt32.toInt32), .val (.int (p2 &&& (255 : Int32)).toUInt32.toUInt16.toUInt32.toInt32), .val (.int (p3 &&& (255 : Int32)).toUInt32.toUInt16.toUInt32.toInt32), .val (.ref b2), .val (.ref b3), .unset, .unset, .unset, .unset] [])) rfl (hb hby at_116) (by decide) (by decide)
    obtain ⟨b5, g5⟩ : ∃ z, z = T4.heap.size := ⟨_, rfl⟩
    rw [← g5] at A5 D5 st5
    have ne_w_D_b5 : w_D ≠ b5 := Nat.ne_of_lt (Nat.lt_of_lt_of_le VD_4.lt (Nat.le_of_eq g5.symm))
    have ne_b2_b5 : b2 ≠ b5 := Nat.ne_of_lt (Nat.lt_of_lt_of_le V_b2_4.lt (Nat.le_of_eq g5.symm))
    have ne_b3_b5 : b3 ≠ b5 := Nat.ne_of_lt (Nat.lt_of_lt_of_le A3_4.lt (Nat.le_of_eq g5.symm))
    have ne_eb4_b5 : eb4 ≠ b5 := Nat.ne_of_lt (Nat.lt_of_lt_of_le eV4.lt (Nat.le_of_eq g5.symm))
    have g_b5 : n0 ≤ b5 := Nat.le_trans Z4 (Nat.le_of_eq g5.symm)
    have X00_5 : Old Z n0 h5 := Old.ext X00_4 E5
    have VD_5 : Arv Z h5 w_D kd (.object "java/lang/Object") (0 : Int32) [] .null := VD_4.ext E5
    have V_b2_5 : Arv Z h5 b2 k2 .char (0 : Int32) [] (.int (0 : Int32)) := V_b2_4.ext E5
    have A3_5 : Exa Z h5 b3 "java/lang/String" := A3_4.ext E5
    have Sh_CS_5 : Sta Z h5 "java/lang/String" "COMPACT_STRINGS" "Z" (.int zc) := Sh_CS_4.ext E5
    have Sh_D_5 : Sta Z h5 "java/util/ArrayList" "DEFAULTCAPACITY_EMPTY_ELEMENTDATA" "[Ljava/lang/Object;" (.ref w_D) := Sh_D_4.ext E5
    have Sh_E_5 : Sta Z h5 "java/util/ImmutableCollections" "EMPTY" "Ljava/lang/Object;" (.ref w_E) := Sh_E_4.ext E5
    have Sh_F_5 : Sta Z h5 "jdk/internal/util/Preconditions" "SIOOBE_FORMATTER" "Ljava/util/function/BiFunction;" GFx := Sh_F_4.ext E5
    have eF4_5 : Fld Z h5 b3 "java/lang/String" "value" "[B" (.ref eb4) := eF4.ext E5
    have eC4_5 : Fld Z h5 b3 "java/lang/String" "coder" "B" (.int (0 : Int32)) := eC4.ext E5
    have eV4_5 : Arv Z h5 eb4 ek4 .byte (0 : Int32) [] (.int (0 : Int32)) := eV4.ext E5
    have hk5' : _ ≤ h5.size := Nat.le_trans hk4 E5.1
    have Z5 : n0 ≤ h5.size := Nat.le_trans Z4 E5.1
    have F_modCount_b5 : Fld Z h5 b5 "java/util/AbstractList" "modCount" "I" (.int (0 : Int32)) := D5 (Or.inl (hw _ (List.mem_of_getElem? (i := 42) rfl))) (ty := .int) (by decide)
    have F_elementData_b5 : Fld Z h5 b5 "java/util/ArrayList" "elementData" "[Ljava/lang/Object;" .null := D5 (Or.inl (hw _ (List.mem_of_getElem? (i := 45) rfl))) (ty := (.array (.object "java/lang/Object"))) (by decide)
    have F_size_b5 : Fld Z h5 b5 "java/util/ArrayList" "size" "I" (.int (0 : Int32)) := D5 (Or.inl (hw _ (List.mem_of_getElem? (i := 58) rfl))) (ty := .int) (by decide)
    obtain ⟨_, _, ⟨T6, L6, k6, n6⟩, -, X6, ⟨Lc6, hQ6, l6, y6, z6⟩, st6⟩ := X5.specialBack hx (y := (⟨"java/util/ArrayList", "<init>", "()V"⟩ : MethodName)) rfl hown4 (mvT hZ4 (hw _ (List.mem_of_getElem? (i := 25) rfl))) (mvT hZ4 (hw _ (List.mem_of_getElem? (i := 26) rfl))) (mvT hZ4 (hw _ (List.mem_of_getElem? (i := 27) rfl))) (by decide) (backOf (W := 1) (rm_al l Z a0 hw [] b5 w_D h5 n0 Z5 A5 F_modCount_b5 F_elementData_b5 F_size_b5 g_b5 X00_5 S_D) hZ4 (hw _ (List.mem_of_getElem? (i := 27) rfl)) (hw _ (List.mem_of_getElem? (i := 24) rfl)) (by decide) (by decide)) (g := (mkF m 120 #[.val (.int p0), .val (.int p1), .val (.int p2), .val (.int p3), .val (.int (0 : Int32)), .val (.int (p1 &&& (255 : Int32)).toUInt32.toUInt16.toUInt32.toInt32), .val (.int (p2 &&& (255 : Int32)).toUInt32.toUInt16.toUInt32.toInt32), .val (.int (p3 &&& (255 : Int32)).toUInt32.toUInt16.toUInt32.toInt32), .val (.ref b2), .val (.ref b3), .unset, .unset, .unset, .unset] [(.ref b5), (.ref b5)])) rfl (by rw [hml]; rfl) (Steps.refl _) (a := b5) (argsL := []) (rest := [(.ref b5)]) (lenOf pd_1 rfl) rfl (by show 2 * 0 + _ ≤ _; exact Nat.le_of_eq rfl) (hb hby at_120) (fun _ _ => ⟨rfl, e5, (by decide : 5 + 0 ≤ _), (by decide : 11 + 0 ≤ _)⟩)
    dsimp only [Pt.U, Pt.locs, Pt.cells, Pt.slots] at X6 l6 y6 z6 st6 hQ6
    subst l6 y6 z6
    obtain ⟨rfl, N6q, x6c0, x6c1, x6c2, x6c3⟩ := hQ6
    have N6 := Fr.app N4 N6q
    have X00_6 : Old Z n0 T6.heap := X00_5.keep x6c0 (allS g_b5 all0)
    have VD_6 : Arv Z T6.heap w_D kd (.object "java/lang/Object") (0 : Int32) [] .null := VD_5.keep x6c0 (ninS ne_w_D_b5 nin0)
    have V_b2_6 : Arv Z T6.heap b2 k2 .char (0 : Int32) [] (.int (0 : Int32)) := V_b2_5.keep x6c0 (ninS ne_b2_b5 nin0)
    have A3_6 : Exa Z T6.heap b3 "java/lang/String" := A3_5.keep x6c0
    have eF4_6 : Fld Z T6.heap b3 "java/lang/String" "value" "[B" (.ref eb4) := eF4_5.keep x6c0 (ninS ne_b3_b5 nin0)
    have eC4_6 : Fld Z T6.heap b3 "java/lang/String" "coder" "B" (.int (0 : Int32)) := eC4_5.keep x6c0 (ninS ne_b3_b5 nin0)
    have eV4_6 : Arv Z T6.heap eb4 ek4 .byte (0 : Int32) [] (.int (0 : Int32)) := eV4_5.keep x6c0 (ninS ne_eb4_b5 nin0)
    have A5_6 : Exa Z T6.heap b5 "java/util/ArrayList" := A5.keep x6c0
    have Sh_CS_6 : Sta Z T6.heap "java/lang/String" "COMPACT_STRINGS" "Z" (.int zc) := S_CS.ext X00_6.2
    have Sh_D_6 : Sta Z T6.heap "java/util/ArrayList" "DEFAULTCAPACITY_EMPTY_ELEMENTDATA" "[Ljava/lang/Object;" (.ref w_D) := S_D.ext X00_6.2
    have Sh_E_6 : Sta Z T6.heap "java/util/ImmutableCollections" "EMPTY" "Ljava/lang/Object;" (.ref w_E) := S_E.ext X00_6.2
    have Sh_F_6 : Sta Z T6.heap "jdk/internal/util/Preconditions" "SIOOBE_FORMATTER" "Ljava/util/function/BiFunction;" GFx := S_F.ext X00_6.2
    have hk6' : _ ≤ T6.heap.size := Nat.le_trans hk5' x6c0.1
    have Z6 : n0 ≤ T6.heap.size := Nat.le_trans Z5 x6c0.1
    obtain ⟨cq7, kq7, q7a, q7b, q7c⟩ := isOf hZ4 rfl A5_6
    obtain ⟨_, _, ⟨T7, L7, k7, n7⟩, -, X7, ⟨Lc7, hQ7, l7, y7, z7⟩, st7⟩ := X6.interfaceBack hx (xi := (⟨"java/util/List", "add", "(Ljava/lang/Object;)Z"⟩ : MethodName)) (y := (⟨"java/util/ArrayList", "add", "(Ljava/lang/Object;)Z"⟩ : MethodName)) hown4 (mvT hZ4 (hw _ (List.mem_of_getElem? (i := 46) rfl))) (mvT hZ4 (hw _ (List.mem_of_getElem? (i := 47) rfl))) (mvT hZ4 (hw _ (List.mem_of_getElem? (i := 48) rfl))) (mvT hZ4 (hw _ (List.mem_of_getElem? (i := 49) rfl))) (mvT hZ4 (hw _ (List.mem_of_getElem? (i := 50) rfl))) (mvT hZ4 (hw _ (List.mem_of_getElem? (i := 51) rfl))) (mvT hZ4 (hw _ (List.mem_of_getElem? (i := 52) rfl))) (mvT hZ4 (hw _ (List.mem_of_getElem? (i := 53) rfl))) (by decide) (backOf (W := 0) (rm_add l Z a0 hw [] b5 b3 w_D kd [] .null T6.heap n0 Z6 A5_6 g_b5 x6c2 x6c3 Sh_D_6 VD_6 (Ne.symm ne_w_D_b5) A3_6 x6c1) hZ4 (hw _ (List.mem_of_getElem? (i := 54) rfl)) (hw _ (List.mem_of_getElem? (i := 24) rfl)) (by decide) (by decide)) q7a q7b q7c (g := (mkF m 129 #[.val (.int p0), .val (.int p1), .val (.int p2), .val (.int p3), .val (.int (0 : Int32)), .val (.int (p1 &&& (255 : Int32)).toUInt32.toUInt16.toUInt32.toInt32), .val (.int (p2 &&& (255 : Int32)).toUInt32.toUInt16.toUInt32.toInt32), .val (.int (p3 &&& (255 : Int32)).toUInt32.toUInt16.toUInt32.toInt32), .val (.ref b2), .val (.ref b3), .val (.ref b5), .unset, .unset, .unset] [(.ref b3), (.ref b5)])) rfl (by rw [hml]; rfl) (Steps.refl _) (argsL := [(.ref b3)]) (rest := []) (lenOf pd_19 rfl) rfl (by show 2 * 0 + _ ≤ _; exact Nat.le_of_eq rfl) (hb hby at_129) (fun _ _ => ⟨rfl, rfl, (by decide : 5 + 1 ≤ _), (by decide : 11 + 10 ≤ _)⟩)
    dsimp only [Pt.U, Pt.locs, Pt.cells, Pt.slots] at X7 l7 y7 z7 st7 hQ7
    subst l7 y7 z7
    obtain ⟨rfl, N7q, x7c0, x7c1, x7c2⟩ := hQ7
    have N7 := Fr.app N6 N7q
    obtain ⟨ab7, ak7, ag7, ah7, aF7, aV7⟩ := x7c2
    have ne_w_D_ab7 : w_D ≠ ab7 := Nat.ne_of_lt (Nat.lt_of_lt_of_le VD_6.lt ah7)
    have ne_b2_ab7 : b2 ≠ ab7 := Nat.ne_of_lt (Nat.lt_of_lt_of_le V_b2_6.lt ah7)
    have ne_b3_ab7 : b3 ≠ ab7 := Nat.ne_of_lt (Nat.lt_of_lt_of_le A3_6.lt ah7)
    have ne_eb4_ab7 : eb4 ≠ ab7 := Nat.ne_of_lt (Nat.lt_of_lt_of_le eV4_6.lt ah7)
    have ne_b5_ab7 : b5 ≠ ab7 := Nat.ne_of_lt (Nat.lt_of_lt_of_le A5_6.lt ah7)
    have X00_7 : Old Z n0 T7.heap := X00_6.keep x7c0 (allS g_b5 all0)
    have VD_7 : Arv Z T7.heap w_D kd (.object "java/lang/Object") (0 : Int32) [] .null := VD_6.keep x7c0 (ninS ne_w_D_b5 nin0)
    have V_b2_7 : Arv Z T7.heap b2 k2 .char (0 : Int32) [] (.int (0 : Int32)) := V_b2_6.keep x7c0 (ninS ne_b2_b5 nin0)
    have A3_7 : Exa Z T7.heap b3 "java/lang/String" := A3_6.keep x7c0
    have eF4_7 : Fld Z T7.heap b3 "java/lang/String" "value" "[B" (.ref eb4) := eF4_6.keep x7c0 (ninS ne_b3_b5 nin0)
    have eC4_7 : Fld Z T7.heap b3 "java/lang/String" "coder" "B" (.int (0 : Int32)) := eC4_6.keep x7c0 (ninS ne_b3_b5 nin0)
    have eV4_7 : Arv Z T7.heap eb4 ek4 .byte (0 : Int32) [] (.int (0 : Int32)) := eV4_6.keep x7c0 (ninS ne_eb4_b5 nin0)
    have A5_7 : Exa Z T7.heap b5 "java/util/ArrayList" := A5_6.keep x7c0
    have Sh_CS_7 : Sta Z T7.heap "java/lang/String" "COMPACT_STRINGS" "Z" (.int zc) := S_CS.ext X00_7.2
    have Sh_D_7 : Sta Z T7.heap "java/util/ArrayList" "DEFAULTCAPACITY_EMPTY_ELEMENTDATA" "[Ljava/lang/Object;" (.ref w_D) := S_D.ext X00_7.2
    have Sh_E_7 : Sta Z T7.heap "java/util/ImmutableCollections" "EMPTY" "Ljava/lang/Object;" (.ref w_E) := S_E.ext X00_7.2
    have Sh_F_7 : Sta Z T7.heap "jdk/internal/util/Preconditions" "SIOOBE_FORMATTER" "Ljava/util/function/BiFunction;" GFx := S_F.ext X00_7.2
    have hk7' : _ ≤ T7.heap.size := Nat.le_trans hk6' x7c0.1
    have Z7 : n0 ≤ T7.heap.size := Nat.le_trans Z6 x7c0.1
    obtain ⟨_, _, ⟨T8, L8, k8, n8⟩, -, X8, hSq8, gr8, ⟨Lc8, hQ8, l8, y8, z8⟩, st8⟩ := callSS X7 hx (y := (⟨"com/example/fyfo/fyfo/Runner$Shell", "fromWords", "(Ljava/util/List;)Lcom/example/fyfo/fyfo/Runner$Shell;"⟩ : MethodName)) hown4 (mvT hZ4 (hw _ (List.mem_of_getElem? (i := 81) rfl))) (mvT hZ4 (hw _ (List.mem_of_getElem? (i := 82) rfl))) (mvT hZ4 (hw _ (List.mem_of_getElem? (i := 83) rfl))) (mvT hZ4 (hw _ (List.mem_of_getElem? (i := 84) rfl))) (by decide) (backOfS (W := 0) (rm_from l Z a0 hw [] b5 ab7 ak7 b3 T7.heap n0 Z7 aF7 aV7 x7c1 A5_7 A3_7) hZ4 (hw _ (List.mem_of_getElem? (i := 84) rfl)) (hw _ (List.mem_of_getElem? (i := 83) rfl)) (by decide) (by decide)) (g := (mkF m 137 #[.val (.int p0), .val (.int p1), .val (.int p2), .val (.int p3), .val (.int (0 : Int32)), .val (.int (p1 &&& (255 : Int32)).toUInt32.toUInt16.toUInt32.toInt32), .val (.int (p2 &&& (255 : Int32)).toUInt32.toUInt16.toUInt32.toInt32), .val (.int (p3 &&& (255 : Int32)).toUInt32.toUInt16.toUInt32.toInt32), .val (.ref b2), .val (.ref b3), .val (.ref b5), .unset, .unset, .unset] [(.ref b5)])) rfl (by rw [hml]; rfl) (argsL := [(.ref b5)]) (rest := []) (lenOf pd_20 rfl) rfl (by show 2 * 0 + _ ≤ _; exact Nat.le_of_eq rfl) (hb hby at_137) (fun _ _ => ⟨rfl, rfl, (by decide : 6 + 3 ≤ _), (by decide : 21 + 33 ≤ _)⟩)
    dsimp only [Pt.U, Pt.locs, Pt.cells, Pt.slots] at X8 l8 y8 z8 st8 hQ8 hSq8 gr8
    subst l8 y8 z8
    obtain ⟨bx8, rfl, N8q, x8c0, x8c1, x8c2, x8c3, x8c4⟩ := hQ8
    have N8 := Fr.app N7 N8q
    have ne_w_D_bx8 : w_D ≠ bx8 := Nat.ne_of_lt (Nat.lt_of_lt_of_le VD_7.lt x8c2)
    have ne_b2_bx8 : b2 ≠ bx8 := Nat.ne_of_lt (Nat.lt_of_lt_of_le V_b2_7.lt x8c2)
    have ne_b3_bx8 : b3 ≠ bx8 := Nat.ne_of_lt (Nat.lt_of_lt_of_le A3_7.lt x8c2)
    have ne_eb4_bx8 : eb4 ≠ bx8 := Nat.ne_of_lt (Nat.lt_of_lt_of_le eV4_7.lt x8c2)
    have ne_b5_bx8 : b5 ≠ bx8 := Nat.ne_of_lt (Nat.lt_of_lt_of_le A5_7.lt x8c2)
    have ne_ab7_bx8 : ab7 ≠ bx8 := Nat.ne_of_lt (Nat.lt_of_lt_of_le aV7.lt x8c2)
    have X00_8 : Old Z n0 T8.heap := X00_7.keep x8c0 all0
    have VD_8 : Arv Z T8.heap w_D kd (.object "java/lang/Object") (0 : Int32) [] .null := VD_7.keep x8c0 nin0
    have V_b2_8 : Arv Z T8.heap b2 k2 .char (0 : Int32) [] (.int (0 : Int32)) := V_b2_7.keep x8c0 nin0
    have A3_8 : Exa Z T8.heap b3 "java/lang/String" := A3_7.keep x8c0
    have eF4_8 : Fld Z T8.heap b3 "java/lang/String" "value" "[B" (.ref eb4) := eF4_7.keep x8c0 nin0
    have eC4_8 : Fld Z T8.heap b3 "java/lang/String" "coder" "B" (.int (0 : Int32)) := eC4_7.keep x8c0 nin0
    have eV4_8 : Arv Z T8.heap eb4 ek4 .byte (0 : Int32) [] (.int (0 : Int32)) := eV4_7.keep x8c0 nin0
    have A5_8 : Exa Z T8.heap b5 "java/util/ArrayList" := A5_7.keep x8c0
    have x7c1_8 : Fld Z T8.heap b5 "java/util/ArrayList" "size" "I" (.int (1 : Int32)) := x7c1.keep x8c0 nin0
    have aF7_8 : Fld Z T8.heap b5 "java/util/ArrayList" "elementData" "[Ljava/lang/Object;" (.ref ab7) := aF7.keep x8c0 nin0
    have aV7_8 : Arv Z T8.heap ab7 ak7 (.object "java/lang/Object") (10 : Int32) [(.ref b3), .null, .null, .null, .null, .null, .null, .null, .null, .null] .null := aV7.keep x8c0 nin0
    have Sh_CS_8 : Sta Z T8.heap "java/lang/String" "COMPACT_STRINGS" "Z" (.int zc) := S_CS.ext X00_8.2
    have Sh_D_8 : Sta Z T8.heap "java/util/ArrayList" "DEFAULTCAPACITY_EMPTY_ELEMENTDATA" "[Ljava/lang/Object;" (.ref w_D) := S_D.ext X00_8.2
    have Sh_E_8 : Sta Z T8.heap "java/util/ImmutableCollections" "EMPTY" "Ljava/lang/Object;" (.ref w_E) := S_E.ext X00_8.2
    have Sh_F_8 : Sta Z T8.heap "jdk/internal/util/Preconditions" "SIOOBE_FORMATTER" "Ljava/util/function/BiFunction;" GFx := S_F.ext X00_8.2
    have hk8' : _ ≤ T8.heap.size := Nat.le_trans hk7' x8c0.1
    have Z8 : n0 ≤ T8.heap.size := Nat.le_trans Z7 x8c0.1
    have X8b : Stand p l e room_1 (s.setVm T8.vm) m #[(.int p0), (.int p1), (.int p2), (.int p3)] below meth c T8 _ _ _ := X8
    have hS8 : s.Since T8.vm T8.heap.size := foldS hS4 (T := T7) (by first | exact hk7' | (rw [rfl]; exact hk7')) hSq8 gr8
    have hZ8 : Z.Warmed39 (s.setVm T8.vm).vm := State.Warmed39.trans (t := s.setVm T4.vm) hZ4 hSq8.1
    have hown8 : (s.setVm T8.vm).vm.findClass "com/example/fyfo/fyfo/ShellFromWordsPinLaw" = some m.cls := by rw [show (s.setVm T8.vm).vm = T8.vm from rfl, hSq8.1.alike.findClass]; exact hown4
    have hk8 := Nat.le_refl T8.heap.size
    obtain ⟨cq9, kq9, q9a, q9b, q9c⟩ := isOf hZ8 rfl x8c3
    obtain ⟨_, _, ⟨T9, L9, k9, n9⟩, -, X9, ⟨Lc9, hQ9, l9, y9, z9⟩, st9⟩ := X8b.virtualBack hx (y := (⟨"com/example/fyfo/fyfo/Runner$Shell", "command", "()Ljava/lang/String;"⟩ : MethodName)) (z := (⟨"com/example/fyfo/fyfo/Runner$Shell", "command", "()Ljava/lang/String;"⟩ : MethodName)) hown8 (mvT hZ8 (hw _ (List.mem_of_getElem? (i := 132) rfl))) (mvT hZ8 (hw _ (List.mem_of_getElem? (i := 133) rfl))) (notFace_of_selects (args := #[]) (mvT hZ8 (hw _ (List.mem_of_getElem? (i := 135) rfl)))) (mvT hZ8 (hw _ (List.mem_of_getElem? (i := 135) rfl))) (mvT hZ8 (hw _ (List.mem_of_getElem? (i := 134) rfl))) (by decide) (backOf (W := 0) (rm_cmd l Z a0 hw [] bx8 b3 T8.heap n0 Z8 x8c4) hZ8 (hw _ (List.mem_of_getElem? (i := 136) rfl)) (hw _ (List.mem_of_getElem? (i := 83) rfl)) (by decide) (by decide)) q9a q9c (g := (mkF m 144 #[.val (.int p0), .val (.int p1), .val (.int p2), .val (.int p3), .val (.int (0 : Int32)), .val (.int (p1 &&& (255 : Int32)).toUInt32.toUInt16.toUInt32.toInt32), .val (.int (p2 &&& (255 : Int32)).toUInt32.toUInt16.toUInt32.toInt32), .val (.int (p3 &&& (255 : Int32)).toUInt32.toUInt16.toUInt32.toInt32), .val (.ref b2), .val (.ref b3), .val (.ref b5), .val (.ref bx8), .unset, .unset] [(.ref bx8)])) rfl (by rw [hml]; rfl) (Steps.refl _) (argsL := []) (rest := []) (lenOf pd_21 rfl) rfl (by show 2 * 0 + _ ≤ _; exact Nat.le_of_eq rfl) (hb hby at_144) (fun _ _ => ⟨rfl, rfl, (by decide : 9 + 0 ≤ _), (by decide : 54 + 0 ≤ _)⟩)
    dsimp only [Pt.U, Pt.locs, Pt.cells, Pt.slots] at X9 l9 y9 z9 st9 hQ9
    subst l9 y9 z9
    obtain ⟨rfl, N9q, e9⟩ := hQ9
    have N9 := Fr.app N8 N9q
    obtain ⟨cq10, kq10, q10a, q10b, q10c⟩ := isOf hZ8 e9 A3_8
    obtain ⟨_, _, ⟨T10, L10, k10, n10⟩, -, X10, ⟨Lc10, hQ10, l10, y10, z10⟩, st10⟩ := X9.virtualBack hx (y := (⟨"java/lang/String", "length", "()I"⟩ : MethodName)) (z := (⟨"java/lang/String", "length", "()I"⟩ : MethodName)) hown8 (mvT hZ8 (hw _ (List.mem_of_getElem? (i := 137) rfl))) (mvT hZ8 (hw _ (List.mem_of_getElem? (i := 138) rfl))) (notFace_of_selects (args := #[]) (mvT hZ8 (hw _ (List.mem_of_getElem? (i := 140) rfl)))) (mvT hZ8 (hw _ (List.mem_of_getElem? (i := 140) rfl))) (mvT hZ8 (hw _ (List.mem_of_getElem? (i := 139) rfl))) (by decide) (backOf (W := 0) (rm_len l Z a0 hw [] b3 zc eb4 ek4 (0 : Int32) [] T8.heap n0 Z8 eC4_8 Sh_CS_8 P5 eF4_8 eV4_8 A3_8) hZ8 (hw _ (List.mem_of_getElem? (i := 141) rfl)) (hw _ (List.mem_of_getElem? (i := 3) rfl)) (by decide) (by decide)) q10a q10c (g := (mkF m 156 #[.val (.int p0), .val (.int p1), .val (.int p2), .val (.int p3), .val (.int (0 : Int32)), .val (.int (p1 &&& (255 : Int32)).toUInt32.toUInt16.toUInt32.toInt32), .val (.int (p2 &&& (255 : Int32)).toUInt32.toUInt16.toUInt32.toInt32), .val (.int (p3 &&& (255 : Int32)).toUInt32.toUInt16.toUInt32.toInt32), .val (.ref b2), .val (.ref b3), .val (.ref b5), .val (.ref bx8), .val (.ref b3), .unset] [(.ref b3)])) rfl (by rw [hml]; rfl) (Steps.refl _) (argsL := []) (rest := []) (lenOf pd_13 rfl) rfl (by show 2 * 0 + _ ≤ _; exact Nat.le_of_eq rfl) (hb hby at_156) (fun _ _ => ⟨rfl, e9, (by decide : 9 + 0 ≤ _), (by decide : 54 + 0 ≤ _)⟩)
    dsimp only [Pt.U, Pt.locs, Pt.cells, Pt.slots] at X10 l10 y10 z10 st10 hQ10
    subst l10 y10 z10
    obtain ⟨rfl, N10q, e10⟩ := hQ10
    have N10 := Fr.app N9 N10q
    obtain ⟨cq11, kq11, q11a, q11b, q11c⟩ := isOf hZ8 e10 x8c3
    obtain ⟨_, _, ⟨T11, L11, k11, n11⟩, -, X11, ⟨Lc11, hQ11, l11, y11, z11⟩, st11⟩ := X10.virtualBack hx (y := (⟨"com/example/fyfo/fyfo/Runner$Shell", "words", "()Ljava/util/List;"⟩ : MethodName)) (z := (⟨"com/example/fyfo/fyfo/Runner$Shell", "words", "()Ljava/util/List;"⟩ : MethodName)) hown8 (mvT hZ8 (hw _ (List.mem_of_getElem? (i := 148) rfl))) (mvT hZ8 (hw _ (List.mem_of_getElem? (i := 149) rfl))) (notFace_of_selects (args := #[]) (mvT hZ8 (hw _ (List.mem_of_getElem? (i := 151) rfl)))) (mvT hZ8 (hw _ (List.mem_of_getElem? (i := 151) rfl))) (mvT hZ8 (hw _ (List.mem_of_getElem? (i := 150) rfl))) (by decide) (backOf (W := 0) (rm_words l Z a0 hw [] bx8 b3 w_E T8.heap n0 Z8 x8c4 Sh_E_8) hZ8 (hw _ (List.mem_of_getElem? (i := 152) rfl)) (hw _ (List.mem_of_getElem? (i := 83) rfl)) (by decide) (by decide)) q11a q11c (g := (mkF m 225 #[.val (.int p0), .val (.int p1), .val (.int p2), .val (.int p3), .val (.int (0 : Int32)), .val (.int (p1 &&& (255 : Int32)).toUInt32.toUInt16.toUInt32.toInt32), .val (.int (p2 &&& (255 : Int32)).toUInt32.toUInt16.toUInt32.toInt32), .val (.int (p3 &&& (255 : Int32)).toUInt32.toUInt16.toUInt32.toInt32), .val (.ref b2), .val (.ref b3), .val (.ref b5), .val (.ref bx8), .val (.ref b3), .unset] [(.ref bx8)])) rfl (by rw [hml]; rfl) (Steps.refl _) (argsL := []) (rest := []) (lenOf pd_22 rfl) rfl (by show 2 * 0 + _ ≤ _; exact Nat.le_of_eq rfl) (hb hby at_225) (fun _ _ => ⟨rfl, e10, (by decide : 9 + 1 ≤ _), (by decide : 54 + 2 ≤ _)⟩)
    dsimp only [Pt.U, Pt.locs, Pt.cells, Pt.slots] at X11 l11 y11 z11 st11 hQ11
    subst l11 y11 z11
    obtain ⟨bx11, rfl, N11q, x11c0, x11c1, x11c2, x11c3, x11c4, x11c5⟩ := hQ11
    have N11 := Fr.app N10 N11q
    have ne_w_D_bx11 : w_D ≠ bx11 := Nat.ne_of_lt (Nat.lt_of_lt_of_le VD_8.lt x11c2)
    have ne_b2_bx11 : b2 ≠ bx11 := Nat.ne_of_lt (Nat.lt_of_lt_of_le V_b2_8.lt x11c2)
    have ne_b3_bx11 : b3 ≠ bx11 := Nat.ne_of_lt (Nat.lt_of_lt_of_le A3_8.lt x11c2)
    have ne_eb4_bx11 : eb4 ≠ bx11 := Nat.ne_of_lt (Nat.lt_of_lt_of_le eV4_8.lt x11c2)
    have ne_b5_bx11 : b5 ≠ bx11 := Nat.ne_of_lt (Nat.lt_of_lt_of_le A5_8.lt x11c2)
    have ne_ab7_bx11 : ab7 ≠ bx11 := Nat.ne_of_lt (Nat.lt_of_lt_of_le aV7_8.lt x11c2)
    have ne_bx8_bx11 : bx8 ≠ bx11 := Nat.ne_of_lt (Nat.lt_of_lt_of_le x8c3.lt x11c2)
    have X00_11 : Old Z n0 T11.heap := X00_8.keep x11c0 all0
    have VD_11 : Arv Z T11.heap w_D kd (.object "java/lang/Object") (0 : Int32) [] .null := VD_8.keep x11c0 nin0
    have V_b2_11 : Arv Z T11.heap b2 k2 .char (0 : Int32) [] (.int (0 : Int32)) := V_b2_8.keep x11c0 nin0
    have A3_11 : Exa Z T11.heap b3 "java/lang/String" := A3_8.keep x11c0
    have eF4_11 : Fld Z T11.heap b3 "java/lang/String" "value" "[B" (.ref eb4) := eF4_8.keep x11c0 nin0
    have eC4_11 : Fld Z T11.heap b3 "java/lang/String" "coder" "B" (.int (0 : Int32)) := eC4_8.keep x11c0 nin0
    have eV4_11 : Arv Z T11.heap eb4 ek4 .byte (0 : Int32) [] (.int (0 : Int32)) := eV4_8.keep x11c0 nin0
    have A5_11 : Exa Z T11.heap b5 "java/util/ArrayList" := A5_8.keep x11c0
    have x7c1_11 : Fld Z T11.heap b5 "java/util/ArrayList" "size" "I" (.int (1 : Int32)) := x7c1_8.keep x11c0 nin0
    have aF7_11 : Fld Z T11.heap b5 "java/util/ArrayList" "elementData" "[Ljava/lang/Object;" (.ref ab7) := aF7_8.keep x11c0 nin0
    have aV7_11 : Arv Z T11.heap ab7 ak7 (.object "java/lang/Object") (10 : Int32) [(.ref b3), .null, .null, .null, .null, .null, .null, .null, .null, .null] .null := aV7_8.keep x11c0 nin0
    have x8c3_11 : Exa Z T11.heap bx8 "com/example/fyfo/fyfo/Runner$Shell" := x8c3.keep x11c0
    have x8c4_11 : Fld Z T11.heap bx8 "com/example/fyfo/fyfo/Runner$Shell" "command" "Ljava/lang/String;" (.ref b3) := x8c4.keep x11c0 nin0
    have Sh_CS_11 : Sta Z T11.heap "java/lang/String" "COMPACT_STRINGS" "Z" (.int zc) := S_CS.ext X00_11.2
    have Sh_D_11 : Sta Z T11.heap "java/util/ArrayList" "DEFAULTCAPACITY_EMPTY_ELEMENTDATA" "[Ljava/lang/Object;" (.ref w_D) := S_D.ext X00_11.2
    have Sh_E_11 : Sta Z T11.heap "java/util/ImmutableCollections" "EMPTY" "Ljava/lang/Object;" (.ref w_E) := S_E.ext X00_11.2
    have Sh_F_11 : Sta Z T11.heap "jdk/internal/util/Preconditions" "SIOOBE_FORMATTER" "Ljava/util/function/BiFunction;" GFx := S_F.ext X00_11.2
    have hk11' : _ ≤ T11.heap.size := Nat.le_trans hk8 x11c0.1
    have Z11 : n0 ≤ T11.heap.size := Nat.le_trans Z8 x11c0.1
    obtain ⟨cq12, kq12, q12a, q12b, q12c⟩ := isOf hZ8 rfl A3_11
    obtain ⟨_, _, ⟨T12, L12, k12, n12⟩, -, X12, ⟨Lc12, hQ12, l12, y12, z12⟩, st12⟩ := X11.virtualBack hx (y := (⟨"java/lang/String", "equals", "(Ljava/lang/Object;)Z"⟩ : MethodName)) (z := (⟨"java/lang/String", "equals", "(Ljava/lang/Object;)Z"⟩ : MethodName)) hown8 (mvT hZ8 (hw _ (List.mem_of_getElem? (i := 187) rfl))) (mvT hZ8 (hw _ (List.mem_of_getElem? (i := 188) rfl))) (notFace_of_selects (args := #[]) (mvT hZ8 (hw _ (List.mem_of_getElem? (i := 190) rfl)))) (mvT hZ8 (hw _ (List.mem_of_getElem? (i := 190) rfl))) (mvT hZ8 (hw _ (List.mem_of_getElem? (i := 189) rfl))) (by decide) (backOf (W := 0) (rm_eq l Z a0 hw [] b3 b3 T11.heap n0 Z11 rfl) hZ8 (hw _ (List.mem_of_getElem? (i := 191) rfl)) (hw _ (List.mem_of_getElem? (i := 3) rfl)) (by decide) (by decide)) q12a q12c (g := (mkF m 234 #[.val (.int p0), .val (.int p1), .val (.int p2), .val (.int p3), .val (.int (0 : Int32)), .val (.int (p1 &&& (255 : Int32)).toUInt32.toUInt16.toUInt32.toInt32), .val (.int (p2 &&& (255 : Int32)).toUInt32.toUInt16.toUInt32.toInt32), .val (.int (p3 &&& (255 : Int32)).toUInt32.toUInt16.toUInt32.toInt32), .val (.ref b2), .val (.ref b3), .val (.ref b5), .val (.ref bx8), .val (.ref b3), .val (.ref bx11)] [(.ref b3), (.ref b3)])) rfl (by rw [hml]; rfl) (Steps.refl _) (argsL := [(.ref b3)]) (rest := []) (lenOf pd_19 rfl) rfl (by show 2 * 0 + _ ≤ _; exact Nat.le_of_eq rfl) (hb hby at_234) (fun _ _ => ⟨rfl, rfl, (by decide : 10 + 0 ≤ _), (by decide : 56 + 0 ≤ _)⟩)
    dsimp only [Pt.U, Pt.locs, Pt.cells, Pt.slots] at X12 l12 y12 z12 st12 hQ12
    subst l12 y12 z12
    obtain ⟨rfl, N12q, e12⟩ := hQ12
    have N12 := Fr.app N11 N12q
    obtain ⟨cq13, kq13, q13a, q13b, q13c⟩ := isOf hZ8 e12 x11c3
    obtain ⟨_, _, ⟨T13, L13, k13, n13⟩, -, X13, ⟨Lc13, hQ13, l13, y13, z13⟩, st13⟩ := X12.interfaceBack hx (xi := (⟨"java/util/List", "size", "()I"⟩ : MethodName)) (y := (⟨"java/util/ImmutableCollections$List12", "size", "()I"⟩ : MethodName)) hown8 (mvT hZ8 (hw _ (List.mem_of_getElem? (i := 192) rfl))) (mvT hZ8 (hw _ (List.mem_of_getElem? (i := 86) rfl))) (mvT hZ8 (hw _ (List.mem_of_getElem? (i := 87) rfl))) (mvT hZ8 (hw _ (List.mem_of_getElem? (i := 193) rfl))) (mvT hZ8 (hw _ (List.mem_of_getElem? (i := 194) rfl))) (mvT hZ8 (hw _ (List.mem_of_getElem? (i := 195) rfl))) (mvT hZ8 (hw _ (List.mem_of_getElem? (i := 196) rfl))) (mvT hZ8 (hw _ (List.mem_of_getElem? (i := 197) rfl))) (by decide) (backOf (W := 0) (rm_l12s l Z a0 hw [] bx11 w_E T11.heap n0 Z11 x11c5 Sh_E_11) hZ8 (hw _ (List.mem_of_getElem? (i := 198) rfl)) (hw _ (List.mem_of_getElem? (i := 159) rfl)) (by decide) (by decide)) q13a q13b q13c (g := (mkF m 242 #[.val (.int p0), .val (.int p1), .val (.int p2), .val (.int p3), .val (.int (0 : Int32)), .val (.int (p1 &&& (255 : Int32)).toUInt32.toUInt16.toUInt32.toInt32), .val (.int (p2 &&& (255 : Int32)).toUInt32.toUInt16.toUInt32.toInt32), .val (.int (p3 &&& (255 : Int32)).toUInt32.toUInt16.toUInt32.toInt32), .val (.ref b2), .val (.ref b3), .val (.ref b5), .val (.ref bx8), .val (.ref b3), .val (.ref bx11)] [(.ref bx11)])) rfl (by rw [hml]; rfl) (Steps.refl _) (argsL := []) (rest := []) (lenOf pd_13 rfl) rfl (by show 2 * 0 + _ ≤ _; exact Nat.le_of_eq rfl) (hb hby at_242) (fun _ _ => ⟨rfl, e12, (by decide : 10 + 0 ≤ _), (by decide : 56 + 0 ≤ _)⟩)
    dsimp only [Pt.U, Pt.locs, Pt.cells, Pt.slots] at X13 l13 y13 z13 st13 hQ13
    subst l13 y13 z13
    obtain ⟨rfl, N13q, e13⟩ := hQ13
    have N13 := Fr.app N12 N13q
    obtain ⟨cq14, kq14, q14a, q14b, q14c⟩ := isOf hZ8 e13 x11c3
    obtain ⟨_, _, ⟨T14, L14, k14, n14⟩, -, X14, ⟨Lc14, hQ14, l14, y14, z14⟩, st14⟩ := X13.interfaceBack hx (xi := (⟨"java/util/List", "get", "(I)Ljava/lang/Object;"⟩ : MethodName)) (y := (⟨"java/util/ImmutableCollections$List12", "get", "(I)Ljava/lang/Object;"⟩ : MethodName)) hown8 (mvT hZ8 (hw _ (List.mem_of_getElem? (i := 199) rfl))) (mvT hZ8 (hw _ (List.mem_of_getElem? (i := 96) rfl))) (mvT hZ8 (hw _ (List.mem_of_getElem? (i := 97) rfl))) (mvT hZ8 (hw _ (List.mem_of_getElem? (i := 200) rfl))) (mvT hZ8 (hw _ (List.mem_of_getElem? (i := 201) rfl))) (mvT hZ8 (hw _ (List.mem_of_getElem? (i := 202) rfl))) (mvT hZ8 (hw _ (List.mem_of_getElem? (i := 203) rfl))) (mvT hZ8 (hw _ (List.mem_of_getElem? (i := 197) rfl))) (by decide) (backOf (W := 0) (rm_l12g l Z a0 hw [] bx11 (0 : Int32) b3 T11.heap n0 Z11 x11c4 rfl) hZ8 (hw _ (List.mem_of_getElem? (i := 204) rfl)) (hw _ (List.mem_of_getElem? (i := 159) rfl)) (by decide) (by decide)) q14a q14b q14c (g := (mkF m 254 #[.val (.int p0), .val (.int p1), .val (.int p2), .val (.int p3), .val (.int (0 : Int32)), .val (.int (p1 &&& (255 : Int32)).toUInt32.toUInt16.toUInt32.toInt32), .val (.int (p2 &&& (255 : Int32)).toUInt32.toUInt16.toUInt32.toInt32), .val (.int (p3 &&& (255 : Int32)).toUInt32.toUInt16.toUInt32.toInt32), .val (.ref b2), .val (.ref b3), .val (.ref b5), .val (.ref bx8), .val (.ref b3), .val (.ref bx11)] [(.int (0 : Int32)), (.ref bx11)])) rfl (by rw [hml]; rfl) (Steps.refl _) (argsL := [(.int (0 : Int32))]) (rest := []) (lenOf pd_11 rfl) rfl (by show 2 * 0 + _ ≤ _; exact Nat.le_of_eq rfl) (hb hby at_254) (fun _ _ => ⟨rfl, e13, (by decide : 10 + 0 ≤ _), (by decide : 56 + 0 ≤ _)⟩)
    dsimp only [Pt.U, Pt.locs, Pt.cells, Pt.slots] at X14 l14 y14 z14 st14 hQ14
    subst l14 y14 z14
    obtain ⟨rfl, N14q, e14⟩ := hQ14
    have N14 := Fr.app N13 N14q
    obtain ⟨T15, X15, e15, st15⟩ := castY X14 hx hZ8 hown8 (hw _ (List.mem_of_getElem? (i := 1) rfl)) e14 (Ins.self A3_11) (g := (mkF m 259 #[.val (.int p0), .val (.int p1), .val (.int p2), .val (.int p3), .val (.int (0 : Int32)), .val (.int (p1 &&& (255 : Int32)).toUInt32.toUInt16.toUInt32.toInt32), .val (.int (p2 &&& (255 : Int32)).toUInt32.toUInt16.toUInt32.toInt32), .val (.int (p3 &&& (255 : Int32)).toUInt32.toUInt16.toUInt32.toInt32), .val (.ref b2), .val (.ref b3), .val (.ref b5), .val (.ref bx8), .val (.ref b3), .val (.ref bx11)] [(.ref b3)])) rfl rfl (hb hby at_259)
    obtain ⟨cq16, kq16, q16a, q16b, q16c⟩ := isOf hZ8 e15 A3_11
    obtain ⟨_, _, ⟨T16, L16, k16, n16⟩, -, X16, ⟨Lc16, hQ16, l16, y16, z16⟩, st16⟩ := X15.virtualBack hx (y := (⟨"java/lang/String", "equals", "(Ljava/lang/Object;)Z"⟩ : MethodName)) (z := (⟨"java/lang/String", "equals", "(Ljava/lang/Object;)Z"⟩ : MethodName)) hown8 (mvT hZ8 (hw _ (List.mem_of_getElem? (i := 187) rfl))) (mvT hZ8 (hw _ (List.mem_of_getElem? (i := 188) rfl))) (notFace_of_selects (args := #[]) (mvT hZ8 (hw _ (List.mem_of_getElem? (i := 190) rfl)))) (mvT hZ8 (hw _ (List.mem_of_getElem? (i := 190) rfl))) (mvT hZ8 (hw _ (List.mem_of_getElem? (i := 189) rfl))) (by decide) (backOf (W := 0) (rm_eq l Z a0 hw [] b3 b3 T11.heap n0 Z11 rfl) hZ8 (hw _ (List.mem_of_getElem? (i := 191) rfl)) (hw _ (List.mem_of_getElem? (i := 3) rfl)) (by decide) (by decide)) q16a q16c (g := (mkF m 264 #[.val (.int p0), .val (.int p1), .val (.int p2), .val (.int p3), .val (.int (0 : Int32)), .val (.int (p1 &&& (255 : Int32)).toUInt32.toUInt16.toUInt32.toInt32), .val (.int (p2 &&& (255 : Int32)).toUInt32.toUInt16.toUInt32.toInt32), .val (.int (p3 &&& (255 : Int32)).toUInt32.toUInt16.toUInt32.toInt32), .val (.ref b2), .val (.ref b3), .val (.ref b5), .val (.ref bx8), .val (.ref b3), .val (.ref bx11)] [(.ref b3), (.ref b3)])) rfl (by rw [hml]; rfl) (Steps.refl _) (argsL := [(.ref b3)]) (rest := []) (lenOf pd_19 rfl) rfl (by show 2 * 0 + _ ≤ _; exact Nat.le_of_eq rfl) (hb hby at_264) (fun _ _ => ⟨rfl, e15, (by decide : 10 + 0 ≤ _), (by decide : 56 + 0 ≤ _)⟩)
    dsimp only [Pt.U, Pt.locs, Pt.cells, Pt.slots] at X16 l16 y16 z16 st16 hQ16
    subst l16 y16 z16
    obtain ⟨rfl, N16q, e16⟩ := hQ16
    have N16 := Fr.app N14 N16q
    obtain ⟨fs, hr, hrun, hended, hREW⟩ := X16.leaveW hS8 (by first | exact hk11' | (rw [e16]; exact hk11')) (v := some (.int (1 : Int32))) (fun h => by rw [Bd.returns] at h; cases h)
    refine ⟨_, _, pre0 _ ?_, hrun, hended, _, _, rfl, ?_, hREW.1, hREW.2.1, hREW.2.2.1, hREW.2.2.2.mono (by decide) (by decide)⟩
    · refine k1 _ ?_
      show Steps p.tables e below (s₁.setTop (mkF m 31 #[.val (.int p0), .val (.int p1), .val (.int p2), .val (.int p3), .val (.int (p0 &&& (3 : Int32))), .val (.int (p1 &&& (255 : Int32)).toUInt32.toUInt16.toUInt32.toInt32), .val (.int (p2 &&& (255 : Int32)).toUInt32.toUInt16.toUInt32.toInt32), .val (.int (p3 &&& (255 : Int32)).toUInt32.toUInt16.toUInt32.toInt32), .unset, .unset, .unset, .unset, .unset, .unset] [(.int (p0 &&& (3 : Int32)))])) _
      refine XS.ifNo X0.here hx rfl (hb hby at_31) rfl ((if0 _ _).trans (teq hc31).2) ?_
      show Steps p.tables e below (s₁.setTop (mkF m 34 #[.val (.int p0), .val (.int p1), .val (.int p2), .val (.int p3), .val (.int (p0 &&& (3 : Int32))), .val (.int (p1 &&& (255 : Int32)).toUInt32.toUInt16.toUInt32.toInt32), .val (.int (p2 &&& (255 : Int32)).toUInt32.toUInt16.toUInt32.toInt32), .val (.int (p3 &&& (255 : Int32)).toUInt32.toUInt16.toUInt32.toInt32), .unset, .unset, .unset, .unset, .unset, .unset] [])) _
      refine XS.iconst X0.here hx rfl (hb hby at_34) ?_
      show Steps p.tables e below (s₁.setTop (mkF m 35 #[.val (.int p0), .val (.int p1), .val (.int p2), .val (.int p3), .val (.int (p0 &&& (3 : Int32))), .val (.int (p1 &&& (255 : Int32)).toUInt32.toUInt16.toUInt32.toInt32), .val (.int (p2 &&& (255 : Int32)).toUInt32.toUInt16.toUInt32.toInt32), .val (.int (p3 &&& (255 : Int32)).toUInt32.toUInt16.toUInt32.toInt32), .unset, .unset, .unset, .unset, .unset, .unset] [(.int (0 : Int32))])) _
      refine st2 _ ?_
      show Steps p.tables e below (T2.setTop (mkF m 37 #[.val (.int p0), .val (.int p1), .val (.int p2), .val (.int p3), .val (.int (p0 &&& (3 : Int32))), .val (.int (p1 &&& (255 : Int32)).toUInt32.toUInt16.toUInt32.toInt32), .val (.int (p2 &&& (255 : Int32)).toUInt32.toUInt16.toUInt32.toInt32), .val (.int (p3 &&& (255 : Int32)).toUInt32.toUInt16.toUInt32.toInt32), .unset, .unset, .unset, .unset, .unset, .unset] [(.ref b2)])) _
      refine XS.astore X2.here hx rfl (hb hby at_37) rfl rfl (l' := #[.val (.int p0), .val (.int p1), .val (.int p2), .val (.int p3), .val (.int (p0 &&& (3 : Int32))), .val (.int (p1 &&& (255 : Int32)).toUInt32.toUInt16.toUInt32.toInt32), .val (.int (p2 &&& (255 : Int32)).toUInt32.toUInt16.toUInt32.toInt32), .val (.int (p3 &&& (255 : Int32)).toUInt32.toUInt16.toUInt32.toInt32), .val (.ref b2), .unset, .unset, .unset, .unset, .unset]) rfl ?_
      show Steps p.tables e below (T2.setTop (mkF m 39 #[.val (.int p0), .val (.int p1), .val (.int p2), .val (.int p3), .val (.int (p0 &&& (3 : Int32))), .val (.int (p1 &&& (255 : Int32)).toUInt32.toUInt16.toUInt32.toInt32), .val (.int (p2 &&& (255 : Int32)).toUInt32.toUInt16.toUInt32.toInt32), .val (.int (p3 &&& (255 : Int32)).toUInt32.toUInt16.toUInt32.toInt32), .val (.ref b2), .unset, .unset, .unset, .unset, .unset] [])) _
      refine XS.goto X2.here hx rfl (pc0 := 39) (pc' := 105) rfl (hb hby at_39) (by decide) (by decide) ?_
      show Steps p.tables e below (T2.setTop (mkF m 105 #[.val (.int p0), .val (.int p1), .val (.int p2), .val (.int p3), .val (.int (p0 &&& (3 : Int32))), .val (.int (p1 &&& (255 : Int32)).toUInt32.toUInt16.toUInt32.toInt32), .val (.int (p2 &&& (255 : Int32)).toUInt32.toUInt16.toUInt32.toInt32), .val (.int (p3 &&& (255 : Int32)).toUInt32.toUInt16.toUInt32.toInt32), .val (.ref b2), .unset, .unset, .unset, .unset, .unset] [])) _
      rw [hc31]
      show Steps p.tables e below (T2.setTop (mkF m 105 #[.val (.int p0), .val (.int p1), .val (.int p2), .val (.int p3), .val (.int (0 : Int32)), .val (.int (p1 &&& (255 : Int32)).toUInt32.toUInt16.toUInt32.toInt32), .val (.int (p2 &&& (255 : Int32)).toUInt32.toUInt16.toUInt32.toInt32), .val (.int (p3 &&& (255 : Int32)).toUInt32.toUInt16.toUInt32.toInt32), .val (.ref b2), .unset, .unset, .unset, .unset, .unset] [])) _
      refine st3 _ ?_
      show Steps p.tables e below (T3.setTop (mkF m 108 #[.val (.int p0), .val (.int p1), .val (.int p2), .val (.int p3), .val (.int (0 : Int32)), .val (.int (p1 &&& (255 : Int32)).toUInt32.toUInt16.toUInt32.toInt32), .val (.int (p2 &&& (255 : Int32)).toUInt32.toUInt16.toUInt32.toInt32), .val (.int (p3 &&& (255 : Int32)).toUInt32.toUInt16.toUInt32.toInt32), .val (.ref b2), .unset, .unset, .unset, .unset, .unset] [(.ref b3)])) _
      refine XS.dup X3.here hx rfl (hb hby at_108) rfl rfl ?_
      show Steps p.tables e below (T3.setTop (mkF m 109 #[.val (.int p0), .val (.int p1), .val (.int p2), .val (.int p3), .val (.int (0 : Int32)), .val (.int (p1 &&& (255 : Int32)).toUInt32.toUInt16.toUInt32.toInt32), .val (.int (p2 &&& (255 : Int32)).toUInt32.toUInt16.toUInt32.toInt32), .val (.int (p3 &&& (255 : Int32)).toUInt32.toUInt16.toUInt32.toInt32), .val (.ref b2), .unset, .unset, .unset, .unset, .unset] [(.ref b3), (.ref b3)])) _
      refine XS.aload X3.here hx rfl (hb hby at_109) rfl rfl ?_
      show Steps p.tables e below (T3.setTop (mkF m 111 #[.val (.int p0), .val (.int p1), .val (.int p2), .val (.int p3), .val (.int (0 : Int32)), .val (.int (p1 &&& (255 : Int32)).toUInt32.toUInt16.toUInt32.toInt32), .val (.int (p2 &&& (255 : Int32)).toUInt32.toUInt16.toUInt32.toInt32), .val (.int (p3 &&& (255 : Int32)).toUInt32.toUInt16.toUInt32.toInt32), .val (.ref b2), .unset, .unset, .unset, .unset, .unset] [(.ref b2), (.ref b3), (.ref b3)])) _
      refine st4.trans ?_
      show Steps p.tables e below (T4.setTop (mkF m 114 #[.val (.int p0), .val (.int p1), .val (.int p2), .val (.int p3), .val (.int (0 : Int32)), .val (.int (p1 &&& (255 : Int32)).toUInt32.toUInt16.toUInt32.toInt32), .val (.int (p2 &&& (255 : Int32)).toUInt32.toUInt16.toUInt32.toInt32), .val (.int (p3 &&& (255 : Int32)).toUInt32.toUInt16.toUInt32.toInt32), .val (.ref b2), .unset, .unset, .unset, .unset, .unset] [(.ref b3)])) _
      refine XS.astore X4b.here hx rfl (hb hby at_114) rfl rfl (l' := #[.val (.int p0), .val (.int p1), .val (.int p2), .val (.int p3), .val (.int (0 : Int32)), .val (.int (p1 &&& (255 : Int32)).toUInt32.toUInt16.toUInt32.toInt32), .val (.int (p2 &&& (255 : Int32)).toUInt32.toUInt16.toUInt32.toInt32), .val (.int (p3 &&& (255 : Int32)).toUInt32.toUInt16.toUInt32.toInt32), .val (.ref b2), .val (.ref b3), .unset, .unset, .unset, .unset]) rfl ?_
      show Steps p.tables e below (T4.setTop (mkF m 116 #[.val (.int p0), .val (.int p1), .val (.int p2), .val (.int p3), .val (.int (0 : Int32)), .val (.int (p1 &&& (255 : Int32)).toUInt32.toUInt16.toUInt32.toInt32), .val (.int (p2 &&& (255 : Int32)).toUInt32.toUInt16.toUInt32.toInt32), .val (.int (p3 &&& (255 : Int32)).toUInt32.toUInt16.toUInt32.toInt32), .val (.ref b2), .val (.ref b3), .unset, .unset, .unset, .unset] [])) _
      refine st5 _ ?_
      show Steps p.tables e below (T5.setTop (mkF m 119 #[.val (.int p0), .val (.int p1), .val (.int p2), .val (.int p3), .val (.int (0 : Int32)), .val (.int (p1 &&& (255 : Int32)).toUInt32.toUInt16.toUInt32.toInt32), .val (.int (p2 &&& (255 : Int32)).toUInt32.toUInt16.toUInt32.toInt32), .val (.int (p3 &&& (255 : Int32)).toUInt32.toUInt16.toUInt32.toInt32), .val (.ref b2), .val (.ref b3), .unset, .unset, .unset, .unset] [(.ref b5)])) _
      refine XS.dup X5.here hx rfl (hb hby at_119) rfl rfl ?_
      show Steps p.tables e below (T5.setTop (mkF m 120 #[.val (.int p0), .val (.int p1), .val (.int p2), .val (.int p3), .val (.int (0 : Int32)), .val (.int (p1 &&& (255 : Int32)).toUInt32.toUInt16.toUInt32.toInt32), .val (.int (p2 &&& (255 : Int32)).toUInt32.toUInt16.toUInt32.toInt32), .val (.int (p3 &&& (255 : Int32)).toUInt32.toUInt16.toUInt32.toInt32), .val (.ref b2), .val (.ref b3), .unset, .unset, .unset, .unset] [(.ref b5), (.ref b5)])) _
      refine st6.trans ?_
      show Steps p.tables e below (T6.setTop (mkF m 123 #[.val (.int p0), .val (.int p1), .val (.int p2), .val (.int p3), .val (.int (0 : Int32)), .val (.int (p1 &&& (255 : Int32)).toUInt32.toUInt16.toUInt32.toInt32), .val (.int (p2 &&& (255 : Int32)).toUInt32.toUInt16.toUInt32.toInt32), .val (.int (p3 &&& (255 : Int32)).toUInt32.toUInt16.toUInt32.toInt32), .val (.ref b2), .val (.ref b3), .unset, .unset, .unset, .unset] [(.ref b5)])) _
      refine XS.astore X6.here hx rfl (hb hby at_123) rfl rfl (l' := #[.val (.int p0), .val (.int p1), .val (.int p2), .val (.int p3), .val (.int (0 : Int32)), .val (.int (p1 &&& (255 : Int32)).toUInt32.toUInt16.toUInt32.toInt32), .val (.int (p2 &&& (255 : Int32)).toUInt32.toUInt16.toUInt32.toInt32), .val (.int (p3 &&& (255 : Int32)).toUInt32.toUInt16.toUInt32.toInt32), .val (.ref b2), .val (.ref b3), .val (.ref b5), .unset, .unset, .unset]) rfl ?_
      show Steps p.tables e below (T6.setTop (mkF m 125 #[.val (.int p0), .val (.int p1), .val (.int p2), .val (.int p3), .val (.int (0 : Int32)), .val (.int (p1 &&& (255 : Int32)).toUInt32.toUInt16.toUInt32.toInt32), .val (.int (p2 &&& (255 : Int32)).toUInt32.toUInt16.toUInt32.toInt32), .val (.int (p3 &&& (255 : Int32)).toUInt32.toUInt16.toUInt32.toInt32), .val (.ref b2), .val (.ref b3), .val (.ref b5), .unset, .unset, .unset] [])) _
      refine XS.aload X6.here hx rfl (hb hby at_125) rfl rfl ?_
      show Steps p.tables e below (T6.setTop (mkF m 127 #[.val (.int p0), .val (.int p1), .val (.int p2), .val (.int p3), .val (.int (0 : Int32)), .val (.int (p1 &&& (255 : Int32)).toUInt32.toUInt16.toUInt32.toInt32), .val (.int (p2 &&& (255 : Int32)).toUInt32.toUInt16.toUInt32.toInt32), .val (.int (p3 &&& (255 : Int32)).toUInt32.toUInt16.toUInt32.toInt32), .val (.ref b2), .val (.ref b3), .val (.ref b5), .unset, .unset, .unset] [(.ref b5)])) _
      refine XS.aload X6.here hx rfl (hb hby at_127) rfl rfl ?_
      show Steps p.tables e below (T6.setTop (mkF m 129 #[.val (.int p0), .val (.int p1), .val (.int p2), .val (.int p3), .val (.int (0 : Int32)), .val (.int (p1 &&& (255 : Int32)).toUInt32.toUInt16.toUInt32.toInt32), .val (.int (p2 &&& (255 : Int32)).toUInt32.toUInt16.toUInt32.toInt32), .val (.int (p3 &&& (255 : Int32)).toUInt32.toUInt16.toUInt32.toInt32), .val (.ref b2), .val (.ref b3), .val (.ref b5), .unset, .unset, .unset] [(.ref b3), (.ref b5)])) _
      refine st7.trans ?_
      show Steps p.tables e below (T7.setTop (mkF m 134 #[.val (.int p0), .val (.int p1), .val (.int p2), .val (.int p3), .val (.int (0 : Int32)), .val (.int (p1 &&& (255 : Int32)).toUInt32.toUInt16.toUInt32.toInt32), .val (.int (p2 &&& (255 : Int32)).toUInt32.toUInt16.toUInt32.toInt32), .val (.int (p3 &&& (255 : Int32)).toUInt32.toUInt16.toUInt32.toInt32), .val (.ref b2), .val (.ref b3), .val (.ref b5), .unset, .unset, .unset] [(.int (1 : Int32))])) _
      refine XS.pop X7.here hx rfl (hb hby at_134) rfl rfl ?_
      show Steps p.tables e below (T7.setTop (mkF m 135 #[.val (.int p0), .val (.int p1), .val (.int p2), .val (.int p3), .val (.int (0 : Int32)), .val (.int (p1 &&& (255 : Int32)).toUInt32.toUInt16.toUInt32.toInt32), .val (.int (p2 &&& (255 : Int32)).toUInt32.toUInt16.toUInt32.toInt32), .val (.int (p3 &&& (255 : Int32)).toUInt32.toUInt16.toUInt32.toInt32), .val (.ref b2), .val (.ref b3), .val (.ref b5), .unset, .unset, .unset] [])) _
      refine XS.aload X7.here hx rfl (hb hby at_135) rfl rfl ?_
      show Steps p.tables e below (T7.setTop (mkF m 137 #[.val (.int p0), .val (.int p1), .val (.int p2), .val (.int p3), .val (.int (0 : Int32)), .val (.int (p1 &&& (255 : Int32)).toUInt32.toUInt16.toUInt32.toInt32), .val (.int (p2 &&& (255 : Int32)).toUInt32.toUInt16.toUInt32.toInt32), .val (.int (p3 &&& (255 : Int32)).toUInt32.toUInt16.toUInt32.toInt32), .val (.ref b2), .val (.ref b3), .val (.ref b5), .unset, .unset, .unset] [(.ref b5)])) _
      refine st8.trans ?_
      show Steps p.tables e below (T8.setTop (mkF m 140 #[.val (.int p0), .val (.int p1), .val (.int p2), .val (.int p3), .val (.int (0 : Int32)), .val (.int (p1 &&& (255 : Int32)).toUInt32.toUInt16.toUInt32.toInt32), .val (.int (p2 &&& (255 : Int32)).toUInt32.toUInt16.toUInt32.toInt32), .val (.int (p3 &&& (255 : Int32)).toUInt32.toUInt16.toUInt32.toInt32), .val (.ref b2), .val (.ref b3), .val (.ref b5), .unset, .unset, .unset] [(.ref bx8)])) _
      refine XS.astore X8b.here hx rfl (hb hby at_140) rfl rfl (l' := #[.val (.int p0), .val (.int p1), .val (.int p2), .val (.int p3), .val (.int (0 : Int32)), .val (.int (p1 &&& (255 : Int32)).toUInt32.toUInt16.toUInt32.toInt32), .val (.int (p2 &&& (255 : Int32)).toUInt32.toUInt16.toUInt32.toInt32), .val (.int (p3 &&& (255 : Int32)).toUInt32.toUInt16.toUInt32.toInt32), .val (.ref b2), .val (.ref b3), .val (.ref b5), .val (.ref bx8), .unset, .unset]) rfl ?_
      show Steps p.tables e below (T8.setTop (mkF m 142 #[.val (.int p0), .val (.int p1), .val (.int p2), .val (.int p3), .val (.int (0 : Int32)), .val (.int (p1 &&& (255 : Int32)).toUInt32.toUInt16.toUInt32.toInt32), .val (.int (p2 &&& (255 : Int32)).toUInt32.toUInt16.toUInt32.toInt32), .val (.int (p3 &&& (255 : Int32)).toUInt32.toUInt16.toUInt32.toInt32), .val (.ref b2), .val (.ref b3), .val (.ref b5), .val (.ref bx8), .unset, .unset] [])) _
      refine XS.aload X8b.here hx rfl (hb hby at_142) rfl rfl ?_
      show Steps p.tables e below (T8.setTop (mkF m 144 #[.val (.int p0), .val (.int p1), .val (.int p2), .val (.int p3), .val (.int (0 : Int32)), .val (.int (p1 &&& (255 : Int32)).toUInt32.toUInt16.toUInt32.toInt32), .val (.int (p2 &&& (255 : Int32)).toUInt32.toUInt16.toUInt32.toInt32), .val (.int (p3 &&& (255 : Int32)).toUInt32.toUInt16.toUInt32.toInt32), .val (.ref b2), .val (.ref b3), .val (.ref b5), .val (.ref bx8), .unset, .unset] [(.ref bx8)])) _
      refine st9.trans ?_
      show Steps p.tables e below (T9.setTop (mkF m 147 #[.val (.int p0), .val (.int p1), .val (.int p2), .val (.int p3), .val (.int (0 : Int32)), .val (.int (p1 &&& (255 : Int32)).toUInt32.toUInt16.toUInt32.toInt32), .val (.int (p2 &&& (255 : Int32)).toUInt32.toUInt16.toUInt32.toInt32), .val (.int (p3 &&& (255 : Int32)).toUInt32.toUInt16.toUInt32.toInt32), .val (.ref b2), .val (.ref b3), .val (.ref b5), .val (.ref bx8), .unset, .unset] [(.ref b3)])) _
      refine XS.astore X9.here hx rfl (hb hby at_147) rfl rfl (l' := #[.val (.int p0), .val (.int p1), .val (.int p2), .val (.int p3), .val (.int (0 : Int32)), .val (.int (p1 &&& (255 : Int32)).toUInt32.toUInt16.toUInt32.toInt32), .val (.int (p2 &&& (255 : Int32)).toUInt32.toUInt16.toUInt32.toInt32), .val (.int (p3 &&& (255 : Int32)).toUInt32.toUInt16.toUInt32.toInt32), .val (.ref b2), .val (.ref b3), .val (.ref b5), .val (.ref bx8), .val (.ref b3), .unset]) rfl ?_
      show Steps p.tables e below (T9.setTop (mkF m 149 #[.val (.int p0), .val (.int p1), .val (.int p2), .val (.int p3), .val (.int (0 : Int32)), .val (.int (p1 &&& (255 : Int32)).toUInt32.toUInt16.toUInt32.toInt32), .val (.int (p2 &&& (255 : Int32)).toUInt32.toUInt16.toUInt32.toInt32), .val (.int (p3 &&& (255 : Int32)).toUInt32.toUInt16.toUInt32.toInt32), .val (.ref b2), .val (.ref b3), .val (.ref b5), .val (.ref bx8), .val (.ref b3), .unset] [])) _
      refine XS.aload X9.here hx rfl (hb hby at_149) rfl rfl ?_
      show Steps p.tables e below (T9.setTop (mkF m 151 #[.val (.int p0), .val (.int p1), .val (.int p2), .val (.int p3), .val (.int (0 : Int32)), .val (.int (p1 &&& (255 : Int32)).toUInt32.toUInt16.toUInt32.toInt32), .val (.int (p2 &&& (255 : Int32)).toUInt32.toUInt16.toUInt32.toInt32), .val (.int (p3 &&& (255 : Int32)).toUInt32.toUInt16.toUInt32.toInt32), .val (.ref b2), .val (.ref b3), .val (.ref b5), .val (.ref bx8), .val (.ref b3), .unset] [(.ref b3)])) _
      refine XS.ifnullNo X9.here hx rfl (hb hby at_151) rfl ?_
      show Steps p.tables e below (T9.setTop (mkF m 154 #[.val (.int p0), .val (.int p1), .val (.int p2), .val (.int p3), .val (.int (0 : Int32)), .val (.int (p1 &&& (255 : Int32)).toUInt32.toUInt16.toUInt32.toInt32), .val (.int (p2 &&& (255 : Int32)).toUInt32.toUInt16.toUInt32.toInt32), .val (.int (p3 &&& (255 : Int32)).toUInt32.toUInt16.toUInt32.toInt32), .val (.ref b2), .val (.ref b3), .val (.ref b5), .val (.ref bx8), .val (.ref b3), .unset] [])) _
      refine XS.aload X9.here hx rfl (hb hby at_154) rfl rfl ?_
      show Steps p.tables e below (T9.setTop (mkF m 156 #[.val (.int p0), .val (.int p1), .val (.int p2), .val (.int p3), .val (.int (0 : Int32)), .val (.int (p1 &&& (255 : Int32)).toUInt32.toUInt16.toUInt32.toInt32), .val (.int (p2 &&& (255 : Int32)).toUInt32.toUInt16.toUInt32.toInt32), .val (.int (p3 &&& (255 : Int32)).toUInt32.toUInt16.toUInt32.toInt32), .val (.ref b2), .val (.ref b3), .val (.ref b5), .val (.ref bx8), .val (.ref b3), .unset] [(.ref b3)])) _
      refine st10.trans ?_
      show Steps p.tables e below (T10.setTop (mkF m 159 #[.val (.int p0), .val (.int p1), .val (.int p2), .val (.int p3), .val (.int (0 : Int32)), .val (.int (p1 &&& (255 : Int32)).toUInt32.toUInt16.toUInt32.toInt32), .val (.int (p2 &&& (255 : Int32)).toUInt32.toUInt16.toUInt32.toInt32), .val (.int (p3 &&& (255 : Int32)).toUInt32.toUInt16.toUInt32.toInt32), .val (.ref b2), .val (.ref b3), .val (.ref b5), .val (.ref bx8), .val (.ref b3), .unset] [(.int (0 : Int32))])) _
      refine XS.iload X10.here hx rfl (hb hby at_159) rfl ?_
      show Steps p.tables e below (T10.setTop (mkF m 161 #[.val (.int p0), .val (.int p1), .val (.int p2), .val (.int p3), .val (.int (0 : Int32)), .val (.int (p1 &&& (255 : Int32)).toUInt32.toUInt16.toUInt32.toInt32), .val (.int (p2 &&& (255 : Int32)).toUInt32.toUInt16.toUInt32.toInt32), .val (.int (p3 &&& (255 : Int32)).toUInt32.toUInt16.toUInt32.toInt32), .val (.ref b2), .val (.ref b3), .val (.ref b5), .val (.ref bx8), .val (.ref b3), .unset] [(.int (0 : Int32)), (.int (0 : Int32))])) _
      refine XS.icmpYes X10.here hx rfl (pc0 := 161) (pc' := 166) rfl (hb hby at_161) rfl (teq (by decide : (0 : Int32) = (0 : Int32))).1 (by decide) (by decide) ?_
      show Steps p.tables e below (T10.setTop (mkF m 166 #[.val (.int p0), .val (.int p1), .val (.int p2), .val (.int p3), .val (.int (0 : Int32)), .val (.int (p1 &&& (255 : Int32)).toUInt32.toUInt16.toUInt32.toInt32), .val (.int (p2 &&& (255 : Int32)).toUInt32.toUInt16.toUInt32.toInt32), .val (.int (p3 &&& (255 : Int32)).toUInt32.toUInt16.toUInt32.toInt32), .val (.ref b2), .val (.ref b3), .val (.ref b5), .val (.ref bx8), .val (.ref b3), .unset] [])) _
      refine XS.iload X10.here hx rfl (hb hby at_166) rfl ?_
      show Steps p.tables e below (T10.setTop (mkF m 168 #[.val (.int p0), .val (.int p1), .val (.int p2), .val (.int p3), .val (.int (0 : Int32)), .val (.int (p1 &&& (255 : Int32)).toUInt32.toUInt16.toUInt32.toInt32), .val (.int (p2 &&& (255 : Int32)).toUInt32.toUInt16.toUInt32.toInt32), .val (.int (p3 &&& (255 : Int32)).toUInt32.toUInt16.toUInt32.toInt32), .val (.ref b2), .val (.ref b3), .val (.ref b5), .val (.ref bx8), .val (.ref b3), .unset] [(.int (0 : Int32))])) _
      refine XS.iconst X10.here hx rfl (hb hby at_168) ?_
      show Steps p.tables e below (T10.setTop (mkF m 169 #[.val (.int p0), .val (.int p1), .val (.int p2), .val (.int p3), .val (.int (0 : Int32)), .val (.int (p1 &&& (255 : Int32)).toUInt32.toUInt16.toUInt32.toInt32), .val (.int (p2 &&& (255 : Int32)).toUInt32.toUInt16.toUInt32.toInt32), .val (.int (p3 &&& (255 : Int32)).toUInt32.toUInt16.toUInt32.toInt32), .val (.ref b2), .val (.ref b3), .val (.ref b5), .val (.ref bx8), .val (.ref b3), .unset] [(.int (1 : Int32)), (.int (0 : Int32))])) _
      refine XS.icmpYes X10.here hx rfl (pc0 := 169) (pc' := 185) rfl (hb hby at_169) rfl (tlt (by decide : (0 : Int32) < (1 : Int32))).1 (by decide) (by decide) ?_
      show Steps p.tables e below (T10.setTop (mkF m 185 #[.val (.int p0), .val (.int p1), .val (.int p2), .val (.int p3), .val (.int (0 : Int32)), .val (.int (p1 &&& (255 : Int32)).toUInt32.toUInt16.toUInt32.toInt32), .val (.int (p2 &&& (255 : Int32)).toUInt32.toUInt16.toUInt32.toInt32), .val (.int (p3 &&& (255 : Int32)).toUInt32.toUInt16.toUInt32.toInt32), .val (.ref b2), .val (.ref b3), .val (.ref b5), .val (.ref bx8), .val (.ref b3), .unset] [])) _
      refine XS.iload X10.here hx rfl (hb hby at_185) rfl ?_
      show Steps p.tables e below (T10.setTop (mkF m 187 #[.val (.int p0), .val (.int p1), .val (.int p2), .val (.int p3), .val (.int (0 : Int32)), .val (.int (p1 &&& (255 : Int32)).toUInt32.toUInt16.toUInt32.toInt32), .val (.int (p2 &&& (255 : Int32)).toUInt32.toUInt16.toUInt32.toInt32), .val (.int (p3 &&& (255 : Int32)).toUInt32.toUInt16.toUInt32.toInt32), .val (.ref b2), .val (.ref b3), .val (.ref b5), .val (.ref bx8), .val (.ref b3), .unset] [(.int (0 : Int32))])) _
      refine XS.iconst X10.here hx rfl (hb hby at_187) ?_
      show Steps p.tables e below (T10.setTop (mkF m 188 #[.val (.int p0), .val (.int p1), .val (.int p2), .val (.int p3), .val (.int (0 : Int32)), .val (.int (p1 &&& (255 : Int32)).toUInt32.toUInt16.toUInt32.toInt32), .val (.int (p2 &&& (255 : Int32)).toUInt32.toUInt16.toUInt32.toInt32), .val (.int (p3 &&& (255 : Int32)).toUInt32.toUInt16.toUInt32.toInt32), .val (.ref b2), .val (.ref b3), .val (.ref b5), .val (.ref bx8), .val (.ref b3), .unset] [(.int (2 : Int32)), (.int (0 : Int32))])) _
      refine XS.icmpYes X10.here hx rfl (pc0 := 188) (pc' := 204) rfl (hb hby at_188) rfl (tlt (by decide : (0 : Int32) < (2 : Int32))).1 (by decide) (by decide) ?_
      show Steps p.tables e below (T10.setTop (mkF m 204 #[.val (.int p0), .val (.int p1), .val (.int p2), .val (.int p3), .val (.int (0 : Int32)), .val (.int (p1 &&& (255 : Int32)).toUInt32.toUInt16.toUInt32.toInt32), .val (.int (p2 &&& (255 : Int32)).toUInt32.toUInt16.toUInt32.toInt32), .val (.int (p3 &&& (255 : Int32)).toUInt32.toUInt16.toUInt32.toInt32), .val (.ref b2), .val (.ref b3), .val (.ref b5), .val (.ref bx8), .val (.ref b3), .unset] [])) _
      refine XS.iload X10.here hx rfl (hb hby at_204) rfl ?_
      show Steps p.tables e below (T10.setTop (mkF m 206 #[.val (.int p0), .val (.int p1), .val (.int p2), .val (.int p3), .val (.int (0 : Int32)), .val (.int (p1 &&& (255 : Int32)).toUInt32.toUInt16.toUInt32.toInt32), .val (.int (p2 &&& (255 : Int32)).toUInt32.toUInt16.toUInt32.toInt32), .val (.int (p3 &&& (255 : Int32)).toUInt32.toUInt16.toUInt32.toInt32), .val (.ref b2), .val (.ref b3), .val (.ref b5), .val (.ref bx8), .val (.ref b3), .unset] [(.int (0 : Int32))])) _
      refine XS.iconst X10.here hx rfl (hb hby at_206) ?_
      show Steps p.tables e below (T10.setTop (mkF m 207 #[.val (.int p0), .val (.int p1), .val (.int p2), .val (.int p3), .val (.int (0 : Int32)), .val (.int (p1 &&& (255 : Int32)).toUInt32.toUInt16.toUInt32.toInt32), .val (.int (p2 &&& (255 : Int32)).toUInt32.toUInt16.toUInt32.toInt32), .val (.int (p3 &&& (255 : Int32)).toUInt32.toUInt16.toUInt32.toInt32), .val (.ref b2), .val (.ref b3), .val (.ref b5), .val (.ref bx8), .val (.ref b3), .unset] [(.int (3 : Int32)), (.int (0 : Int32))])) _
      refine XS.icmpYes X10.here hx rfl (pc0 := 207) (pc' := 223) rfl (hb hby at_207) rfl (tlt (by decide : (0 : Int32) < (3 : Int32))).1 (by decide) (by decide) ?_
      show Steps p.tables e below (T10.setTop (mkF m 223 #[.val (.int p0), .val (.int p1), .val (.int p2), .val (.int p3), .val (.int (0 : Int32)), .val (.int (p1 &&& (255 : Int32)).toUInt32.toUInt16.toUInt32.toInt32), .val (.int (p2 &&& (255 : Int32)).toUInt32.toUInt16.toUInt32.toInt32), .val (.int (p3 &&& (255 : Int32)).toUInt32.toUInt16.toUInt32.toInt32), .val (.ref b2), .val (.ref b3), .val (.ref b5), .val (.ref bx8), .val (.ref b3), .unset] [])) _
      refine XS.aload X10.here hx rfl (hb hby at_223) rfl rfl ?_
      show Steps p.tables e below (T10.setTop (mkF m 225 #[.val (.int p0), .val (.int p1), .val (.int p2), .val (.int p3), .val (.int (0 : Int32)), .val (.int (p1 &&& (255 : Int32)).toUInt32.toUInt16.toUInt32.toInt32), .val (.int (p2 &&& (255 : Int32)).toUInt32.toUInt16.toUInt32.toInt32), .val (.int (p3 &&& (255 : Int32)).toUInt32.toUInt16.toUInt32.toInt32), .val (.ref b2), .val (.ref b3), .val (.ref b5), .val (.ref bx8), .val (.ref b3), .unset] [(.ref bx8)])) _
      refine st11.trans ?_
      show Steps p.tables e below (T11.setTop (mkF m 228 #[.val (.int p0), .val (.int p1), .val (.int p2), .val (.int p3), .val (.int (0 : Int32)), .val (.int (p1 &&& (255 : Int32)).toUInt32.toUInt16.toUInt32.toInt32), .val (.int (p2 &&& (255 : Int32)).toUInt32.toUInt16.toUInt32.toInt32), .val (.int (p3 &&& (255 : Int32)).toUInt32.toUInt16.toUInt32.toInt32), .val (.ref b2), .val (.ref b3), .val (.ref b5), .val (.ref bx8), .val (.ref b3), .unset] [(.ref bx11)])) _
      refine XS.astore X11.here hx rfl (hb hby at_228) rfl rfl (l' := #[.val (.int p0), .val (.int p1), .val (.int p2), .val (.int p3), .val (.int (0 : Int32)), .val (.int (p1 &&& (255 : Int32)).toUInt32.toUInt16.toUInt32.toInt32), .val (.int (p2 &&& (255 : Int32)).toUInt32.toUInt16.toUInt32.toInt32), .val (.int (p3 &&& (255 : Int32)).toUInt32.toUInt16.toUInt32.toInt32), .val (.ref b2), .val (.ref b3), .val (.ref b5), .val (.ref bx8), .val (.ref b3), .val (.ref bx11)]) rfl ?_
      show Steps p.tables e below (T11.setTop (mkF m 230 #[.val (.int p0), .val (.int p1), .val (.int p2), .val (.int p3), .val (.int (0 : Int32)), .val (.int (p1 &&& (255 : Int32)).toUInt32.toUInt16.toUInt32.toInt32), .val (.int (p2 &&& (255 : Int32)).toUInt32.toUInt16.toUInt32.toInt32), .val (.int (p3 &&& (255 : Int32)).toUInt32.toUInt16.toUInt32.toInt32), .val (.ref b2), .val (.ref b3), .val (.ref b5), .val (.ref bx8), .val (.ref b3), .val (.ref bx11)] [])) _
      refine XS.aload X11.here hx rfl (hb hby at_230) rfl rfl ?_
      show Steps p.tables e below (T11.setTop (mkF m 232 #[.val (.int p0), .val (.int p1), .val (.int p2), .val (.int p3), .val (.int (0 : Int32)), .val (.int (p1 &&& (255 : Int32)).toUInt32.toUInt16.toUInt32.toInt32), .val (.int (p2 &&& (255 : Int32)).toUInt32.toUInt16.toUInt32.toInt32), .val (.int (p3 &&& (255 : Int32)).toUInt32.toUInt16.toUInt32.toInt32), .val (.ref b2), .val (.ref b3), .val (.ref b5), .val (.ref bx8), .val (.ref b3), .val (.ref bx11)] [(.ref b3)])) _
      refine XS.aload X11.here hx rfl (hb hby at_232) rfl rfl ?_
      show Steps p.tables e below (T11.setTop (mkF m 234 #[.val (.int p0), .val (.int p1), .val (.int p2), .val (.int p3), .val (.int (0 : Int32)), .val (.int (p1 &&& (255 : Int32)).toUInt32.toUInt16.toUInt32.toInt32), .val (.int (p2 &&& (255 : Int32)).toUInt32.toUInt16.toUInt32.toInt32), .val (.int (p3 &&& (255 : Int32)).toUInt32.toUInt16.toUInt32.toInt32), .val (.ref b2), .val (.ref b3), .val (.ref b5), .val (.ref bx8), .val (.ref b3), .val (.ref bx11)] [(.ref b3), (.ref b3)])) _
      refine st12.trans ?_
      show Steps p.tables e below (T12.setTop (mkF m 237 #[.val (.int p0), .val (.int p1), .val (.int p2), .val (.int p3), .val (.int (0 : Int32)), .val (.int (p1 &&& (255 : Int32)).toUInt32.toUInt16.toUInt32.toInt32), .val (.int (p2 &&& (255 : Int32)).toUInt32.toUInt16.toUInt32.toInt32), .val (.int (p3 &&& (255 : Int32)).toUInt32.toUInt16.toUInt32.toInt32), .val (.ref b2), .val (.ref b3), .val (.ref b5), .val (.ref bx8), .val (.ref b3), .val (.ref bx11)] [(.int (1 : Int32))])) _
      refine XS.ifNo X12.here hx rfl (hb hby at_237) rfl ((if0 _ _).trans (feq (by decide : ¬ ((1 : Int32) = (0 : Int32)))).1) ?_
      show Steps p.tables e below (T12.setTop (mkF m 240 #[.val (.int p0), .val (.int p1), .val (.int p2), .val (.int p3), .val (.int (0 : Int32)), .val (.int (p1 &&& (255 : Int32)).toUInt32.toUInt16.toUInt32.toInt32), .val (.int (p2 &&& (255 : Int32)).toUInt32.toUInt16.toUInt32.toInt32), .val (.int (p3 &&& (255 : Int32)).toUInt32.toUInt16.toUInt32.toInt32), .val (.ref b2), .val (.ref b3), .val (.ref b5), .val (.ref bx8), .val (.ref b3), .val (.ref bx11)] [])) _
      refine XS.aload X12.here hx rfl (hb hby at_240) rfl rfl ?_
      show Steps p.tables e below (T12.setTop (mkF m 242 #[.val (.int p0), .val (.int p1), .val (.int p2), .val (.int p3), .val (.int (0 : Int32)), .val (.int (p1 &&& (255 : Int32)).toUInt32.toUInt16.toUInt32.toInt32), .val (.int (p2 &&& (255 : Int32)).toUInt32.toUInt16.toUInt32.toInt32), .val (.int (p3 &&& (255 : Int32)).toUInt32.toUInt16.toUInt32.toInt32), .val (.ref b2), .val (.ref b3), .val (.ref b5), .val (.ref bx8), .val (.ref b3), .val (.ref bx11)] [(.ref bx11)])) _
      refine st13.trans ?_
      show Steps p.tables e below (T13.setTop (mkF m 247 #[.val (.int p0), .val (.int p1), .val (.int p2), .val (.int p3), .val (.int (0 : Int32)), .val (.int (p1 &&& (255 : Int32)).toUInt32.toUInt16.toUInt32.toInt32), .val (.int (p2 &&& (255 : Int32)).toUInt32.toUInt16.toUInt32.toInt32), .val (.int (p3 &&& (255 : Int32)).toUInt32.toUInt16.toUInt32.toInt32), .val (.ref b2), .val (.ref b3), .val (.ref b5), .val (.ref bx8), .val (.ref b3), .val (.ref bx11)] [(.int (1 : Int32))])) _
      refine XS.iconst X13.here hx rfl (hb hby at_247) ?_
      show Steps p.tables e below (T13.setTop (mkF m 248 #[.val (.int p0), .val (.int p1), .val (.int p2), .val (.int p3), .val (.int (0 : Int32)), .val (.int (p1 &&& (255 : Int32)).toUInt32.toUInt16.toUInt32.toInt32), .val (.int (p2 &&& (255 : Int32)).toUInt32.toUInt16.toUInt32.toInt32), .val (.int (p3 &&& (255 : Int32)).toUInt32.toUInt16.toUInt32.toInt32), .val (.ref b2), .val (.ref b3), .val (.ref b5), .val (.ref bx8), .val (.ref b3), .val (.ref bx11)] [(.int (1 : Int32)), (.int (1 : Int32))])) _
      refine XS.icmpNo X13.here hx rfl (hb hby at_248) rfl (teq (by decide : (1 : Int32) = (1 : Int32))).2 ?_
      show Steps p.tables e below (T13.setTop (mkF m 251 #[.val (.int p0), .val (.int p1), .val (.int p2), .val (.int p3), .val (.int (0 : Int32)), .val (.int (p1 &&& (255 : Int32)).toUInt32.toUInt16.toUInt32.toInt32), .val (.int (p2 &&& (255 : Int32)).toUInt32.toUInt16.toUInt32.toInt32), .val (.int (p3 &&& (255 : Int32)).toUInt32.toUInt16.toUInt32.toInt32), .val (.ref b2), .val (.ref b3), .val (.ref b5), .val (.ref bx8), .val (.ref b3), .val (.ref bx11)] [])) _
      refine XS.aload X13.here hx rfl (hb hby at_251) rfl rfl ?_
      show Steps p.tables e below (T13.setTop (mkF m 253 #[.val (.int p0), .val (.int p1), .val (.int p2), .val (.int p3), .val (.int (0 : Int32)), .val (.int (p1 &&& (255 : Int32)).toUInt32.toUInt16.toUInt32.toInt32), .val (.int (p2 &&& (255 : Int32)).toUInt32.toUInt16.toUInt32.toInt32), .val (.int (p3 &&& (255 : Int32)).toUInt32.toUInt16.toUInt32.toInt32), .val (.ref b2), .val (.ref b3), .val (.ref b5), .val (.ref bx8), .val (.ref b3), .val (.ref bx11)] [(.ref bx11)])) _
      refine XS.iconst X13.here hx rfl (hb hby at_253) ?_
      show Steps p.tables e below (T13.setTop (mkF m 254 #[.val (.int p0), .val (.int p1), .val (.int p2), .val (.int p3), .val (.int (0 : Int32)), .val (.int (p1 &&& (255 : Int32)).toUInt32.toUInt16.toUInt32.toInt32), .val (.int (p2 &&& (255 : Int32)).toUInt32.toUInt16.toUInt32.toInt32), .val (.int (p3 &&& (255 : Int32)).toUInt32.toUInt16.toUInt32.toInt32), .val (.ref b2), .val (.ref b3), .val (.ref b5), .val (.ref bx8), .val (.ref b3), .val (.ref bx11)] [(.int (0 : Int32)), (.ref bx11)])) _
      refine st14.trans ?_
      show Steps p.tables e below (T14.setTop (mkF m 259 #[.val (.int p0), .val (.int p1), .val (.int p2), .val (.int p3), .val (.int (0 : Int32)), .val (.int (p1 &&& (255 : Int32)).toUInt32.toUInt16.toUInt32.toInt32), .val (.int (p2 &&& (255 : Int32)).toUInt32.toUInt16.toUInt32.toInt32), .val (.int (p3 &&& (255 : Int32)).toUInt32.toUInt16.toUInt32.toInt32), .val (.ref b2), .val (.ref b3), .val (.ref b5), .val (.ref bx8), .val (.ref b3), .val (.ref bx11)] [(.ref b3)])) _
      refine st15 _ ?_
      show Steps p.tables e below (T15.setTop (mkF m 262 #[.val (.int p0), .val (.int p1), .val (.int p2), .val (.int p3), .val (.int (0 : Int32)), .val (.int (p1 &&& (255 : Int32)).toUInt32.toUInt16.toUInt32.toInt32), .val (.int (p2 &&& (255 : Int32)).toUInt32.toUInt16.toUInt32.toInt32), .val (.int (p3 &&& (255 : Int32)).toUInt32.toUInt16.toUInt32.toInt32), .val (.ref b2), .val (.ref b3), .val (.ref b5), .val (.ref bx8), .val (.ref b3), .val (.ref bx11)] [(.ref b3)])) _
      refine XS.aload X15.here hx rfl (hb hby at_262) rfl rfl ?_
      show Steps p.tables e below (T15.setTop (mkF m 264 #[.val (.int p0), .val (.int p1), .val (.int p2), .val (.int p3), .val (.int (0 : Int32)), .val (.int (p1 &&& (255 : Int32)).toUInt32.toUInt16.toUInt32.toInt32), .val (.int (p2 &&& (255 : Int32)).toUInt32.toUInt16.toUInt32.toInt32), .val (.int (p3 &&& (255 : Int32)).toUInt32.toUInt16.toUInt32.toInt32), .val (.ref b2), .val (.ref b3), .val (.ref b5), .val (.ref bx8), .val (.ref b3), .val (.ref bx11)] [(.ref b3), (.ref b3)])) _
      refine st16.trans ?_
      show Steps p.tables e below (T16.setTop (mkF m 267 #[.val (.int p0), .val (.int p1), .val (.int p2), .val (.int p3), .val (.int (0 : Int32)), .val (.int (p1 &&& (255 : Int32)).toUInt32.toUInt16.toUInt32.toInt32), .val (.int (p2 &&& (255 : Int32)).toUInt32.toUInt16.toUInt32.toInt32), .val (.int (p3 &&& (255 : Int32)).toUInt32.toUInt16.toUInt32.toInt32), .val (.ref b2), .val (.ref b3), .val (.ref b5), .val (.ref bx8), .val (.ref b3), .val (.ref bx11)] [(.int (1 : Int32))])) _
      refine XS.ifNo X16.here hx rfl (hb hby at_267) rfl ((if0 _ _).trans (feq (by decide : ¬ ((1 : Int32) = (0 : Int32)))).1) ?_
      show Steps p.tables e below (T16.setTop (mkF m 270 #[.val (.int p0), .val (.int p1), .val (.int p2), .val (.int p3), .val (.int (0 : Int32)), .val (.int (p1 &&& (255 : Int32)).toUInt32.toUInt16.toUInt32.toInt32), .val (.int (p2 &&& (255 : Int32)).toUInt32.toUInt16.toUInt32.toInt32), .val (.int (p3 &&& (255 : Int32)).toUInt32.toUInt16.toUInt32.toInt32), .val (.ref b2), .val (.ref b3), .val (.ref b5), .val (.ref bx8), .val (.ref b3), .val (.ref bx11)] [])) _
      refine XS.iconst X16.here hx rfl (hb hby at_270) ?_
      show Steps p.tables e below (T16.setTop (mkF m 271 #[.val (.int p0), .val (.int p1), .val (.int p2), .val (.int p3), .val (.int (0 : Int32)), .val (.int (p1 &&& (255 : Int32)).toUInt32.toUInt16.toUInt32.toInt32), .val (.int (p2 &&& (255 : Int32)).toUInt32.toUInt16.toUInt32.toInt32), .val (.int (p3 &&& (255 : Int32)).toUInt32.toUInt16.toUInt32.toInt32), .val (.ref b2), .val (.ref b3), .val (.ref b5), .val (.ref bx8), .val (.ref b3), .val (.ref bx11)] [(.int (1 : Int32))])) _
      refine XS.goto X16.here hx rfl (pc0 := 271) (pc' := 275) rfl (hb hby at_271) (by decide) (by decide) ?_
      show Steps p.tables e below (T16.setTop (mkF m 275 #[.val (.int p0), .val (.int p1), .val (.int p2), .val (.int p3), .val (.int (0 : Int32)), .val (.int (p1 &&& (255 : Int32)).toUInt32.toUInt16.toUInt32.toInt32), .val (.int (p2 &&& (255 : Int32)).toUInt32.toUInt16.toUInt32.toInt32), .val (.int (p3 &&& (255 : Int32)).toUInt32.toUInt16.toUInt32.toInt32), .val (.ref b2), .val (.ref b3), .val (.ref b5), .val (.ref bx8), .val (.ref b3), .val (.ref bx11)] [(.int (1 : Int32))])) _
      exact retN X16 hx (t := .boolean) Bd.returns (by simp) (hb hby at_275) hr
    · show Q_rm_law Z p0 p1 p2 p3 zc w_D kd w_E GFx h0 n0 _ T16.heap _
      rw [e16]
      exact ⟨rfl, N16, trivial⟩
  · have k17 : ∀ target, Steps p.tables e below (s₁.setTop (mkF m 45 #[.val (.int p0), .val (.int p1), .val (.int p2), .val (.int p3), .val (.int (p0 &&& (3 : Int32))), .val (.int (p1 &&& (255 : Int32)).toUInt32.toUInt16.toUInt32.toInt32), .val (.int (p2 &&& (255 : Int32)).toUInt32.toUInt16.toUInt32.toInt32), .val (.int (p3 &&& (255 : Int32)).toUInt32.toUInt16.toUInt32.toInt32), .unset, .unset, .unset, .unset, .unset, .unset] [(.int (1 : Int32)), (.int (p0 &&& (3 : Int32)))])) target → Steps p.tables e below (s₁.setTop (mkF m 0 #[.val (.int p0), .val (.int p1), .val (.int p2), .val (.int p3), .unset, .unset, .unset, .unset, .unset, .unset, .unset, .unset, .unset, .unset] [])) target := by
      intro target kt
      refine k1 _ ?_
      show Steps p.tables e below (s₁.setTop (mkF m 31 #[.val (.int p0), .val (.int p1), .val (.int p2), .val (.int p3), .val (.int (p0 &&& (3 : Int32))), .val (.int (p1 &&& (255 : Int32)).toUInt32.toUInt16.toUInt32.toInt32), .val (.int (p2 &&& (255 : Int32)).toUInt32.toUInt16.toUInt32.toInt32), .val (.int (p3 &&& (255 : Int32)).toUInt32.toUInt16.toUInt32.toInt32), .unset, .unset, .unset, .unset, .unset, .unset] [(.int (p0 &&& (3 : Int32)))])) _
      refine XS.ifYes X0.here hx rfl (pc0 := 31) (pc' := 42) rfl (hb hby at_31) rfl ((if0 _ _).trans (feq hc31).2) (by decide) (by decide) ?_
      show Steps p.tables e below (s₁.setTop (mkF m 42 #[.val (.int p0), .val (.int p1), .val (.int p2), .val (.int p3), .val (.int (p0 &&& (3 : Int32))), .val (.int (p1 &&& (255 : Int32)).toUInt32.toUInt16.toUInt32.toInt32), .val (.int (p2 &&& (255 : Int32)).toUInt32.toUInt16.toUInt32.toInt32), .val (.int (p3 &&& (255 : Int32)).toUInt32.toUInt16.toUInt32.toInt32), .unset, .unset, .unset, .unset, .unset, .unset] [])) _
      refine XS.iload X0.here hx rfl (hb hby at_42) rfl ?_
      show Steps p.tables e below (s₁.setTop (mkF m 44 #[.val (.int p0), .val (.int p1), .val (.int p2), .val (.int p3), .val (.int (p0 &&& (3 : Int32))), .val (.int (p1 &&& (255 : Int32)).toUInt32.toUInt16.toUInt32.toInt32), .val (.int (p2 &&& (255 : Int32)).toUInt32.toUInt16.toUInt32.toInt32), .val (.int (p3 &&& (255 : Int32)).toUInt32.toUInt16.toUInt32.toInt32), .unset, .unset, .unset, .unset, .unset, .unset] [(.int (p0 &&& (3 : Int32)))])) _
      refine XS.iconst X0.here hx rfl (hb hby at_44) ?_
      exact kt
    by_cases hc45 : (p0 &&& (3 : Int32)) = (1 : Int32)
    · obtain ⟨T18, h18, k18, X18, e18, E18, A18, st18⟩ := newP X0 hx hZ (hw _ (List.mem_of_getElem? (i := 0) rfl)) e0 (g := (mkF m 49 #[.val (.int p0), .val (.int p1), .val (.int p2), .val (.int p3), .val (.int (p0 &&& (3 : Int32))), .val (.int (p1 &&& (255 : Int32)).toUInt32.toUInt16.toUInt32.toInt32), .val (.int (p2 &&& (255 : Int32)).toUInt32.toUInt16.toUInt32.toInt32), .val (.int (p3 &&& (255 : Int32)).toUInt32.toUInt16.toUInt32.toInt32), .unset, .unset, .unset, .unset, .unset, .unset] [(.int (1 : Int32))])) rfl (hb hby at_49) rfl (by decide) (cap := 1) (by decide) (by decide) (by decide) (by decide)
      obtain ⟨b18, g18⟩ : ∃ z, z = h0.size := ⟨_, rfl⟩
      rw [← g18] at A18 st18
      have ne_w_D_b18 : w_D ≠ b18 := Nat.ne_of_lt (Nat.lt_of_lt_of_le VD.lt (Nat.le_of_eq g18.symm))
      have g_b18 : n0 ≤ b18 := Nat.le_trans Z0 (Nat.le_of_eq g18.symm)
      have X00_18 : Old Z n0 h18 := Old.ext X00 E18
      have Sh_CS_18 : Sta Z h18 "java/lang/String" "COMPACT_STRINGS" "Z" (.int zc) := Sh_CS.ext E18
      have Sh_D_18 : Sta Z h18 "java/util/ArrayList" "DEFAULTCAPACITY_EMPTY_ELEMENTDATA" "[Ljava/lang/Object;" (.ref w_D) := Sh_D.ext E18
      have Sh_E_18 : Sta Z h18 "java/util/ImmutableCollections" "EMPTY" "Ljava/lang/Object;" (.ref w_E) := Sh_E.ext E18
      have Sh_F_18 : Sta Z h18 "jdk/internal/util/Preconditions" "SIOOBE_FORMATTER" "Ljava/util/function/BiFunction;" GFx := Sh_F.ext E18
      have VD_18 : Arv Z h18 w_D kd (.object "java/lang/Object") (0 : Int32) [] .null := VD.ext E18
      have hk18' : _ ≤ h18.size := Nat.le_trans hk0 E18.1
      have Z18 : n0 ≤ h18.size := Nat.le_trans Z0 E18.1
      have V_b18 : Arv Z h18 b18 k18 .char (1 : Int32) [(.int (0 : Int32))] (.int (0 : Int32)) := (Arv.new A18 (by decide)).pad (pad_rep [] (.int (0 : Int32)) 1)
      obtain ⟨cl19, Ar19, qk19, S19, N19', H19, G19⟩ := (id V_b18)
      have hin19 : ¬ ((0 : Int32) < 0 ∨ cl19.slots.size ≤ ((0 : Int32)).toNatClampNeg) := inb_of S19 ⟨by decide, by decide⟩
      obtain ⟨T20, h20, X20, e20, W20, st20⟩ := stC X18 hx hZ e18 Ar19 (j := (0 : Int32)) hin19 (g := (mkF m 55 #[.val (.int p0), .val (.int p1), .val (.int p2), .val (.int p3), .val (.int (p0 &&& (3 : Int32))), .val (.int (p1 &&& (255 : Int32)).toUInt32.toUInt16.toUInt32.toInt32), .val (.int (p2 &&& (255 : Int32)).toUInt32.toUInt16.toUInt32.toInt32), .val (.int (p3 &&& (255 : Int32)).toUInt32.toUInt16.toUInt32.toInt32), .unset, .unset, .unset, .unset, .unset, .unset] [(.int (p1 &&& (255 : Int32)).toUInt32.toUInt16.toUInt32.toInt32), (.int (0 : Int32)), (.ref b18), (.ref b18)])) rfl rfl (hb hby at_55)
      have V20 : Arv Z h20 b18 k18 .char (1 : Int32) [(.int (nar .char (p1 &&& (255 : Int32)).toUInt32.toUInt16.toUInt32.toInt32))] (.int (0 : Int32)) := Arv.set Ar19 qk19 S19 N19' H19 G19 (fits_nar_char _) W20 0 rfl (Nat.le_of_ble_eq_true rfl)
      have N20 := Fr.snoc X20 N0 g_b18
      have X00_20 : Old Z n0 h20 := X00_18.wr W20 g_b18
      have Sh_CS_20 : Sta Z h20 "java/lang/String" "COMPACT_STRINGS" "Z" (.int zc) := Sh_CS_18.wr W20
      have Sh_D_20 : Sta Z h20 "java/util/ArrayList" "DEFAULTCAPACITY_EMPTY_ELEMENTDATA" "[Ljava/lang/Object;" (.ref w_D) := Sh_D_18.wr W20
      have Sh_E_20 : Sta Z h20 "java/util/ImmutableCollections" "EMPTY" "Ljava/lang/Object;" (.ref w_E) := Sh_E_18.wr W20
      have Sh_F_20 : Sta Z h20 "jdk/internal/util/Preconditions" "SIOOBE_FORMATTER" "Ljava/util/function/BiFunction;" GFx := Sh_F_18.wr W20
      have VD_20 : Arv Z h20 w_D kd (.object "java/lang/Object") (0 : Int32) [] .null := VD_18.other W20 ne_w_D_b18
      have hk20' : _ ≤ h20.size := Nat.le_trans hk18' (Keep.of_wr W20).1
      have Z20 : n0 ≤ h20.size := Nat.le_trans Z18 (Keep.of_wr W20).1
      obtain ⟨T21, h21, X21, e21, E21, A21, D21, -, st21⟩ := newO X20 hx hZ hown (hw _ (List.mem_of_getElem? (i := 1) rfl)) (hw _ (List.mem_of_getElem? (i := 2) rfl)) (hw _ (List.mem_of_getElem? (i := 3) rfl)) e20 (g := (mkF m 105 #[.val (.int p0), .val (.int p1), .val (.int p2), .val (.int p3), .val (.int (1 : Int32)), .val (.int (p1 &&& (255 : Int32)).toUInt32.toUInt16.toUInt32.toInt32), .val (.int (p2 &&& (255 : Int32)).toUInt32.toUInt16.toUInt32.toInt32), .val (.int (p3 &&& (255 : Int32)).toUInt32.toUInt16.toUInt32.toInt32), .val (.ref b18), .unset, .unset, .unset, .unset, .unset] [])) rfl (hb hby at_105) (by decide) (by decide)
      obtain ⟨b21, g21⟩ : ∃ z, z = h20.size := ⟨_, rfl⟩
      rw [← g21] at A21 D21 st21
      have ne_w_D_b21 : w_D ≠ b21 := Nat.ne_of_lt (Nat.lt_of_lt_of_le VD_20.lt (Nat.le_of_eq g21.symm))
      have ne_b18_b21 : b18 ≠ b21 := Nat.ne_of_lt (Nat.lt_of_lt_of_le V20.lt (Nat.le_of_eq g21.symm))
      have g_b21 : n0 ≤ b21 := Nat.le_trans Z20 (Nat.le_of_eq g21.symm)
      have X00_21 : Old Z n0 h21 := Old.ext X00_20 E21
      have Sh_CS_21 : Sta Z h21 "java/lang/String" "COMPACT_STRINGS" "Z" (.int zc) := Sh_CS_20.ext E21
      have Sh_D_21 : Sta Z h21 "java/util/ArrayList" "DEFAULTCAPACITY_EMPTY_ELEMENTDATA" "[Ljava/lang/Object;" (.ref w_D) := Sh_D_20.ext E21
      have Sh_E_21 : Sta Z h21 "java/util/ImmutableCollections" "EMPTY" "Ljava/lang/Object;" (.ref w_E) := Sh_E_20.ext E21
      have Sh_F_21 : Sta Z h21 "jdk/internal/util/Preconditions" "SIOOBE_FORMATTER" "Ljava/util/function/BiFunction;" GFx := Sh_F_20.ext E21
      have VD_21 : Arv Z h21 w_D kd (.object "java/lang/Object") (0 : Int32) [] .null := VD_20.ext E21
      have V20_21 : Arv Z h21 b18 k18 .char (1 : Int32) [(.int (nar .char (p1 &&& (255 : Int32)).toUInt32.toUInt16.toUInt32.toInt32))] (.int (0 : Int32)) := V20.ext E21
      have hk21' : _ ≤ h21.size := Nat.le_trans hk20' E21.1
      have Z21 : n0 ≤ h21.size := Nat.le_trans Z20 E21.1
      have F_value_b21 : Fld Z h21 b21 "java/lang/String" "value" "[B" .null := D21 (Or.inr (hw _ (List.mem_of_getElem? (i := 16) rfl))) (ty := (.array .byte)) (by decide)
      have F_coder_b21 : Fld Z h21 b21 "java/lang/String" "coder" "B" (.int (0 : Int32)) := D21 (Or.inr (hw _ (List.mem_of_getElem? (i := 17) rfl))) (ty := .byte) (by decide)
      obtain ⟨_, _, ⟨T22, L22, k22, n22⟩, -, X22, ⟨Lc22, hQ22, l22, y22, z22⟩, st22⟩ := X21.specialBack hx (y := (⟨"java/lang/String", "<init>", "([C)V"⟩ : MethodName)) rfl hown (mvT hZ (hw _ (List.mem_of_getElem? (i := 4) rfl))) (mvT hZ (hw _ (List.mem_of_getElem? (i := 5) rfl))) (mvT hZ (hw _ (List.mem_of_getElem? (i := 6) rfl))) (by decide) (StrChars.Road.backV (W := 1) hZ hws (kI := 4) (hw _ (List.mem_of_getElem? (i := 2) rfl)) (cs := ([(nar .char (p1 &&& (255 : Int32)).toUInt32.toUInt16.toUInt32.toInt32)] : List Int32)) (bs := (([(nar .char (p1 &&& (255 : Int32)).toUInt32.toUInt16.toUInt32.toInt32)] : List Int32)).map (fun c => c.toInt8.toInt32)) (n := 1) g_b21 Z21 A21 F_value_b21 F_coder_b21 V20_21 Sh_CS_21 P5 rfl rfl (by decide) (by decide) (List.forall_mem_cons.mpr ⟨own_ch _, (fun _ q => nomatch q)⟩) rfl (by decide) (by decide)) (g := (mkF m 111 #[.val (.int p0), .val (.int p1), .val (.int p2), .val (.int p3), .val (.int (1 : Int32)), .val (.int (p1 &&& (255 : Int32)).toUInt32.toUInt16.toUInt32.toInt32), .val (.int (p2 &&& (255 : Int32)).toUInt32.toUInt16.toUInt32.toInt32), .val (.int (p3 &&& (255 : Int32)).toUInt32.toUInt16.toUInt32.toInt32), .val (.ref b18), .unset, .unset, .unset, .unset, .unset] [(.ref b18), (.ref b21), (.ref b21)])) rfl (by rw [hml]; rfl) (Steps.refl _) (a := b21) (argsL := [(.ref b18)]) (rest := [(.ref b21)]) (lenOf pd_18 rfl) rfl (by show 2 * 0 + _ ≤ _; exact Nat.le_of_eq rfl) (hb hby at_111) (fun _ _ => ⟨rfl, e21, (by decide : 2 + 1 ≤ _), (by decide : 5 + 1 ≤ _)⟩)
      dsimp only [Pt.U, Pt.locs, Pt.cells, Pt.slots] at X22 l22 y22 z22 st22 hQ22
      subst l22 y22 z22
      obtain ⟨rfl, N22q, x22c0, x22c1, x22c2, x22c3, x22c4, x22c5, x22c6, x22c7, x22c8, x22c9⟩ := hQ22
      have N22 := Fr.app N20 N22q
      have ne_w_D_x22c3 : w_D ≠ x22c3 := Nat.ne_of_lt (Nat.lt_of_lt_of_le VD_21.lt x22c6)
      have ne_b18_x22c3 : b18 ≠ x22c3 := Nat.ne_of_lt (Nat.lt_of_lt_of_le V20_21.lt x22c6)
      have ne_b21_x22c3 : b21 ≠ x22c3 := Nat.ne_of_lt (Nat.lt_of_lt_of_le A21.lt x22c6)
      have X00_22 : Old Z n0 T22.heap := X00_21.keep x22c0 (allS g_b21 all0)
      have VD_22 : Arv Z T22.heap w_D kd (.object "java/lang/Object") (0 : Int32) [] .null := VD_21.keep x22c0 (ninS ne_w_D_b21 nin0)
      have V20_22 : Arv Z T22.heap b18 k18 .char (1 : Int32) [(.int (nar .char (p1 &&& (255 : Int32)).toUInt32.toUInt16.toUInt32.toInt32))] (.int (0 : Int32)) := V20_21.keep x22c0 (ninS ne_b18_b21 nin0)
      have A21_22 : Exa Z T22.heap b21 "java/lang/String" := A21.keep x22c0
      have Sh_CS_22 : Sta Z T22.heap "java/lang/String" "COMPACT_STRINGS" "Z" (.int zc) := S_CS.ext X00_22.2
      have Sh_D_22 : Sta Z T22.heap "java/util/ArrayList" "DEFAULTCAPACITY_EMPTY_ELEMENTDATA" "[Ljava/lang/Object;" (.ref w_D) := S_D.ext X00_22.2
      have Sh_E_22 : Sta Z T22.heap "java/util/ImmutableCollections" "EMPTY" "Ljava/lang/Object;" (.ref w_E) := S_E.ext X00_22.2
      have Sh_F_22 : Sta Z T22.heap "jdk/internal/util/Preconditions" "SIOOBE_FORMATTER" "Ljava/util/function/BiFunction;" GFx := S_F.ext X00_22.2
      have hk22' : _ ≤ T22.heap.size := Nat.le_trans hk21' x22c0.1
      have Z22 : n0 ≤ T22.heap.size := Nat.le_trans Z21 x22c0.1
      have VB22 : Arv Z T22.heap x22c3 x22c4 .byte (1 : Int32) [(.int ((nar .char (p1 &&& (255 : Int32)).toUInt32.toUInt16.toUInt32.toInt32)).toInt8.toInt32)] (.int (0 : Int32)) := x22c9
      obtain ⟨T23, h23, X23, e23, E23, A23, D23, -, st23⟩ := newO X22 hx hZ hown (hw _ (List.mem_of_getElem? (i := 22) rfl)) (hw _ (List.mem_of_getElem? (i := 23) rfl)) (hw _ (List.mem_of_getElem? (i := 24) rfl)) rfl (g := (mkF m 116 #[.val (.int p0), .val (.int p1), .val (.int p2), .val (.int p3), .val (.int (1 : Int32)), .val (.int (p1 &&& (255 : Int32)).toUInt32.toUInt16.toUInt32.toInt32), .val (.int (p2 &&& (255 : Int32)).toUInt32.toUInt16.toUInt32.toInt32), .val (.int (p3 &&& (255 : Int32)).toUInt32.toUInt16.toUInt32.toInt32), .val (.ref b18), .val (.ref b21), .unset, .unset, .unset, .unset] [])) rfl (hb hby at_116) (by decide) (by decide)
      obtain ⟨b23, g23⟩ : ∃ z, z = T22.heap.size := ⟨_, rfl⟩
      rw [← g23] at A23 D23 st23
      have ne_w_D_b23 : w_D ≠ b23 := Nat.ne_of_lt (Nat.lt_of_lt_of_le VD_22.lt (Nat.le_of_eq g23.symm))
      have ne_b18_b23 : b18 ≠ b23 := Nat.ne_of_lt (Nat.lt_of_lt_of_le V20_22.lt (Nat.le_of_eq g23.symm))
      have ne_b21_b23 : b21 ≠ b23 := Nat.ne_of_lt (Nat.lt_of_lt_of_le A21_22.lt (Nat.le_of_eq g23.symm))
      have ne_x22c3_b23 : x22c3 ≠ b23 := Nat.ne_of_lt (Nat.lt_of_lt_of_le VB22.lt (Nat.le_of_eq g23.symm))
      have g_b23 : n0 ≤ b23 := Nat.le_trans Z22 (Nat.le_of_eq g23.symm)
      have X00_23 : Old Z n0 h23 := Old.ext X00_22 E23
      have VD_23 : Arv Z h23 w_D kd (.object "java/lang/Object") (0 : Int32) [] .null := VD_22.ext E23
      have V20_23 : Arv Z h23 b18 k18 .char (1 : Int32) [(.int (nar .char (p1 &&& (255 : Int32)).toUInt32.toUInt16.toUInt32.toInt32))] (.int (0 : Int32)) := V20_22.ext E23
      have A21_23 : Exa Z h23 b21 "java/lang/String" := A21_22.ext E23
      have Sh_CS_23 : Sta Z h23 "java/lang/String" "COMPACT_STRINGS" "Z" (.int zc) := Sh_CS_22.ext E23
      have Sh_D_23 : Sta Z h23 "java/util/ArrayList" "DEFAULTCAPACITY_EMPTY_ELEMENTDATA" "[Ljava/lang/Object;" (.ref w_D) := Sh_D_22.ext E23
      have Sh_E_23 : Sta Z h23 "java/util/ImmutableCollections" "EMPTY" "Ljava/lang/Object;" (.ref w_E) := Sh_E_22.ext E23
      have Sh_F_23 : Sta Z h23 "jdk/internal/util/Preconditions" "SIOOBE_FORMATTER" "Ljava/util/function/BiFunction;" GFx := Sh_F_22.ext E23
      have x22c2_23 : Fld Z h23 b21 "java/lang/String" "coder" "B" (.int (0 : Int32)) := x22c2.ext E23
      have x22c8_23 : Fld Z h23 b21 "java/lang/String" "value" "[B" (.ref x22c3) := x22c8.ext E23
      have VB22_23 : Arv Z h23 x22c3 x22c4 .byte (1 : Int32) [(.int ((nar .char (p1 &&& (255 : Int32)).toUInt32.toUInt16.toUInt32.toInt32)).toInt8.toInt32)] (.int (0 : Int32)) := VB22.ext E23
      have hk23' : _ ≤ h23.size := Nat.le_trans hk22' E23.1
      have Z23 : n0 ≤ h23.size := Nat.le_trans Z22 E23.1
      have F_modCount_b23 : Fld Z h23 b23 "java/util/AbstractList" "modCount" "I" (.int (0 : Int32)) := D23 (Or.inl (hw _ (List.mem_of_getElem? (i := 42) rfl))) (ty := .int) (by decide)
      have F_elementData_b23 : Fld Z h23 b23 "java/util/ArrayList" "elementData" "[Ljava/lang/Object;" .null := D23 (Or.inl (hw _ (List.mem_of_getElem? (i := 45) rfl))) (ty := (.array (.object "java/lang/Object"))) (by decide)
      have F_size_b23 : Fld Z h23 b23 "java/util/ArrayList" "size" "I" (.int (0 : Int32)) := D23 (Or.inl (hw _ (List.mem_of_getElem? (i := 58) rfl))) (ty := .int) (by decide)
      obtain ⟨_, _, ⟨T24, L24, k24, n24⟩, -, X24, ⟨Lc24, hQ24, l24, y24, z24⟩, st24⟩ := X23.specialBack hx (y := (⟨"java/util/ArrayList", "<init>", "()V"⟩ : MethodName)) rfl hown (mvT hZ (hw _ (List.mem_of_getElem? (i := 25) rfl))) (mvT hZ (hw _ (List.mem_of_getElem? (i := 26) rfl))) (mvT hZ (hw _ (List.mem_of_getElem? (i := 27) rfl))) (by decide) (backOf (W := 1) (rm_al l Z a0 hw [] b23 w_D h23 n0 Z23 A23 F_modCount_b23 F_elementData_b23 F_size_b23 g_b23 X00_23 S_D) hZ (hw _ (List.mem_of_getElem? (i := 27) rfl)) (hw _ (List.mem_of_getElem? (i := 24) rfl)) (by decide) (by decide)) (g := (mkF m 120 #[.val (.int p0), .val (.int p1), .val (.int p2), .val (.int p3), .val (.int (1 : Int32)), .val (.int (p1 &&& (255 : Int32)).toUInt32.toUInt16.toUInt32.toInt32), .val (.int (p2 &&& (255 : Int32)).toUInt32.toUInt16.toUInt32.toInt32), .val (.int (p3 &&& (255 : Int32)).toUInt32.toUInt16.toUInt32.toInt32), .val (.ref b18), .val (.ref b21), .unset, .unset, .unset, .unset] [(.ref b23), (.ref b23)])) rfl (by rw [hml]; rfl) (Steps.refl _) (a := b23) (argsL := []) (rest := [(.ref b23)]) (lenOf pd_1 rfl) rfl (by show 2 * 0 + _ ≤ _; exact Nat.le_of_eq rfl) (hb hby at_120) (fun _ _ => ⟨rfl, e23, (by decide : 4 + 0 ≤ _), (by decide : 9 + 0 ≤ _)⟩)
      dsimp only [Pt.U, Pt.locs, Pt.cells, Pt.slots] at X24 l24 y24 z24 st24 hQ24
      subst l24 y24 z24
      obtain ⟨rfl, N24q, x24c0, x24c1, x24c2, x24c3⟩ := hQ24
      have N24 := Fr.app N22 N24q
      have X00_24 : Old Z n0 T24.heap := X00_23.keep x24c0 (allS g_b23 all0)
      have VD_24 : Arv Z T24.heap w_D kd (.object "java/lang/Object") (0 : Int32) [] .null := VD_23.keep x24c0 (ninS ne_w_D_b23 nin0)
      have V20_24 : Arv Z T24.heap b18 k18 .char (1 : Int32) [(.int (nar .char (p1 &&& (255 : Int32)).toUInt32.toUInt16.toUInt32.toInt32))] (.int (0 : Int32)) := V20_23.keep x24c0 (ninS ne_b18_b23 nin0)
      have A21_24 : Exa Z T24.heap b21 "java/lang/String" := A21_23.keep x24c0
      have x22c2_24 : Fld Z T24.heap b21 "java/lang/String" "coder" "B" (.int (0 : Int32)) := x22c2_23.keep x24c0 (ninS ne_b21_b23 nin0)
      have x22c8_24 : Fld Z T24.heap b21 "java/lang/String" "value" "[B" (.ref x22c3) := x22c8_23.keep x24c0 (ninS ne_b21_b23 nin0)
      have VB22_24 : Arv Z T24.heap x22c3 x22c4 .byte (1 : Int32) [(.int ((nar .char (p1 &&& (255 : Int32)).toUInt32.toUInt16.toUInt32.toInt32)).toInt8.toInt32)] (.int (0 : Int32)) := VB22_23.keep x24c0 (ninS ne_x22c3_b23 nin0)
      have A23_24 : Exa Z T24.heap b23 "java/util/ArrayList" := A23.keep x24c0
      have Sh_CS_24 : Sta Z T24.heap "java/lang/String" "COMPACT_STRINGS" "Z" (.int zc) := S_CS.ext X00_24.2
      have Sh_D_24 : Sta Z T24.heap "java/util/ArrayList" "DEFAULTCAPACITY_EMPTY_ELEMENTDATA" "[Ljava/lang/Object;" (.ref w_D) := S_D.ext X00_24.2
      have Sh_E_24 : Sta Z T24.heap "java/util/ImmutableCollections" "EMPTY" "Ljava/lang/Object;" (.ref w_E) := S_E.ext X00_24.2
      have Sh_F_24 : Sta Z T24.heap "jdk/internal/util/Preconditions" "SIOOBE_FORMATTER" "Ljava/util/function/BiFunction;" GFx := S_F.ext X00_24.2
      have hk24' : _ ≤ T24.heap.size := Nat.le_trans hk23' x24c0.1
      have Z24 : n0 ≤ T24.heap.size := Nat.le_trans Z23 x24c0.1
      obtain ⟨cq25, kq25, q25a, q25b, q25c⟩ := isOf hZ rfl A23_24
      obtain ⟨_, _, ⟨T25, L25, k25, n25⟩, -, X25, ⟨Lc25, hQ25, l25, y25, z25⟩, st25⟩ := X24.interfaceBack hx (xi := (⟨"java/util/List", "add", "(Ljava/lang/Object;)Z"⟩ : MethodName)) (y := (⟨"java/util/ArrayList", "add", "(Ljava/lang/Object;)Z"⟩ : MethodName)) hown (mvT hZ (hw _ (List.mem_of_getElem? (i := 46) rfl))) (mvT hZ (hw _ (List.mem_of_getElem? (i := 47) rfl))) (mvT hZ (hw _ (List.mem_of_getElem? (i := 48) rfl))) (mvT hZ (hw _ (List.mem_of_getElem? (i := 49) rfl))) (mvT hZ (hw _ (List.mem_of_getElem? (i := 50) rfl))) (mvT hZ (hw _ (List.mem_of_getElem? (i := 51) rfl))) (mvT hZ (hw _ (List.mem_of_getElem? (i := 52) rfl))) (mvT hZ (hw _ (List.mem_of_getElem? (i := 53) rfl))) (by decide) (backOf (W := 0) (rm_add l Z a0 hw [] b23 b21 w_D kd [] .null T24.heap n0 Z24 A23_24 g_b23 x24c2 x24c3 Sh_D_24 VD_24 (Ne.symm ne_w_D_b23) A21_24 x24c1) hZ (hw _ (List.mem_of_getElem? (i := 54) rfl)) (hw _ (List.mem_of_getElem? (i := 24) rfl)) (by decide) (by decide)) q25a q25b q25c (g := (mkF m 129 #[.val (.int p0), .val (.int p1), .val (.int p2), .val (.int p3), .val (.int (1 : Int32)), .val (.int (p1 &&& (255 : Int32)).toUInt32.toUInt16.toUInt32.toInt32), .val (.int (p2 &&& (255 : Int32)).toUInt32.toUInt16.toUInt32.toInt32), .val (.int (p3 &&& (255 : Int32)).toUInt32.toUInt16.toUInt32.toInt32), .val (.ref b18), .val (.ref b21), .val (.ref b23), .unset, .unset, .unset] [(.ref b21), (.ref b23)])) rfl (by rw [hml]; rfl) (Steps.refl _) (argsL := [(.ref b21)]) (rest := []) (lenOf pd_19 rfl) rfl (by show 2 * 0 + _ ≤ _; exact Nat.le_of_eq rfl) (hb hby at_129) (fun _ _ => ⟨rfl, rfl, (by decide : 4 + 1 ≤ _), (by decide : 9 + 10 ≤ _)⟩)
      dsimp only [Pt.U, Pt.locs, Pt.cells, Pt.slots] at X25 l25 y25 z25 st25 hQ25
      subst l25 y25 z25
      obtain ⟨rfl, N25q, x25c0, x25c1, x25c2⟩ := hQ25
      have N25 := Fr.app N24 N25q
      obtain ⟨ab25, ak25, ag25, ah25, aF25, aV25⟩ := x25c2
      have ne_w_D_ab25 : w_D ≠ ab25 := Nat.ne_of_lt (Nat.lt_of_lt_of_le VD_24.lt ah25)
      have ne_b18_ab25 : b18 ≠ ab25 := Nat.ne_of_lt (Nat.lt_of_lt_of_le V20_24.lt ah25)
      have ne_b21_ab25 : b21 ≠ ab25 := Nat.ne_of_lt (Nat.lt_of_lt_of_le A21_24.lt ah25)
      have ne_x22c3_ab25 : x22c3 ≠ ab25 := Nat.ne_of_lt (Nat.lt_of_lt_of_le VB22_24.lt ah25)
      have ne_b23_ab25 : b23 ≠ ab25 := Nat.ne_of_lt (Nat.lt_of_lt_of_le A23_24.lt ah25)
      have X00_25 : Old Z n0 T25.heap := X00_24.keep x25c0 (allS g_b23 all0)
      have VD_25 : Arv Z T25.heap w_D kd (.object "java/lang/Object") (0 : Int32) [] .null := VD_24.keep x25c0 (ninS ne_w_D_b23 nin0)
      have V20_25 : Arv Z T25.heap b18 k18 .char (1 : Int32) [(.int (nar .char (p1 &&& (255 : Int32)).toUInt32.toUInt16.toUInt32.toInt32))] (.int (0 : Int32)) := V20_24.keep x25c0 (ninS ne_b18_b23 nin0)
      have A21_25 : Exa Z T25.heap b21 "java/lang/String" := A21_24.keep x25c0
      have x22c2_25 : Fld Z T25.heap b21 "java/lang/String" "coder" "B" (.int (0 : Int32)) := x22c2_24.keep x25c0 (ninS ne_b21_b23 nin0)
      have x22c8_25 : Fld Z T25.heap b21 "java/lang/String" "value" "[B" (.ref x22c3) := x22c8_24.keep x25c0 (ninS ne_b21_b23 nin0)
      have VB22_25 : Arv Z T25.heap x22c3 x22c4 .byte (1 : Int32) [(.int ((nar .char (p1 &&& (255 : Int32)).toUInt32.toUInt16.toUInt32.toInt32)).toInt8.toInt32)] (.int (0 : Int32)) := VB22_24.keep x25c0 (ninS ne_x22c3_b23 nin0)
      have A23_25 : Exa Z T25.heap b23 "java/util/ArrayList" := A23_24.keep x25c0
      have Sh_CS_25 : Sta Z T25.heap "java/lang/String" "COMPACT_STRINGS" "Z" (.int zc) := S_CS.ext X00_25.2
      have Sh_D_25 : Sta Z T25.heap "java/util/ArrayList" "DEFAULTCAPACITY_EMPTY_ELEMENTDATA" "[Ljava/lang/Object;" (.ref w_D) := S_D.ext X00_25.2
      have Sh_E_25 : Sta Z T25.heap "java/util/ImmutableCollections" "EMPTY" "Ljava/lang/Object;" (.ref w_E) := S_E.ext X00_25.2
      have Sh_F_25 : Sta Z T25.heap "jdk/internal/util/Preconditions" "SIOOBE_FORMATTER" "Ljava/util/function/BiFunction;" GFx := S_F.ext X00_25.2
      have hk25' : _ ≤ T25.heap.size := Nat.le_trans hk24' x25c0.1
      have Z25 : n0 ≤ T25.heap.size := Nat.le_trans Z24 x25c0.1
      obtain ⟨_, _, ⟨T26, L26, k26, n26⟩, -, X26, hSq26, gr26, ⟨Lc26, hQ26, l26, y26, z26⟩, st26⟩ := callSS X25 hx (y := (⟨"com/example/fyfo/fyfo/Runner$Shell", "fromWords", "(Ljava/util/List;)Lcom/example/fyfo/fyfo/Runner$Shell;"⟩ : MethodName)) hown (mvT hZ (hw _ (List.mem_of_getElem? (i := 81) rfl))) (mvT hZ (hw _ (List.mem_of_getElem? (i := 82) rfl))) (mvT hZ (hw _ (List.mem_of_getElem? (i := 83) rfl))) (mvT hZ (hw _ (List.mem_of_getElem? (i := 84) rfl))) (by decide) (backOfS (W := 0) (rm_from l Z a0 hw [] b23 ab25 ak25 b21 T25.heap n0 Z25 aF25 aV25 x25c1 A23_25 A21_25) hZ (hw _ (List.mem_of_getElem? (i := 84) rfl)) (hw _ (List.mem_of_getElem? (i := 83) rfl)) (by decide) (by decide)) (g := (mkF m 137 #[.val (.int p0), .val (.int p1), .val (.int p2), .val (.int p3), .val (.int (1 : Int32)), .val (.int (p1 &&& (255 : Int32)).toUInt32.toUInt16.toUInt32.toInt32), .val (.int (p2 &&& (255 : Int32)).toUInt32.toUInt16.toUInt32.toInt32), .val (.int (p3 &&& (255 : Int32)).toUInt32.toUInt16.toUInt32.toInt32), .val (.ref b18), .val (.ref b21), .val (.ref b23), .unset, .unset, .unset] [(.ref b23)])) rfl (by rw [hml]; rfl) (argsL := [(.ref b23)]) (rest := []) (lenOf pd_20 rfl) rfl (by show 2 * 0 + _ ≤ _; exact Nat.le_of_eq rfl) (hb hby at_137) (fun _ _ => ⟨rfl, rfl, (by decide : 5 + 3 ≤ _), (by decide : 19 + 33 ≤ _)⟩)
      dsimp only [Pt.U, Pt.locs, Pt.cells, Pt.slots] at X26 l26 y26 z26 st26 hQ26 hSq26 gr26
      subst l26 y26 z26
      obtain ⟨bx26, rfl, N26q, x26c0, x26c1, x26c2, x26c3, x26c4⟩ := hQ26
      have N26 := Fr.app N25 N26q
      have ne_w_D_bx26 : w_D ≠ bx26 := Nat.ne_of_lt (Nat.lt_of_lt_of_le VD_25.lt x26c2)
      have ne_b18_bx26 : b18 ≠ bx26 := Nat.ne_of_lt (Nat.lt_of_lt_of_le V20_25.lt x26c2)
      have ne_b21_bx26 : b21 ≠ bx26 := Nat.ne_of_lt (Nat.lt_of_lt_of_le A21_25.lt x26c2)
      have ne_x22c3_bx26 : x22c3 ≠ bx26 := Nat.ne_of_lt (Nat.lt_of_lt_of_le VB22_25.lt x26c2)
      have ne_b23_bx26 : b23 ≠ bx26 := Nat.ne_of_lt (Nat.lt_of_lt_of_le A23_25.lt x26c2)
      have ne_ab25_bx26 : ab25 ≠ bx26 := Nat.ne_of_lt (Nat.lt_of_lt_of_le aV25.lt x26c2)
      have X00_26 : Old Z n0 T26.heap := X00_25.keep x26c0 all0
      have VD_26 : Arv Z T26.heap w_D kd (.object "java/lang/Object") (0 : Int32) [] .null := VD_25.keep x26c0 nin0
      have V20_26 : Arv Z T26.heap b18 k18 .char (1 : Int32) [(.int (nar .char (p1 &&& (255 : Int32)).toUInt32.toUInt16.toUInt32.toInt32))] (.int (0 : Int32)) := V20_25.keep x26c0 nin0
      have A21_26 : Exa Z T26.heap b21 "java/lang/String" := A21_25.keep x26c0
      have x22c2_26 : Fld Z T26.heap b21 "java/lang/String" "coder" "B" (.int (0 : Int32)) := x22c2_25.keep x26c0 nin0
      have x22c8_26 : Fld Z T26.heap b21 "java/lang/String" "value" "[B" (.ref x22c3) := x22c8_25.keep x26c0 nin0
      have VB22_26 : Arv Z T26.heap x22c3 x22c4 .byte (1 : Int32) [(.int ((nar .char (p1 &&& (255 : Int32)).toUInt32.toUInt16.toUInt32.toInt32)).toInt8.toInt32)] (.int (0 : Int32)) := VB22_25.keep x26c0 nin0
      have A23_26 : Exa Z T26.heap b23 "java/util/ArrayList" := A23_25.keep x26c0
      have x25c1_26 : Fld Z T26.heap b23 "java/util/ArrayList" "size" "I" (.int (1 : Int32)) := x25c1.keep x26c0 nin0
      have aF25_26 : Fld Z T26.heap b23 "java/util/ArrayList" "elementData" "[Ljava/lang/Object;" (.ref ab25) := aF25.keep x26c0 nin0
      have aV25_26 : Arv Z T26.heap ab25 ak25 (.object "java/lang/Object") (10 : Int32) [(.ref b21), .null, .null, .null, .null, .null, .null, .null, .null, .null] .null := aV25.keep x26c0 nin0
      have Sh_CS_26 : Sta Z T26.heap "java/lang/String" "COMPACT_STRINGS" "Z" (.int zc) := S_CS.ext X00_26.2
      have Sh_D_26 : Sta Z T26.heap "java/util/ArrayList" "DEFAULTCAPACITY_EMPTY_ELEMENTDATA" "[Ljava/lang/Object;" (.ref w_D) := S_D.ext X00_26.2
      have Sh_E_26 : Sta Z T26.heap "java/util/ImmutableCollections" "EMPTY" "Ljava/lang/Object;" (.ref w_E) := S_E.ext X00_26.2
      have Sh_F_26 : Sta Z T26.heap "jdk/internal/util/Preconditions" "SIOOBE_FORMATTER" "Ljava/util/function/BiFunction;" GFx := S_F.ext X00_26.2
      have hk26' : _ ≤ T26.heap.size := Nat.le_trans hk25' x26c0.1
      have Z26 : n0 ≤ T26.heap.size := Nat.le_trans Z25 x26c0.1
      have X26b : Stand p l e room_1 (s.setVm T26.vm) m #[(.int p0), (.int p1), (.int p2), (.int p3)] below meth c T26 _ _ _ := X26
      have hS26 : s.Since T26.vm T26.heap.size := foldS hS0 (T := T25) (by first | exact hk25' | (rw [rfl]; exact hk25')) hSq26 gr26
      have hZ26 : Z.Warmed39 (s.setVm T26.vm).vm := State.Warmed39.trans (t := s.setVm s.vm) hZ hSq26.1
      have hown26 : (s.setVm T26.vm).vm.findClass "com/example/fyfo/fyfo/ShellFromWordsPinLaw" = some m.cls := by rw [show (s.setVm T26.vm).vm = T26.vm from rfl, hSq26.1.alike.findClass]; exact hown
      have hk26 := Nat.le_refl T26.heap.size
      obtain ⟨cq27, kq27, q27a, q27b, q27c⟩ := isOf hZ26 rfl x26c3
      obtain ⟨_, _, ⟨T27, L27, k27, n27⟩, -, X27, ⟨Lc27, hQ27, l27, y27, z27⟩, st27⟩ := X26b.virtualBack hx (y := (⟨"com/example/fyfo/fyfo/Runner$Shell", "command", "()Ljava/lang/String;"⟩ : MethodName)) (z := (⟨"com/example/fyfo/fyfo/Runner$Shell", "command", "()Ljava/lang/String;"⟩ : MethodName)) hown26 (mvT hZ26 (hw _ (List.mem_of_getElem? (i := 132) rfl))) (mvT hZ26 (hw _ (List.mem_of_getElem? (i := 133) rfl))) (notFace_of_selects (args := #[]) (mvT hZ26 (hw _ (List.mem_of_getElem? (i := 135) rfl)))) (mvT hZ26 (hw _ (List.mem_of_getElem? (i := 135) rfl))) (mvT hZ26 (hw _ (List.mem_of_getElem? (i := 134) rfl))) (by decide) (backOf (W := 0) (rm_cmd l Z a0 hw [] bx26 b21 T26.heap n0 Z26 x26c4) hZ26 (hw _ (List.mem_of_getElem? (i := 136) rfl)) (hw _ (List.mem_of_getElem? (i := 83) rfl)) (by decide) (by decide)) q27a q27c (g := (mkF m 144 #[.val (.int p0), .val (.int p1), .val (.int p2), .val (.int p3), .val (.int (1 : Int32)), .val (.int (p1 &&& (255 : Int32)).toUInt32.toUInt16.toUInt32.toInt32), .val (.int (p2 &&& (255 : Int32)).toUInt32.toUInt16.toUInt32.toInt32), .val (.int (p3 &&& (255 : Int32)).toUInt32.toUInt16.toUInt32.toInt32), .val (.ref b18), .val (.ref b21), .val (.ref b23), .val (.ref bx26), .unset, .unset] [(.ref bx26)])) rfl (by rw [hml]; rfl) (Steps.refl _) (argsL := []) (rest := []) (lenOf pd_21 rfl) rfl (by show 2 * 0 + _ ≤ _; exact Nat.le_of_eq rfl) (hb hby at_144) (fun _ _ => ⟨rfl, rfl, (by decide : 8 + 0 ≤ _), (by decide : 52 + 0 ≤ _)⟩)
      dsimp only [Pt.U, Pt.locs, Pt.cells, Pt.slots] at X27 l27 y27 z27 st27 hQ27
      subst l27 y27 z27
      obtain ⟨rfl, N27q, e27⟩ := hQ27
      have N27 := Fr.app N26 N27q
      obtain ⟨cq28, kq28, q28a, q28b, q28c⟩ := isOf hZ26 e27 A21_26
      obtain ⟨_, _, ⟨T28, L28, k28, n28⟩, -, X28, ⟨Lc28, hQ28, l28, y28, z28⟩, st28⟩ := X27.virtualBack hx (y := (⟨"java/lang/String", "length", "()I"⟩ : MethodName)) (z := (⟨"java/lang/String", "length", "()I"⟩ : MethodName)) hown26 (mvT hZ26 (hw _ (List.mem_of_getElem? (i := 137) rfl))) (mvT hZ26 (hw _ (List.mem_of_getElem? (i := 138) rfl))) (notFace_of_selects (args := #[]) (mvT hZ26 (hw _ (List.mem_of_getElem? (i := 140) rfl)))) (mvT hZ26 (hw _ (List.mem_of_getElem? (i := 140) rfl))) (mvT hZ26 (hw _ (List.mem_of_getElem? (i := 139) rfl))) (by decide) (backOf (W := 0) (rm_len l Z a0 hw [] b21 zc x22c3 x22c4 (1 : Int32) [(.int ((nar .char (p1 &&& (255 : Int32)).toUInt32.toUInt16.toUInt32.toInt32)).toInt8.toInt32)] T26.heap n0 Z26 x22c2_26 Sh_CS_26 P5 x22c8_26 VB22_26 A21_26) hZ26 (hw _ (List.mem_of_getElem? (i := 141) rfl)) (hw _ (List.mem_of_getElem? (i := 3) rfl)) (by decide) (by decide)) q28a q28c (g := (mkF m 156 #[.val (.int p0), .val (.int p1), .val (.int p2), .val (.int p3), .val (.int (1 : Int32)), .val (.int (p1 &&& (255 : Int32)).toUInt32.toUInt16.toUInt32.toInt32), .val (.int (p2 &&& (255 : Int32)).toUInt32.toUInt16.toUInt32.toInt32), .val (.int (p3 &&& (255 : Int32)).toUInt32.toUInt16.toUInt32.toInt32), .val (.ref b18), .val (.ref b21), .val (.ref b23), .val (.ref bx26), .val (.ref b21), .unset] [(.ref b21)])) rfl (by rw [hml]; rfl) (Steps.refl _) (argsL := []) (rest := []) (lenOf pd_13 rfl) rfl (by show 2 * 0 + _ ≤ _; exact Nat.le_of_eq rfl) (hb hby at_156) (fun _ _ => ⟨rfl, e27, (by decide : 8 + 0 ≤ _), (by decide : 52 + 0 ≤ _)⟩)
      dsimp only [Pt.U, Pt.locs, Pt.cells, Pt.slots] at X28 l28 y28 z28 st28 hQ28
      subst l28 y28 z28
      obtain ⟨rfl, N28q, e28⟩ := hQ28
      have N28 := Fr.app N27 N28q
      obtain ⟨cq29, kq29, q29a, q29b, q29c⟩ := isOf hZ26 e28 A21_26
      obtain ⟨_, _, ⟨T29, L29, k29, n29⟩, -, X29, ⟨Lc29, hQ29, l29, y29, z29⟩, st29⟩ := X28.virtualBack hx (y := (⟨"java/lang/String", "charAt", "(I)C"⟩ : MethodName)) (z := (⟨"java/lang/String", "charAt", "(I)C"⟩ : MethodName)) hown26 (mvT hZ26 (hw _ (List.mem_of_getElem? (i := 215) rfl))) (mvT hZ26 (hw _ (List.mem_of_getElem? (i := 216) rfl))) (notFace_of_selects (args := #[]) (mvT hZ26 (hw _ (List.mem_of_getElem? (i := 218) rfl)))) (mvT hZ26 (hw _ (List.mem_of_getElem? (i := 218) rfl))) (mvT hZ26 (hw _ (List.mem_of_getElem? (i := 217) rfl))) (by decide) (backOf (W := 0) (rm_cat l Z a0 hw [] b21 (0 : Int32) zc x22c3 x22c4 (1 : Int32) [(.int ((nar .char (p1 &&& (255 : Int32)).toUInt32.toUInt16.toUInt32.toInt32)).toInt8.toInt32)] ((nar .char (p1 &&& (255 : Int32)).toUInt32.toUInt16.toUInt32.toInt32)).toInt8.toInt32 GFx T26.heap n0 Z26 x22c2_26 Sh_CS_26 P5 x22c8_26 VB22_26 A21_26 Sh_F_26 rG3 (by decide) (by decide) rfl) hZ26 (hw _ (List.mem_of_getElem? (i := 219) rfl)) (hw _ (List.mem_of_getElem? (i := 3) rfl)) (by decide) (by decide)) q29a q29c (g := (mkF m 175 #[.val (.int p0), .val (.int p1), .val (.int p2), .val (.int p3), .val (.int (1 : Int32)), .val (.int (p1 &&& (255 : Int32)).toUInt32.toUInt16.toUInt32.toInt32), .val (.int (p2 &&& (255 : Int32)).toUInt32.toUInt16.toUInt32.toInt32), .val (.int (p3 &&& (255 : Int32)).toUInt32.toUInt16.toUInt32.toInt32), .val (.ref b18), .val (.ref b21), .val (.ref b23), .val (.ref bx26), .val (.ref b21), .unset] [(.int (0 : Int32)), (.ref b21)])) rfl (by rw [hml]; rfl) (Steps.refl _) (argsL := [(.int (0 : Int32))]) (rest := []) (lenOf pd_23 rfl) rfl (by show 2 * 0 + _ ≤ _; exact Nat.le_of_eq rfl) (hb hby at_175) (fun _ _ => ⟨rfl, e28, (by decide : 8 + 0 ≤ _), (by decide : 52 + 0 ≤ _)⟩)
      dsimp only [Pt.U, Pt.locs, Pt.cells, Pt.slots] at X29 l29 y29 z29 st29 hQ29
      subst l29 y29 z29
      obtain ⟨rfl, N29q, e29⟩ := hQ29
      have N29 := Fr.app N28 N29q
      obtain ⟨cq30, kq30, q30a, q30b, q30c⟩ := isOf hZ26 e29 x26c3
      obtain ⟨_, _, ⟨T30, L30, k30, n30⟩, -, X30, ⟨Lc30, hQ30, l30, y30, z30⟩, st30⟩ := X29.virtualBack hx (y := (⟨"com/example/fyfo/fyfo/Runner$Shell", "words", "()Ljava/util/List;"⟩ : MethodName)) (z := (⟨"com/example/fyfo/fyfo/Runner$Shell", "words", "()Ljava/util/List;"⟩ : MethodName)) hown26 (mvT hZ26 (hw _ (List.mem_of_getElem? (i := 148) rfl))) (mvT hZ26 (hw _ (List.mem_of_getElem? (i := 149) rfl))) (notFace_of_selects (args := #[]) (mvT hZ26 (hw _ (List.mem_of_getElem? (i := 151) rfl)))) (mvT hZ26 (hw _ (List.mem_of_getElem? (i := 151) rfl))) (mvT hZ26 (hw _ (List.mem_of_getElem? (i := 150) rfl))) (by decide) (backOf (W := 0) (rm_words l Z a0 hw [] bx26 b21 w_E T26.heap n0 Z26 x26c4 Sh_E_26) hZ26 (hw _ (List.mem_of_getElem? (i := 152) rfl)) (hw _ (List.mem_of_getElem? (i := 83) rfl)) (by decide) (by decide)) q30a q30c (g := (mkF m 225 #[.val (.int p0), .val (.int p1), .val (.int p2), .val (.int p3), .val (.int (1 : Int32)), .val (.int (p1 &&& (255 : Int32)).toUInt32.toUInt16.toUInt32.toInt32), .val (.int (p2 &&& (255 : Int32)).toUInt32.toUInt16.toUInt32.toInt32), .val (.int (p3 &&& (255 : Int32)).toUInt32.toUInt16.toUInt32.toInt32), .val (.ref b18), .val (.ref b21), .val (.ref b23), .val (.ref bx26), .val (.ref b21), .unset] [(.ref bx26)])) rfl (by rw [hml]; rfl) (Steps.refl _) (argsL := []) (rest := []) (lenOf pd_22 rfl) rfl (by show 2 * 0 + _ ≤ _; exact Nat.le_of_eq rfl) (hb hby at_225) (fun _ _ => ⟨rfl, e29, (by decide : 8 + 1 ≤ _), (by decide : 52 + 2 ≤ _)⟩)
      dsimp only [Pt.U, Pt.locs, Pt.cells, Pt.slots] at X30 l30 y30 z30 st30 hQ30
      subst l30 y30 z30
      obtain ⟨bx30, rfl, N30q, x30c0, x30c1, x30c2, x30c3, x30c4, x30c5⟩ := hQ30
      have N30 := Fr.app N29 N30q
      have ne_w_D_bx30 : w_D ≠ bx30 := Nat.ne_of_lt (Nat.lt_of_lt_of_le VD_26.lt x30c2)
      have ne_b18_bx30 : b18 ≠ bx30 := Nat.ne_of_lt (Nat.lt_of_lt_of_le V20_26.lt x30c2)
      have ne_b21_bx30 : b21 ≠ bx30 := Nat.ne_of_lt (Nat.lt_of_lt_of_le A21_26.lt x30c2)
      have ne_x22c3_bx30 : x22c3 ≠ bx30 := Nat.ne_of_lt (Nat.lt_of_lt_of_le VB22_26.lt x30c2)
      have ne_b23_bx30 : b23 ≠ bx30 := Nat.ne_of_lt (Nat.lt_of_lt_of_le A23_26.lt x30c2)
      have ne_ab25_bx30 : ab25 ≠ bx30 := Nat.ne_of_lt (Nat.lt_of_lt_of_le aV25_26.lt x30c2)
      have ne_bx26_bx30 : bx26 ≠ bx30 := Nat.ne_of_lt (Nat.lt_of_lt_of_le x26c3.lt x30c2)
      have X00_30 : Old Z n0 T30.heap := X00_26.keep x30c0 all0
      have VD_30 : Arv Z T30.heap w_D kd (.object "java/lang/Object") (0 : Int32) [] .null := VD_26.keep x30c0 nin0
      have V20_30 : Arv Z T30.heap b18 k18 .char (1 : Int32) [(.int (nar .char (p1 &&& (255 : Int32)).toUInt32.toUInt16.toUInt32.toInt32))] (.int (0 : Int32)) := V20_26.keep x30c0 nin0
      have A21_30 : Exa Z T30.heap b21 "java/lang/String" := A21_26.keep x30c0
      have x22c2_30 : Fld Z T30.heap b21 "java/lang/String" "coder" "B" (.int (0 : Int32)) := x22c2_26.keep x30c0 nin0
      have x22c8_30 : Fld Z T30.heap b21 "java/lang/String" "value" "[B" (.ref x22c3) := x22c8_26.keep x30c0 nin0
      have VB22_30 : Arv Z T30.heap x22c3 x22c4 .byte (1 : Int32) [(.int ((nar .char (p1 &&& (255 : Int32)).toUInt32.toUInt16.toUInt32.toInt32)).toInt8.toInt32)] (.int (0 : Int32)) := VB22_26.keep x30c0 nin0
      have A23_30 : Exa Z T30.heap b23 "java/util/ArrayList" := A23_26.keep x30c0
      have x25c1_30 : Fld Z T30.heap b23 "java/util/ArrayList" "size" "I" (.int (1 : Int32)) := x25c1_26.keep x30c0 nin0
      have aF25_30 : Fld Z T30.heap b23 "java/util/ArrayList" "elementData" "[Ljava/lang/Object;" (.ref ab25) := aF25_26.keep x30c0 nin0
      have aV25_30 : Arv Z T30.heap ab25 ak25 (.object "java/lang/Object") (10 : Int32) [(.ref b21), .null, .null, .null, .null, .null, .null, .null, .null, .null] .null := aV25_26.keep x30c0 nin0
      have x26c3_30 : Exa Z T30.heap bx26 "com/example/fyfo/fyfo/Runner$Shell" := x26c3.keep x30c0
      have x26c4_30 : Fld Z T30.heap bx26 "com/example/fyfo/fyfo/Runner$Shell" "command" "Ljava/lang/String;" (.ref b21) := x26c4.keep x30c0 nin0
      have Sh_CS_30 : Sta Z T30.heap "java/lang/String" "COMPACT_STRINGS" "Z" (.int zc) := S_CS.ext X00_30.2
      have Sh_D_30 : Sta Z T30.heap "java/util/ArrayList" "DEFAULTCAPACITY_EMPTY_ELEMENTDATA" "[Ljava/lang/Object;" (.ref w_D) := S_D.ext X00_30.2
      have Sh_E_30 : Sta Z T30.heap "java/util/ImmutableCollections" "EMPTY" "Ljava/lang/Object;" (.ref w_E) := S_E.ext X00_30.2
      have Sh_F_30 : Sta Z T30.heap "jdk/internal/util/Preconditions" "SIOOBE_FORMATTER" "Ljava/util/function/BiFunction;" GFx := S_F.ext X00_30.2
      have hk30' : _ ≤ T30.heap.size := Nat.le_trans hk26 x30c0.1
      have Z30 : n0 ≤ T30.heap.size := Nat.le_trans Z26 x30c0.1
      obtain ⟨cq31, kq31, q31a, q31b, q31c⟩ := isOf hZ26 rfl A21_30
      obtain ⟨_, _, ⟨T31, L31, k31, n31⟩, -, X31, ⟨Lc31, hQ31, l31, y31, z31⟩, st31⟩ := X30.virtualBack hx (y := (⟨"java/lang/String", "equals", "(Ljava/lang/Object;)Z"⟩ : MethodName)) (z := (⟨"java/lang/String", "equals", "(Ljava/lang/Object;)Z"⟩ : MethodName)) hown26 (mvT hZ26 (hw _ (List.mem_of_getElem? (i := 187) rfl))) (mvT hZ26 (hw _ (List.mem_of_getElem? (i := 188) rfl))) (notFace_of_selects (args := #[]) (mvT hZ26 (hw _ (List.mem_of_getElem? (i := 190) rfl)))) (mvT hZ26 (hw _ (List.mem_of_getElem? (i := 190) rfl))) (mvT hZ26 (hw _ (List.mem_of_getElem? (i := 189) rfl))) (by decide) (backOf (W := 0) (rm_eq l Z a0 hw [] b21 b21 T30.heap n0 Z30 rfl) hZ26 (hw _ (List.mem_of_getElem? (i := 191) rfl)) (hw _ (List.mem_of_getElem? (i := 3) rfl)) (by decide) (by decide)) q31a q31c (g := (mkF m 234 #[.val (.int p0), .val (.int p1), .val (.int p2), .val (.int p3), .val (.int (1 : Int32)), .val (.int (p1 &&& (255 : Int32)).toUInt32.toUInt16.toUInt32.toInt32), .val (.int (p2 &&& (255 : Int32)).toUInt32.toUInt16.toUInt32.toInt32), .val (.int (p3 &&& (255 : Int32)).toUInt32.toUInt16.toUInt32.toInt32), .val (.ref b18), .val (.ref b21), .val (.ref b23), .val (.ref bx26), .val (.ref b21), .val (.ref bx30)] [(.ref b21), (.ref b21)])) rfl (by rw [hml]; rfl) (Steps.refl _) (argsL := [(.ref b21)]) (rest := []) (lenOf pd_19 rfl) rfl (by show 2 * 0 + _ ≤ _; exact Nat.le_of_eq rfl) (hb hby at_234) (fun _ _ => ⟨rfl, rfl, (by decide : 9 + 0 ≤ _), (by decide : 54 + 0 ≤ _)⟩)
      dsimp only [Pt.U, Pt.locs, Pt.cells, Pt.slots] at X31 l31 y31 z31 st31 hQ31
      subst l31 y31 z31
      obtain ⟨rfl, N31q, e31⟩ := hQ31
      have N31 := Fr.app N30 N31q
      obtain ⟨cq32, kq32, q32a, q32b, q32c⟩ := isOf hZ26 e31 x30c3
      obtain ⟨_, _, ⟨T32, L32, k32, n32⟩, -, X32, ⟨Lc32, hQ32, l32, y32, z32⟩, st32⟩ := X31.interfaceBack hx (xi := (⟨"java/util/List", "size", "()I"⟩ : MethodName)) (y := (⟨"java/util/ImmutableCollections$List12", "size", "()I"⟩ : MethodName)) hown26 (mvT hZ26 (hw _ (List.mem_of_getElem? (i := 192) rfl))) (mvT hZ26 (hw _ (List.mem_of_getElem? (i := 86) rfl))) (mvT hZ26 (hw _ (List.mem_of_getElem? (i := 87) rfl))) (mvT hZ26 (hw _ (List.mem_of_getElem? (i := 193) rfl))) (mvT hZ26 (hw _ (List.mem_of_getElem? (i := 194) rfl))) (mvT hZ26 (hw _ (List.mem_of_getElem? (i := 195) rfl))) (mvT hZ26 (hw _ (List.mem_of_getElem? (i := 196) rfl))) (mvT hZ26 (hw _ (List.mem_of_getElem? (i := 197) rfl))) (by decide) (backOf (W := 0) (rm_l12s l Z a0 hw [] bx30 w_E T30.heap n0 Z30 x30c5 Sh_E_30) hZ26 (hw _ (List.mem_of_getElem? (i := 198) rfl)) (hw _ (List.mem_of_getElem? (i := 159) rfl)) (by decide) (by decide)) q32a q32b q32c (g := (mkF m 242 #[.val (.int p0), .val (.int p1), .val (.int p2), .val (.int p3), .val (.int (1 : Int32)), .val (.int (p1 &&& (255 : Int32)).toUInt32.toUInt16.toUInt32.toInt32), .val (.int (p2 &&& (255 : Int32)).toUInt32.toUInt16.toUInt32.toInt32), .val (.int (p3 &&& (255 : Int32)).toUInt32.toUInt16.toUInt32.toInt32), .val (.ref b18), .val (.ref b21), .val (.ref b23), .val (.ref bx26), .val (.ref b21), .val (.ref bx30)] [(.ref bx30)])) rfl (by rw [hml]; rfl) (Steps.refl _) (argsL := []) (rest := []) (lenOf pd_13 rfl) rfl (by show 2 * 0 + _ ≤ _; exact Nat.le_of_eq rfl) (hb hby at_242) (fun _ _ => ⟨rfl, e31, (by decide : 9 + 0 ≤ _), (by decide : 54 + 0 ≤ _)⟩)
      dsimp only [Pt.U, Pt.locs, Pt.cells, Pt.slots] at X32 l32 y32 z32 st32 hQ32
      subst l32 y32 z32
      obtain ⟨rfl, N32q, e32⟩ := hQ32
      have N32 := Fr.app N31 N32q
      obtain ⟨cq33, kq33, q33a, q33b, q33c⟩ := isOf hZ26 e32 x30c3
      obtain ⟨_, _, ⟨T33, L33, k33, n33⟩, -, X33, ⟨Lc33, hQ33, l33, y33, z33⟩, st33⟩ := X32.interfaceBack hx (xi := (⟨"java/util/List", "get", "(I)Ljava/lang/Object;"⟩ : MethodName)) (y := (⟨"java/util/ImmutableCollections$List12", "get", "(I)Ljava/lang/Object;"⟩ : MethodName)) hown26 (mvT hZ26 (hw _ (List.mem_of_getElem? (i := 199) rfl))) (mvT hZ26 (hw _ (List.mem_of_getElem? (i := 96) rfl))) (mvT hZ26 (hw _ (List.mem_of_getElem? (i := 97) rfl))) (mvT hZ26 (hw _ (List.mem_of_getElem? (i := 200) rfl))) (mvT hZ26 (hw _ (List.mem_of_getElem? (i := 201) rfl))) (mvT hZ26 (hw _ (List.mem_of_getElem? (i := 202) rfl))) (mvT hZ26 (hw _ (List.mem_of_getElem? (i := 203) rfl))) (mvT hZ26 (hw _ (List.mem_of_getElem? (i := 197) rfl))) (by decide) (backOf (W := 0) (rm_l12g l Z a0 hw [] bx30 (0 : Int32) b21 T30.heap n0 Z30 x30c4 rfl) hZ26 (hw _ (List.mem_of_getElem? (i := 204) rfl)) (hw _ (List.mem_of_getElem? (i := 159) rfl)) (by decide) (by decide)) q33a q33b q33c (g := (mkF m 254 #[.val (.int p0), .val (.int p1), .val (.int p2), .val (.int p3), .val (.int (1 : Int32)), .val (.int (p1 &&& (255 : Int32)).toUInt32.toUInt16.toUInt32.toInt32), .val (.int (p2 &&& (255 : Int32)).toUInt32.toUInt16.toUInt32.toInt32), .val (.int (p3 &&& (255 : Int32)).toUInt32.toUInt16.toUInt32.toInt32), .val (.ref b18), .val (.ref b21), .val (.ref b23), .val (.ref bx26), .val (.ref b21), .val (.ref bx30)] [(.int (0 : Int32)), (.ref bx30)])) rfl (by rw [hml]; rfl) (Steps.refl _) (argsL := [(.int (0 : Int32))]) (rest := []) (lenOf pd_11 rfl) rfl (by show 2 * 0 + _ ≤ _; exact Nat.le_of_eq rfl) (hb hby at_254) (fun _ _ => ⟨rfl, e32, (by decide : 9 + 0 ≤ _), (by decide : 54 + 0 ≤ _)⟩)
      dsimp only [Pt.U, Pt.locs, Pt.cells, Pt.slots] at X33 l33 y33 z33 st33 hQ33
      subst l33 y33 z33
      obtain ⟨rfl, N33q, e33⟩ := hQ33
      have N33 := Fr.app N32 N33q
      obtain ⟨T34, X34, e34, st34⟩ := castY X33 hx hZ26 hown26 (hw _ (List.mem_of_getElem? (i := 1) rfl)) e33 (Ins.self A21_30) (g := (mkF m 259 #[.val (.int p0), .val (.int p1), .val (.int p2), .val (.int p3), .val (.int (1 : Int32)), .val (.int (p1 &&& (255 : Int32)).toUInt32.toUInt16.toUInt32.toInt32), .val (.int (p2 &&& (255 : Int32)).toUInt32.toUInt16.toUInt32.toInt32), .val (.int (p3 &&& (255 : Int32)).toUInt32.toUInt16.toUInt32.toInt32), .val (.ref b18), .val (.ref b21), .val (.ref b23), .val (.ref bx26), .val (.ref b21), .val (.ref bx30)] [(.ref b21)])) rfl rfl (hb hby at_259)
      obtain ⟨cq35, kq35, q35a, q35b, q35c⟩ := isOf hZ26 e34 A21_30
      obtain ⟨_, _, ⟨T35, L35, k35, n35⟩, -, X35, ⟨Lc35, hQ35, l35, y35, z35⟩, st35⟩ := X34.virtualBack hx (y := (⟨"java/lang/String", "equals", "(Ljava/lang/Object;)Z"⟩ : MethodName)) (z := (⟨"java/lang/String", "equals", "(Ljava/lang/Object;)Z"⟩ : MethodName)) hown26 (mvT hZ26 (hw _ (List.mem_of_getElem? (i := 187) rfl))) (mvT hZ26 (hw _ (List.mem_of_getElem? (i := 188) rfl))) (notFace_of_selects (args := #[]) (mvT hZ26 (hw _ (List.mem_of_getElem? (i := 190) rfl)))) (mvT hZ26 (hw _ (List.mem_of_getElem? (i := 190) rfl))) (mvT hZ26 (hw _ (List.mem_of_getElem? (i := 189) rfl))) (by decide) (backOf (W := 0) (rm_eq l Z a0 hw [] b21 b21 T30.heap n0 Z30 rfl) hZ26 (hw _ (List.mem_of_getElem? (i := 191) rfl)) (hw _ (List.mem_of_getElem? (i := 3) rfl)) (by decide) (by decide)) q35a q35c (g := (mkF m 264 #[.val (.int p0), .val (.int p1), .val (.int p2), .val (.int p3), .val (.int (1 : Int32)), .val (.int (p1 &&& (255 : Int32)).toUInt32.toUInt16.toUInt32.toInt32), .val (.int (p2 &&& (255 : Int32)).toUInt32.toUInt16.toUInt32.toInt32), .val (.int (p3 &&& (255 : Int32)).toUInt32.toUInt16.toUInt32.toInt32), .val (.ref b18), .val (.ref b21), .val (.ref b23), .val (.ref bx26), .val (.ref b21), .val (.ref bx30)] [(.ref b21), (.ref b21)])) rfl (by rw [hml]; rfl) (Steps.refl _) (argsL := [(.ref b21)]) (rest := []) (lenOf pd_19 rfl) rfl (by show 2 * 0 + _ ≤ _; exact Nat.le_of_eq rfl) (hb hby at_264) (fun _ _ => ⟨rfl, e34, (by decide : 9 + 0 ≤ _), (by decide : 54 + 0 ≤ _)⟩)
      dsimp only [Pt.U, Pt.locs, Pt.cells, Pt.slots] at X35 l35 y35 z35 st35 hQ35
      subst l35 y35 z35
      obtain ⟨rfl, N35q, e35⟩ := hQ35
      have N35 := Fr.app N33 N35q
      obtain ⟨fs, hr, hrun, hended, hREW⟩ := X35.leaveW hS26 (by first | exact hk30' | (rw [e35]; exact hk30')) (v := some (.int (1 : Int32))) (fun h => by rw [Bd.returns] at h; cases h)
      refine ⟨_, _, pre0 _ ?_, hrun, hended, _, _, rfl, ?_, hREW.1, hREW.2.1, hREW.2.2.1, hREW.2.2.2.mono (by decide) (by decide)⟩
      · refine k17 _ ?_
        show Steps p.tables e below (s₁.setTop (mkF m 45 #[.val (.int p0), .val (.int p1), .val (.int p2), .val (.int p3), .val (.int (p0 &&& (3 : Int32))), .val (.int (p1 &&& (255 : Int32)).toUInt32.toUInt16.toUInt32.toInt32), .val (.int (p2 &&& (255 : Int32)).toUInt32.toUInt16.toUInt32.toInt32), .val (.int (p3 &&& (255 : Int32)).toUInt32.toUInt16.toUInt32.toInt32), .unset, .unset, .unset, .unset, .unset, .unset] [(.int (1 : Int32)), (.int (p0 &&& (3 : Int32)))])) _
        refine XS.icmpNo X0.here hx rfl (hb hby at_45) rfl (teq hc45).2 ?_
        show Steps p.tables e below (s₁.setTop (mkF m 48 #[.val (.int p0), .val (.int p1), .val (.int p2), .val (.int p3), .val (.int (p0 &&& (3 : Int32))), .val (.int (p1 &&& (255 : Int32)).toUInt32.toUInt16.toUInt32.toInt32), .val (.int (p2 &&& (255 : Int32)).toUInt32.toUInt16.toUInt32.toInt32), .val (.int (p3 &&& (255 : Int32)).toUInt32.toUInt16.toUInt32.toInt32), .unset, .unset, .unset, .unset, .unset, .unset] [])) _
        refine XS.iconst X0.here hx rfl (hb hby at_48) ?_
        show Steps p.tables e below (s₁.setTop (mkF m 49 #[.val (.int p0), .val (.int p1), .val (.int p2), .val (.int p3), .val (.int (p0 &&& (3 : Int32))), .val (.int (p1 &&& (255 : Int32)).toUInt32.toUInt16.toUInt32.toInt32), .val (.int (p2 &&& (255 : Int32)).toUInt32.toUInt16.toUInt32.toInt32), .val (.int (p3 &&& (255 : Int32)).toUInt32.toUInt16.toUInt32.toInt32), .unset, .unset, .unset, .unset, .unset, .unset] [(.int (1 : Int32))])) _
        refine st18 _ ?_
        show Steps p.tables e below (T18.setTop (mkF m 51 #[.val (.int p0), .val (.int p1), .val (.int p2), .val (.int p3), .val (.int (p0 &&& (3 : Int32))), .val (.int (p1 &&& (255 : Int32)).toUInt32.toUInt16.toUInt32.toInt32), .val (.int (p2 &&& (255 : Int32)).toUInt32.toUInt16.toUInt32.toInt32), .val (.int (p3 &&& (255 : Int32)).toUInt32.toUInt16.toUInt32.toInt32), .unset, .unset, .unset, .unset, .unset, .unset] [(.ref b18)])) _
        refine XS.dup X18.here hx rfl (hb hby at_51) rfl rfl ?_
        show Steps p.tables e below (T18.setTop (mkF m 52 #[.val (.int p0), .val (.int p1), .val (.int p2), .val (.int p3), .val (.int (p0 &&& (3 : Int32))), .val (.int (p1 &&& (255 : Int32)).toUInt32.toUInt16.toUInt32.toInt32), .val (.int (p2 &&& (255 : Int32)).toUInt32.toUInt16.toUInt32.toInt32), .val (.int (p3 &&& (255 : Int32)).toUInt32.toUInt16.toUInt32.toInt32), .unset, .unset, .unset, .unset, .unset, .unset] [(.ref b18), (.ref b18)])) _
        refine XS.iconst X18.here hx rfl (hb hby at_52) ?_
        show Steps p.tables e below (T18.setTop (mkF m 53 #[.val (.int p0), .val (.int p1), .val (.int p2), .val (.int p3), .val (.int (p0 &&& (3 : Int32))), .val (.int (p1 &&& (255 : Int32)).toUInt32.toUInt16.toUInt32.toInt32), .val (.int (p2 &&& (255 : Int32)).toUInt32.toUInt16.toUInt32.toInt32), .val (.int (p3 &&& (255 : Int32)).toUInt32.toUInt16.toUInt32.toInt32), .unset, .unset, .unset, .unset, .unset, .unset] [(.int (0 : Int32)), (.ref b18), (.ref b18)])) _
        refine XS.iload X18.here hx rfl (hb hby at_53) rfl ?_
        show Steps p.tables e below (T18.setTop (mkF m 55 #[.val (.int p0), .val (.int p1), .val (.int p2), .val (.int p3), .val (.int (p0 &&& (3 : Int32))), .val (.int (p1 &&& (255 : Int32)).toUInt32.toUInt16.toUInt32.toInt32), .val (.int (p2 &&& (255 : Int32)).toUInt32.toUInt16.toUInt32.toInt32), .val (.int (p3 &&& (255 : Int32)).toUInt32.toUInt16.toUInt32.toInt32), .unset, .unset, .unset, .unset, .unset, .unset] [(.int (p1 &&& (255 : Int32)).toUInt32.toUInt16.toUInt32.toInt32), (.int (0 : Int32)), (.ref b18), (.ref b18)])) _
        refine st20 _ ?_
        show Steps p.tables e below (T20.setTop (mkF m 56 #[.val (.int p0), .val (.int p1), .val (.int p2), .val (.int p3), .val (.int (p0 &&& (3 : Int32))), .val (.int (p1 &&& (255 : Int32)).toUInt32.toUInt16.toUInt32.toInt32), .val (.int (p2 &&& (255 : Int32)).toUInt32.toUInt16.toUInt32.toInt32), .val (.int (p3 &&& (255 : Int32)).toUInt32.toUInt16.toUInt32.toInt32), .unset, .unset, .unset, .unset, .unset, .unset] [(.ref b18)])) _
        refine XS.astore X20.here hx rfl (hb hby at_56) rfl rfl (l' := #[.val (.int p0), .val (.int p1), .val (.int p2), .val (.int p3), .val (.int (p0 &&& (3 : Int32))), .val (.int (p1 &&& (255 : Int32)).toUInt32.toUInt16.toUInt32.toInt32), .val (.int (p2 &&& (255 : Int32)).toUInt32.toUInt16.toUInt32.toInt32), .val (.int (p3 &&& (255 : Int32)).toUInt32.toUInt16.toUInt32.toInt32), .val (.ref b18), .unset, .unset, .unset, .unset, .unset]) rfl ?_
        show Steps p.tables e below (T20.setTop (mkF m 58 #[.val (.int p0), .val (.int p1), .val (.int p2), .val (.int p3), .val (.int (p0 &&& (3 : Int32))), .val (.int (p1 &&& (255 : Int32)).toUInt32.toUInt16.toUInt32.toInt32), .val (.int (p2 &&& (255 : Int32)).toUInt32.toUInt16.toUInt32.toInt32), .val (.int (p3 &&& (255 : Int32)).toUInt32.toUInt16.toUInt32.toInt32), .val (.ref b18), .unset, .unset, .unset, .unset, .unset] [])) _
        refine XS.goto X20.here hx rfl (pc0 := 58) (pc' := 105) rfl (hb hby at_58) (by decide) (by decide) ?_
        show Steps p.tables e below (T20.setTop (mkF m 105 #[.val (.int p0), .val (.int p1), .val (.int p2), .val (.int p3), .val (.int (p0 &&& (3 : Int32))), .val (.int (p1 &&& (255 : Int32)).toUInt32.toUInt16.toUInt32.toInt32), .val (.int (p2 &&& (255 : Int32)).toUInt32.toUInt16.toUInt32.toInt32), .val (.int (p3 &&& (255 : Int32)).toUInt32.toUInt16.toUInt32.toInt32), .val (.ref b18), .unset, .unset, .unset, .unset, .unset] [])) _
        rw [hc45]
        show Steps p.tables e below (T20.setTop (mkF m 105 #[.val (.int p0), .val (.int p1), .val (.int p2), .val (.int p3), .val (.int (1 : Int32)), .val (.int (p1 &&& (255 : Int32)).toUInt32.toUInt16.toUInt32.toInt32), .val (.int (p2 &&& (255 : Int32)).toUInt32.toUInt16.toUInt32.toInt32), .val (.int (p3 &&& (255 : Int32)).toUInt32.toUInt16.toUInt32.toInt32), .val (.ref b18), .unset, .unset, .unset, .unset, .unset] [])) _
        refine st21 _ ?_
        show Steps p.tables e below (T21.setTop (mkF m 108 #[.val (.int p0), .val (.int p1), .val (.int p2), .val (.int p3), .val (.int (1 : Int32)), .val (.int (p1 &&& (255 : Int32)).toUInt32.toUInt16.toUInt32.toInt32), .val (.int (p2 &&& (255 : Int32)).toUInt32.toUInt16.toUInt32.toInt32), .val (.int (p3 &&& (255 : Int32)).toUInt32.toUInt16.toUInt32.toInt32), .val (.ref b18), .unset, .unset, .unset, .unset, .unset] [(.ref b21)])) _
        refine XS.dup X21.here hx rfl (hb hby at_108) rfl rfl ?_
        show Steps p.tables e below (T21.setTop (mkF m 109 #[.val (.int p0), .val (.int p1), .val (.int p2), .val (.int p3), .val (.int (1 : Int32)), .val (.int (p1 &&& (255 : Int32)).toUInt32.toUInt16.toUInt32.toInt32), .val (.int (p2 &&& (255 : Int32)).toUInt32.toUInt16.toUInt32.toInt32), .val (.int (p3 &&& (255 : Int32)).toUInt32.toUInt16.toUInt32.toInt32), .val (.ref b18), .unset, .unset, .unset, .unset, .unset] [(.ref b21), (.ref b21)])) _
        refine XS.aload X21.here hx rfl (hb hby at_109) rfl rfl ?_
        show Steps p.tables e below (T21.setTop (mkF m 111 #[.val (.int p0), .val (.int p1), .val (.int p2), .val (.int p3), .val (.int (1 : Int32)), .val (.int (p1 &&& (255 : Int32)).toUInt32.toUInt16.toUInt32.toInt32), .val (.int (p2 &&& (255 : Int32)).toUInt32.toUInt16.toUInt32.toInt32), .val (.int (p3 &&& (255 : Int32)).toUInt32.toUInt16.toUInt32.toInt32), .val (.ref b18), .unset, .unset, .unset, .unset, .unset] [(.ref b18), (.ref b21), (.ref b21)])) _
        refine st22.trans ?_
        show Steps p.tables e below (T22.setTop (mkF m 114 #[.val (.int p0), .val (.int p1), .val (.int p2), .val (.int p3), .val (.int (1 : Int32)), .val (.int (p1 &&& (255 : Int32)).toUInt32.toUInt16.toUInt32.toInt32), .val (.int (p2 &&& (255 : Int32)).toUInt32.toUInt16.toUInt32.toInt32), .val (.int (p3 &&& (255 : Int32)).toUInt32.toUInt16.toUInt32.toInt32), .val (.ref b18), .unset, .unset, .unset, .unset, .unset] [(.ref b21)])) _
        refine XS.astore X22.here hx rfl (hb hby at_114) rfl rfl (l' := #[.val (.int p0), .val (.int p1), .val (.int p2), .val (.int p3), .val (.int (1 : Int32)), .val (.int (p1 &&& (255 : Int32)).toUInt32.toUInt16.toUInt32.toInt32), .val (.int (p2 &&& (255 : Int32)).toUInt32.toUInt16.toUInt32.toInt32), .val (.int (p3 &&& (255 : Int32)).toUInt32.toUInt16.toUInt32.toInt32), .val (.ref b18), .val (.ref b21), .unset, .unset, .unset, .unset]) rfl ?_
        show Steps p.tables e below (T22.setTop (mkF m 116 #[.val (.int p0), .val (.int p1), .val (.int p2), .val (.int p3), .val (.int (1 : Int32)), .val (.int (p1 &&& (255 : Int32)).toUInt32.toUInt16.toUInt32.toInt32), .val (.int (p2 &&& (255 : Int32)).toUInt32.toUInt16.toUInt32.toInt32), .val (.int (p3 &&& (255 : Int32)).toUInt32.toUInt16.toUInt32.toInt32), .val (.ref b18), .val (.ref b21), .unset, .unset, .unset, .unset] [])) _
        refine st23 _ ?_
        show Steps p.tables e below (T23.setTop (mkF m 119 #[.val (.int p0), .val (.int p1), .val (.int p2), .val (.int p3), .val (.int (1 : Int32)), .val (.int (p1 &&& (255 : Int32)).toUInt32.toUInt16.toUInt32.toInt32), .val (.int (p2 &&& (255 : Int32)).toUInt32.toUInt16.toUInt32.toInt32), .val (.int (p3 &&& (255 : Int32)).toUInt32.toUInt16.toUInt32.toInt32), .val (.ref b18), .val (.ref b21), .unset, .unset, .unset, .unset] [(.ref b23)])) _
        refine XS.dup X23.here hx rfl (hb hby at_119) rfl rfl ?_
        show Steps p.tables e below (T23.setTop (mkF m 120 #[.val (.int p0), .val (.int p1), .val (.int p2), .val (.int p3), .val (.int (1 : Int32)), .val (.int (p1 &&& (255 : Int32)).toUInt32.toUInt16.toUInt32.toInt32), .val (.int (p2 &&& (255 : Int32)).toUInt32.toUInt16.toUInt32.toInt32), .val (.int (p3 &&& (255 : Int32)).toUInt32.toUInt16.toUInt32.toInt32), .val (.ref b18), .val (.ref b21), .unset, .unset, .unset, .unset] [(.ref b23), (.ref b23)])) _
        refine st24.trans ?_
        show Steps p.tables e below (T24.setTop (mkF m 123 #[.val (.int p0), .val (.int p1), .val (.int p2), .val (.int p3), .val (.int (1 : Int32)), .val (.int (p1 &&& (255 : Int32)).toUInt32.toUInt16.toUInt32.toInt32), .val (.int (p2 &&& (255 : Int32)).toUInt32.toUInt16.toUInt32.toInt32), .val (.int (p3 &&& (255 : Int32)).toUInt32.toUInt16.toUInt32.toInt32), .val (.ref b18), .val (.ref b21), .unset, .unset, .unset, .unset] [(.ref b23)])) _
        refine XS.astore X24.here hx rfl (hb hby at_123) rfl rfl (l' := #[.val (.int p0), .val (.int p1), .val (.int p2), .val (.int p3), .val (.int (1 : Int32)), .val (.int (p1 &&& (255 : Int32)).toUInt32.toUInt16.toUInt32.toInt32), .val (.int (p2 &&& (255 : Int32)).toUInt32.toUInt16.toUInt32.toInt32), .val (.int (p3 &&& (255 : Int32)).toUInt32.toUInt16.toUInt32.toInt32), .val (.ref b18), .val (.ref b21), .val (.ref b23), .unset, .unset, .unset]) rfl ?_
        show Steps p.tables e below (T24.setTop (mkF m 125 #[.val (.int p0), .val (.int p1), .val (.int p2), .val (.int p3), .val (.int (1 : Int32)), .val (.int (p1 &&& (255 : Int32)).toUInt32.toUInt16.toUInt32.toInt32), .val (.int (p2 &&& (255 : Int32)).toUInt32.toUInt16.toUInt32.toInt32), .val (.int (p3 &&& (255 : Int32)).toUInt32.toUInt16.toUInt32.toInt32), .val (.ref b18), .val (.ref b21), .val (.ref b23), .unset, .unset, .unset] [])) _
        refine XS.aload X24.here hx rfl (hb hby at_125) rfl rfl ?_
        show Steps p.tables e below (T24.setTop (mkF m 127 #[.val (.int p0), .val (.int p1), .val (.int p2), .val (.int p3), .val (.int (1 : Int32)), .val (.int (p1 &&& (255 : Int32)).toUInt32.toUInt16.toUInt32.toInt32), .val (.int (p2 &&& (255 : Int32)).toUInt32.toUInt16.toUInt32.toInt32), .val (.int (p3 &&& (255 : Int32)).toUInt32.toUInt16.toUInt32.toInt32), .val (.ref b18), .val (.ref b21), .val (.ref b23), .unset, .unset, .unset] [(.ref b23)])) _
        refine XS.aload X24.here hx rfl (hb hby at_127) rfl rfl ?_
        show Steps p.tables e below (T24.setTop (mkF m 129 #[.val (.int p0), .val (.int p1), .val (.int p2), .val (.int p3), .val (.int (1 : Int32)), .val (.int (p1 &&& (255 : Int32)).toUInt32.toUInt16.toUInt32.toInt32), .val (.int (p2 &&& (255 : Int32)).toUInt32.toUInt16.toUInt32.toInt32), .val (.int (p3 &&& (255 : Int32)).toUInt32.toUInt16.toUInt32.toInt32), .val (.ref b18), .val (.ref b21), .val (.ref b23), .unset, .unset, .unset] [(.ref b21), (.ref b23)])) _
        refine st25.trans ?_
        show Steps p.tables e below (T25.setTop (mkF m 134 #[.val (.int p0), .val (.int p1), .val (.int p2), .val (.int p3), .val (.int (1 : Int32)), .val (.int (p1 &&& (255 : Int32)).toUInt32.toUInt16.toUInt32.toInt32), .val (.int (p2 &&& (255 : Int32)).toUInt32.toUInt16.toUInt32.toInt32), .val (.int (p3 &&& (255 : Int32)).toUInt32.toUInt16.toUInt32.toInt32), .val (.ref b18), .val (.ref b21), .val (.ref b23), .unset, .unset, .unset] [(.int (1 : Int32))])) _
        refine XS.pop X25.here hx rfl (hb hby at_134) rfl rfl ?_
        show Steps p.tables e below (T25.setTop (mkF m 135 #[.val (.int p0), .val (.int p1), .val (.int p2), .val (.int p3), .val (.int (1 : Int32)), .val (.int (p1 &&& (255 : Int32)).toUInt32.toUInt16.toUInt32.toInt32), .val (.int (p2 &&& (255 : Int32)).toUInt32.toUInt16.toUInt32.toInt32), .val (.int (p3 &&& (255 : Int32)).toUInt32.toUInt16.toUInt32.toInt32), .val (.ref b18), .val (.ref b21), .val (.ref b23), .unset, .unset, .unset] [])) _
        refine XS.aload X25.here hx rfl (hb hby at_135) rfl rfl ?_
        show Steps p.tables e below (T25.setTop (mkF m 137 #[.val (.int p0), .val (.int p1), .val (.int p2), .val (.int p3), .val (.int (1 : Int32)), .val (.int (p1 &&& (255 : Int32)).toUInt32.toUInt16.toUInt32.toInt32), .val (.int (p2 &&& (255 : Int32)).toUInt32.toUInt16.toUInt32.toInt32), .val (.int (p3 &&& (255 : Int32)).toUInt32.toUInt16.toUInt32.toInt32), .val (.ref b18), .val (.ref b21), .val (.ref b23), .unset, .unset, .unset] [(.ref b23)])) _
        refine st26.trans ?_
        show Steps p.tables e below (T26.setTop (mkF m 140 #[.val (.int p0), .val (.int p1), .val (.int p2), .val (.int p3), .val (.int (1 : Int32)), .val (.int (p1 &&& (255 : Int32)).toUInt32.toUInt16.toUInt32.toInt32), .val (.int (p2 &&& (255 : Int32)).toUInt32.toUInt16.toUInt32.toInt32), .val (.int (p3 &&& (255 : Int32)).toUInt32.toUInt16.toUInt32.toInt32), .val (.ref b18), .val (.ref b21), .val (.ref b23), .unset, .unset, .unset] [(.ref bx26)])) _
        refine XS.astore X26b.here hx rfl (hb hby at_140) rfl rfl (l' := #[.val (.int p0), .val (.int p1), .val (.int p2), .val (.int p3), .val (.int (1 : Int32)), .val (.int (p1 &&& (255 : Int32)).toUInt32.toUInt16.toUInt32.toInt32), .val (.int (p2 &&& (255 : Int32)).toUInt32.toUInt16.toUInt32.toInt32), .val (.int (p3 &&& (255 : Int32)).toUInt32.toUInt16.toUInt32.toInt32), .val (.ref b18), .val (.ref b21), .val (.ref b23), .val (.ref bx26), .unset, .unset]) rfl ?_
        show Steps p.tables e below (T26.setTop (mkF m 142 #[.val (.int p0), .val (.int p1), .val (.int p2), .val (.int p3), .val (.int (1 : Int32)), .val (.int (p1 &&& (255 : Int32)).toUInt32.toUInt16.toUInt32.toInt32), .val (.int (p2 &&& (255 : Int32)).toUInt32.toUInt16.toUInt32.toInt32), .val (.int (p3 &&& (255 : Int32)).toUInt32.toUInt16.toUInt32.toInt32), .val (.ref b18), .val (.ref b21), .val (.ref b23), .val (.ref bx26), .unset, .unset] [])) _
        refine XS.aload X26b.here hx rfl (hb hby at_142) rfl rfl ?_
        show Steps p.tables e below (T26.setTop (mkF m 144 #[.val (.int p0), .val (.int p1), .val (.int p2), .val (.int p3), .val (.int (1 : Int32)), .val (.int (p1 &&& (255 : Int32)).toUInt32.toUInt16.toUInt32.toInt32), .val (.int (p2 &&& (255 : Int32)).toUInt32.toUInt16.toUInt32.toInt32), .val (.int (p3 &&& (255 : Int32)).toUInt32.toUInt16.toUInt32.toInt32), .val (.ref b18), .val (.ref b21), .val (.ref b23), .val (.ref bx26), .unset, .unset] [(.ref bx26)])) _
        refine st27.trans ?_
        show Steps p.tables e below (T27.setTop (mkF m 147 #[.val (.int p0), .val (.int p1), .val (.int p2), .val (.int p3), .val (.int (1 : Int32)), .val (.int (p1 &&& (255 : Int32)).toUInt32.toUInt16.toUInt32.toInt32), .val (.int (p2 &&& (255 : Int32)).toUInt32.toUInt16.toUInt32.toInt32), .val (.int (p3 &&& (255 : Int32)).toUInt32.toUInt16.toUInt32.toInt32), .val (.ref b18), .val (.ref b21), .val (.ref b23), .val (.ref bx26), .unset, .unset] [(.ref b21)])) _
        refine XS.astore X27.here hx rfl (hb hby at_147) rfl rfl (l' := #[.val (.int p0), .val (.int p1), .val (.int p2), .val (.int p3), .val (.int (1 : Int32)), .val (.int (p1 &&& (255 : Int32)).toUInt32.toUInt16.toUInt32.toInt32), .val (.int (p2 &&& (255 : Int32)).toUInt32.toUInt16.toUInt32.toInt32), .val (.int (p3 &&& (255 : Int32)).toUInt32.toUInt16.toUInt32.toInt32), .val (.ref b18), .val (.ref b21), .val (.ref b23), .val (.ref bx26), .val (.ref b21), .unset]) rfl ?_
        show Steps p.tables e below (T27.setTop (mkF m 149 #[.val (.int p0), .val (.int p1), .val (.int p2), .val (.int p3), .val (.int (1 : Int32)), .val (.int (p1 &&& (255 : Int32)).toUInt32.toUInt16.toUInt32.toInt32), .val (.int (p2 &&& (255 : Int32)).toUInt32.toUInt16.toUInt32.toInt32), .val (.int (p3 &&& (255 : Int32)).toUInt32.toUInt16.toUInt32.toInt32), .val (.ref b18), .val (.ref b21), .val (.ref b23), .val (.ref bx26), .val (.ref b21), .unset] [])) _
        refine XS.aload X27.here hx rfl (hb hby at_149) rfl rfl ?_
        show Steps p.tables e below (T27.setTop (mkF m 151 #[.val (.int p0), .val (.int p1), .val (.int p2), .val (.int p3), .val (.int (1 : Int32)), .val (.int (p1 &&& (255 : Int32)).toUInt32.toUInt16.toUInt32.toInt32), .val (.int (p2 &&& (255 : Int32)).toUInt32.toUInt16.toUInt32.toInt32), .val (.int (p3 &&& (255 : Int32)).toUInt32.toUInt16.toUInt32.toInt32), .val (.ref b18), .val (.ref b21), .val (.ref b23), .val (.ref bx26), .val (.ref b21), .unset] [(.ref b21)])) _
        refine XS.ifnullNo X27.here hx rfl (hb hby at_151) rfl ?_
        show Steps p.tables e below (T27.setTop (mkF m 154 #[.val (.int p0), .val (.int p1), .val (.int p2), .val (.int p3), .val (.int (1 : Int32)), .val (.int (p1 &&& (255 : Int32)).toUInt32.toUInt16.toUInt32.toInt32), .val (.int (p2 &&& (255 : Int32)).toUInt32.toUInt16.toUInt32.toInt32), .val (.int (p3 &&& (255 : Int32)).toUInt32.toUInt16.toUInt32.toInt32), .val (.ref b18), .val (.ref b21), .val (.ref b23), .val (.ref bx26), .val (.ref b21), .unset] [])) _
        refine XS.aload X27.here hx rfl (hb hby at_154) rfl rfl ?_
        show Steps p.tables e below (T27.setTop (mkF m 156 #[.val (.int p0), .val (.int p1), .val (.int p2), .val (.int p3), .val (.int (1 : Int32)), .val (.int (p1 &&& (255 : Int32)).toUInt32.toUInt16.toUInt32.toInt32), .val (.int (p2 &&& (255 : Int32)).toUInt32.toUInt16.toUInt32.toInt32), .val (.int (p3 &&& (255 : Int32)).toUInt32.toUInt16.toUInt32.toInt32), .val (.ref b18), .val (.ref b21), .val (.ref b23), .val (.ref bx26), .val (.ref b21), .unset] [(.ref b21)])) _
        refine st28.trans ?_
        show Steps p.tables e below (T28.setTop (mkF m 159 #[.val (.int p0), .val (.int p1), .val (.int p2), .val (.int p3), .val (.int (1 : Int32)), .val (.int (p1 &&& (255 : Int32)).toUInt32.toUInt16.toUInt32.toInt32), .val (.int (p2 &&& (255 : Int32)).toUInt32.toUInt16.toUInt32.toInt32), .val (.int (p3 &&& (255 : Int32)).toUInt32.toUInt16.toUInt32.toInt32), .val (.ref b18), .val (.ref b21), .val (.ref b23), .val (.ref bx26), .val (.ref b21), .unset] [(.int (1 : Int32))])) _
        refine XS.iload X28.here hx rfl (hb hby at_159) rfl ?_
        show Steps p.tables e below (T28.setTop (mkF m 161 #[.val (.int p0), .val (.int p1), .val (.int p2), .val (.int p3), .val (.int (1 : Int32)), .val (.int (p1 &&& (255 : Int32)).toUInt32.toUInt16.toUInt32.toInt32), .val (.int (p2 &&& (255 : Int32)).toUInt32.toUInt16.toUInt32.toInt32), .val (.int (p3 &&& (255 : Int32)).toUInt32.toUInt16.toUInt32.toInt32), .val (.ref b18), .val (.ref b21), .val (.ref b23), .val (.ref bx26), .val (.ref b21), .unset] [(.int (1 : Int32)), (.int (1 : Int32))])) _
        refine XS.icmpYes X28.here hx rfl (pc0 := 161) (pc' := 166) rfl (hb hby at_161) rfl (teq (by decide : (1 : Int32) = (1 : Int32))).1 (by decide) (by decide) ?_
        show Steps p.tables e below (T28.setTop (mkF m 166 #[.val (.int p0), .val (.int p1), .val (.int p2), .val (.int p3), .val (.int (1 : Int32)), .val (.int (p1 &&& (255 : Int32)).toUInt32.toUInt16.toUInt32.toInt32), .val (.int (p2 &&& (255 : Int32)).toUInt32.toUInt16.toUInt32.toInt32), .val (.int (p3 &&& (255 : Int32)).toUInt32.toUInt16.toUInt32.toInt32), .val (.ref b18), .val (.ref b21), .val (.ref b23), .val (.ref bx26), .val (.ref b21), .unset] [])) _
        refine XS.iload X28.here hx rfl (hb hby at_166) rfl ?_
        show Steps p.tables e below (T28.setTop (mkF m 168 #[.val (.int p0), .val (.int p1), .val (.int p2), .val (.int p3), .val (.int (1 : Int32)), .val (.int (p1 &&& (255 : Int32)).toUInt32.toUInt16.toUInt32.toInt32), .val (.int (p2 &&& (255 : Int32)).toUInt32.toUInt16.toUInt32.toInt32), .val (.int (p3 &&& (255 : Int32)).toUInt32.toUInt16.toUInt32.toInt32), .val (.ref b18), .val (.ref b21), .val (.ref b23), .val (.ref bx26), .val (.ref b21), .unset] [(.int (1 : Int32))])) _
        refine XS.iconst X28.here hx rfl (hb hby at_168) ?_
        show Steps p.tables e below (T28.setTop (mkF m 169 #[.val (.int p0), .val (.int p1), .val (.int p2), .val (.int p3), .val (.int (1 : Int32)), .val (.int (p1 &&& (255 : Int32)).toUInt32.toUInt16.toUInt32.toInt32), .val (.int (p2 &&& (255 : Int32)).toUInt32.toUInt16.toUInt32.toInt32), .val (.int (p3 &&& (255 : Int32)).toUInt32.toUInt16.toUInt32.toInt32), .val (.ref b18), .val (.ref b21), .val (.ref b23), .val (.ref bx26), .val (.ref b21), .unset] [(.int (1 : Int32)), (.int (1 : Int32))])) _
        refine XS.icmpNo X28.here hx rfl (hb hby at_169) rfl (flt (by decide : ¬ ((1 : Int32) < (1 : Int32)))).1 ?_
        show Steps p.tables e below (T28.setTop (mkF m 172 #[.val (.int p0), .val (.int p1), .val (.int p2), .val (.int p3), .val (.int (1 : Int32)), .val (.int (p1 &&& (255 : Int32)).toUInt32.toUInt16.toUInt32.toInt32), .val (.int (p2 &&& (255 : Int32)).toUInt32.toUInt16.toUInt32.toInt32), .val (.int (p3 &&& (255 : Int32)).toUInt32.toUInt16.toUInt32.toInt32), .val (.ref b18), .val (.ref b21), .val (.ref b23), .val (.ref bx26), .val (.ref b21), .unset] [])) _
        refine XS.aload X28.here hx rfl (hb hby at_172) rfl rfl ?_
        show Steps p.tables e below (T28.setTop (mkF m 174 #[.val (.int p0), .val (.int p1), .val (.int p2), .val (.int p3), .val (.int (1 : Int32)), .val (.int (p1 &&& (255 : Int32)).toUInt32.toUInt16.toUInt32.toInt32), .val (.int (p2 &&& (255 : Int32)).toUInt32.toUInt16.toUInt32.toInt32), .val (.int (p3 &&& (255 : Int32)).toUInt32.toUInt16.toUInt32.toInt32), .val (.ref b18), .val (.ref b21), .val (.ref b23), .val (.ref bx26), .val (.ref b21), .unset] [(.ref b21)])) _
        refine XS.iconst X28.here hx rfl (hb hby at_174) ?_
        show Steps p.tables e below (T28.setTop (mkF m 175 #[.val (.int p0), .val (.int p1), .val (.int p2), .val (.int p3), .val (.int (1 : Int32)), .val (.int (p1 &&& (255 : Int32)).toUInt32.toUInt16.toUInt32.toInt32), .val (.int (p2 &&& (255 : Int32)).toUInt32.toUInt16.toUInt32.toInt32), .val (.int (p3 &&& (255 : Int32)).toUInt32.toUInt16.toUInt32.toInt32), .val (.ref b18), .val (.ref b21), .val (.ref b23), .val (.ref bx26), .val (.ref b21), .unset] [(.int (0 : Int32)), (.ref b21)])) _
        refine st29.trans ?_
        show Steps p.tables e below (T29.setTop (mkF m 178 #[.val (.int p0), .val (.int p1), .val (.int p2), .val (.int p3), .val (.int (1 : Int32)), .val (.int (p1 &&& (255 : Int32)).toUInt32.toUInt16.toUInt32.toInt32), .val (.int (p2 &&& (255 : Int32)).toUInt32.toUInt16.toUInt32.toInt32), .val (.int (p3 &&& (255 : Int32)).toUInt32.toUInt16.toUInt32.toInt32), .val (.ref b18), .val (.ref b21), .val (.ref b23), .val (.ref bx26), .val (.ref b21), .unset] [(.int (own_c ((nar .char (p1 &&& (255 : Int32)).toUInt32.toUInt16.toUInt32.toInt32)).toInt8.toInt32))])) _
        refine XS.iload X29.here hx rfl (hb hby at_178) rfl ?_
        show Steps p.tables e below (T29.setTop (mkF m 180 #[.val (.int p0), .val (.int p1), .val (.int p2), .val (.int p3), .val (.int (1 : Int32)), .val (.int (p1 &&& (255 : Int32)).toUInt32.toUInt16.toUInt32.toInt32), .val (.int (p2 &&& (255 : Int32)).toUInt32.toUInt16.toUInt32.toInt32), .val (.int (p3 &&& (255 : Int32)).toUInt32.toUInt16.toUInt32.toInt32), .val (.ref b18), .val (.ref b21), .val (.ref b23), .val (.ref bx26), .val (.ref b21), .unset] [(.int (p1 &&& (255 : Int32)).toUInt32.toUInt16.toUInt32.toInt32), (.int (own_c ((nar .char (p1 &&& (255 : Int32)).toUInt32.toUInt16.toUInt32.toInt32)).toInt8.toInt32))])) _
        refine XS.icmpYes X29.here hx rfl (pc0 := 180) (pc' := 185) rfl (hb hby at_180) rfl (teq (own_chr _)).1 (by decide) (by decide) ?_
        show Steps p.tables e below (T29.setTop (mkF m 185 #[.val (.int p0), .val (.int p1), .val (.int p2), .val (.int p3), .val (.int (1 : Int32)), .val (.int (p1 &&& (255 : Int32)).toUInt32.toUInt16.toUInt32.toInt32), .val (.int (p2 &&& (255 : Int32)).toUInt32.toUInt16.toUInt32.toInt32), .val (.int (p3 &&& (255 : Int32)).toUInt32.toUInt16.toUInt32.toInt32), .val (.ref b18), .val (.ref b21), .val (.ref b23), .val (.ref bx26), .val (.ref b21), .unset] [])) _
        refine XS.iload X29.here hx rfl (hb hby at_185) rfl ?_
        show Steps p.tables e below (T29.setTop (mkF m 187 #[.val (.int p0), .val (.int p1), .val (.int p2), .val (.int p3), .val (.int (1 : Int32)), .val (.int (p1 &&& (255 : Int32)).toUInt32.toUInt16.toUInt32.toInt32), .val (.int (p2 &&& (255 : Int32)).toUInt32.toUInt16.toUInt32.toInt32), .val (.int (p3 &&& (255 : Int32)).toUInt32.toUInt16.toUInt32.toInt32), .val (.ref b18), .val (.ref b21), .val (.ref b23), .val (.ref bx26), .val (.ref b21), .unset] [(.int (1 : Int32))])) _
        refine XS.iconst X29.here hx rfl (hb hby at_187) ?_
        show Steps p.tables e below (T29.setTop (mkF m 188 #[.val (.int p0), .val (.int p1), .val (.int p2), .val (.int p3), .val (.int (1 : Int32)), .val (.int (p1 &&& (255 : Int32)).toUInt32.toUInt16.toUInt32.toInt32), .val (.int (p2 &&& (255 : Int32)).toUInt32.toUInt16.toUInt32.toInt32), .val (.int (p3 &&& (255 : Int32)).toUInt32.toUInt16.toUInt32.toInt32), .val (.ref b18), .val (.ref b21), .val (.ref b23), .val (.ref bx26), .val (.ref b21), .unset] [(.int (2 : Int32)), (.int (1 : Int32))])) _
        refine XS.icmpYes X29.here hx rfl (pc0 := 188) (pc' := 204) rfl (hb hby at_188) rfl (tlt (by decide : (1 : Int32) < (2 : Int32))).1 (by decide) (by decide) ?_
        show Steps p.tables e below (T29.setTop (mkF m 204 #[.val (.int p0), .val (.int p1), .val (.int p2), .val (.int p3), .val (.int (1 : Int32)), .val (.int (p1 &&& (255 : Int32)).toUInt32.toUInt16.toUInt32.toInt32), .val (.int (p2 &&& (255 : Int32)).toUInt32.toUInt16.toUInt32.toInt32), .val (.int (p3 &&& (255 : Int32)).toUInt32.toUInt16.toUInt32.toInt32), .val (.ref b18), .val (.ref b21), .val (.ref b23), .val (.ref bx26), .val (.ref b21), .unset] [])) _
        refine XS.iload X29.here hx rfl (hb hby at_204) rfl ?_
        show Steps p.tables e below (T29.setTop (mkF m 206 #[.val (.int p0), .val (.int p1), .val (.int p2), .val (.int p3), .val (.int (1 : Int32)), .val (.int (p1 &&& (255 : Int32)).toUInt32.toUInt16.toUInt32.toInt32), .val (.int (p2 &&& (255 : Int32)).toUInt32.toUInt16.toUInt32.toInt32), .val (.int (p3 &&& (255 : Int32)).toUInt32.toUInt16.toUInt32.toInt32), .val (.ref b18), .val (.ref b21), .val (.ref b23), .val (.ref bx26), .val (.ref b21), .unset] [(.int (1 : Int32))])) _
        refine XS.iconst X29.here hx rfl (hb hby at_206) ?_
        show Steps p.tables e below (T29.setTop (mkF m 207 #[.val (.int p0), .val (.int p1), .val (.int p2), .val (.int p3), .val (.int (1 : Int32)), .val (.int (p1 &&& (255 : Int32)).toUInt32.toUInt16.toUInt32.toInt32), .val (.int (p2 &&& (255 : Int32)).toUInt32.toUInt16.toUInt32.toInt32), .val (.int (p3 &&& (255 : Int32)).toUInt32.toUInt16.toUInt32.toInt32), .val (.ref b18), .val (.ref b21), .val (.ref b23), .val (.ref bx26), .val (.ref b21), .unset] [(.int (3 : Int32)), (.int (1 : Int32))])) _
        refine XS.icmpYes X29.here hx rfl (pc0 := 207) (pc' := 223) rfl (hb hby at_207) rfl (tlt (by decide : (1 : Int32) < (3 : Int32))).1 (by decide) (by decide) ?_
        show Steps p.tables e below (T29.setTop (mkF m 223 #[.val (.int p0), .val (.int p1), .val (.int p2), .val (.int p3), .val (.int (1 : Int32)), .val (.int (p1 &&& (255 : Int32)).toUInt32.toUInt16.toUInt32.toInt32), .val (.int (p2 &&& (255 : Int32)).toUInt32.toUInt16.toUInt32.toInt32), .val (.int (p3 &&& (255 : Int32)).toUInt32.toUInt16.toUInt32.toInt32), .val (.ref b18), .val (.ref b21), .val (.ref b23), .val (.ref bx26), .val (.ref b21), .unset] [])) _
        refine XS.aload X29.here hx rfl (hb hby at_223) rfl rfl ?_
        show Steps p.tables e below (T29.setTop (mkF m 225 #[.val (.int p0), .val (.int p1), .val (.int p2), .val (.int p3), .val (.int (1 : Int32)), .val (.int (p1 &&& (255 : Int32)).toUInt32.toUInt16.toUInt32.toInt32), .val (.int (p2 &&& (255 : Int32)).toUInt32.toUInt16.toUInt32.toInt32), .val (.int (p3 &&& (255 : Int32)).toUInt32.toUInt16.toUInt32.toInt32), .val (.ref b18), .val (.ref b21), .val (.ref b23), .val (.ref bx26), .val (.ref b21), .unset] [(.ref bx26)])) _
        refine st30.trans ?_
        show Steps p.tables e below (T30.setTop (mkF m 228 #[.val (.int p0), .val (.int p1), .val (.int p2), .val (.int p3), .val (.int (1 : Int32)), .val (.int (p1 &&& (255 : Int32)).toUInt32.toUInt16.toUInt32.toInt32), .val (.int (p2 &&& (255 : Int32)).toUInt32.toUInt16.toUInt32.toInt32), .val (.int (p3 &&& (255 : Int32)).toUInt32.toUInt16.toUInt32.toInt32), .val (.ref b18), .val (.ref b21), .val (.ref b23), .val (.ref bx26), .val (.ref b21), .unset] [(.ref bx30)])) _
        refine XS.astore X30.here hx rfl (hb hby at_228) rfl rfl (l' := #[.val (.int p0), .val (.int p1), .val (.int p2), .val (.int p3), .val (.int (1 : Int32)), .val (.int (p1 &&& (255 : Int32)).toUInt32.toUInt16.toUInt32.toInt32), .val (.int (p2 &&& (255 : Int32)).toUInt32.toUInt16.toUInt32.toInt32), .val (.int (p3 &&& (255 : Int32)).toUInt32.toUInt16.toUInt32.toInt32), .val (.ref b18), .val (.ref b21), .val (.ref b23), .val (.ref bx26), .val (.ref b21), .val (.ref bx30)]) rfl ?_
        show Steps p.tables e below (T30.setTop (mkF m 230 #[.val (.int p0), .val (.int p1), .val (.int p2), .val (.int p3), .val (.int (1 : Int32)), .val (.int (p1 &&& (255 : Int32)).toUInt32.toUInt16.toUInt32.toInt32), .val (.int (p2 &&& (255 : Int32)).toUInt32.toUInt16.toUInt32.toInt32), .val (.int (p3 &&& (255 : Int32)).toUInt32.toUInt16.toUInt32.toInt32), .val (.ref b18), .val (.ref b21), .val (.ref b23), .val (.ref bx26), .val (.ref b21), .val (.ref bx30)] [])) _
        refine XS.aload X30.here hx rfl (hb hby at_230) rfl rfl ?_
        show Steps p.tables e below (T30.setTop (mkF m 232 #[.val (.int p0), .val (.int p1), .val (.int p2), .val (.int p3), .val (.int (1 : Int32)), .val (.int (p1 &&& (255 : Int32)).toUInt32.toUInt16.toUInt32.toInt32), .val (.int (p2 &&& (255 : Int32)).toUInt32.toUInt16.toUInt32.toInt32), .val (.int (p3 &&& (255 : Int32)).toUInt32.toUInt16.toUInt32.toInt32), .val (.ref b18), .val (.ref b21), .val (.ref b23), .val (.ref bx26), .val (.ref b21), .val (.ref bx30)] [(.ref b21)])) _
        refine XS.aload X30.here hx rfl (hb hby at_232) rfl rfl ?_
        show Steps p.tables e below (T30.setTop (mkF m 234 #[.val (.int p0), .val (.int p1), .val (.int p2), .val (.int p3), .val (.int (1 : Int32)), .val (.int (p1 &&& (255 : Int32)).toUInt32.toUInt16.toUInt32.toInt32), .val (.int (p2 &&& (255 : Int32)).toUInt32.toUInt16.toUInt32.toInt32), .val (.int (p3 &&& (255 : Int32)).toUInt32.toUInt16.toUInt32.toInt32), .val (.ref b18), .val (.ref b21), .val (.ref b23), .val (.ref bx26), .val (.ref b21), .val (.ref bx30)] [(.ref b21), (.ref b21)])) _
        refine st31.trans ?_
        show Steps p.tables e below (T31.setTop (mkF m 237 #[.val (.int p0), .val (.int p1), .val (.int p2), .val (.int p3), .val (.int (1 : Int32)), .val (.int (p1 &&& (255 : Int32)).toUInt32.toUInt16.toUInt32.toInt32), .val (.int (p2 &&& (255 : Int32)).toUInt32.toUInt16.toUInt32.toInt32), .val (.int (p3 &&& (255 : Int32)).toUInt32.toUInt16.toUInt32.toInt32), .val (.ref b18), .val (.ref b21), .val (.ref b23), .val (.ref bx26), .val (.ref b21), .val (.ref bx30)] [(.int (1 : Int32))])) _
        refine XS.ifNo X31.here hx rfl (hb hby at_237) rfl ((if0 _ _).trans (feq (by decide : ¬ ((1 : Int32) = (0 : Int32)))).1) ?_
        show Steps p.tables e below (T31.setTop (mkF m 240 #[.val (.int p0), .val (.int p1), .val (.int p2), .val (.int p3), .val (.int (1 : Int32)), .val (.int (p1 &&& (255 : Int32)).toUInt32.toUInt16.toUInt32.toInt32), .val (.int (p2 &&& (255 : Int32)).toUInt32.toUInt16.toUInt32.toInt32), .val (.int (p3 &&& (255 : Int32)).toUInt32.toUInt16.toUInt32.toInt32), .val (.ref b18), .val (.ref b21), .val (.ref b23), .val (.ref bx26), .val (.ref b21), .val (.ref bx30)] [])) _
        refine XS.aload X31.here hx rfl (hb hby at_240) rfl rfl ?_
        show Steps p.tables e below (T31.setTop (mkF m 242 #[.val (.int p0), .val (.int p1), .val (.int p2), .val (.int p3), .val (.int (1 : Int32)), .val (.int (p1 &&& (255 : Int32)).toUInt32.toUInt16.toUInt32.toInt32), .val (.int (p2 &&& (255 : Int32)).toUInt32.toUInt16.toUInt32.toInt32), .val (.int (p3 &&& (255 : Int32)).toUInt32.toUInt16.toUInt32.toInt32), .val (.ref b18), .val (.ref b21), .val (.ref b23), .val (.ref bx26), .val (.ref b21), .val (.ref bx30)] [(.ref bx30)])) _
        refine st32.trans ?_
        show Steps p.tables e below (T32.setTop (mkF m 247 #[.val (.int p0), .val (.int p1), .val (.int p2), .val (.int p3), .val (.int (1 : Int32)), .val (.int (p1 &&& (255 : Int32)).toUInt32.toUInt16.toUInt32.toInt32), .val (.int (p2 &&& (255 : Int32)).toUInt32.toUInt16.toUInt32.toInt32), .val (.int (p3 &&& (255 : Int32)).toUInt32.toUInt16.toUInt32.toInt32), .val (.ref b18), .val (.ref b21), .val (.ref b23), .val (.ref bx26), .val (.ref b21), .val (.ref bx30)] [(.int (1 : Int32))])) _
        refine XS.iconst X32.here hx rfl (hb hby at_247) ?_
        show Steps p.tables e below (T32.setTop (mkF m 248 #[.val (.int p0), .val (.int p1), .val (.int p2), .val (.int p3), .val (.int (1 : Int32)), .val (.int (p1 &&& (255 : Int32)).toUInt32.toUInt16.toUInt32.toInt32), .val (.int (p2 &&& (255 : Int32)).toUInt32.toUInt16.toUInt32.toInt32), .val (.int (p3 &&& (255 : Int32)).toUInt32.toUInt16.toUInt32.toInt32), .val (.ref b18), .val (.ref b21), .val (.ref b23), .val (.ref bx26), .val (.ref b21), .val (.ref bx30)] [(.int (1 : Int32)), (.int (1 : Int32))])) _
        refine XS.icmpNo X32.here hx rfl (hb hby at_248) rfl (teq (by decide : (1 : Int32) = (1 : Int32))).2 ?_
        show Steps p.tables e below (T32.setTop (mkF m 251 #[.val (.int p0), .val (.int p1), .val (.int p2), .val (.int p3), .val (.int (1 : Int32)), .val (.int (p1 &&& (255 : Int32)).toUInt32.toUInt16.toUInt32.toInt32), .val (.int (p2 &&& (255 : Int32)).toUInt32.toUInt16.toUInt32.toInt32), .val (.int (p3 &&& (255 : Int32)).toUInt32.toUInt16.toUInt32.toInt32), .val (.ref b18), .val (.ref b21), .val (.ref b23), .val (.ref bx26), .val (.ref b21), .val (.ref bx30)] [])) _
        refine XS.aload X32.here hx rfl (hb hby at_251) rfl rfl ?_
        show Steps p.tables e below (T32.setTop (mkF m 253 #[.val (.int p0), .val (.int p1), .val (.int p2), .val (.int p3), .val (.int (1 : Int32)), .val (.int (p1 &&& (255 : Int32)).toUInt32.toUInt16.toUInt32.toInt32), .val (.int (p2 &&& (255 : Int32)).toUInt32.toUInt16.toUInt32.toInt32), .val (.int (p3 &&& (255 : Int32)).toUInt32.toUInt16.toUInt32.toInt32), .val (.ref b18), .val (.ref b21), .val (.ref b23), .val (.ref bx26), .val (.ref b21), .val (.ref bx30)] [(.ref bx30)])) _
        refine XS.iconst X32.here hx rfl (hb hby at_253) ?_
        show Steps p.tables e below (T32.setTop (mkF m 254 #[.val (.int p0), .val (.int p1), .val (.int p2), .val (.int p3), .val (.int (1 : Int32)), .val (.int (p1 &&& (255 : Int32)).toUInt32.toUInt16.toUInt32.toInt32), .val (.int (p2 &&& (255 : Int32)).toUInt32.toUInt16.toUInt32.toInt32), .val (.int (p3 &&& (255 : Int32)).toUInt32.toUInt16.toUInt32.toInt32), .val (.ref b18), .val (.ref b21), .val (.ref b23), .val (.ref bx26), .val (.ref b21), .val (.ref bx30)] [(.int (0 : Int32)), (.ref bx30)])) _
        refine st33.trans ?_
        show Steps p.tables e below (T33.setTop (mkF m 259 #[.val (.int p0), .val (.int p1), .val (.int p2), .val (.int p3), .val (.int (1 : Int32)), .val (.int (p1 &&& (255 : Int32)).toUInt32.toUInt16.toUInt32.toInt32), .val (.int (p2 &&& (255 : Int32)).toUInt32.toUInt16.toUInt32.toInt32), .val (.int (p3 &&& (255 : Int32)).toUInt32.toUInt16.toUInt32.toInt32), .val (.ref b18), .val (.ref b21), .val (.ref b23), .val (.ref bx26), .val (.ref b21), .val (.ref bx30)] [(.ref b21)])) _
        refine st34 _ ?_
        show Steps p.tables e below (T34.setTop (mkF m 262 #[.val (.int p0), .val (.int p1), .val (.int p2), .val (.int p3), .val (.int (1 : Int32)), .val (.int (p1 &&& (255 : Int32)).toUInt32.toUInt16.toUInt32.toInt32), .val (.int (p2 &&& (255 : Int32)).toUInt32.toUInt16.toUInt32.toInt32), .val (.int (p3 &&& (255 : Int32)).toUInt32.toUInt16.toUInt32.toInt32), .val (.ref b18), .val (.ref b21), .val (.ref b23), .val (.ref bx26), .val (.ref b21), .val (.ref bx30)] [(.ref b21)])) _
        refine XS.aload X34.here hx rfl (hb hby at_262) rfl rfl ?_
        show Steps p.tables e below (T34.setTop (mkF m 264 #[.val (.int p0), .val (.int p1), .val (.int p2), .val (.int p3), .val (.int (1 : Int32)), .val (.int (p1 &&& (255 : Int32)).toUInt32.toUInt16.toUInt32.toInt32), .val (.int (p2 &&& (255 : Int32)).toUInt32.toUInt16.toUInt32.toInt32), .val (.int (p3 &&& (255 : Int32)).toUInt32.toUInt16.toUInt32.toInt32), .val (.ref b18), .val (.ref b21), .val (.ref b23), .val (.ref bx26), .val (.ref b21), .val (.ref bx30)] [(.ref b21), (.ref b21)])) _
        refine st35.trans ?_
        show Steps p.tables e below (T35.setTop (mkF m 267 #[.val (.int p0), .val (.int p1), .val (.int p2), .val (.int p3), .val (.int (1 : Int32)), .val (.int (p1 &&& (255 : Int32)).toUInt32.toUInt16.toUInt32.toInt32), .val (.int (p2 &&& (255 : Int32)).toUInt32.toUInt16.toUInt32.toInt32), .val (.int (p3 &&& (255 : Int32)).toUInt32.toUInt16.toUInt32.toInt32), .val (.ref b18), .val (.ref b21), .val (.ref b23), .val (.ref bx26), .val (.ref b21), .val (.ref bx30)] [(.int (1 : Int32))])) _
        refine XS.ifNo X35.here hx rfl (hb hby at_267) rfl ((if0 _ _).trans (feq (by decide : ¬ ((1 : Int32) = (0 : Int32)))).1) ?_
        show Steps p.tables e below (T35.setTop (mkF m 270 #[.val (.int p0), .val (.int p1), .val (.int p2), .val (.int p3), .val (.int (1 : Int32)), .val (.int (p1 &&& (255 : Int32)).toUInt32.toUInt16.toUInt32.toInt32), .val (.int (p2 &&& (255 : Int32)).toUInt32.toUInt16.toUInt32.toInt32), .val (.int (p3 &&& (255 : Int32)).toUInt32.toUInt16.toUInt32.toInt32), .val (.ref b18), .val (.ref b21), .val (.ref b23), .val (.ref bx26), .val (.ref b21), .val (.ref bx30)] [])) _
        refine XS.iconst X35.here hx rfl (hb hby at_270) ?_
        show Steps p.tables e below (T35.setTop (mkF m 271 #[.val (.int p0), .val (.int p1), .val (.int p2), .val (.int p3), .val (.int (1 : Int32)), .val (.int (p1 &&& (255 : Int32)).toUInt32.toUInt16.toUInt32.toInt32), .val (.int (p2 &&& (255 : Int32)).toUInt32.toUInt16.toUInt32.toInt32), .val (.int (p3 &&& (255 : Int32)).toUInt32.toUInt16.toUInt32.toInt32), .val (.ref b18), .val (.ref b21), .val (.ref b23), .val (.ref bx26), .val (.ref b21), .val (.ref bx30)] [(.int (1 : Int32))])) _
        refine XS.goto X35.here hx rfl (pc0 := 271) (pc' := 275) rfl (hb hby at_271) (by decide) (by decide) ?_
        show Steps p.tables e below (T35.setTop (mkF m 275 #[.val (.int p0), .val (.int p1), .val (.int p2), .val (.int p3), .val (.int (1 : Int32)), .val (.int (p1 &&& (255 : Int32)).toUInt32.toUInt16.toUInt32.toInt32), .val (.int (p2 &&& (255 : Int32)).toUInt32.toUInt16.toUInt32.toInt32), .val (.int (p3 &&& (255 : Int32)).toUInt32.toUInt16.toUInt32.toInt32), .val (.ref b18), .val (.ref b21), .val (.ref b23), .val (.ref bx26), .val (.ref b21), .val (.ref bx30)] [(.int (1 : Int32))])) _
        exact retN X35 hx (t := .boolean) Bd.returns (by simp) (hb hby at_275) hr
      · show Q_rm_law Z p0 p1 p2 p3 zc w_D kd w_E GFx h0 n0 _ T35.heap _
        rw [e35]
        exact ⟨rfl, N35, trivial⟩
    · have k36 : ∀ target, Steps p.tables e below (s₁.setTop (mkF m 64 #[.val (.int p0), .val (.int p1), .val (.int p2), .val (.int p3), .val (.int (p0 &&& (3 : Int32))), .val (.int (p1 &&& (255 : Int32)).toUInt32.toUInt16.toUInt32.toInt32), .val (.int (p2 &&& (255 : Int32)).toUInt32.toUInt16.toUInt32.toInt32), .val (.int (p3 &&& (255 : Int32)).toUInt32.toUInt16.toUInt32.toInt32), .unset, .unset, .unset, .unset, .unset, .unset] [(.int (2 : Int32)), (.int (p0 &&& (3 : Int32)))])) target → Steps p.tables e below (s₁.setTop (mkF m 0 #[.val (.int p0), .val (.int p1), .val (.int p2), .val (.int p3), .unset, .unset, .unset, .unset, .unset, .unset, .unset, .unset, .unset, .unset] [])) target := by
        intro target kt
        refine k17 _ ?_
        show Steps p.tables e below (s₁.setTop (mkF m 45 #[.val (.int p0), .val (.int p1), .val (.int p2), .val (.int p3), .val (.int (p0 &&& (3 : Int32))), .val (.int (p1 &&& (255 : Int32)).toUInt32.toUInt16.toUInt32.toInt32), .val (.int (p2 &&& (255 : Int32)).toUInt32.toUInt16.toUInt32.toInt32), .val (.int (p3 &&& (255 : Int32)).toUInt32.toUInt16.toUInt32.toInt32), .unset, .unset, .unset, .unset, .unset, .unset] [(.int (1 : Int32)), (.int (p0 &&& (3 : Int32)))])) _
        refine XS.icmpYes X0.here hx rfl (pc0 := 45) (pc' := 61) rfl (hb hby at_45) rfl (feq hc45).2 (by decide) (by decide) ?_
        show Steps p.tables e below (s₁.setTop (mkF m 61 #[.val (.int p0), .val (.int p1), .val (.int p2), .val (.int p3), .val (.int (p0 &&& (3 : Int32))), .val (.int (p1 &&& (255 : Int32)).toUInt32.toUInt16.toUInt32.toInt32), .val (.int (p2 &&& (255 : Int32)).toUInt32.toUInt16.toUInt32.toInt32), .val (.int (p3 &&& (255 : Int32)).toUInt32.toUInt16.toUInt32.toInt32), .unset, .unset, .unset, .unset, .unset, .unset] [])) _
        refine XS.iload X0.here hx rfl (hb hby at_61) rfl ?_
        show Steps p.tables e below (s₁.setTop (mkF m 63 #[.val (.int p0), .val (.int p1), .val (.int p2), .val (.int p3), .val (.int (p0 &&& (3 : Int32))), .val (.int (p1 &&& (255 : Int32)).toUInt32.toUInt16.toUInt32.toInt32), .val (.int (p2 &&& (255 : Int32)).toUInt32.toUInt16.toUInt32.toInt32), .val (.int (p3 &&& (255 : Int32)).toUInt32.toUInt16.toUInt32.toInt32), .unset, .unset, .unset, .unset, .unset, .unset] [(.int (p0 &&& (3 : Int32)))])) _
        refine XS.iconst X0.here hx rfl (hb hby at_63) ?_
        exact kt
      by_cases hc64 : (p0 &&& (3 : Int32)) = (2 : Int32)
      · obtain ⟨T37, h37, k37, X37, e37, E37, A37, st37⟩ := newP X0 hx hZ (hw _ (List.mem_of_getElem? (i := 0) rfl)) e0 (g := (mkF m 68 #[.val (.int p0), .val (.int p1), .val (.int p2), .val (.int p3), .val (.int (p0 &&& (3 : Int32))), .val (.int (p1 &&& (255 : Int32)).toUInt32.toUInt16.toUInt32.toInt32), .val (.int (p2 &&& (255 : Int32)).toUInt32.toUInt16.toUInt32.toInt32), .val (.int (p3 &&& (255 : Int32)).toUInt32.toUInt16.toUInt32.toInt32), .unset, .unset, .unset, .unset, .unset, .unset] [(.int (2 : Int32))])) rfl (hb hby at_68) rfl (by decide) (cap := 2) (by decide) (by decide) (by decide) (by decide)
        obtain ⟨b37, g37⟩ : ∃ z, z = h0.size := ⟨_, rfl⟩
        rw [← g37] at A37 st37
        have ne_w_D_b37 : w_D ≠ b37 := Nat.ne_of_lt (Nat.lt_of_lt_of_le VD.lt (Nat.le_of_eq g37.symm))
        have g_b37 : n0 ≤ b37 := Nat.le_trans Z0 (Nat.le_of_eq g37.symm)
        have X00_37 : Old Z n0 h37 := Old.ext X00 E37
        have Sh_CS_37 : Sta Z h37 "java/lang/String" "COMPACT_STRINGS" "Z" (.int zc) := Sh_CS.ext E37
        have Sh_D_37 : Sta Z h37 "java/util/ArrayList" "DEFAULTCAPACITY_EMPTY_ELEMENTDATA" "[Ljava/lang/Object;" (.ref w_D) := Sh_D.ext E37
        have Sh_E_37 : Sta Z h37 "java/util/ImmutableCollections" "EMPTY" "Ljava/lang/Object;" (.ref w_E) := Sh_E.ext E37
        have Sh_F_37 : Sta Z h37 "jdk/internal/util/Preconditions" "SIOOBE_FORMATTER" "Ljava/util/function/BiFunction;" GFx := Sh_F.ext E37
        have VD_37 : Arv Z h37 w_D kd (.object "java/lang/Object") (0 : Int32) [] .null := VD.ext E37
        have hk37' : _ ≤ h37.size := Nat.le_trans hk0 E37.1
        have Z37 : n0 ≤ h37.size := Nat.le_trans Z0 E37.1
        have V_b37 : Arv Z h37 b37 k37 .char (2 : Int32) [(.int (0 : Int32)), (.int (0 : Int32))] (.int (0 : Int32)) := (Arv.new A37 (by decide)).pad (pad_rep [] (.int (0 : Int32)) 2)
        obtain ⟨cl38, Ar38, qk38, S38, N38', H38, G38⟩ := (id V_b37)
        have hin38 : ¬ ((0 : Int32) < 0 ∨ cl38.slots.size ≤ ((0 : Int32)).toNatClampNeg) := inb_of S38 ⟨by decide, by decide⟩
        obtain ⟨T39, h39, X39, e39, W39, st39⟩ := stC X37 hx hZ e37 Ar38 (j := (0 : Int32)) hin38 (g := (mkF m 74 #[.val (.int p0), .val (.int p1), .val (.int p2), .val (.int p3), .val (.int (p0 &&& (3 : Int32))), .val (.int (p1 &&& (255 : Int32)).toUInt32.toUInt16.toUInt32.toInt32), .val (.int (p2 &&& (255 : Int32)).toUInt32.toUInt16.toUInt32.toInt32), .val (.int (p3 &&& (255 : Int32)).toUInt32.toUInt16.toUInt32.toInt32), .unset, .unset, .unset, .unset, .unset, .unset] [(.int (p1 &&& (255 : Int32)).toUInt32.toUInt16.toUInt32.toInt32), (.int (0 : Int32)), (.ref b37), (.ref b37)])) rfl rfl (hb hby at_74)
        have V39 : Arv Z h39 b37 k37 .char (2 : Int32) [(.int (nar .char (p1 &&& (255 : Int32)).toUInt32.toUInt16.toUInt32.toInt32)), (.int (0 : Int32))] (.int (0 : Int32)) := Arv.set Ar38 qk38 S38 N38' H38 G38 (fits_nar_char _) W39 0 rfl (Nat.le_of_ble_eq_true rfl)
        have N39 := Fr.snoc X39 N0 g_b37
        have X00_39 : Old Z n0 h39 := X00_37.wr W39 g_b37
        have Sh_CS_39 : Sta Z h39 "java/lang/String" "COMPACT_STRINGS" "Z" (.int zc) := Sh_CS_37.wr W39
        have Sh_D_39 : Sta Z h39 "java/util/ArrayList" "DEFAULTCAPACITY_EMPTY_ELEMENTDATA" "[Ljava/lang/Object;" (.ref w_D) := Sh_D_37.wr W39
        have Sh_E_39 : Sta Z h39 "java/util/ImmutableCollections" "EMPTY" "Ljava/lang/Object;" (.ref w_E) := Sh_E_37.wr W39
        have Sh_F_39 : Sta Z h39 "jdk/internal/util/Preconditions" "SIOOBE_FORMATTER" "Ljava/util/function/BiFunction;" GFx := Sh_F_37.wr W39
        have VD_39 : Arv Z h39 w_D kd (.object "java/lang/Object") (0 : Int32) [] .null := VD_37.other W39 ne_w_D_b37
        have hk39' : _ ≤ h39.size := Nat.le_trans hk37' (Keep.of_wr W39).1
        have Z39 : n0 ≤ h39.size := Nat.le_trans Z37 (Keep.of_wr W39).1
        obtain ⟨cl40, Ar40, qk40, S40, N40', H40, G40⟩ := (id V39)
        have hin40 : ¬ ((1 : Int32) < 0 ∨ cl40.slots.size ≤ ((1 : Int32)).toNatClampNeg) := inb_of S40 ⟨by decide, by decide⟩
        obtain ⟨T41, h41, X41, e41, W41, st41⟩ := stC X39 hx hZ e39 Ar40 (j := (1 : Int32)) hin40 (g := (mkF m 79 #[.val (.int p0), .val (.int p1), .val (.int p2), .val (.int p3), .val (.int (p0 &&& (3 : Int32))), .val (.int (p1 &&& (255 : Int32)).toUInt32.toUInt16.toUInt32.toInt32), .val (.int (p2 &&& (255 : Int32)).toUInt32.toUInt16.toUInt32.toInt32), .val (.int (p3 &&& (255 : Int32)).toUInt32.toUInt16.toUInt32.toInt32), .unset, .unset, .unset, .unset, .unset, .unset] [(.int (p2 &&& (255 : Int32)).toUInt32.toUInt16.toUInt32.toInt32), (.int (1 : Int32)), (.ref b37), (.ref b37)])) rfl rfl (hb hby at_79)
        have V41 : Arv Z h41 b37 k37 .char (2 : Int32) [(.int (nar .char (p1 &&& (255 : Int32)).toUInt32.toUInt16.toUInt32.toInt32)), (.int (nar .char (p2 &&& (255 : Int32)).toUInt32.toUInt16.toUInt32.toInt32))] (.int (0 : Int32)) := Arv.set Ar40 qk40 S40 N40' H40 G40 (fits_nar_char _) W41 1 rfl (Nat.le_of_ble_eq_true rfl)
        have N41 := Fr.snoc X41 N39 g_b37
        have X00_41 : Old Z n0 h41 := X00_39.wr W41 g_b37
        have Sh_CS_41 : Sta Z h41 "java/lang/String" "COMPACT_STRINGS" "Z" (.int zc) := Sh_CS_39.wr W41
        have Sh_D_41 : Sta Z h41 "java/util/ArrayList" "DEFAULTCAPACITY_EMPTY_ELEMENTDATA" "[Ljava/lang/Object;" (.ref w_D) := Sh_D_39.wr W41
        have Sh_E_41 : Sta Z h41 "java/util/ImmutableCollections" "EMPTY" "Ljava/lang/Object;" (.ref w_E) := Sh_E_39.wr W41
        have Sh_F_41 : Sta Z h41 "jdk/internal/util/Preconditions" "SIOOBE_FORMATTER" "Ljava/util/function/BiFunction;" GFx := Sh_F_39.wr W41
        have VD_41 : Arv Z h41 w_D kd (.object "java/lang/Object") (0 : Int32) [] .null := VD_39.other W41 ne_w_D_b37
        have hk41' : _ ≤ h41.size := Nat.le_trans hk39' (Keep.of_wr W41).1
        have Z41 : n0 ≤ h41.size := Nat.le_trans Z39 (Keep.of_wr W41).1
        obtain ⟨T42, h42, X42, e42, E42, A42, D42, -, st42⟩ := newO X41 hx hZ hown (hw _ (List.mem_of_getElem? (i := 1) rfl)) (hw _ (List.mem_of_getElem? (i := 2) rfl)) (hw _ (List.mem_of_getElem? (i := 3) rfl)) e41 (g := (mkF m 105 #[.val (.int p0), .val (.int p1), .val (.int p2), .val (.int p3), .val (.int (2 : Int32)), .val (.int (p1 &&& (255 : Int32)).toUInt32.toUInt16.toUInt32.toInt32), .val (.int (p2 &&& (255 : Int32)).toUInt32.toUInt16.toUInt32.toInt32), .val (.int (p3 &&& (255 : Int32)).toUInt32.toUInt16.toUInt32.toInt32), .val (.ref b37), .unset, .unset, .unset, .unset, .unset] [])) rfl (hb hby at_105) (by decide) (by decide)
        obtain ⟨b42, g42⟩ : ∃ z, z = h41.size := ⟨_, rfl⟩
        rw [← g42] at A42 D42 st42
        have ne_w_D_b42 : w_D ≠ b42 := Nat.ne_of_lt (Nat.lt_of_lt_of_le VD_41.lt (Nat.le_of_eq g42.symm))
        have ne_b37_b42 : b37 ≠ b42 := Nat.ne_of_lt (Nat.lt_of_lt_of_le V41.lt (Nat.le_of_eq g42.symm))
        have g_b42 : n0 ≤ b42 := Nat.le_trans Z41 (Nat.le_of_eq g42.symm)
        have X00_42 : Old Z n0 h42 := Old.ext X00_41 E42
        have Sh_CS_42 : Sta Z h42 "java/lang/String" "COMPACT_STRINGS" "Z" (.int zc) := Sh_CS_41.ext E42
        have Sh_D_42 : Sta Z h42 "java/util/ArrayList" "DEFAULTCAPACITY_EMPTY_ELEMENTDATA" "[Ljava/lang/Object;" (.ref w_D) := Sh_D_41.ext E42
        have Sh_E_42 : Sta Z h42 "java/util/ImmutableCollections" "EMPTY" "Ljava/lang/Object;" (.ref w_E) := Sh_E_41.ext E42
        have Sh_F_42 : Sta Z h42 "jdk/internal/util/Preconditions" "SIOOBE_FORMATTER" "Ljava/util/function/BiFunction;" GFx := Sh_F_41.ext E42
        have VD_42 : Arv Z h42 w_D kd (.object "java/lang/Object") (0 : Int32) [] .null := VD_41.ext E42
        have V41_42 : Arv Z h42 b37 k37 .char (2 : Int32) [(.int (nar .char (p1 &&& (255 : Int32)).toUInt32.toUInt16.toUInt32.toInt32)), (.int (nar .char (p2 &&& (255 : Int32)).toUInt32.toUInt16.toUInt32.toInt32))] (.int (0 : Int32)) := V41.ext E42
        have hk42' : _ ≤ h42.size := Nat.le_trans hk41' E42.1
        have Z42 : n0 ≤ h42.size := Nat.le_trans Z41 E42.1
        have F_value_b42 : Fld Z h42 b42 "java/lang/String" "value" "[B" .null := D42 (Or.inr (hw _ (List.mem_of_getElem? (i := 16) rfl))) (ty := (.array .byte)) (by decide)
        have F_coder_b42 : Fld Z h42 b42 "java/lang/String" "coder" "B" (.int (0 : Int32)) := D42 (Or.inr (hw _ (List.mem_of_getElem? (i := 17) rfl))) (ty := .byte) (by decide)
        obtain ⟨_, _, ⟨T43, L43, k43, n43⟩, -, X43, ⟨Lc43, hQ43, l43, y43, z43⟩, st43⟩ := X42.specialBack hx (y := (⟨"java/lang/String", "<init>", "([C)V"⟩ : MethodName)) rfl hown (mvT hZ (hw _ (List.mem_of_getElem? (i := 4) rfl))) (mvT hZ (hw _ (List.mem_of_getElem? (i := 5) rfl))) (mvT hZ (hw _ (List.mem_of_getElem? (i := 6) rfl))) (by decide) (StrChars.Road.backV (W := 1) hZ hws (kI := 4) (hw _ (List.mem_of_getElem? (i := 2) rfl)) (cs := ([(nar .char (p1 &&& (255 : Int32)).toUInt32.toUInt16.toUInt32.toInt32), (nar .char (p2 &&& (255 : Int32)).toUInt32.toUInt16.toUInt32.toInt32)] : List Int32)) (bs := (([(nar .char (p1 &&& (255 : Int32)).toUInt32.toUInt16.toUInt32.toInt32), (nar .char (p2 &&& (255 : Int32)).toUInt32.toUInt16.toUInt32.toInt32)] : List Int32)).map (fun c => c.toInt8.toInt32)) (n := 2) g_b42 Z42 A42 F_value_b42 F_coder_b42 V41_42 Sh_CS_42 P5 rfl rfl (by decide) (by decide) (List.forall_mem_cons.mpr ⟨own_ch _, (List.forall_mem_cons.mpr ⟨own_ch _, (fun _ q => nomatch q)⟩)⟩) rfl (by decide) (by decide)) (g := (mkF m 111 #[.val (.int p0), .val (.int p1), .val (.int p2), .val (.int p3), .val (.int (2 : Int32)), .val (.int (p1 &&& (255 : Int32)).toUInt32.toUInt16.toUInt32.toInt32), .val (.int (p2 &&& (255 : Int32)).toUInt32.toUInt16.toUInt32.toInt32), .val (.int (p3 &&& (255 : Int32)).toUInt32.toUInt16.toUInt32.toInt32), .val (.ref b37), .unset, .unset, .unset, .unset, .unset] [(.ref b37), (.ref b42), (.ref b42)])) rfl (by rw [hml]; rfl) (Steps.refl _) (a := b42) (argsL := [(.ref b37)]) (rest := [(.ref b42)]) (lenOf pd_18 rfl) rfl (by show 2 * 0 + _ ≤ _; exact Nat.le_of_eq rfl) (hb hby at_111) (fun _ _ => ⟨rfl, e42, (by decide : 2 + 1 ≤ _), (by decide : 6 + 2 ≤ _)⟩)
        dsimp only [Pt.U, Pt.locs, Pt.cells, Pt.slots] at X43 l43 y43 z43 st43 hQ43
        subst l43 y43 z43
        obtain ⟨rfl, N43q, x43c0, x43c1, x43c2, x43c3, x43c4, x43c5, x43c6, x43c7, x43c8, x43c9⟩ := hQ43
        have N43 := Fr.app N41 N43q
        have ne_w_D_x43c3 : w_D ≠ x43c3 := Nat.ne_of_lt (Nat.lt_of_lt_of_le VD_42.lt x43c6)
        have ne_b37_x43c3 : b37 ≠ x43c3 := Nat.ne_of_lt (Nat.lt_of_lt_of_le V41_42.lt x43c6)
        have ne_b42_x43c3 : b42 ≠ x43c3 := Nat.ne_of_lt (Nat.lt_of_lt_of_le A42.lt x43c6)
        have X00_43 : Old Z n0 T43.heap := X00_42.keep x43c0 (allS g_b42 all0)
        have VD_43 : Arv Z T43.heap w_D kd (.object "java/lang/Object") (0 : Int32) [] .null := VD_42.keep x43c0 (ninS ne_w_D_b42 nin0)
        have V41_43 : Arv Z T43.heap b37 k37 .char (2 : Int32) [(.int (nar .char (p1 &&& (255 : Int32)).toUInt32.toUInt16.toUInt32.toInt32)), (.int (nar .char (p2 &&& (255 : Int32)).toUInt32.toUInt16.toUInt32.toInt32))] (.int (0 : Int32)) := V41_42.keep x43c0 (ninS ne_b37_b42 nin0)
        have A42_43 : Exa Z T43.heap b42 "java/lang/String" := A42.keep x43c0
        have Sh_CS_43 : Sta Z T43.heap "java/lang/String" "COMPACT_STRINGS" "Z" (.int zc) := S_CS.ext X00_43.2
        have Sh_D_43 : Sta Z T43.heap "java/util/ArrayList" "DEFAULTCAPACITY_EMPTY_ELEMENTDATA" "[Ljava/lang/Object;" (.ref w_D) := S_D.ext X00_43.2
        have Sh_E_43 : Sta Z T43.heap "java/util/ImmutableCollections" "EMPTY" "Ljava/lang/Object;" (.ref w_E) := S_E.ext X00_43.2
        have Sh_F_43 : Sta Z T43.heap "jdk/internal/util/Preconditions" "SIOOBE_FORMATTER" "Ljava/util/function/BiFunction;" GFx := S_F.ext X00_43.2
        have hk43' : _ ≤ T43.heap.size := Nat.le_trans hk42' x43c0.1
        have Z43 : n0 ≤ T43.heap.size := Nat.le_trans Z42 x43c0.1
        have VB43 : Arv Z T43.heap x43c3 x43c4 .byte (2 : Int32) [(.int ((nar .char (p1 &&& (255 : Int32)).toUInt32.toUInt16.toUInt32.toInt32)).toInt8.toInt32), (.int ((nar .char (p2 &&& (255 : Int32)).toUInt32.toUInt16.toUInt32.toInt32)).toInt8.toInt32)] (.int (0 : Int32)) := x43c9
        obtain ⟨T44, h44, X44, e44, E44, A44, D44, -, st44⟩ := newO X43 hx hZ hown (hw _ (List.mem_of_getElem? (i := 22) rfl)) (hw _ (List.mem_of_getElem? (i := 23) rfl)) (hw _ (List.mem_of_getElem? (i := 24) rfl)) rfl (g := (mkF m 116 #[.val (.int p0), .val (.int p1), .val (.int p2), .val (.int p3), .val (.int (2 : Int32)), .val (.int (p1 &&& (255 : Int32)).toUInt32.toUInt16.toUInt32.toInt32), .val (.int (p2 &&& (255 : Int32)).toUInt32.toUInt16.toUInt32.toInt32), .val (.int (p3 &&& (255 : Int32)).toUInt32.toUInt16.toUInt32.toInt32), .val (.ref b37), .val (.ref b42), .unset, .unset, .unset, .unset] [])) rfl (hb hby at_116) (by decide) (by decide)
        obtain ⟨b44, g44⟩ : ∃ z, z = T43.heap.size := ⟨_, rfl⟩
        rw [← g44] at A44 D44 st44
        have ne_w_D_b44 : w_D ≠ b44 := Nat.ne_of_lt (Nat.lt_of_lt_of_le VD_43.lt (Nat.le_of_eq g44.symm))
        have ne_b37_b44 : b37 ≠ b44 := Nat.ne_of_lt (Nat.lt_of_lt_of_le V41_43.lt (Nat.le_of_eq g44.symm))
        have ne_b42_b44 : b42 ≠ b44 := Nat.ne_of_lt (Nat.lt_of_lt_of_le A42_43.lt (Nat.le_of_eq g44.symm))
        have ne_x43c3_b44 : x43c3 ≠ b44 := Nat.ne_of_lt (Nat.lt_of_lt_of_le VB43.lt (Nat.le_of_eq g44.symm))
        have g_b44 : n0 ≤ b44 := Nat.le_trans Z43 (Nat.le_of_eq g44.symm)
        have X00_44 : Old Z n0 h44 := Old.ext X00_43 E44
        have VD_44 : Arv Z h44 w_D kd (.object "java/lang/Object") (0 : Int32) [] .null := VD_43.ext E44
        have V41_44 : Arv Z h44 b37 k37 .char (2 : Int32) [(.int (nar .char (p1 &&& (255 : Int32)).toUInt32.toUInt16.toUInt32.toInt32)), (.int (nar .char (p2 &&& (255 : Int32)).toUInt32.toUInt16.toUInt32.toInt32))] (.int (0 : Int32)) := V41_43.ext E44
        have A42_44 : Exa Z h44 b42 "java/lang/String" := A42_43.ext E44
        have Sh_CS_44 : Sta Z h44 "java/lang/String" "COMPACT_STRINGS" "Z" (.int zc) := Sh_CS_43.ext E44
        have Sh_D_44 : Sta Z h44 "java/util/ArrayList" "DEFAULTCAPACITY_EMPTY_ELEMENTDATA" "[Ljava/lang/Object;" (.ref w_D) := Sh_D_43.ext E44
        have Sh_E_44 : Sta Z h44 "java/util/ImmutableCollections" "EMPTY" "Ljava/lang/Object;" (.ref w_E) := Sh_E_43.ext E44
        have Sh_F_44 : Sta Z h44 "jdk/internal/util/Preconditions" "SIOOBE_FORMATTER" "Ljava/util/function/BiFunction;" GFx := Sh_F_43.ext E44
        have x43c2_44 : Fld Z h44 b42 "java/lang/String" "coder" "B" (.int (0 : Int32)) := x43c2.ext E44
        have x43c8_44 : Fld Z h44 b42 "java/lang/String" "value" "[B" (.ref x43c3) := x43c8.ext E44
        have VB43_44 : Arv Z h44 x43c3 x43c4 .byte (2 : Int32) [(.int ((nar .char (p1 &&& (255 : Int32)).toUInt32.toUInt16.toUInt32.toInt32)).toInt8.toInt32), (.int ((nar .char (p2 &&& (255 : Int32)).toUInt32.toUInt16.toUInt32.toInt32)).toInt8.toInt32)] (.int (0 : Int32)) := VB43.ext E44
        have hk44' : _ ≤ h44.size := Nat.le_trans hk43' E44.1
        have Z44 : n0 ≤ h44.size := Nat.le_trans Z43 E44.1
        have F_modCount_b44 : Fld Z h44 b44 "java/util/AbstractList" "modCount" "I" (.int (0 : Int32)) := D44 (Or.inl (hw _ (List.mem_of_getElem? (i := 42) rfl))) (ty := .int) (by decide)
        have F_elementData_b44 : Fld Z h44 b44 "java/util/ArrayList" "elementData" "[Ljava/lang/Object;" .null := D44 (Or.inl (hw _ (List.mem_of_getElem? (i := 45) rfl))) (ty := (.array (.object "java/lang/Object"))) (by decide)
        have F_size_b44 : Fld Z h44 b44 "java/util/ArrayList" "size" "I" (.int (0 : Int32)) := D44 (Or.inl (hw _ (List.mem_of_getElem? (i := 58) rfl))) (ty := .int) (by decide)
        obtain ⟨_, _, ⟨T45, L45, k45, n45⟩, -, X45, ⟨Lc45, hQ45, l45, y45, z45⟩, st45⟩ := X44.specialBack hx (y := (⟨"java/util/ArrayList", "<init>", "()V"⟩ : MethodName)) rfl hown (mvT hZ (hw _ (List.mem_of_getElem? (i := 25) rfl))) (mvT hZ (hw _ (List.mem_of_getElem? (i := 26) rfl))) (mvT hZ (hw _ (List.mem_of_getElem? (i := 27) rfl))) (by decide) (backOf (W := 1) (rm_al l Z a0 hw [] b44 w_D h44 n0 Z44 A44 F_modCount_b44 F_elementData_b44 F_size_b44 g_b44 X00_44 S_D) hZ (hw _ (List.mem_of_getElem? (i := 27) rfl)) (hw _ (List.mem_of_getElem? (i := 24) rfl)) (by decide) (by decide)) (g := (mkF m 120 #[.val (.int p0), .val (.int p1), .val (.int p2), .val (.int p3), .val (.int (2 : Int32)), .val (.int (p1 &&& (255 : Int32)).toUInt32.toUInt16.toUInt32.toInt32), .val (.int (p2 &&& (255 : Int32)).toUInt32.toUInt16.toUInt32.toInt32), .val (.int (p3 &&& (255 : Int32)).toUInt32.toUInt16.toUInt32.toInt32), .val (.ref b37), .val (.ref b42), .unset, .unset, .unset, .unset] [(.ref b44), (.ref b44)])) rfl (by rw [hml]; rfl) (Steps.refl _) (a := b44) (argsL := []) (rest := [(.ref b44)]) (lenOf pd_1 rfl) rfl (by show 2 * 0 + _ ≤ _; exact Nat.le_of_eq rfl) (hb hby at_120) (fun _ _ => ⟨rfl, e44, (by decide : 4 + 0 ≤ _), (by decide : 11 + 0 ≤ _)⟩)
        dsimp only [Pt.U, Pt.locs, Pt.cells, Pt.slots] at X45 l45 y45 z45 st45 hQ45
        subst l45 y45 z45
        obtain ⟨rfl, N45q, x45c0, x45c1, x45c2, x45c3⟩ := hQ45
        have N45 := Fr.app N43 N45q
        have X00_45 : Old Z n0 T45.heap := X00_44.keep x45c0 (allS g_b44 all0)
        have VD_45 : Arv Z T45.heap w_D kd (.object "java/lang/Object") (0 : Int32) [] .null := VD_44.keep x45c0 (ninS ne_w_D_b44 nin0)
        have V41_45 : Arv Z T45.heap b37 k37 .char (2 : Int32) [(.int (nar .char (p1 &&& (255 : Int32)).toUInt32.toUInt16.toUInt32.toInt32)), (.int (nar .char (p2 &&& (255 : Int32)).toUInt32.toUInt16.toUInt32.toInt32))] (.int (0 : Int32)) := V41_44.keep x45c0 (ninS ne_b37_b44 nin0)
        have A42_45 : Exa Z T45.heap b42 "java/lang/String" := A42_44.keep x45c0
        have x43c2_45 : Fld Z T45.heap b42 "java/lang/String" "coder" "B" (.int (0 : Int32)) := x43c2_44.keep x45c0 (ninS ne_b42_b44 nin0)
        have x43c8_45 : Fld Z T45.heap b42 "java/lang/String" "value" "[B" (.ref x43c3) := x43c8_44.keep x45c0 (ninS ne_b42_b44 nin0)
        have VB43_45 : Arv Z T45.heap x43c3 x43c4 .byte (2 : Int32) [(.int ((nar .char (p1 &&& (255 : Int32)).toUInt32.toUInt16.toUInt32.toInt32)).toInt8.toInt32), (.int ((nar .char (p2 &&& (255 : Int32)).toUInt32.toUInt16.toUInt32.toInt32)).toInt8.toInt32)] (.int (0 : Int32)) := VB43_44.keep x45c0 (ninS ne_x43c3_b44 nin0)
        have A44_45 : Exa Z T45.heap b44 "java/util/ArrayList" := A44.keep x45c0
        have Sh_CS_45 : Sta Z T45.heap "java/lang/String" "COMPACT_STRINGS" "Z" (.int zc) := S_CS.ext X00_45.2
        have Sh_D_45 : Sta Z T45.heap "java/util/ArrayList" "DEFAULTCAPACITY_EMPTY_ELEMENTDATA" "[Ljava/lang/Object;" (.ref w_D) := S_D.ext X00_45.2
        have Sh_E_45 : Sta Z T45.heap "java/util/ImmutableCollections" "EMPTY" "Ljava/lang/Object;" (.ref w_E) := S_E.ext X00_45.2
        have Sh_F_45 : Sta Z T45.heap "jdk/internal/util/Preconditions" "SIOOBE_FORMATTER" "Ljava/util/function/BiFunction;" GFx := S_F.ext X00_45.2
        have hk45' : _ ≤ T45.heap.size := Nat.le_trans hk44' x45c0.1
        have Z45 : n0 ≤ T45.heap.size := Nat.le_trans Z44 x45c0.1
        obtain ⟨cq46, kq46, q46a, q46b, q46c⟩ := isOf hZ rfl A44_45
        obtain ⟨_, _, ⟨T46, L46, k46, n46⟩, -, X46, ⟨Lc46, hQ46, l46, y46, z46⟩, st46⟩ := X45.interfaceBack hx (xi := (⟨"java/util/List", "add", "(Ljava/lang/Object;)Z"⟩ : MethodName)) (y := (⟨"java/util/ArrayList", "add", "(Ljava/lang/Object;)Z"⟩ : MethodName)) hown (mvT hZ (hw _ (List.mem_of_getElem? (i := 46) rfl))) (mvT hZ (hw _ (List.mem_of_getElem? (i := 47) rfl))) (mvT hZ (hw _ (List.mem_of_getElem? (i := 48) rfl))) (mvT hZ (hw _ (List.mem_of_getElem? (i := 49) rfl))) (mvT hZ (hw _ (List.mem_of_getElem? (i := 50) rfl))) (mvT hZ (hw _ (List.mem_of_getElem? (i := 51) rfl))) (mvT hZ (hw _ (List.mem_of_getElem? (i := 52) rfl))) (mvT hZ (hw _ (List.mem_of_getElem? (i := 53) rfl))) (by decide) (backOf (W := 0) (rm_add l Z a0 hw [] b44 b42 w_D kd [] .null T45.heap n0 Z45 A44_45 g_b44 x45c2 x45c3 Sh_D_45 VD_45 (Ne.symm ne_w_D_b44) A42_45 x45c1) hZ (hw _ (List.mem_of_getElem? (i := 54) rfl)) (hw _ (List.mem_of_getElem? (i := 24) rfl)) (by decide) (by decide)) q46a q46b q46c (g := (mkF m 129 #[.val (.int p0), .val (.int p1), .val (.int p2), .val (.int p3), .val (.int (2 : Int32)), .val (.int (p1 &&& (255 : Int32)).toUInt32.toUInt16.toUInt32.toInt32), .val (.int (p2 &&& (255 : Int32)).toUInt32.toUInt16.toUInt32.toInt32), .val (.int (p3 &&& (255 : Int32)).toUInt32.toUInt16.toUInt32.toInt32), .val (.ref b37), .val (.ref b42), .val (.ref b44), .unset, .unset, .unset] [(.ref b42), (.ref b44)])) rfl (by rw [hml]; rfl) (Steps.refl _) (argsL := [(.ref b42)]) (rest := []) (lenOf pd_19 rfl) rfl (by show 2 * 0 + _ ≤ _; exact Nat.le_of_eq rfl) (hb hby at_129) (fun _ _ => ⟨rfl, rfl, (by decide : 4 + 1 ≤ _), (by decide : 11 + 10 ≤ _)⟩)
        dsimp only [Pt.U, Pt.locs, Pt.cells, Pt.slots] at X46 l46 y46 z46 st46 hQ46
        subst l46 y46 z46
        obtain ⟨rfl, N46q, x46c0, x46c1, x46c2⟩ := hQ46
        have N46 := Fr.app N45 N46q
        obtain ⟨ab46, ak46, ag46, ah46, aF46, aV46⟩ := x46c2
        have ne_w_D_ab46 : w_D ≠ ab46 := Nat.ne_of_lt (Nat.lt_of_lt_of_le VD_45.lt ah46)
        have ne_b37_ab46 : b37 ≠ ab46 := Nat.ne_of_lt (Nat.lt_of_lt_of_le V41_45.lt ah46)
        have ne_b42_ab46 : b42 ≠ ab46 := Nat.ne_of_lt (Nat.lt_of_lt_of_le A42_45.lt ah46)
        have ne_x43c3_ab46 : x43c3 ≠ ab46 := Nat.ne_of_lt (Nat.lt_of_lt_of_le VB43_45.lt ah46)
        have ne_b44_ab46 : b44 ≠ ab46 := Nat.ne_of_lt (Nat.lt_of_lt_of_le A44_45.lt ah46)
        have X00_46 : Old Z n0 T46.heap := X00_45.keep x46c0 (allS g_b44 all0)
        have VD_46 : Arv Z T46.heap w_D kd (.object "java/lang/Object") (0 : Int32) [] .null := VD_45.keep x46c0 (ninS ne_w_D_b44 nin0)
        have V41_46 : Arv Z T46.heap b37 k37 .char (2 : Int32) [(.int (nar .char (p1 &&& (255 : Int32)).toUInt32.toUInt16.toUInt32.toInt32)), (.int (nar .char (p2 &&& (255 : Int32)).toUInt32.toUInt16.toUInt32.toInt32))] (.int (0 : Int32)) := V41_45.keep x46c0 (ninS ne_b37_b44 nin0)
        have A42_46 : Exa Z T46.heap b42 "java/lang/String" := A42_45.keep x46c0
        have x43c2_46 : Fld Z T46.heap b42 "java/lang/String" "coder" "B" (.int (0 : Int32)) := x43c2_45.keep x46c0 (ninS ne_b42_b44 nin0)
        have x43c8_46 : Fld Z T46.heap b42 "java/lang/String" "value" "[B" (.ref x43c3) := x43c8_45.keep x46c0 (ninS ne_b42_b44 nin0)
        have VB43_46 : Arv Z T46.heap x43c3 x43c4 .byte (2 : Int32) [(.int ((nar .char (p1 &&& (255 : Int32)).toUInt32.toUInt16.toUInt32.toInt32)).toInt8.toInt32), (.int ((nar .char (p2 &&& (255 : Int32)).toUInt32.toUInt16.toUInt32.toInt32)).toInt8.toInt32)] (.int (0 : Int32)) := VB43_45.keep x46c0 (ninS ne_x43c3_b44 nin0)
        have A44_46 : Exa Z T46.heap b44 "java/util/ArrayList" := A44_45.keep x46c0
        have Sh_CS_46 : Sta Z T46.heap "java/lang/String" "COMPACT_STRINGS" "Z" (.int zc) := S_CS.ext X00_46.2
        have Sh_D_46 : Sta Z T46.heap "java/util/ArrayList" "DEFAULTCAPACITY_EMPTY_ELEMENTDATA" "[Ljava/lang/Object;" (.ref w_D) := S_D.ext X00_46.2
        have Sh_E_46 : Sta Z T46.heap "java/util/ImmutableCollections" "EMPTY" "Ljava/lang/Object;" (.ref w_E) := S_E.ext X00_46.2
        have Sh_F_46 : Sta Z T46.heap "jdk/internal/util/Preconditions" "SIOOBE_FORMATTER" "Ljava/util/function/BiFunction;" GFx := S_F.ext X00_46.2
        have hk46' : _ ≤ T46.heap.size := Nat.le_trans hk45' x46c0.1
        have Z46 : n0 ≤ T46.heap.size := Nat.le_trans Z45 x46c0.1
        obtain ⟨_, _, ⟨T47, L47, k47, n47⟩, -, X47, hSq47, gr47, ⟨Lc47, hQ47, l47, y47, z47⟩, st47⟩ := callSS X46 hx (y := (⟨"com/example/fyfo/fyfo/Runner$Shell", "fromWords", "(Ljava/util/List;)Lcom/example/fyfo/fyfo/Runner$Shell;"⟩ : MethodName)) hown (mvT hZ (hw _ (List.mem_of_getElem? (i := 81) rfl))) (mvT hZ (hw _ (List.mem_of_getElem? (i := 82) rfl))) (mvT hZ (hw _ (List.mem_of_getElem? (i := 83) rfl))) (mvT hZ (hw _ (List.mem_of_getElem? (i := 84) rfl))) (by decide) (backOfS (W := 0) (rm_from l Z a0 hw [] b44 ab46 ak46 b42 T46.heap n0 Z46 aF46 aV46 x46c1 A44_46 A42_46) hZ (hw _ (List.mem_of_getElem? (i := 84) rfl)) (hw _ (List.mem_of_getElem? (i := 83) rfl)) (by decide) (by decide)) (g := (mkF m 137 #[.val (.int p0), .val (.int p1), .val (.int p2), .val (.int p3), .val (.int (2 : Int32)), .val (.int (p1 &&& (255 : Int32)).toUInt32.toUInt16.toUInt32.toInt32), .val (.int (p2 &&& (255 : Int32)).toUInt32.toUInt16.toUInt32.toInt32), .val (.int (p3 &&& (255 : Int32)).toUInt32.toUInt16.toUInt32.toInt32), .val (.ref b37), .val (.ref b42), .val (.ref b44), .unset, .unset, .unset] [(.ref b44)])) rfl (by rw [hml]; rfl) (argsL := [(.ref b44)]) (rest := []) (lenOf pd_20 rfl) rfl (by show 2 * 0 + _ ≤ _; exact Nat.le_of_eq rfl) (hb hby at_137) (fun _ _ => ⟨rfl, rfl, (by decide : 5 + 3 ≤ _), (by decide : 21 + 33 ≤ _)⟩)
        dsimp only [Pt.U, Pt.locs, Pt.cells, Pt.slots] at X47 l47 y47 z47 st47 hQ47 hSq47 gr47
        subst l47 y47 z47
        obtain ⟨bx47, rfl, N47q, x47c0, x47c1, x47c2, x47c3, x47c4⟩ := hQ47
        have N47 := Fr.app N46 N47q
        have ne_w_D_bx47 : w_D ≠ bx47 := Nat.ne_of_lt (Nat.lt_of_lt_of_le VD_46.lt x47c2)
        have ne_b37_bx47 : b37 ≠ bx47 := Nat.ne_of_lt (Nat.lt_of_lt_of_le V41_46.lt x47c2)
        have ne_b42_bx47 : b42 ≠ bx47 := Nat.ne_of_lt (Nat.lt_of_lt_of_le A42_46.lt x47c2)
        have ne_x43c3_bx47 : x43c3 ≠ bx47 := Nat.ne_of_lt (Nat.lt_of_lt_of_le VB43_46.lt x47c2)
        have ne_b44_bx47 : b44 ≠ bx47 := Nat.ne_of_lt (Nat.lt_of_lt_of_le A44_46.lt x47c2)
        have ne_ab46_bx47 : ab46 ≠ bx47 := Nat.ne_of_lt (Nat.lt_of_lt_of_le aV46.lt x47c2)
        have X00_47 : Old Z n0 T47.heap := X00_46.keep x47c0 all0
        have VD_47 : Arv Z T47.heap w_D kd (.object "java/lang/Object") (0 : Int32) [] .null := VD_46.keep x47c0 nin0
        have V41_47 : Arv Z T47.heap b37 k37 .char (2 : Int32) [(.int (nar .char (p1 &&& (255 : Int32)).toUInt32.toUInt16.toUInt32.toInt32)), (.int (nar .char (p2 &&& (255 : Int32)).toUInt32.toUInt16.toUInt32.toInt32))] (.int (0 : Int32)) := V41_46.keep x47c0 nin0
        have A42_47 : Exa Z T47.heap b42 "java/lang/String" := A42_46.keep x47c0
        have x43c2_47 : Fld Z T47.heap b42 "java/lang/String" "coder" "B" (.int (0 : Int32)) := x43c2_46.keep x47c0 nin0
        have x43c8_47 : Fld Z T47.heap b42 "java/lang/String" "value" "[B" (.ref x43c3) := x43c8_46.keep x47c0 nin0
        have VB43_47 : Arv Z T47.heap x43c3 x43c4 .byte (2 : Int32) [(.int ((nar .char (p1 &&& (255 : Int32)).toUInt32.toUInt16.toUInt32.toInt32)).toInt8.toInt32), (.int ((nar .char (p2 &&& (255 : Int32)).toUInt32.toUInt16.toUInt32.toInt32)).toInt8.toInt32)] (.int (0 : Int32)) := VB43_46.keep x47c0 nin0
        have A44_47 : Exa Z T47.heap b44 "java/util/ArrayList" := A44_46.keep x47c0
        have x46c1_47 : Fld Z T47.heap b44 "java/util/ArrayList" "size" "I" (.int (1 : Int32)) := x46c1.keep x47c0 nin0
        have aF46_47 : Fld Z T47.heap b44 "java/util/ArrayList" "elementData" "[Ljava/lang/Object;" (.ref ab46) := aF46.keep x47c0 nin0
        have aV46_47 : Arv Z T47.heap ab46 ak46 (.object "java/lang/Object") (10 : Int32) [(.ref b42), .null, .null, .null, .null, .null, .null, .null, .null, .null] .null := aV46.keep x47c0 nin0
        have Sh_CS_47 : Sta Z T47.heap "java/lang/String" "COMPACT_STRINGS" "Z" (.int zc) := S_CS.ext X00_47.2
        have Sh_D_47 : Sta Z T47.heap "java/util/ArrayList" "DEFAULTCAPACITY_EMPTY_ELEMENTDATA" "[Ljava/lang/Object;" (.ref w_D) := S_D.ext X00_47.2
        have Sh_E_47 : Sta Z T47.heap "java/util/ImmutableCollections" "EMPTY" "Ljava/lang/Object;" (.ref w_E) := S_E.ext X00_47.2
        have Sh_F_47 : Sta Z T47.heap "jdk/internal/util/Preconditions" "SIOOBE_FORMATTER" "Ljava/util/function/BiFunction;" GFx := S_F.ext X00_47.2
        have hk47' : _ ≤ T47.heap.size := Nat.le_trans hk46' x47c0.1
        have Z47 : n0 ≤ T47.heap.size := Nat.le_trans Z46 x47c0.1
        have X47b : Stand p l e room_1 (s.setVm T47.vm) m #[(.int p0), (.int p1), (.int p2), (.int p3)] below meth c T47 _ _ _ := X47
        have hS47 : s.Since T47.vm T47.heap.size := foldS hS0 (T := T46) (by first | exact hk46' | (rw [rfl]; exact hk46')) hSq47 gr47
        have hZ47 : Z.Warmed39 (s.setVm T47.vm).vm := State.Warmed39.trans (t := s.setVm s.vm) hZ hSq47.1
        have hown47 : (s.setVm T47.vm).vm.findClass "com/example/fyfo/fyfo/ShellFromWordsPinLaw" = some m.cls := by rw [show (s.setVm T47.vm).vm = T47.vm from rfl, hSq47.1.alike.findClass]; exact hown
        have hk47 := Nat.le_refl T47.heap.size
        obtain ⟨cq48, kq48, q48a, q48b, q48c⟩ := isOf hZ47 rfl x47c3
        obtain ⟨_, _, ⟨T48, L48, k48, n48⟩, -, X48, ⟨Lc48, hQ48, l48, y48, z48⟩, st48⟩ := X47b.virtualBack hx (y := (⟨"com/example/fyfo/fyfo/Runner$Shell", "command", "()Ljava/lang/String;"⟩ : MethodName)) (z := (⟨"com/example/fyfo/fyfo/Runner$Shell", "command", "()Ljava/lang/String;"⟩ : MethodName)) hown47 (mvT hZ47 (hw _ (List.mem_of_getElem? (i := 132) rfl))) (mvT hZ47 (hw _ (List.mem_of_getElem? (i := 133) rfl))) (notFace_of_selects (args := #[]) (mvT hZ47 (hw _ (List.mem_of_getElem? (i := 135) rfl)))) (mvT hZ47 (hw _ (List.mem_of_getElem? (i := 135) rfl))) (mvT hZ47 (hw _ (List.mem_of_getElem? (i := 134) rfl))) (by decide) (backOf (W := 0) (rm_cmd l Z a0 hw [] bx47 b42 T47.heap n0 Z47 x47c4) hZ47 (hw _ (List.mem_of_getElem? (i := 136) rfl)) (hw _ (List.mem_of_getElem? (i := 83) rfl)) (by decide) (by decide)) q48a q48c (g := (mkF m 144 #[.val (.int p0), .val (.int p1), .val (.int p2), .val (.int p3), .val (.int (2 : Int32)), .val (.int (p1 &&& (255 : Int32)).toUInt32.toUInt16.toUInt32.toInt32), .val (.int (p2 &&& (255 : Int32)).toUInt32.toUInt16.toUInt32.toInt32), .val (.int (p3 &&& (255 : Int32)).toUInt32.toUInt16.toUInt32.toInt32), .val (.ref b37), .val (.ref b42), .val (.ref b44), .val (.ref bx47), .unset, .unset] [(.ref bx47)])) rfl (by rw [hml]; rfl) (Steps.refl _) (argsL := []) (rest := []) (lenOf pd_21 rfl) rfl (by show 2 * 0 + _ ≤ _; exact Nat.le_of_eq rfl) (hb hby at_144) (fun _ _ => ⟨rfl, rfl, (by decide : 8 + 0 ≤ _), (by decide : 54 + 0 ≤ _)⟩)
        dsimp only [Pt.U, Pt.locs, Pt.cells, Pt.slots] at X48 l48 y48 z48 st48 hQ48
        subst l48 y48 z48
        obtain ⟨rfl, N48q, e48⟩ := hQ48
        have N48 := Fr.app N47 N48q
        obtain ⟨cq49, kq49, q49a, q49b, q49c⟩ := isOf hZ47 e48 A42_47
        obtain ⟨_, _, ⟨T49, L49, k49, n49⟩, -, X49, ⟨Lc49, hQ49, l49, y49, z49⟩, st49⟩ := X48.virtualBack hx (y := (⟨"java/lang/String", "length", "()I"⟩ : MethodName)) (z := (⟨"java/lang/String", "length", "()I"⟩ : MethodName)) hown47 (mvT hZ47 (hw _ (List.mem_of_getElem? (i := 137) rfl))) (mvT hZ47 (hw _ (List.mem_of_getElem? (i := 138) rfl))) (notFace_of_selects (args := #[]) (mvT hZ47 (hw _ (List.mem_of_getElem? (i := 140) rfl)))) (mvT hZ47 (hw _ (List.mem_of_getElem? (i := 140) rfl))) (mvT hZ47 (hw _ (List.mem_of_getElem? (i := 139) rfl))) (by decide) (backOf (W := 0) (rm_len l Z a0 hw [] b42 zc x43c3 x43c4 (2 : Int32) [(.int ((nar .char (p1 &&& (255 : Int32)).toUInt32.toUInt16.toUInt32.toInt32)).toInt8.toInt32), (.int ((nar .char (p2 &&& (255 : Int32)).toUInt32.toUInt16.toUInt32.toInt32)).toInt8.toInt32)] T47.heap n0 Z47 x43c2_47 Sh_CS_47 P5 x43c8_47 VB43_47 A42_47) hZ47 (hw _ (List.mem_of_getElem? (i := 141) rfl)) (hw _ (List.mem_of_getElem? (i := 3) rfl)) (by decide) (by decide)) q49a q49c (g := (mkF m 156 #[.val (.int p0), .val (.int p1), .val (.int p2), .val (.int p3), .val (.int (2 : Int32)), .val (.int (p1 &&& (255 : Int32)).toUInt32.toUInt16.toUInt32.toInt32), .val (.int (p2 &&& (255 : Int32)).toUInt32.toUInt16.toUInt32.toInt32), .val (.int (p3 &&& (255 : Int32)).toUInt32.toUInt16.toUInt32.toInt32), .val (.ref b37), .val (.ref b42), .val (.ref b44), .val (.ref bx47), .val (.ref b42), .unset] [(.ref b42)])) rfl (by rw [hml]; rfl) (Steps.refl _) (argsL := []) (rest := []) (lenOf pd_13 rfl) rfl (by show 2 * 0 + _ ≤ _; exact Nat.le_of_eq rfl) (hb hby at_156) (fun _ _ => ⟨rfl, e48, (by decide : 8 + 0 ≤ _), (by decide : 54 + 0 ≤ _)⟩)
        dsimp only [Pt.U, Pt.locs, Pt.cells, Pt.slots] at X49 l49 y49 z49 st49 hQ49
        subst l49 y49 z49
        obtain ⟨rfl, N49q, e49⟩ := hQ49
        have N49 := Fr.app N48 N49q
        obtain ⟨cq50, kq50, q50a, q50b, q50c⟩ := isOf hZ47 e49 A42_47
        obtain ⟨_, _, ⟨T50, L50, k50, n50⟩, -, X50, ⟨Lc50, hQ50, l50, y50, z50⟩, st50⟩ := X49.virtualBack hx (y := (⟨"java/lang/String", "charAt", "(I)C"⟩ : MethodName)) (z := (⟨"java/lang/String", "charAt", "(I)C"⟩ : MethodName)) hown47 (mvT hZ47 (hw _ (List.mem_of_getElem? (i := 215) rfl))) (mvT hZ47 (hw _ (List.mem_of_getElem? (i := 216) rfl))) (notFace_of_selects (args := #[]) (mvT hZ47 (hw _ (List.mem_of_getElem? (i := 218) rfl)))) (mvT hZ47 (hw _ (List.mem_of_getElem? (i := 218) rfl))) (mvT hZ47 (hw _ (List.mem_of_getElem? (i := 217) rfl))) (by decide) (backOf (W := 0) (rm_cat l Z a0 hw [] b42 (0 : Int32) zc x43c3 x43c4 (2 : Int32) [(.int ((nar .char (p1 &&& (255 : Int32)).toUInt32.toUInt16.toUInt32.toInt32)).toInt8.toInt32), (.int ((nar .char (p2 &&& (255 : Int32)).toUInt32.toUInt16.toUInt32.toInt32)).toInt8.toInt32)] ((nar .char (p1 &&& (255 : Int32)).toUInt32.toUInt16.toUInt32.toInt32)).toInt8.toInt32 GFx T47.heap n0 Z47 x43c2_47 Sh_CS_47 P5 x43c8_47 VB43_47 A42_47 Sh_F_47 rG3 (by decide) (by decide) rfl) hZ47 (hw _ (List.mem_of_getElem? (i := 219) rfl)) (hw _ (List.mem_of_getElem? (i := 3) rfl)) (by decide) (by decide)) q50a q50c (g := (mkF m 175 #[.val (.int p0), .val (.int p1), .val (.int p2), .val (.int p3), .val (.int (2 : Int32)), .val (.int (p1 &&& (255 : Int32)).toUInt32.toUInt16.toUInt32.toInt32), .val (.int (p2 &&& (255 : Int32)).toUInt32.toUInt16.toUInt32.toInt32), .val (.int (p3 &&& (255 : Int32)).toUInt32.toUInt16.toUInt32.toInt32), .val (.ref b37), .val (.ref b42), .val (.ref b44), .val (.ref bx47), .val (.ref b42), .unset] [(.int (0 : Int32)), (.ref b42)])) rfl (by rw [hml]; rfl) (Steps.refl _) (argsL := [(.int (0 : Int32))]) (rest := []) (lenOf pd_23 rfl) rfl (by show 2 * 0 + _ ≤ _; exact Nat.le_of_eq rfl) (hb hby at_175) (fun _ _ => ⟨rfl, e49, (by decide : 8 + 0 ≤ _), (by decide : 54 + 0 ≤ _)⟩)
        dsimp only [Pt.U, Pt.locs, Pt.cells, Pt.slots] at X50 l50 y50 z50 st50 hQ50
        subst l50 y50 z50
        obtain ⟨rfl, N50q, e50⟩ := hQ50
        have N50 := Fr.app N49 N50q
        obtain ⟨cq51, kq51, q51a, q51b, q51c⟩ := isOf hZ47 e50 A42_47
        obtain ⟨_, _, ⟨T51, L51, k51, n51⟩, -, X51, ⟨Lc51, hQ51, l51, y51, z51⟩, st51⟩ := X50.virtualBack hx (y := (⟨"java/lang/String", "charAt", "(I)C"⟩ : MethodName)) (z := (⟨"java/lang/String", "charAt", "(I)C"⟩ : MethodName)) hown47 (mvT hZ47 (hw _ (List.mem_of_getElem? (i := 215) rfl))) (mvT hZ47 (hw _ (List.mem_of_getElem? (i := 216) rfl))) (notFace_of_selects (args := #[]) (mvT hZ47 (hw _ (List.mem_of_getElem? (i := 218) rfl)))) (mvT hZ47 (hw _ (List.mem_of_getElem? (i := 218) rfl))) (mvT hZ47 (hw _ (List.mem_of_getElem? (i := 217) rfl))) (by decide) (backOf (W := 0) (rm_cat l Z a0 hw [] b42 (1 : Int32) zc x43c3 x43c4 (2 : Int32) [(.int ((nar .char (p1 &&& (255 : Int32)).toUInt32.toUInt16.toUInt32.toInt32)).toInt8.toInt32), (.int ((nar .char (p2 &&& (255 : Int32)).toUInt32.toUInt16.toUInt32.toInt32)).toInt8.toInt32)] ((nar .char (p2 &&& (255 : Int32)).toUInt32.toUInt16.toUInt32.toInt32)).toInt8.toInt32 GFx T47.heap n0 Z47 x43c2_47 Sh_CS_47 P5 x43c8_47 VB43_47 A42_47 Sh_F_47 rG3 (by decide) (by decide) rfl) hZ47 (hw _ (List.mem_of_getElem? (i := 219) rfl)) (hw _ (List.mem_of_getElem? (i := 3) rfl)) (by decide) (by decide)) q51a q51c (g := (mkF m 194 #[.val (.int p0), .val (.int p1), .val (.int p2), .val (.int p3), .val (.int (2 : Int32)), .val (.int (p1 &&& (255 : Int32)).toUInt32.toUInt16.toUInt32.toInt32), .val (.int (p2 &&& (255 : Int32)).toUInt32.toUInt16.toUInt32.toInt32), .val (.int (p3 &&& (255 : Int32)).toUInt32.toUInt16.toUInt32.toInt32), .val (.ref b37), .val (.ref b42), .val (.ref b44), .val (.ref bx47), .val (.ref b42), .unset] [(.int (1 : Int32)), (.ref b42)])) rfl (by rw [hml]; rfl) (Steps.refl _) (argsL := [(.int (1 : Int32))]) (rest := []) (lenOf pd_23 rfl) rfl (by show 2 * 0 + _ ≤ _; exact Nat.le_of_eq rfl) (hb hby at_194) (fun _ _ => ⟨rfl, e50, (by decide : 8 + 0 ≤ _), (by decide : 54 + 0 ≤ _)⟩)
        dsimp only [Pt.U, Pt.locs, Pt.cells, Pt.slots] at X51 l51 y51 z51 st51 hQ51
        subst l51 y51 z51
        obtain ⟨rfl, N51q, e51⟩ := hQ51
        have N51 := Fr.app N50 N51q
        obtain ⟨cq52, kq52, q52a, q52b, q52c⟩ := isOf hZ47 e51 x47c3
        obtain ⟨_, _, ⟨T52, L52, k52, n52⟩, -, X52, ⟨Lc52, hQ52, l52, y52, z52⟩, st52⟩ := X51.virtualBack hx (y := (⟨"com/example/fyfo/fyfo/Runner$Shell", "words", "()Ljava/util/List;"⟩ : MethodName)) (z := (⟨"com/example/fyfo/fyfo/Runner$Shell", "words", "()Ljava/util/List;"⟩ : MethodName)) hown47 (mvT hZ47 (hw _ (List.mem_of_getElem? (i := 148) rfl))) (mvT hZ47 (hw _ (List.mem_of_getElem? (i := 149) rfl))) (notFace_of_selects (args := #[]) (mvT hZ47 (hw _ (List.mem_of_getElem? (i := 151) rfl)))) (mvT hZ47 (hw _ (List.mem_of_getElem? (i := 151) rfl))) (mvT hZ47 (hw _ (List.mem_of_getElem? (i := 150) rfl))) (by decide) (backOf (W := 0) (rm_words l Z a0 hw [] bx47 b42 w_E T47.heap n0 Z47 x47c4 Sh_E_47) hZ47 (hw _ (List.mem_of_getElem? (i := 152) rfl)) (hw _ (List.mem_of_getElem? (i := 83) rfl)) (by decide) (by decide)) q52a q52c (g := (mkF m 225 #[.val (.int p0), .val (.int p1), .val (.int p2), .val (.int p3), .val (.int (2 : Int32)), .val (.int (p1 &&& (255 : Int32)).toUInt32.toUInt16.toUInt32.toInt32), .val (.int (p2 &&& (255 : Int32)).toUInt32.toUInt16.toUInt32.toInt32), .val (.int (p3 &&& (255 : Int32)).toUInt32.toUInt16.toUInt32.toInt32), .val (.ref b37), .val (.ref b42), .val (.ref b44), .val (.ref bx47), .val (.ref b42), .unset] [(.ref bx47)])) rfl (by rw [hml]; rfl) (Steps.refl _) (argsL := []) (rest := []) (lenOf pd_22 rfl) rfl (by show 2 * 0 + _ ≤ _; exact Nat.le_of_eq rfl) (hb hby at_225) (fun _ _ => ⟨rfl, e51, (by decide : 8 + 1 ≤ _), (by decide : 54 + 2 ≤ _)⟩)
        dsimp only [Pt.U, Pt.locs, Pt.cells, Pt.slots] at X52 l52 y52 z52 st52 hQ52
        subst l52 y52 z52
        obtain ⟨bx52, rfl, N52q, x52c0, x52c1, x52c2, x52c3, x52c4, x52c5⟩ := hQ52
        have N52 := Fr.app N51 N52q
        have ne_w_D_bx52 : w_D ≠ bx52 := Nat.ne_of_lt (Nat.lt_of_lt_of_le VD_47.lt x52c2)
        have ne_b37_bx52 : b37 ≠ bx52 := Nat.ne_of_lt (Nat.lt_of_lt_of_le V41_47.lt x52c2)
        have ne_b42_bx52 : b42 ≠ bx52 := Nat.ne_of_lt (Nat.lt_of_lt_of_le A42_47.lt x52c2)
        have ne_x43c3_bx52 : x43c3 ≠ bx52 := Nat.ne_of_lt (Nat.lt_of_lt_of_le VB43_47.lt x52c2)
        have ne_b44_bx52 : b44 ≠ bx52 := Nat.ne_of_lt (Nat.lt_of_lt_of_le A44_47.lt x52c2)
        have ne_ab46_bx52 : ab46 ≠ bx52 := Nat.ne_of_lt (Nat.lt_of_lt_of_le aV46_47.lt x52c2)
        have ne_bx47_bx52 : bx47 ≠ bx52 := Nat.ne_of_lt (Nat.lt_of_lt_of_le x47c3.lt x52c2)
        have X00_52 : Old Z n0 T52.heap := X00_47.keep x52c0 all0
        have VD_52 : Arv Z T52.heap w_D kd (.object "java/lang/Object") (0 : Int32) [] .null := VD_47.keep x52c0 nin0
        have V41_52 : Arv Z T52.heap b37 k37 .char (2 : Int32) [(.int (nar .char (p1 &&& (255 : Int32)).toUInt32.toUInt16.toUInt32.toInt32)), (.int (nar .char (p2 &&& (255 : Int32)).toUInt32.toUInt16.toUInt32.toInt32))] (.int (0 : Int32)) := V41_47.keep x52c0 nin0
        have A42_52 : Exa Z T52.heap b42 "java/lang/String" := A42_47.keep x52c0
        have x43c2_52 : Fld Z T52.heap b42 "java/lang/String" "coder" "B" (.int (0 : Int32)) := x43c2_47.keep x52c0 nin0
        have x43c8_52 : Fld Z T52.heap b42 "java/lang/String" "value" "[B" (.ref x43c3) := x43c8_47.keep x52c0 nin0
        have VB43_52 : Arv Z T52.heap x43c3 x43c4 .byte (2 : Int32) [(.int ((nar .char (p1 &&& (255 : Int32)).toUInt32.toUInt16.toUInt32.toInt32)).toInt8.toInt32), (.int ((nar .char (p2 &&& (255 : Int32)).toUInt32.toUInt16.toUInt32.toInt32)).toInt8.toInt32)] (.int (0 : Int32)) := VB43_47.keep x52c0 nin0
        have A44_52 : Exa Z T52.heap b44 "java/util/ArrayList" := A44_47.keep x52c0
        have x46c1_52 : Fld Z T52.heap b44 "java/util/ArrayList" "size" "I" (.int (1 : Int32)) := x46c1_47.keep x52c0 nin0
        have aF46_52 : Fld Z T52.heap b44 "java/util/ArrayList" "elementData" "[Ljava/lang/Object;" (.ref ab46) := aF46_47.keep x52c0 nin0
        have aV46_52 : Arv Z T52.heap ab46 ak46 (.object "java/lang/Object") (10 : Int32) [(.ref b42), .null, .null, .null, .null, .null, .null, .null, .null, .null] .null := aV46_47.keep x52c0 nin0
        have x47c3_52 : Exa Z T52.heap bx47 "com/example/fyfo/fyfo/Runner$Shell" := x47c3.keep x52c0
        have x47c4_52 : Fld Z T52.heap bx47 "com/example/fyfo/fyfo/Runner$Shell" "command" "Ljava/lang/String;" (.ref b42) := x47c4.keep x52c0 nin0
        have Sh_CS_52 : Sta Z T52.heap "java/lang/String" "COMPACT_STRINGS" "Z" (.int zc) := S_CS.ext X00_52.2
        have Sh_D_52 : Sta Z T52.heap "java/util/ArrayList" "DEFAULTCAPACITY_EMPTY_ELEMENTDATA" "[Ljava/lang/Object;" (.ref w_D) := S_D.ext X00_52.2
        have Sh_E_52 : Sta Z T52.heap "java/util/ImmutableCollections" "EMPTY" "Ljava/lang/Object;" (.ref w_E) := S_E.ext X00_52.2
        have Sh_F_52 : Sta Z T52.heap "jdk/internal/util/Preconditions" "SIOOBE_FORMATTER" "Ljava/util/function/BiFunction;" GFx := S_F.ext X00_52.2
        have hk52' : _ ≤ T52.heap.size := Nat.le_trans hk47 x52c0.1
        have Z52 : n0 ≤ T52.heap.size := Nat.le_trans Z47 x52c0.1
        obtain ⟨cq53, kq53, q53a, q53b, q53c⟩ := isOf hZ47 rfl A42_52
        obtain ⟨_, _, ⟨T53, L53, k53, n53⟩, -, X53, ⟨Lc53, hQ53, l53, y53, z53⟩, st53⟩ := X52.virtualBack hx (y := (⟨"java/lang/String", "equals", "(Ljava/lang/Object;)Z"⟩ : MethodName)) (z := (⟨"java/lang/String", "equals", "(Ljava/lang/Object;)Z"⟩ : MethodName)) hown47 (mvT hZ47 (hw _ (List.mem_of_getElem? (i := 187) rfl))) (mvT hZ47 (hw _ (List.mem_of_getElem? (i := 188) rfl))) (notFace_of_selects (args := #[]) (mvT hZ47 (hw _ (List.mem_of_getElem? (i := 190) rfl)))) (mvT hZ47 (hw _ (List.mem_of_getElem? (i := 190) rfl))) (mvT hZ47 (hw _ (List.mem_of_getElem? (i := 189) rfl))) (by decide) (backOf (W := 0) (rm_eq l Z a0 hw [] b42 b42 T52.heap n0 Z52 rfl) hZ47 (hw _ (List.mem_of_getElem? (i := 191) rfl)) (hw _ (List.mem_of_getElem? (i := 3) rfl)) (by decide) (by decide)) q53a q53c (g := (mkF m 234 #[.val (.int p0), .val (.int p1), .val (.int p2), .val (.int p3), .val (.int (2 : Int32)), .val (.int (p1 &&& (255 : Int32)).toUInt32.toUInt16.toUInt32.toInt32), .val (.int (p2 &&& (255 : Int32)).toUInt32.toUInt16.toUInt32.toInt32), .val (.int (p3 &&& (255 : Int32)).toUInt32.toUInt16.toUInt32.toInt32), .val (.ref b37), .val (.ref b42), .val (.ref b44), .val (.ref bx47), .val (.ref b42), .val (.ref bx52)] [(.ref b42), (.ref b42)])) rfl (by rw [hml]; rfl) (Steps.refl _) (argsL := [(.ref b42)]) (rest := []) (lenOf pd_19 rfl) rfl (by show 2 * 0 + _ ≤ _; exact Nat.le_of_eq rfl) (hb hby at_234) (fun _ _ => ⟨rfl, rfl, (by decide : 9 + 0 ≤ _), (by decide : 56 + 0 ≤ _)⟩)
        dsimp only [Pt.U, Pt.locs, Pt.cells, Pt.slots] at X53 l53 y53 z53 st53 hQ53
        subst l53 y53 z53
        obtain ⟨rfl, N53q, e53⟩ := hQ53
        have N53 := Fr.app N52 N53q
        obtain ⟨cq54, kq54, q54a, q54b, q54c⟩ := isOf hZ47 e53 x52c3
        obtain ⟨_, _, ⟨T54, L54, k54, n54⟩, -, X54, ⟨Lc54, hQ54, l54, y54, z54⟩, st54⟩ := X53.interfaceBack hx (xi := (⟨"java/util/List", "size", "()I"⟩ : MethodName)) (y := (⟨"java/util/ImmutableCollections$List12", "size", "()I"⟩ : MethodName)) hown47 (mvT hZ47 (hw _ (List.mem_of_getElem? (i := 192) rfl))) (mvT hZ47 (hw _ (List.mem_of_getElem? (i := 86) rfl))) (mvT hZ47 (hw _ (List.mem_of_getElem? (i := 87) rfl))) (mvT hZ47 (hw _ (List.mem_of_getElem? (i := 193) rfl))) (mvT hZ47 (hw _ (List.mem_of_getElem? (i := 194) rfl))) (mvT hZ47 (hw _ (List.mem_of_getElem? (i := 195) rfl))) (mvT hZ47 (hw _ (List.mem_of_getElem? (i := 196) rfl))) (mvT hZ47 (hw _ (List.mem_of_getElem? (i := 197) rfl))) (by decide) (backOf (W := 0) (rm_l12s l Z a0 hw [] bx52 w_E T52.heap n0 Z52 x52c5 Sh_E_52) hZ47 (hw _ (List.mem_of_getElem? (i := 198) rfl)) (hw _ (List.mem_of_getElem? (i := 159) rfl)) (by decide) (by decide)) q54a q54b q54c (g := (mkF m 242 #[.val (.int p0), .val (.int p1), .val (.int p2), .val (.int p3), .val (.int (2 : Int32)), .val (.int (p1 &&& (255 : Int32)).toUInt32.toUInt16.toUInt32.toInt32), .val (.int (p2 &&& (255 : Int32)).toUInt32.toUInt16.toUInt32.toInt32), .val (.int (p3 &&& (255 : Int32)).toUInt32.toUInt16.toUInt32.toInt32), .val (.ref b37), .val (.ref b42), .val (.ref b44), .val (.ref bx47), .val (.ref b42), .val (.ref bx52)] [(.ref bx52)])) rfl (by rw [hml]; rfl) (Steps.refl _) (argsL := []) (rest := []) (lenOf pd_13 rfl) rfl (by show 2 * 0 + _ ≤ _; exact Nat.le_of_eq rfl) (hb hby at_242) (fun _ _ => ⟨rfl, e53, (by decide : 9 + 0 ≤ _), (by decide : 56 + 0 ≤ _)⟩)
        dsimp only [Pt.U, Pt.locs, Pt.cells, Pt.slots] at X54 l54 y54 z54 st54 hQ54
        subst l54 y54 z54
        obtain ⟨rfl, N54q, e54⟩ := hQ54
        have N54 := Fr.app N53 N54q
        obtain ⟨cq55, kq55, q55a, q55b, q55c⟩ := isOf hZ47 e54 x52c3
        obtain ⟨_, _, ⟨T55, L55, k55, n55⟩, -, X55, ⟨Lc55, hQ55, l55, y55, z55⟩, st55⟩ := X54.interfaceBack hx (xi := (⟨"java/util/List", "get", "(I)Ljava/lang/Object;"⟩ : MethodName)) (y := (⟨"java/util/ImmutableCollections$List12", "get", "(I)Ljava/lang/Object;"⟩ : MethodName)) hown47 (mvT hZ47 (hw _ (List.mem_of_getElem? (i := 199) rfl))) (mvT hZ47 (hw _ (List.mem_of_getElem? (i := 96) rfl))) (mvT hZ47 (hw _ (List.mem_of_getElem? (i := 97) rfl))) (mvT hZ47 (hw _ (List.mem_of_getElem? (i := 200) rfl))) (mvT hZ47 (hw _ (List.mem_of_getElem? (i := 201) rfl))) (mvT hZ47 (hw _ (List.mem_of_getElem? (i := 202) rfl))) (mvT hZ47 (hw _ (List.mem_of_getElem? (i := 203) rfl))) (mvT hZ47 (hw _ (List.mem_of_getElem? (i := 197) rfl))) (by decide) (backOf (W := 0) (rm_l12g l Z a0 hw [] bx52 (0 : Int32) b42 T52.heap n0 Z52 x52c4 rfl) hZ47 (hw _ (List.mem_of_getElem? (i := 204) rfl)) (hw _ (List.mem_of_getElem? (i := 159) rfl)) (by decide) (by decide)) q55a q55b q55c (g := (mkF m 254 #[.val (.int p0), .val (.int p1), .val (.int p2), .val (.int p3), .val (.int (2 : Int32)), .val (.int (p1 &&& (255 : Int32)).toUInt32.toUInt16.toUInt32.toInt32), .val (.int (p2 &&& (255 : Int32)).toUInt32.toUInt16.toUInt32.toInt32), .val (.int (p3 &&& (255 : Int32)).toUInt32.toUInt16.toUInt32.toInt32), .val (.ref b37), .val (.ref b42), .val (.ref b44), .val (.ref bx47), .val (.ref b42), .val (.ref bx52)] [(.int (0 : Int32)), (.ref bx52)])) rfl (by rw [hml]; rfl) (Steps.refl _) (argsL := [(.int (0 : Int32))]) (rest := []) (lenOf pd_11 rfl) rfl (by show 2 * 0 + _ ≤ _; exact Nat.le_of_eq rfl) (hb hby at_254) (fun _ _ => ⟨rfl, e54, (by decide : 9 + 0 ≤ _), (by decide : 56 + 0 ≤ _)⟩)
        dsimp only [Pt.U, Pt.locs, Pt.cells, Pt.slots] at X55 l55 y55 z55 st55 hQ55
        subst l55 y55 z55
        obtain ⟨rfl, N55q, e55⟩ := hQ55
        have N55 := Fr.app N54 N55q
        obtain ⟨T56, X56, e56, st56⟩ := castY X55 hx hZ47 hown47 (hw _ (List.mem_of_getElem? (i := 1) rfl)) e55 (Ins.self A42_52) (g := (mkF m 259 #[.val (.int p0), .val (.int p1), .val (.int p2), .val (.int p3), .val (.int (2 : Int32)), .val (.int (p1 &&& (255 : Int32)).toUInt32.toUInt16.toUInt32.toInt32), .val (.int (p2 &&& (255 : Int32)).toUInt32.toUInt16.toUInt32.toInt32), .val (.int (p3 &&& (255 : Int32)).toUInt32.toUInt16.toUInt32.toInt32), .val (.ref b37), .val (.ref b42), .val (.ref b44), .val (.ref bx47), .val (.ref b42), .val (.ref bx52)] [(.ref b42)])) rfl rfl (hb hby at_259)
        obtain ⟨cq57, kq57, q57a, q57b, q57c⟩ := isOf hZ47 e56 A42_52
        obtain ⟨_, _, ⟨T57, L57, k57, n57⟩, -, X57, ⟨Lc57, hQ57, l57, y57, z57⟩, st57⟩ := X56.virtualBack hx (y := (⟨"java/lang/String", "equals", "(Ljava/lang/Object;)Z"⟩ : MethodName)) (z := (⟨"java/lang/String", "equals", "(Ljava/lang/Object;)Z"⟩ : MethodName)) hown47 (mvT hZ47 (hw _ (List.mem_of_getElem? (i := 187) rfl))) (mvT hZ47 (hw _ (List.mem_of_getElem? (i := 188) rfl))) (notFace_of_selects (args := #[]) (mvT hZ47 (hw _ (List.mem_of_getElem? (i := 190) rfl)))) (mvT hZ47 (hw _ (List.mem_of_getElem? (i := 190) rfl))) (mvT hZ47 (hw _ (List.mem_of_getElem? (i := 189) rfl))) (by decide) (backOf (W := 0) (rm_eq l Z a0 hw [] b42 b42 T52.heap n0 Z52 rfl) hZ47 (hw _ (List.mem_of_getElem? (i := 191) rfl)) (hw _ (List.mem_of_getElem? (i := 3) rfl)) (by decide) (by decide)) q57a q57c (g := (mkF m 264 #[.val (.int p0), .val (.int p1), .val (.int p2), .val (.int p3), .val (.int (2 : Int32)), .val (.int (p1 &&& (255 : Int32)).toUInt32.toUInt16.toUInt32.toInt32), .val (.int (p2 &&& (255 : Int32)).toUInt32.toUInt16.toUInt32.toInt32), .val (.int (p3 &&& (255 : Int32)).toUInt32.toUInt16.toUInt32.toInt32), .val (.ref b37), .val (.ref b42), .val (.ref b44), .val (.ref bx47), .val (.ref b42), .val (.ref bx52)] [(.ref b42), (.ref b42)])) rfl (by rw [hml]; rfl) (Steps.refl _) (argsL := [(.ref b42)]) (rest := []) (lenOf pd_19 rfl) rfl (by show 2 * 0 + _ ≤ _; exact Nat.le_of_eq rfl) (hb hby at_264) (fun _ _ => ⟨rfl, e56, (by decide : 9 + 0 ≤ _), (by decide : 56 + 0 ≤ _)⟩)
        dsimp only [Pt.U, Pt.locs, Pt.cells, Pt.slots] at X57 l57 y57 z57 st57 hQ57
        subst l57 y57 z57
        obtain ⟨rfl, N57q, e57⟩ := hQ57
        have N57 := Fr.app N55 N57q
        obtain ⟨fs, hr, hrun, hended, hREW⟩ := X57.leaveW hS47 (by first | exact hk52' | (rw [e57]; exact hk52')) (v := some (.int (1 : Int32))) (fun h => by rw [Bd.returns] at h; cases h)
        refine ⟨_, _, pre0 _ ?_, hrun, hended, _, _, rfl, ?_, hREW.1, hREW.2.1, hREW.2.2.1, hREW.2.2.2.mono (by decide) (by decide)⟩
        · refine k36 _ ?_
          show Steps p.tables e below (s₁.setTop (mkF m 64 #[.val (.int p0), .val (.int p1), .val (.int p2), .val (.int p3), .val (.int (p0 &&& (3 : Int32))), .val (.int (p1 &&& (255 : Int32)).toUInt32.toUInt16.toUInt32.toInt32), .val (.int (p2 &&& (255 : Int32)).toUInt32.toUInt16.toUInt32.toInt32), .val (.int (p3 &&& (255 : Int32)).toUInt32.toUInt16.toUInt32.toInt32), .unset, .unset, .unset, .unset, .unset, .unset] [(.int (2 : Int32)), (.int (p0 &&& (3 : Int32)))])) _
          refine XS.icmpNo X0.here hx rfl (hb hby at_64) rfl (teq hc64).2 ?_
          show Steps p.tables e below (s₁.setTop (mkF m 67 #[.val (.int p0), .val (.int p1), .val (.int p2), .val (.int p3), .val (.int (p0 &&& (3 : Int32))), .val (.int (p1 &&& (255 : Int32)).toUInt32.toUInt16.toUInt32.toInt32), .val (.int (p2 &&& (255 : Int32)).toUInt32.toUInt16.toUInt32.toInt32), .val (.int (p3 &&& (255 : Int32)).toUInt32.toUInt16.toUInt32.toInt32), .unset, .unset, .unset, .unset, .unset, .unset] [])) _
          refine XS.iconst X0.here hx rfl (hb hby at_67) ?_
          show Steps p.tables e below (s₁.setTop (mkF m 68 #[.val (.int p0), .val (.int p1), .val (.int p2), .val (.int p3), .val (.int (p0 &&& (3 : Int32))), .val (.int (p1 &&& (255 : Int32)).toUInt32.toUInt16.toUInt32.toInt32), .val (.int (p2 &&& (255 : Int32)).toUInt32.toUInt16.toUInt32.toInt32), .val (.int (p3 &&& (255 : Int32)).toUInt32.toUInt16.toUInt32.toInt32), .unset, .unset, .unset, .unset, .unset, .unset] [(.int (2 : Int32))])) _
          refine st37 _ ?_
          show Steps p.tables e below (T37.setTop (mkF m 70 #[.val (.int p0), .val (.int p1), .val (.int p2), .val (.int p3), .val (.int (p0 &&& (3 : Int32))), .val (.int (p1 &&& (255 : Int32)).toUInt32.toUInt16.toUInt32.toInt32), .val (.int (p2 &&& (255 : Int32)).toUInt32.toUInt16.toUInt32.toInt32), .val (.int (p3 &&& (255 : Int32)).toUInt32.toUInt16.toUInt32.toInt32), .unset, .unset, .unset, .unset, .unset, .unset] [(.ref b37)])) _
          refine XS.dup X37.here hx rfl (hb hby at_70) rfl rfl ?_
          show Steps p.tables e below (T37.setTop (mkF m 71 #[.val (.int p0), .val (.int p1), .val (.int p2), .val (.int p3), .val (.int (p0 &&& (3 : Int32))), .val (.int (p1 &&& (255 : Int32)).toUInt32.toUInt16.toUInt32.toInt32), .val (.int (p2 &&& (255 : Int32)).toUInt32.toUInt16.toUInt32.toInt32), .val (.int (p3 &&& (255 : Int32)).toUInt32.toUInt16.toUInt32.toInt32), .unset, .unset, .unset, .unset, .unset, .unset] [(.ref b37), (.ref b37)])) _
          refine XS.iconst X37.here hx rfl (hb hby at_71) ?_
          show Steps p.tables e below (T37.setTop (mkF m 72 #[.val (.int p0), .val (.int p1), .val (.int p2), .val (.int p3), .val (.int (p0 &&& (3 : Int32))), .val (.int (p1 &&& (255 : Int32)).toUInt32.toUInt16.toUInt32.toInt32), .val (.int (p2 &&& (255 : Int32)).toUInt32.toUInt16.toUInt32.toInt32), .val (.int (p3 &&& (255 : Int32)).toUInt32.toUInt16.toUInt32.toInt32), .unset, .unset, .unset, .unset, .unset, .unset] [(.int (0 : Int32)), (.ref b37), (.ref b37)])) _
          refine XS.iload X37.here hx rfl (hb hby at_72) rfl ?_
          show Steps p.tables e below (T37.setTop (mkF m 74 #[.val (.int p0), .val (.int p1), .val (.int p2), .val (.int p3), .val (.int (p0 &&& (3 : Int32))), .val (.int (p1 &&& (255 : Int32)).toUInt32.toUInt16.toUInt32.toInt32), .val (.int (p2 &&& (255 : Int32)).toUInt32.toUInt16.toUInt32.toInt32), .val (.int (p3 &&& (255 : Int32)).toUInt32.toUInt16.toUInt32.toInt32), .unset, .unset, .unset, .unset, .unset, .unset] [(.int (p1 &&& (255 : Int32)).toUInt32.toUInt16.toUInt32.toInt32), (.int (0 : Int32)), (.ref b37), (.ref b37)])) _
          refine st39 _ ?_
          show Steps p.tables e below (T39.setTop (mkF m 75 #[.val (.int p0), .val (.int p1), .val (.int p2), .val (.int p3), .val (.int (p0 &&& (3 : Int32))), .val (.int (p1 &&& (255 : Int32)).toUInt32.toUInt16.toUInt32.toInt32), .val (.int (p2 &&& (255 : Int32)).toUInt32.toUInt16.toUInt32.toInt32), .val (.int (p3 &&& (255 : Int32)).toUInt32.toUInt16.toUInt32.toInt32), .unset, .unset, .unset, .unset, .unset, .unset] [(.ref b37)])) _
          refine XS.dup X39.here hx rfl (hb hby at_75) rfl rfl ?_
          show Steps p.tables e below (T39.setTop (mkF m 76 #[.val (.int p0), .val (.int p1), .val (.int p2), .val (.int p3), .val (.int (p0 &&& (3 : Int32))), .val (.int (p1 &&& (255 : Int32)).toUInt32.toUInt16.toUInt32.toInt32), .val (.int (p2 &&& (255 : Int32)).toUInt32.toUInt16.toUInt32.toInt32), .val (.int (p3 &&& (255 : Int32)).toUInt32.toUInt16.toUInt32.toInt32), .unset, .unset, .unset, .unset, .unset, .unset] [(.ref b37), (.ref b37)])) _
          refine XS.iconst X39.here hx rfl (hb hby at_76) ?_
          show Steps p.tables e below (T39.setTop (mkF m 77 #[.val (.int p0), .val (.int p1), .val (.int p2), .val (.int p3), .val (.int (p0 &&& (3 : Int32))), .val (.int (p1 &&& (255 : Int32)).toUInt32.toUInt16.toUInt32.toInt32), .val (.int (p2 &&& (255 : Int32)).toUInt32.toUInt16.toUInt32.toInt32), .val (.int (p3 &&& (255 : Int32)).toUInt32.toUInt16.toUInt32.toInt32), .unset, .unset, .unset, .unset, .unset, .unset] [(.int (1 : Int32)), (.ref b37), (.ref b37)])) _
          refine XS.iload X39.here hx rfl (hb hby at_77) rfl ?_
          show Steps p.tables e below (T39.setTop (mkF m 79 #[.val (.int p0), .val (.int p1), .val (.int p2), .val (.int p3), .val (.int (p0 &&& (3 : Int32))), .val (.int (p1 &&& (255 : Int32)).toUInt32.toUInt16.toUInt32.toInt32), .val (.int (p2 &&& (255 : Int32)).toUInt32.toUInt16.toUInt32.toInt32), .val (.int (p3 &&& (255 : Int32)).toUInt32.toUInt16.toUInt32.toInt32), .unset, .unset, .unset, .unset, .unset, .unset] [(.int (p2 &&& (255 : Int32)).toUInt32.toUInt16.toUInt32.toInt32), (.int (1 : Int32)), (.ref b37), (.ref b37)])) _
          refine st41 _ ?_
          show Steps p.tables e below (T41.setTop (mkF m 80 #[.val (.int p0), .val (.int p1), .val (.int p2), .val (.int p3), .val (.int (p0 &&& (3 : Int32))), .val (.int (p1 &&& (255 : Int32)).toUInt32.toUInt16.toUInt32.toInt32), .val (.int (p2 &&& (255 : Int32)).toUInt32.toUInt16.toUInt32.toInt32), .val (.int (p3 &&& (255 : Int32)).toUInt32.toUInt16.toUInt32.toInt32), .unset, .unset, .unset, .unset, .unset, .unset] [(.ref b37)])) _
          refine XS.astore X41.here hx rfl (hb hby at_80) rfl rfl (l' := #[.val (.int p0), .val (.int p1), .val (.int p2), .val (.int p3), .val (.int (p0 &&& (3 : Int32))), .val (.int (p1 &&& (255 : Int32)).toUInt32.toUInt16.toUInt32.toInt32), .val (.int (p2 &&& (255 : Int32)).toUInt32.toUInt16.toUInt32.toInt32), .val (.int (p3 &&& (255 : Int32)).toUInt32.toUInt16.toUInt32.toInt32), .val (.ref b37), .unset, .unset, .unset, .unset, .unset]) rfl ?_
          show Steps p.tables e below (T41.setTop (mkF m 82 #[.val (.int p0), .val (.int p1), .val (.int p2), .val (.int p3), .val (.int (p0 &&& (3 : Int32))), .val (.int (p1 &&& (255 : Int32)).toUInt32.toUInt16.toUInt32.toInt32), .val (.int (p2 &&& (255 : Int32)).toUInt32.toUInt16.toUInt32.toInt32), .val (.int (p3 &&& (255 : Int32)).toUInt32.toUInt16.toUInt32.toInt32), .val (.ref b37), .unset, .unset, .unset, .unset, .unset] [])) _
          refine XS.goto X41.here hx rfl (pc0 := 82) (pc' := 105) rfl (hb hby at_82) (by decide) (by decide) ?_
          show Steps p.tables e below (T41.setTop (mkF m 105 #[.val (.int p0), .val (.int p1), .val (.int p2), .val (.int p3), .val (.int (p0 &&& (3 : Int32))), .val (.int (p1 &&& (255 : Int32)).toUInt32.toUInt16.toUInt32.toInt32), .val (.int (p2 &&& (255 : Int32)).toUInt32.toUInt16.toUInt32.toInt32), .val (.int (p3 &&& (255 : Int32)).toUInt32.toUInt16.toUInt32.toInt32), .val (.ref b37), .unset, .unset, .unset, .unset, .unset] [])) _
          rw [hc64]
          show Steps p.tables e below (T41.setTop (mkF m 105 #[.val (.int p0), .val (.int p1), .val (.int p2), .val (.int p3), .val (.int (2 : Int32)), .val (.int (p1 &&& (255 : Int32)).toUInt32.toUInt16.toUInt32.toInt32), .val (.int (p2 &&& (255 : Int32)).toUInt32.toUInt16.toUInt32.toInt32), .val (.int (p3 &&& (255 : Int32)).toUInt32.toUInt16.toUInt32.toInt32), .val (.ref b37), .unset, .unset, .unset, .unset, .unset] [])) _
          refine st42 _ ?_
          show Steps p.tables e below (T42.setTop (mkF m 108 #[.val (.int p0), .val (.int p1), .val (.int p2), .val (.int p3), .val (.int (2 : Int32)), .val (.int (p1 &&& (255 : Int32)).toUInt32.toUInt16.toUInt32.toInt32), .val (.int (p2 &&& (255 : Int32)).toUInt32.toUInt16.toUInt32.toInt32), .val (.int (p3 &&& (255 : Int32)).toUInt32.toUInt16.toUInt32.toInt32), .val (.ref b37), .unset, .unset, .unset, .unset, .unset] [(.ref b42)])) _
          refine XS.dup X42.here hx rfl (hb hby at_108) rfl rfl ?_
          show Steps p.tables e below (T42.setTop (mkF m 109 #[.val (.int p0), .val (.int p1), .val (.int p2), .val (.int p3), .val (.int (2 : Int32)), .val (.int (p1 &&& (255 : Int32)).toUInt32.toUInt16.toUInt32.toInt32), .val (.int (p2 &&& (255 : Int32)).toUInt32.toUInt16.toUInt32.toInt32), .val (.int (p3 &&& (255 : Int32)).toUInt32.toUInt16.toUInt32.toInt32), .val (.ref b37), .unset, .unset, .unset, .unset, .unset] [(.ref b42), (.ref b42)])) _
          refine XS.aload X42.here hx rfl (hb hby at_109) rfl rfl ?_
          show Steps p.tables e below (T42.setTop (mkF m 111 #[.val (.int p0), .val (.int p1), .val (.int p2), .val (.int p3), .val (.int (2 : Int32)), .val (.int (p1 &&& (255 : Int32)).toUInt32.toUInt16.toUInt32.toInt32), .val (.int (p2 &&& (255 : Int32)).toUInt32.toUInt16.toUInt32.toInt32), .val (.int (p3 &&& (255 : Int32)).toUInt32.toUInt16.toUInt32.toInt32), .val (.ref b37), .unset, .unset, .unset, .unset, .unset] [(.ref b37), (.ref b42), (.ref b42)])) _
          refine st43.trans ?_
          show Steps p.tables e below (T43.setTop (mkF m 114 #[.val (.int p0), .val (.int p1), .val (.int p2), .val (.int p3), .val (.int (2 : Int32)), .val (.int (p1 &&& (255 : Int32)).toUInt32.toUInt16.toUInt32.toInt32), .val (.int (p2 &&& (255 : Int32)).toUInt32.toUInt16.toUInt32.toInt32), .val (.int (p3 &&& (255 : Int32)).toUInt32.toUInt16.toUInt32.toInt32), .val (.ref b37), .unset, .unset, .unset, .unset, .unset] [(.ref b42)])) _
          refine XS.astore X43.here hx rfl (hb hby at_114) rfl rfl (l' := #[.val (.int p0), .val (.int p1), .val (.int p2), .val (.int p3), .val (.int (2 : Int32)), .val (.int (p1 &&& (255 : Int32)).toUInt32.toUInt16.toUInt32.toInt32), .val (.int (p2 &&& (255 : Int32)).toUInt32.toUInt16.toUInt32.toInt32), .val (.int (p3 &&& (255 : Int32)).toUInt32.toUInt16.toUInt32.toInt32), .val (.ref b37), .val (.ref b42), .unset, .unset, .unset, .unset]) rfl ?_
          show Steps p.tables e below (T43.setTop (mkF m 116 #[.val (.int p0), .val (.int p1), .val (.int p2), .val (.int p3), .val (.int (2 : Int32)), .val (.int (p1 &&& (255 : Int32)).toUInt32.toUInt16.toUInt32.toInt32), .val (.int (p2 &&& (255 : Int32)).toUInt32.toUInt16.toUInt32.toInt32), .val (.int (p3 &&& (255 : Int32)).toUInt32.toUInt16.toUInt32.toInt32), .val (.ref b37), .val (.ref b42), .unset, .unset, .unset, .unset] [])) _
          refine st44 _ ?_
          show Steps p.tables e below (T44.setTop (mkF m 119 #[.val (.int p0), .val (.int p1), .val (.int p2), .val (.int p3), .val (.int (2 : Int32)), .val (.int (p1 &&& (255 : Int32)).toUInt32.toUInt16.toUInt32.toInt32), .val (.int (p2 &&& (255 : Int32)).toUInt32.toUInt16.toUInt32.toInt32), .val (.int (p3 &&& (255 : Int32)).toUInt32.toUInt16.toUInt32.toInt32), .val (.ref b37), .val (.ref b42), .unset, .unset, .unset, .unset] [(.ref b44)])) _
          refine XS.dup X44.here hx rfl (hb hby at_119) rfl rfl ?_
          show Steps p.tables e below (T44.setTop (mkF m 120 #[.val (.int p0), .val (.int p1), .val (.int p2), .val (.int p3), .val (.int (2 : Int32)), .val (.int (p1 &&& (255 : Int32)).toUInt32.toUInt16.toUInt32.toInt32), .val (.int (p2 &&& (255 : Int32)).toUInt32.toUInt16.toUInt32.toInt32), .val (.int (p3 &&& (255 : Int32)).toUInt32.toUInt16.toUInt32.toInt32), .val (.ref b37), .val (.ref b42), .unset, .unset, .unset, .unset] [(.ref b44), (.ref b44)])) _
          refine st45.trans ?_
          show Steps p.tables e below (T45.setTop (mkF m 123 #[.val (.int p0), .val (.int p1), .val (.int p2), .val (.int p3), .val (.int (2 : Int32)), .val (.int (p1 &&& (255 : Int32)).toUInt32.toUInt16.toUInt32.toInt32), .val (.int (p2 &&& (255 : Int32)).toUInt32.toUInt16.toUInt32.toInt32), .val (.int (p3 &&& (255 : Int32)).toUInt32.toUInt16.toUInt32.toInt32), .val (.ref b37), .val (.ref b42), .unset, .unset, .unset, .unset] [(.ref b44)])) _
          refine XS.astore X45.here hx rfl (hb hby at_123) rfl rfl (l' := #[.val (.int p0), .val (.int p1), .val (.int p2), .val (.int p3), .val (.int (2 : Int32)), .val (.int (p1 &&& (255 : Int32)).toUInt32.toUInt16.toUInt32.toInt32), .val (.int (p2 &&& (255 : Int32)).toUInt32.toUInt16.toUInt32.toInt32), .val (.int (p3 &&& (255 : Int32)).toUInt32.toUInt16.toUInt32.toInt32), .val (.ref b37), .val (.ref b42), .val (.ref b44), .unset, .unset, .unset]) rfl ?_
          show Steps p.tables e below (T45.setTop (mkF m 125 #[.val (.int p0), .val (.int p1), .val (.int p2), .val (.int p3), .val (.int (2 : Int32)), .val (.int (p1 &&& (255 : Int32)).toUInt32.toUInt16.toUInt32.toInt32), .val (.int (p2 &&& (255 : Int32)).toUInt32.toUInt16.toUInt32.toInt32), .val (.int (p3 &&& (255 : Int32)).toUInt32.toUInt16.toUInt32.toInt32), .val (.ref b37), .val (.ref b42), .val (.ref b44), .unset, .unset, .unset] [])) _
          refine XS.aload X45.here hx rfl (hb hby at_125) rfl rfl ?_
          show Steps p.tables e below (T45.setTop (mkF m 127 #[.val (.int p0), .val (.int p1), .val (.int p2), .val (.int p3), .val (.int (2 : Int32)), .val (.int (p1 &&& (255 : Int32)).toUInt32.toUInt16.toUInt32.toInt32), .val (.int (p2 &&& (255 : Int32)).toUInt32.toUInt16.toUInt32.toInt32), .val (.int (p3 &&& (255 : Int32)).toUInt32.toUInt16.toUInt32.toInt32), .val (.ref b37), .val (.ref b42), .val (.ref b44), .unset, .unset, .unset] [(.ref b44)])) _
          refine XS.aload X45.here hx rfl (hb hby at_127) rfl rfl ?_
          show Steps p.tables e below (T45.setTop (mkF m 129 #[.val (.int p0), .val (.int p1), .val (.int p2), .val (.int p3), .val (.int (2 : Int32)), .val (.int (p1 &&& (255 : Int32)).toUInt32.toUInt16.toUInt32.toInt32), .val (.int (p2 &&& (255 : Int32)).toUInt32.toUInt16.toUInt32.toInt32), .val (.int (p3 &&& (255 : Int32)).toUInt32.toUInt16.toUInt32.toInt32), .val (.ref b37), .val (.ref b42), .val (.ref b44), .unset, .unset, .unset] [(.ref b42), (.ref b44)])) _
          refine st46.trans ?_
          show Steps p.tables e below (T46.setTop (mkF m 134 #[.val (.int p0), .val (.int p1), .val (.int p2), .val (.int p3), .val (.int (2 : Int32)), .val (.int (p1 &&& (255 : Int32)).toUInt32.toUInt16.toUInt32.toInt32), .val (.int (p2 &&& (255 : Int32)).toUInt32.toUInt16.toUInt32.toInt32), .val (.int (p3 &&& (255 : Int32)).toUInt32.toUInt16.toUInt32.toInt32), .val (.ref b37), .val (.ref b42), .val (.ref b44), .unset, .unset, .unset] [(.int (1 : Int32))])) _
          refine XS.pop X46.here hx rfl (hb hby at_134) rfl rfl ?_
          show Steps p.tables e below (T46.setTop (mkF m 135 #[.val (.int p0), .val (.int p1), .val (.int p2), .val (.int p3), .val (.int (2 : Int32)), .val (.int (p1 &&& (255 : Int32)).toUInt32.toUInt16.toUInt32.toInt32), .val (.int (p2 &&& (255 : Int32)).toUInt32.toUInt16.toUInt32.toInt32), .val (.int (p3 &&& (255 : Int32)).toUInt32.toUInt16.toUInt32.toInt32), .val (.ref b37), .val (.ref b42), .val (.ref b44), .unset, .unset, .unset] [])) _
          refine XS.aload X46.here hx rfl (hb hby at_135) rfl rfl ?_
          show Steps p.tables e below (T46.setTop (mkF m 137 #[.val (.int p0), .val (.int p1), .val (.int p2), .val (.int p3), .val (.int (2 : Int32)), .val (.int (p1 &&& (255 : Int32)).toUInt32.toUInt16.toUInt32.toInt32), .val (.int (p2 &&& (255 : Int32)).toUInt32.toUInt16.toUInt32.toInt32), .val (.int (p3 &&& (255 : Int32)).toUInt32.toUInt16.toUInt32.toInt32), .val (.ref b37), .val (.ref b42), .val (.ref b44), .unset, .unset, .unset] [(.ref b44)])) _
          refine st47.trans ?_
          show Steps p.tables e below (T47.setTop (mkF m 140 #[.val (.int p0), .val (.int p1), .val (.int p2), .val (.int p3), .val (.int (2 : Int32)), .val (.int (p1 &&& (255 : Int32)).toUInt32.toUInt16.toUInt32.toInt32), .val (.int (p2 &&& (255 : Int32)).toUInt32.toUInt16.toUInt32.toInt32), .val (.int (p3 &&& (255 : Int32)).toUInt32.toUInt16.toUInt32.toInt32), .val (.ref b37), .val (.ref b42), .val (.ref b44), .unset, .unset, .unset] [(.ref bx47)])) _
          refine XS.astore X47b.here hx rfl (hb hby at_140) rfl rfl (l' := #[.val (.int p0), .val (.int p1), .val (.int p2), .val (.int p3), .val (.int (2 : Int32)), .val (.int (p1 &&& (255 : Int32)).toUInt32.toUInt16.toUInt32.toInt32), .val (.int (p2 &&& (255 : Int32)).toUInt32.toUInt16.toUInt32.toInt32), .val (.int (p3 &&& (255 : Int32)).toUInt32.toUInt16.toUInt32.toInt32), .val (.ref b37), .val (.ref b42), .val (.ref b44), .val (.ref bx47), .unset, .unset]) rfl ?_
          show Steps p.tables e below (T47.setTop (mkF m 142 #[.val (.int p0), .val (.int p1), .val (.int p2), .val (.int p3), .val (.int (2 : Int32)), .val (.int (p1 &&& (255 : Int32)).toUInt32.toUInt16.toUInt32.toInt32), .val (.int (p2 &&& (255 : Int32)).toUInt32.toUInt16.toUInt32.toInt32), .val (.int (p3 &&& (255 : Int32)).toUInt32.toUInt16.toUInt32.toInt32), .val (.ref b37), .val (.ref b42), .val (.ref b44), .val (.ref bx47), .unset, .unset] [])) _
          refine XS.aload X47b.here hx rfl (hb hby at_142) rfl rfl ?_
          show Steps p.tables e below (T47.setTop (mkF m 144 #[.val (.int p0), .val (.int p1), .val (.int p2), .val (.int p3), .val (.int (2 : Int32)), .val (.int (p1 &&& (255 : Int32)).toUInt32.toUInt16.toUInt32.toInt32), .val (.int (p2 &&& (255 : Int32)).toUInt32.toUInt16.toUInt32.toInt32), .val (.int (p3 &&& (255 : Int32)).toUInt32.toUInt16.toUInt32.toInt32), .val (.ref b37), .val (.ref b42), .val (.ref b44), .val (.ref bx47), .unset, .unset] [(.ref bx47)])) _
          refine st48.trans ?_
          show Steps p.tables e below (T48.setTop (mkF m 147 #[.val (.int p0), .val (.int p1), .val (.int p2), .val (.int p3), .val (.int (2 : Int32)), .val (.int (p1 &&& (255 : Int32)).toUInt32.toUInt16.toUInt32.toInt32), .val (.int (p2 &&& (255 : Int32)).toUInt32.toUInt16.toUInt32.toInt32), .val (.int (p3 &&& (255 : Int32)).toUInt32.toUInt16.toUInt32.toInt32), .val (.ref b37), .val (.ref b42), .val (.ref b44), .val (.ref bx47), .unset, .unset] [(.ref b42)])) _
          refine XS.astore X48.here hx rfl (hb hby at_147) rfl rfl (l' := #[.val (.int p0), .val (.int p1), .val (.int p2), .val (.int p3), .val (.int (2 : Int32)), .val (.int (p1 &&& (255 : Int32)).toUInt32.toUInt16.toUInt32.toInt32), .val (.int (p2 &&& (255 : Int32)).toUInt32.toUInt16.toUInt32.toInt32), .val (.int (p3 &&& (255 : Int32)).toUInt32.toUInt16.toUInt32.toInt32), .val (.ref b37), .val (.ref b42), .val (.ref b44), .val (.ref bx47), .val (.ref b42), .unset]) rfl ?_
          show Steps p.tables e below (T48.setTop (mkF m 149 #[.val (.int p0), .val (.int p1), .val (.int p2), .val (.int p3), .val (.int (2 : Int32)), .val (.int (p1 &&& (255 : Int32)).toUInt32.toUInt16.toUInt32.toInt32), .val (.int (p2 &&& (255 : Int32)).toUInt32.toUInt16.toUInt32.toInt32), .val (.int (p3 &&& (255 : Int32)).toUInt32.toUInt16.toUInt32.toInt32), .val (.ref b37), .val (.ref b42), .val (.ref b44), .val (.ref bx47), .val (.ref b42), .unset] [])) _
          refine XS.aload X48.here hx rfl (hb hby at_149) rfl rfl ?_
          show Steps p.tables e below (T48.setTop (mkF m 151 #[.val (.int p0), .val (.int p1), .val (.int p2), .val (.int p3), .val (.int (2 : Int32)), .val (.int (p1 &&& (255 : Int32)).toUInt32.toUInt16.toUInt32.toInt32), .val (.int (p2 &&& (255 : Int32)).toUInt32.toUInt16.toUInt32.toInt32), .val (.int (p3 &&& (255 : Int32)).toUInt32.toUInt16.toUInt32.toInt32), .val (.ref b37), .val (.ref b42), .val (.ref b44), .val (.ref bx47), .val (.ref b42), .unset] [(.ref b42)])) _
          refine XS.ifnullNo X48.here hx rfl (hb hby at_151) rfl ?_
          show Steps p.tables e below (T48.setTop (mkF m 154 #[.val (.int p0), .val (.int p1), .val (.int p2), .val (.int p3), .val (.int (2 : Int32)), .val (.int (p1 &&& (255 : Int32)).toUInt32.toUInt16.toUInt32.toInt32), .val (.int (p2 &&& (255 : Int32)).toUInt32.toUInt16.toUInt32.toInt32), .val (.int (p3 &&& (255 : Int32)).toUInt32.toUInt16.toUInt32.toInt32), .val (.ref b37), .val (.ref b42), .val (.ref b44), .val (.ref bx47), .val (.ref b42), .unset] [])) _
          refine XS.aload X48.here hx rfl (hb hby at_154) rfl rfl ?_
          show Steps p.tables e below (T48.setTop (mkF m 156 #[.val (.int p0), .val (.int p1), .val (.int p2), .val (.int p3), .val (.int (2 : Int32)), .val (.int (p1 &&& (255 : Int32)).toUInt32.toUInt16.toUInt32.toInt32), .val (.int (p2 &&& (255 : Int32)).toUInt32.toUInt16.toUInt32.toInt32), .val (.int (p3 &&& (255 : Int32)).toUInt32.toUInt16.toUInt32.toInt32), .val (.ref b37), .val (.ref b42), .val (.ref b44), .val (.ref bx47), .val (.ref b42), .unset] [(.ref b42)])) _
          refine st49.trans ?_
          show Steps p.tables e below (T49.setTop (mkF m 159 #[.val (.int p0), .val (.int p1), .val (.int p2), .val (.int p3), .val (.int (2 : Int32)), .val (.int (p1 &&& (255 : Int32)).toUInt32.toUInt16.toUInt32.toInt32), .val (.int (p2 &&& (255 : Int32)).toUInt32.toUInt16.toUInt32.toInt32), .val (.int (p3 &&& (255 : Int32)).toUInt32.toUInt16.toUInt32.toInt32), .val (.ref b37), .val (.ref b42), .val (.ref b44), .val (.ref bx47), .val (.ref b42), .unset] [(.int (2 : Int32))])) _
          refine XS.iload X49.here hx rfl (hb hby at_159) rfl ?_
          show Steps p.tables e below (T49.setTop (mkF m 161 #[.val (.int p0), .val (.int p1), .val (.int p2), .val (.int p3), .val (.int (2 : Int32)), .val (.int (p1 &&& (255 : Int32)).toUInt32.toUInt16.toUInt32.toInt32), .val (.int (p2 &&& (255 : Int32)).toUInt32.toUInt16.toUInt32.toInt32), .val (.int (p3 &&& (255 : Int32)).toUInt32.toUInt16.toUInt32.toInt32), .val (.ref b37), .val (.ref b42), .val (.ref b44), .val (.ref bx47), .val (.ref b42), .unset] [(.int (2 : Int32)), (.int (2 : Int32))])) _
          refine XS.icmpYes X49.here hx rfl (pc0 := 161) (pc' := 166) rfl (hb hby at_161) rfl (teq (by decide : (2 : Int32) = (2 : Int32))).1 (by decide) (by decide) ?_
          show Steps p.tables e below (T49.setTop (mkF m 166 #[.val (.int p0), .val (.int p1), .val (.int p2), .val (.int p3), .val (.int (2 : Int32)), .val (.int (p1 &&& (255 : Int32)).toUInt32.toUInt16.toUInt32.toInt32), .val (.int (p2 &&& (255 : Int32)).toUInt32.toUInt16.toUInt32.toInt32), .val (.int (p3 &&& (255 : Int32)).toUInt32.toUInt16.toUInt32.toInt32), .val (.ref b37), .val (.ref b42), .val (.ref b44), .val (.ref bx47), .val (.ref b42), .unset] [])) _
          refine XS.iload X49.here hx rfl (hb hby at_166) rfl ?_
          show Steps p.tables e below (T49.setTop (mkF m 168 #[.val (.int p0), .val (.int p1), .val (.int p2), .val (.int p3), .val (.int (2 : Int32)), .val (.int (p1 &&& (255 : Int32)).toUInt32.toUInt16.toUInt32.toInt32), .val (.int (p2 &&& (255 : Int32)).toUInt32.toUInt16.toUInt32.toInt32), .val (.int (p3 &&& (255 : Int32)).toUInt32.toUInt16.toUInt32.toInt32), .val (.ref b37), .val (.ref b42), .val (.ref b44), .val (.ref bx47), .val (.ref b42), .unset] [(.int (2 : Int32))])) _
          refine XS.iconst X49.here hx rfl (hb hby at_168) ?_
          show Steps p.tables e below (T49.setTop (mkF m 169 #[.val (.int p0), .val (.int p1), .val (.int p2), .val (.int p3), .val (.int (2 : Int32)), .val (.int (p1 &&& (255 : Int32)).toUInt32.toUInt16.toUInt32.toInt32), .val (.int (p2 &&& (255 : Int32)).toUInt32.toUInt16.toUInt32.toInt32), .val (.int (p3 &&& (255 : Int32)).toUInt32.toUInt16.toUInt32.toInt32), .val (.ref b37), .val (.ref b42), .val (.ref b44), .val (.ref bx47), .val (.ref b42), .unset] [(.int (1 : Int32)), (.int (2 : Int32))])) _
          refine XS.icmpNo X49.here hx rfl (hb hby at_169) rfl (flt (by decide : ¬ ((2 : Int32) < (1 : Int32)))).1 ?_
          show Steps p.tables e below (T49.setTop (mkF m 172 #[.val (.int p0), .val (.int p1), .val (.int p2), .val (.int p3), .val (.int (2 : Int32)), .val (.int (p1 &&& (255 : Int32)).toUInt32.toUInt16.toUInt32.toInt32), .val (.int (p2 &&& (255 : Int32)).toUInt32.toUInt16.toUInt32.toInt32), .val (.int (p3 &&& (255 : Int32)).toUInt32.toUInt16.toUInt32.toInt32), .val (.ref b37), .val (.ref b42), .val (.ref b44), .val (.ref bx47), .val (.ref b42), .unset] [])) _
          refine XS.aload X49.here hx rfl (hb hby at_172) rfl rfl ?_
          show Steps p.tables e below (T49.setTop (mkF m 174 #[.val (.int p0), .val (.int p1), .val (.int p2), .val (.int p3), .val (.int (2 : Int32)), .val (.int (p1 &&& (255 : Int32)).toUInt32.toUInt16.toUInt32.toInt32), .val (.int (p2 &&& (255 : Int32)).toUInt32.toUInt16.toUInt32.toInt32), .val (.int (p3 &&& (255 : Int32)).toUInt32.toUInt16.toUInt32.toInt32), .val (.ref b37), .val (.ref b42), .val (.ref b44), .val (.ref bx47), .val (.ref b42), .unset] [(.ref b42)])) _
          refine XS.iconst X49.here hx rfl (hb hby at_174) ?_
          show Steps p.tables e below (T49.setTop (mkF m 175 #[.val (.int p0), .val (.int p1), .val (.int p2), .val (.int p3), .val (.int (2 : Int32)), .val (.int (p1 &&& (255 : Int32)).toUInt32.toUInt16.toUInt32.toInt32), .val (.int (p2 &&& (255 : Int32)).toUInt32.toUInt16.toUInt32.toInt32), .val (.int (p3 &&& (255 : Int32)).toUInt32.toUInt16.toUInt32.toInt32), .val (.ref b37), .val (.ref b42), .val (.ref b44), .val (.ref bx47), .val (.ref b42), .unset] [(.int (0 : Int32)), (.ref b42)])) _
          refine st50.trans ?_
          show Steps p.tables e below (T50.setTop (mkF m 178 #[.val (.int p0), .val (.int p1), .val (.int p2), .val (.int p3), .val (.int (2 : Int32)), .val (.int (p1 &&& (255 : Int32)).toUInt32.toUInt16.toUInt32.toInt32), .val (.int (p2 &&& (255 : Int32)).toUInt32.toUInt16.toUInt32.toInt32), .val (.int (p3 &&& (255 : Int32)).toUInt32.toUInt16.toUInt32.toInt32), .val (.ref b37), .val (.ref b42), .val (.ref b44), .val (.ref bx47), .val (.ref b42), .unset] [(.int (own_c ((nar .char (p1 &&& (255 : Int32)).toUInt32.toUInt16.toUInt32.toInt32)).toInt8.toInt32))])) _
          refine XS.iload X50.here hx rfl (hb hby at_178) rfl ?_
          show Steps p.tables e below (T50.setTop (mkF m 180 #[.val (.int p0), .val (.int p1), .val (.int p2), .val (.int p3), .val (.int (2 : Int32)), .val (.int (p1 &&& (255 : Int32)).toUInt32.toUInt16.toUInt32.toInt32), .val (.int (p2 &&& (255 : Int32)).toUInt32.toUInt16.toUInt32.toInt32), .val (.int (p3 &&& (255 : Int32)).toUInt32.toUInt16.toUInt32.toInt32), .val (.ref b37), .val (.ref b42), .val (.ref b44), .val (.ref bx47), .val (.ref b42), .unset] [(.int (p1 &&& (255 : Int32)).toUInt32.toUInt16.toUInt32.toInt32), (.int (own_c ((nar .char (p1 &&& (255 : Int32)).toUInt32.toUInt16.toUInt32.toInt32)).toInt8.toInt32))])) _
          refine XS.icmpYes X50.here hx rfl (pc0 := 180) (pc' := 185) rfl (hb hby at_180) rfl (teq (own_chr _)).1 (by decide) (by decide) ?_
          show Steps p.tables e below (T50.setTop (mkF m 185 #[.val (.int p0), .val (.int p1), .val (.int p2), .val (.int p3), .val (.int (2 : Int32)), .val (.int (p1 &&& (255 : Int32)).toUInt32.toUInt16.toUInt32.toInt32), .val (.int (p2 &&& (255 : Int32)).toUInt32.toUInt16.toUInt32.toInt32), .val (.int (p3 &&& (255 : Int32)).toUInt32.toUInt16.toUInt32.toInt32), .val (.ref b37), .val (.ref b42), .val (.ref b44), .val (.ref bx47), .val (.ref b42), .unset] [])) _
          refine XS.iload X50.here hx rfl (hb hby at_185) rfl ?_
          show Steps p.tables e below (T50.setTop (mkF m 187 #[.val (.int p0), .val (.int p1), .val (.int p2), .val (.int p3), .val (.int (2 : Int32)), .val (.int (p1 &&& (255 : Int32)).toUInt32.toUInt16.toUInt32.toInt32), .val (.int (p2 &&& (255 : Int32)).toUInt32.toUInt16.toUInt32.toInt32), .val (.int (p3 &&& (255 : Int32)).toUInt32.toUInt16.toUInt32.toInt32), .val (.ref b37), .val (.ref b42), .val (.ref b44), .val (.ref bx47), .val (.ref b42), .unset] [(.int (2 : Int32))])) _
          refine XS.iconst X50.here hx rfl (hb hby at_187) ?_
          show Steps p.tables e below (T50.setTop (mkF m 188 #[.val (.int p0), .val (.int p1), .val (.int p2), .val (.int p3), .val (.int (2 : Int32)), .val (.int (p1 &&& (255 : Int32)).toUInt32.toUInt16.toUInt32.toInt32), .val (.int (p2 &&& (255 : Int32)).toUInt32.toUInt16.toUInt32.toInt32), .val (.int (p3 &&& (255 : Int32)).toUInt32.toUInt16.toUInt32.toInt32), .val (.ref b37), .val (.ref b42), .val (.ref b44), .val (.ref bx47), .val (.ref b42), .unset] [(.int (2 : Int32)), (.int (2 : Int32))])) _
          refine XS.icmpNo X50.here hx rfl (hb hby at_188) rfl (flt (by decide : ¬ ((2 : Int32) < (2 : Int32)))).1 ?_
          show Steps p.tables e below (T50.setTop (mkF m 191 #[.val (.int p0), .val (.int p1), .val (.int p2), .val (.int p3), .val (.int (2 : Int32)), .val (.int (p1 &&& (255 : Int32)).toUInt32.toUInt16.toUInt32.toInt32), .val (.int (p2 &&& (255 : Int32)).toUInt32.toUInt16.toUInt32.toInt32), .val (.int (p3 &&& (255 : Int32)).toUInt32.toUInt16.toUInt32.toInt32), .val (.ref b37), .val (.ref b42), .val (.ref b44), .val (.ref bx47), .val (.ref b42), .unset] [])) _
          refine XS.aload X50.here hx rfl (hb hby at_191) rfl rfl ?_
          show Steps p.tables e below (T50.setTop (mkF m 193 #[.val (.int p0), .val (.int p1), .val (.int p2), .val (.int p3), .val (.int (2 : Int32)), .val (.int (p1 &&& (255 : Int32)).toUInt32.toUInt16.toUInt32.toInt32), .val (.int (p2 &&& (255 : Int32)).toUInt32.toUInt16.toUInt32.toInt32), .val (.int (p3 &&& (255 : Int32)).toUInt32.toUInt16.toUInt32.toInt32), .val (.ref b37), .val (.ref b42), .val (.ref b44), .val (.ref bx47), .val (.ref b42), .unset] [(.ref b42)])) _
          refine XS.iconst X50.here hx rfl (hb hby at_193) ?_
          show Steps p.tables e below (T50.setTop (mkF m 194 #[.val (.int p0), .val (.int p1), .val (.int p2), .val (.int p3), .val (.int (2 : Int32)), .val (.int (p1 &&& (255 : Int32)).toUInt32.toUInt16.toUInt32.toInt32), .val (.int (p2 &&& (255 : Int32)).toUInt32.toUInt16.toUInt32.toInt32), .val (.int (p3 &&& (255 : Int32)).toUInt32.toUInt16.toUInt32.toInt32), .val (.ref b37), .val (.ref b42), .val (.ref b44), .val (.ref bx47), .val (.ref b42), .unset] [(.int (1 : Int32)), (.ref b42)])) _
          refine st51.trans ?_
          show Steps p.tables e below (T51.setTop (mkF m 197 #[.val (.int p0), .val (.int p1), .val (.int p2), .val (.int p3), .val (.int (2 : Int32)), .val (.int (p1 &&& (255 : Int32)).toUInt32.toUInt16.toUInt32.toInt32), .val (.int (p2 &&& (255 : Int32)).toUInt32.toUInt16.toUInt32.toInt32), .val (.int (p3 &&& (255 : Int32)).toUInt32.toUInt16.toUInt32.toInt32), .val (.ref b37), .val (.ref b42), .val (.ref b44), .val (.ref bx47), .val (.ref b42), .unset] [(.int (own_c ((nar .char (p2 &&& (255 : Int32)).toUInt32.toUInt16.toUInt32.toInt32)).toInt8.toInt32))])) _
          refine XS.iload X51.here hx rfl (hb hby at_197) rfl ?_
          show Steps p.tables e below (T51.setTop (mkF m 199 #[.val (.int p0), .val (.int p1), .val (.int p2), .val (.int p3), .val (.int (2 : Int32)), .val (.int (p1 &&& (255 : Int32)).toUInt32.toUInt16.toUInt32.toInt32), .val (.int (p2 &&& (255 : Int32)).toUInt32.toUInt16.toUInt32.toInt32), .val (.int (p3 &&& (255 : Int32)).toUInt32.toUInt16.toUInt32.toInt32), .val (.ref b37), .val (.ref b42), .val (.ref b44), .val (.ref bx47), .val (.ref b42), .unset] [(.int (p2 &&& (255 : Int32)).toUInt32.toUInt16.toUInt32.toInt32), (.int (own_c ((nar .char (p2 &&& (255 : Int32)).toUInt32.toUInt16.toUInt32.toInt32)).toInt8.toInt32))])) _
          refine XS.icmpYes X51.here hx rfl (pc0 := 199) (pc' := 204) rfl (hb hby at_199) rfl (teq (own_chr _)).1 (by decide) (by decide) ?_
          show Steps p.tables e below (T51.setTop (mkF m 204 #[.val (.int p0), .val (.int p1), .val (.int p2), .val (.int p3), .val (.int (2 : Int32)), .val (.int (p1 &&& (255 : Int32)).toUInt32.toUInt16.toUInt32.toInt32), .val (.int (p2 &&& (255 : Int32)).toUInt32.toUInt16.toUInt32.toInt32), .val (.int (p3 &&& (255 : Int32)).toUInt32.toUInt16.toUInt32.toInt32), .val (.ref b37), .val (.ref b42), .val (.ref b44), .val (.ref bx47), .val (.ref b42), .unset] [])) _
          refine XS.iload X51.here hx rfl (hb hby at_204) rfl ?_
          show Steps p.tables e below (T51.setTop (mkF m 206 #[.val (.int p0), .val (.int p1), .val (.int p2), .val (.int p3), .val (.int (2 : Int32)), .val (.int (p1 &&& (255 : Int32)).toUInt32.toUInt16.toUInt32.toInt32), .val (.int (p2 &&& (255 : Int32)).toUInt32.toUInt16.toUInt32.toInt32), .val (.int (p3 &&& (255 : Int32)).toUInt32.toUInt16.toUInt32.toInt32), .val (.ref b37), .val (.ref b42), .val (.ref b44), .val (.ref bx47), .val (.ref b42), .unset] [(.int (2 : Int32))])) _
          refine XS.iconst X51.here hx rfl (hb hby at_206) ?_
          show Steps p.tables e below (T51.setTop (mkF m 207 #[.val (.int p0), .val (.int p1), .val (.int p2), .val (.int p3), .val (.int (2 : Int32)), .val (.int (p1 &&& (255 : Int32)).toUInt32.toUInt16.toUInt32.toInt32), .val (.int (p2 &&& (255 : Int32)).toUInt32.toUInt16.toUInt32.toInt32), .val (.int (p3 &&& (255 : Int32)).toUInt32.toUInt16.toUInt32.toInt32), .val (.ref b37), .val (.ref b42), .val (.ref b44), .val (.ref bx47), .val (.ref b42), .unset] [(.int (3 : Int32)), (.int (2 : Int32))])) _
          refine XS.icmpYes X51.here hx rfl (pc0 := 207) (pc' := 223) rfl (hb hby at_207) rfl (tlt (by decide : (2 : Int32) < (3 : Int32))).1 (by decide) (by decide) ?_
          show Steps p.tables e below (T51.setTop (mkF m 223 #[.val (.int p0), .val (.int p1), .val (.int p2), .val (.int p3), .val (.int (2 : Int32)), .val (.int (p1 &&& (255 : Int32)).toUInt32.toUInt16.toUInt32.toInt32), .val (.int (p2 &&& (255 : Int32)).toUInt32.toUInt16.toUInt32.toInt32), .val (.int (p3 &&& (255 : Int32)).toUInt32.toUInt16.toUInt32.toInt32), .val (.ref b37), .val (.ref b42), .val (.ref b44), .val (.ref bx47), .val (.ref b42), .unset] [])) _
          refine XS.aload X51.here hx rfl (hb hby at_223) rfl rfl ?_
          show Steps p.tables e below (T51.setTop (mkF m 225 #[.val (.int p0), .val (.int p1), .val (.int p2), .val (.int p3), .val (.int (2 : Int32)), .val (.int (p1 &&& (255 : Int32)).toUInt32.toUInt16.toUInt32.toInt32), .val (.int (p2 &&& (255 : Int32)).toUInt32.toUInt16.toUInt32.toInt32), .val (.int (p3 &&& (255 : Int32)).toUInt32.toUInt16.toUInt32.toInt32), .val (.ref b37), .val (.ref b42), .val (.ref b44), .val (.ref bx47), .val (.ref b42), .unset] [(.ref bx47)])) _
          refine st52.trans ?_
          show Steps p.tables e below (T52.setTop (mkF m 228 #[.val (.int p0), .val (.int p1), .val (.int p2), .val (.int p3), .val (.int (2 : Int32)), .val (.int (p1 &&& (255 : Int32)).toUInt32.toUInt16.toUInt32.toInt32), .val (.int (p2 &&& (255 : Int32)).toUInt32.toUInt16.toUInt32.toInt32), .val (.int (p3 &&& (255 : Int32)).toUInt32.toUInt16.toUInt32.toInt32), .val (.ref b37), .val (.ref b42), .val (.ref b44), .val (.ref bx47), .val (.ref b42), .unset] [(.ref bx52)])) _
          refine XS.astore X52.here hx rfl (hb hby at_228) rfl rfl (l' := #[.val (.int p0), .val (.int p1), .val (.int p2), .val (.int p3), .val (.int (2 : Int32)), .val (.int (p1 &&& (255 : Int32)).toUInt32.toUInt16.toUInt32.toInt32), .val (.int (p2 &&& (255 : Int32)).toUInt32.toUInt16.toUInt32.toInt32), .val (.int (p3 &&& (255 : Int32)).toUInt32.toUInt16.toUInt32.toInt32), .val (.ref b37), .val (.ref b42), .val (.ref b44), .val (.ref bx47), .val (.ref b42), .val (.ref bx52)]) rfl ?_
          show Steps p.tables e below (T52.setTop (mkF m 230 #[.val (.int p0), .val (.int p1), .val (.int p2), .val (.int p3), .val (.int (2 : Int32)), .val (.int (p1 &&& (255 : Int32)).toUInt32.toUInt16.toUInt32.toInt32), .val (.int (p2 &&& (255 : Int32)).toUInt32.toUInt16.toUInt32.toInt32), .val (.int (p3 &&& (255 : Int32)).toUInt32.toUInt16.toUInt32.toInt32), .val (.ref b37), .val (.ref b42), .val (.ref b44), .val (.ref bx47), .val (.ref b42), .val (.ref bx52)] [])) _
          refine XS.aload X52.here hx rfl (hb hby at_230) rfl rfl ?_
          show Steps p.tables e below (T52.setTop (mkF m 232 #[.val (.int p0), .val (.int p1), .val (.int p2), .val (.int p3), .val (.int (2 : Int32)), .val (.int (p1 &&& (255 : Int32)).toUInt32.toUInt16.toUInt32.toInt32), .val (.int (p2 &&& (255 : Int32)).toUInt32.toUInt16.toUInt32.toInt32), .val (.int (p3 &&& (255 : Int32)).toUInt32.toUInt16.toUInt32.toInt32), .val (.ref b37), .val (.ref b42), .val (.ref b44), .val (.ref bx47), .val (.ref b42), .val (.ref bx52)] [(.ref b42)])) _
          refine XS.aload X52.here hx rfl (hb hby at_232) rfl rfl ?_
          show Steps p.tables e below (T52.setTop (mkF m 234 #[.val (.int p0), .val (.int p1), .val (.int p2), .val (.int p3), .val (.int (2 : Int32)), .val (.int (p1 &&& (255 : Int32)).toUInt32.toUInt16.toUInt32.toInt32), .val (.int (p2 &&& (255 : Int32)).toUInt32.toUInt16.toUInt32.toInt32), .val (.int (p3 &&& (255 : Int32)).toUInt32.toUInt16.toUInt32.toInt32), .val (.ref b37), .val (.ref b42), .val (.ref b44), .val (.ref bx47), .val (.ref b42), .val (.ref bx52)] [(.ref b42), (.ref b42)])) _
          refine st53.trans ?_
          show Steps p.tables e below (T53.setTop (mkF m 237 #[.val (.int p0), .val (.int p1), .val (.int p2), .val (.int p3), .val (.int (2 : Int32)), .val (.int (p1 &&& (255 : Int32)).toUInt32.toUInt16.toUInt32.toInt32), .val (.int (p2 &&& (255 : Int32)).toUInt32.toUInt16.toUInt32.toInt32), .val (.int (p3 &&& (255 : Int32)).toUInt32.toUInt16.toUInt32.toInt32), .val (.ref b37), .val (.ref b42), .val (.ref b44), .val (.ref bx47), .val (.ref b42), .val (.ref bx52)] [(.int (1 : Int32))])) _
          refine XS.ifNo X53.here hx rfl (hb hby at_237) rfl ((if0 _ _).trans (feq (by decide : ¬ ((1 : Int32) = (0 : Int32)))).1) ?_
          show Steps p.tables e below (T53.setTop (mkF m 240 #[.val (.int p0), .val (.int p1), .val (.int p2), .val (.int p3), .val (.int (2 : Int32)), .val (.int (p1 &&& (255 : Int32)).toUInt32.toUInt16.toUInt32.toInt32), .val (.int (p2 &&& (255 : Int32)).toUInt32.toUInt16.toUInt32.toInt32), .val (.int (p3 &&& (255 : Int32)).toUInt32.toUInt16.toUInt32.toInt32), .val (.ref b37), .val (.ref b42), .val (.ref b44), .val (.ref bx47), .val (.ref b42), .val (.ref bx52)] [])) _
          refine XS.aload X53.here hx rfl (hb hby at_240) rfl rfl ?_
          show Steps p.tables e below (T53.setTop (mkF m 242 #[.val (.int p0), .val (.int p1), .val (.int p2), .val (.int p3), .val (.int (2 : Int32)), .val (.int (p1 &&& (255 : Int32)).toUInt32.toUInt16.toUInt32.toInt32), .val (.int (p2 &&& (255 : Int32)).toUInt32.toUInt16.toUInt32.toInt32), .val (.int (p3 &&& (255 : Int32)).toUInt32.toUInt16.toUInt32.toInt32), .val (.ref b37), .val (.ref b42), .val (.ref b44), .val (.ref bx47), .val (.ref b42), .val (.ref bx52)] [(.ref bx52)])) _
          refine st54.trans ?_
          show Steps p.tables e below (T54.setTop (mkF m 247 #[.val (.int p0), .val (.int p1), .val (.int p2), .val (.int p3), .val (.int (2 : Int32)), .val (.int (p1 &&& (255 : Int32)).toUInt32.toUInt16.toUInt32.toInt32), .val (.int (p2 &&& (255 : Int32)).toUInt32.toUInt16.toUInt32.toInt32), .val (.int (p3 &&& (255 : Int32)).toUInt32.toUInt16.toUInt32.toInt32), .val (.ref b37), .val (.ref b42), .val (.ref b44), .val (.ref bx47), .val (.ref b42), .val (.ref bx52)] [(.int (1 : Int32))])) _
          refine XS.iconst X54.here hx rfl (hb hby at_247) ?_
          show Steps p.tables e below (T54.setTop (mkF m 248 #[.val (.int p0), .val (.int p1), .val (.int p2), .val (.int p3), .val (.int (2 : Int32)), .val (.int (p1 &&& (255 : Int32)).toUInt32.toUInt16.toUInt32.toInt32), .val (.int (p2 &&& (255 : Int32)).toUInt32.toUInt16.toUInt32.toInt32), .val (.int (p3 &&& (255 : Int32)).toUInt32.toUInt16.toUInt32.toInt32), .val (.ref b37), .val (.ref b42), .val (.ref b44), .val (.ref bx47), .val (.ref b42), .val (.ref bx52)] [(.int (1 : Int32)), (.int (1 : Int32))])) _
          refine XS.icmpNo X54.here hx rfl (hb hby at_248) rfl (teq (by decide : (1 : Int32) = (1 : Int32))).2 ?_
          show Steps p.tables e below (T54.setTop (mkF m 251 #[.val (.int p0), .val (.int p1), .val (.int p2), .val (.int p3), .val (.int (2 : Int32)), .val (.int (p1 &&& (255 : Int32)).toUInt32.toUInt16.toUInt32.toInt32), .val (.int (p2 &&& (255 : Int32)).toUInt32.toUInt16.toUInt32.toInt32), .val (.int (p3 &&& (255 : Int32)).toUInt32.toUInt16.toUInt32.toInt32), .val (.ref b37), .val (.ref b42), .val (.ref b44), .val (.ref bx47), .val (.ref b42), .val (.ref bx52)] [])) _
          refine XS.aload X54.here hx rfl (hb hby at_251) rfl rfl ?_
          show Steps p.tables e below (T54.setTop (mkF m 253 #[.val (.int p0), .val (.int p1), .val (.int p2), .val (.int p3), .val (.int (2 : Int32)), .val (.int (p1 &&& (255 : Int32)).toUInt32.toUInt16.toUInt32.toInt32), .val (.int (p2 &&& (255 : Int32)).toUInt32.toUInt16.toUInt32.toInt32), .val (.int (p3 &&& (255 : Int32)).toUInt32.toUInt16.toUInt32.toInt32), .val (.ref b37), .val (.ref b42), .val (.ref b44), .val (.ref bx47), .val (.ref b42), .val (.ref bx52)] [(.ref bx52)])) _
          refine XS.iconst X54.here hx rfl (hb hby at_253) ?_
          show Steps p.tables e below (T54.setTop (mkF m 254 #[.val (.int p0), .val (.int p1), .val (.int p2), .val (.int p3), .val (.int (2 : Int32)), .val (.int (p1 &&& (255 : Int32)).toUInt32.toUInt16.toUInt32.toInt32), .val (.int (p2 &&& (255 : Int32)).toUInt32.toUInt16.toUInt32.toInt32), .val (.int (p3 &&& (255 : Int32)).toUInt32.toUInt16.toUInt32.toInt32), .val (.ref b37), .val (.ref b42), .val (.ref b44), .val (.ref bx47), .val (.ref b42), .val (.ref bx52)] [(.int (0 : Int32)), (.ref bx52)])) _
          refine st55.trans ?_
          show Steps p.tables e below (T55.setTop (mkF m 259 #[.val (.int p0), .val (.int p1), .val (.int p2), .val (.int p3), .val (.int (2 : Int32)), .val (.int (p1 &&& (255 : Int32)).toUInt32.toUInt16.toUInt32.toInt32), .val (.int (p2 &&& (255 : Int32)).toUInt32.toUInt16.toUInt32.toInt32), .val (.int (p3 &&& (255 : Int32)).toUInt32.toUInt16.toUInt32.toInt32), .val (.ref b37), .val (.ref b42), .val (.ref b44), .val (.ref bx47), .val (.ref b42), .val (.ref bx52)] [(.ref b42)])) _
          refine st56 _ ?_
          show Steps p.tables e below (T56.setTop (mkF m 262 #[.val (.int p0), .val (.int p1), .val (.int p2), .val (.int p3), .val (.int (2 : Int32)), .val (.int (p1 &&& (255 : Int32)).toUInt32.toUInt16.toUInt32.toInt32), .val (.int (p2 &&& (255 : Int32)).toUInt32.toUInt16.toUInt32.toInt32), .val (.int (p3 &&& (255 : Int32)).toUInt32.toUInt16.toUInt32.toInt32), .val (.ref b37), .val (.ref b42), .val (.ref b44), .val (.ref bx47), .val (.ref b42), .val (.ref bx52)] [(.ref b42)])) _
          refine XS.aload X56.here hx rfl (hb hby at_262) rfl rfl ?_
          show Steps p.tables e below (T56.setTop (mkF m 264 #[.val (.int p0), .val (.int p1), .val (.int p2), .val (.int p3), .val (.int (2 : Int32)), .val (.int (p1 &&& (255 : Int32)).toUInt32.toUInt16.toUInt32.toInt32), .val (.int (p2 &&& (255 : Int32)).toUInt32.toUInt16.toUInt32.toInt32), .val (.int (p3 &&& (255 : Int32)).toUInt32.toUInt16.toUInt32.toInt32), .val (.ref b37), .val (.ref b42), .val (.ref b44), .val (.ref bx47), .val (.ref b42), .val (.ref bx52)] [(.ref b42), (.ref b42)])) _
          refine st57.trans ?_
          show Steps p.tables e below (T57.setTop (mkF m 267 #[.val (.int p0), .val (.int p1), .val (.int p2), .val (.int p3), .val (.int (2 : Int32)), .val (.int (p1 &&& (255 : Int32)).toUInt32.toUInt16.toUInt32.toInt32), .val (.int (p2 &&& (255 : Int32)).toUInt32.toUInt16.toUInt32.toInt32), .val (.int (p3 &&& (255 : Int32)).toUInt32.toUInt16.toUInt32.toInt32), .val (.ref b37), .val (.ref b42), .val (.ref b44), .val (.ref bx47), .val (.ref b42), .val (.ref bx52)] [(.int (1 : Int32))])) _
          refine XS.ifNo X57.here hx rfl (hb hby at_267) rfl ((if0 _ _).trans (feq (by decide : ¬ ((1 : Int32) = (0 : Int32)))).1) ?_
          show Steps p.tables e below (T57.setTop (mkF m 270 #[.val (.int p0), .val (.int p1), .val (.int p2), .val (.int p3), .val (.int (2 : Int32)), .val (.int (p1 &&& (255 : Int32)).toUInt32.toUInt16.toUInt32.toInt32), .val (.int (p2 &&& (255 : Int32)).toUInt32.toUInt16.toUInt32.toInt32), .val (.int (p3 &&& (255 : Int32)).toUInt32.toUInt16.toUInt32.toInt32), .val (.ref b37), .val (.ref b42), .val (.ref b44), .val (.ref bx47), .val (.ref b42), .val (.ref bx52)] [])) _
          refine XS.iconst X57.here hx rfl (hb hby at_270) ?_
          show Steps p.tables e below (T57.setTop (mkF m 271 #[.val (.int p0), .val (.int p1), .val (.int p2), .val (.int p3), .val (.int (2 : Int32)), .val (.int (p1 &&& (255 : Int32)).toUInt32.toUInt16.toUInt32.toInt32), .val (.int (p2 &&& (255 : Int32)).toUInt32.toUInt16.toUInt32.toInt32), .val (.int (p3 &&& (255 : Int32)).toUInt32.toUInt16.toUInt32.toInt32), .val (.ref b37), .val (.ref b42), .val (.ref b44), .val (.ref bx47), .val (.ref b42), .val (.ref bx52)] [(.int (1 : Int32))])) _
          refine XS.goto X57.here hx rfl (pc0 := 271) (pc' := 275) rfl (hb hby at_271) (by decide) (by decide) ?_
          show Steps p.tables e below (T57.setTop (mkF m 275 #[.val (.int p0), .val (.int p1), .val (.int p2), .val (.int p3), .val (.int (2 : Int32)), .val (.int (p1 &&& (255 : Int32)).toUInt32.toUInt16.toUInt32.toInt32), .val (.int (p2 &&& (255 : Int32)).toUInt32.toUInt16.toUInt32.toInt32), .val (.int (p3 &&& (255 : Int32)).toUInt32.toUInt16.toUInt32.toInt32), .val (.ref b37), .val (.ref b42), .val (.ref b44), .val (.ref bx47), .val (.ref b42), .val (.ref bx52)] [(.int (1 : Int32))])) _
          exact retN X57 hx (t := .boolean) Bd.returns (by simp) (hb hby at_275) hr
        · show Q_rm_law Z p0 p1 p2 p3 zc w_D kd w_E GFx h0 n0 _ T57.heap _
          rw [e57]
          exact ⟨rfl, N57, trivial⟩
      · obtain ⟨T58, h58, k58, X58, e58, E58, A58, st58⟩ := newP X0 hx hZ (hw _ (List.mem_of_getElem? (i := 0) rfl)) e0 (g := (mkF m 86 #[.val (.int p0), .val (.int p1), .val (.int p2), .val (.int p3), .val (.int (p0 &&& (3 : Int32))), .val (.int (p1 &&& (255 : Int32)).toUInt32.toUInt16.toUInt32.toInt32), .val (.int (p2 &&& (255 : Int32)).toUInt32.toUInt16.toUInt32.toInt32), .val (.int (p3 &&& (255 : Int32)).toUInt32.toUInt16.toUInt32.toInt32), .unset, .unset, .unset, .unset, .unset, .unset] [(.int (3 : Int32))])) rfl (hb hby at_86) rfl (by decide) (cap := 3) (by decide) (by decide) (by decide) (by decide)
        obtain ⟨b58, g58⟩ : ∃ z, z = h0.size := ⟨_, rfl⟩
        rw [← g58] at A58 st58
        have ne_w_D_b58 : w_D ≠ b58 := Nat.ne_of_lt (Nat.lt_of_lt_of_le VD.lt (Nat.le_of_eq g58.symm))
        have g_b58 : n0 ≤ b58 := Nat.le_trans Z0 (Nat.le_of_eq g58.symm)
        have X00_58 : Old Z n0 h58 := Old.ext X00 E58
        have Sh_CS_58 : Sta Z h58 "java/lang/String" "COMPACT_STRINGS" "Z" (.int zc) := Sh_CS.ext E58
        have Sh_D_58 : Sta Z h58 "java/util/ArrayList" "DEFAULTCAPACITY_EMPTY_ELEMENTDATA" "[Ljava/lang/Object;" (.ref w_D) := Sh_D.ext E58
        have Sh_E_58 : Sta Z h58 "java/util/ImmutableCollections" "EMPTY" "Ljava/lang/Object;" (.ref w_E) := Sh_E.ext E58
        have Sh_F_58 : Sta Z h58 "jdk/internal/util/Preconditions" "SIOOBE_FORMATTER" "Ljava/util/function/BiFunction;" GFx := Sh_F.ext E58
        have VD_58 : Arv Z h58 w_D kd (.object "java/lang/Object") (0 : Int32) [] .null := VD.ext E58
        have hk58' : _ ≤ h58.size := Nat.le_trans hk0 E58.1
        have Z58 : n0 ≤ h58.size := Nat.le_trans Z0 E58.1
        have V_b58 : Arv Z h58 b58 k58 .char (3 : Int32) [(.int (0 : Int32)), (.int (0 : Int32)), (.int (0 : Int32))] (.int (0 : Int32)) := (Arv.new A58 (by decide)).pad (pad_rep [] (.int (0 : Int32)) 3)
        obtain ⟨cl59, Ar59, qk59, S59, N59', H59, G59⟩ := (id V_b58)
        have hin59 : ¬ ((0 : Int32) < 0 ∨ cl59.slots.size ≤ ((0 : Int32)).toNatClampNeg) := inb_of S59 ⟨by decide, by decide⟩
        obtain ⟨T60, h60, X60, e60, W60, st60⟩ := stC X58 hx hZ e58 Ar59 (j := (0 : Int32)) hin59 (g := (mkF m 92 #[.val (.int p0), .val (.int p1), .val (.int p2), .val (.int p3), .val (.int (p0 &&& (3 : Int32))), .val (.int (p1 &&& (255 : Int32)).toUInt32.toUInt16.toUInt32.toInt32), .val (.int (p2 &&& (255 : Int32)).toUInt32.toUInt16.toUInt32.toInt32), .val (.int (p3 &&& (255 : Int32)).toUInt32.toUInt16.toUInt32.toInt32), .unset, .unset, .unset, .unset, .unset, .unset] [(.int (p1 &&& (255 : Int32)).toUInt32.toUInt16.toUInt32.toInt32), (.int (0 : Int32)), (.ref b58), (.ref b58)])) rfl rfl (hb hby at_92)
        have V60 : Arv Z h60 b58 k58 .char (3 : Int32) [(.int (nar .char (p1 &&& (255 : Int32)).toUInt32.toUInt16.toUInt32.toInt32)), (.int (0 : Int32)), (.int (0 : Int32))] (.int (0 : Int32)) := Arv.set Ar59 qk59 S59 N59' H59 G59 (fits_nar_char _) W60 0 rfl (Nat.le_of_ble_eq_true rfl)
        have N60 := Fr.snoc X60 N0 g_b58
        have X00_60 : Old Z n0 h60 := X00_58.wr W60 g_b58
        have Sh_CS_60 : Sta Z h60 "java/lang/String" "COMPACT_STRINGS" "Z" (.int zc) := Sh_CS_58.wr W60
        have Sh_D_60 : Sta Z h60 "java/util/ArrayList" "DEFAULTCAPACITY_EMPTY_ELEMENTDATA" "[Ljava/lang/Object;" (.ref w_D) := Sh_D_58.wr W60
        have Sh_E_60 : Sta Z h60 "java/util/ImmutableCollections" "EMPTY" "Ljava/lang/Object;" (.ref w_E) := Sh_E_58.wr W60
        have Sh_F_60 : Sta Z h60 "jdk/internal/util/Preconditions" "SIOOBE_FORMATTER" "Ljava/util/function/BiFunction;" GFx := Sh_F_58.wr W60
        have VD_60 : Arv Z h60 w_D kd (.object "java/lang/Object") (0 : Int32) [] .null := VD_58.other W60 ne_w_D_b58
        have hk60' : _ ≤ h60.size := Nat.le_trans hk58' (Keep.of_wr W60).1
        have Z60 : n0 ≤ h60.size := Nat.le_trans Z58 (Keep.of_wr W60).1
        obtain ⟨cl61, Ar61, qk61, S61, N61', H61, G61⟩ := (id V60)
        have hin61 : ¬ ((1 : Int32) < 0 ∨ cl61.slots.size ≤ ((1 : Int32)).toNatClampNeg) := inb_of S61 ⟨by decide, by decide⟩
        obtain ⟨T62, h62, X62, e62, W62, st62⟩ := stC X60 hx hZ e60 Ar61 (j := (1 : Int32)) hin61 (g := (mkF m 97 #[.val (.int p0), .val (.int p1), .val (.int p2), .val (.int p3), .val (.int (p0 &&& (3 : Int32))), .val (.int (p1 &&& (255 : Int32)).toUInt32.toUInt16.toUInt32.toInt32), .val (.int (p2 &&& (255 : Int32)).toUInt32.toUInt16.toUInt32.toInt32), .val (.int (p3 &&& (255 : Int32)).toUInt32.toUInt16.toUInt32.toInt32), .unset, .unset, .unset, .unset, .unset, .unset] [(.int (p2 &&& (255 : Int32)).toUInt32.toUInt16.toUInt32.toInt32), (.int (1 : Int32)), (.ref b58), (.ref b58)])) rfl rfl (hb hby at_97)
        have V62 : Arv Z h62 b58 k58 .char (3 : Int32) [(.int (nar .char (p1 &&& (255 : Int32)).toUInt32.toUInt16.toUInt32.toInt32)), (.int (nar .char (p2 &&& (255 : Int32)).toUInt32.toUInt16.toUInt32.toInt32)), (.int (0 : Int32))] (.int (0 : Int32)) := Arv.set Ar61 qk61 S61 N61' H61 G61 (fits_nar_char _) W62 1 rfl (Nat.le_of_ble_eq_true rfl)
        have N62 := Fr.snoc X62 N60 g_b58
        have X00_62 : Old Z n0 h62 := X00_60.wr W62 g_b58
        have Sh_CS_62 : Sta Z h62 "java/lang/String" "COMPACT_STRINGS" "Z" (.int zc) := Sh_CS_60.wr W62
        have Sh_D_62 : Sta Z h62 "java/util/ArrayList" "DEFAULTCAPACITY_EMPTY_ELEMENTDATA" "[Ljava/lang/Object;" (.ref w_D) := Sh_D_60.wr W62
        have Sh_E_62 : Sta Z h62 "java/util/ImmutableCollections" "EMPTY" "Ljava/lang/Object;" (.ref w_E) := Sh_E_60.wr W62
        have Sh_F_62 : Sta Z h62 "jdk/internal/util/Preconditions" "SIOOBE_FORMATTER" "Ljava/util/function/BiFunction;" GFx := Sh_F_60.wr W62
        have VD_62 : Arv Z h62 w_D kd (.object "java/lang/Object") (0 : Int32) [] .null := VD_60.other W62 ne_w_D_b58
        have hk62' : _ ≤ h62.size := Nat.le_trans hk60' (Keep.of_wr W62).1
        have Z62 : n0 ≤ h62.size := Nat.le_trans Z60 (Keep.of_wr W62).1
        obtain ⟨cl63, Ar63, qk63, S63, N63', H63, G63⟩ := (id V62)
        have hin63 : ¬ ((2 : Int32) < 0 ∨ cl63.slots.size ≤ ((2 : Int32)).toNatClampNeg) := inb_of S63 ⟨by decide, by decide⟩
        obtain ⟨T64, h64, X64, e64, W64, st64⟩ := stC X62 hx hZ e62 Ar63 (j := (2 : Int32)) hin63 (g := (mkF m 102 #[.val (.int p0), .val (.int p1), .val (.int p2), .val (.int p3), .val (.int (p0 &&& (3 : Int32))), .val (.int (p1 &&& (255 : Int32)).toUInt32.toUInt16.toUInt32.toInt32), .val (.int (p2 &&& (255 : Int32)).toUInt32.toUInt16.toUInt32.toInt32), .val (.int (p3 &&& (255 : Int32)).toUInt32.toUInt16.toUInt32.toInt32), .unset, .unset, .unset, .unset, .unset, .unset] [(.int (p3 &&& (255 : Int32)).toUInt32.toUInt16.toUInt32.toInt32), (.int (2 : Int32)), (.ref b58), (.ref b58)])) rfl rfl (hb hby at_102)
        have V64 : Arv Z h64 b58 k58 .char (3 : Int32) [(.int (nar .char (p1 &&& (255 : Int32)).toUInt32.toUInt16.toUInt32.toInt32)), (.int (nar .char (p2 &&& (255 : Int32)).toUInt32.toUInt16.toUInt32.toInt32)), (.int (nar .char (p3 &&& (255 : Int32)).toUInt32.toUInt16.toUInt32.toInt32))] (.int (0 : Int32)) := Arv.set Ar63 qk63 S63 N63' H63 G63 (fits_nar_char _) W64 2 rfl (Nat.le_of_ble_eq_true rfl)
        have N64 := Fr.snoc X64 N62 g_b58
        have X00_64 : Old Z n0 h64 := X00_62.wr W64 g_b58
        have Sh_CS_64 : Sta Z h64 "java/lang/String" "COMPACT_STRINGS" "Z" (.int zc) := Sh_CS_62.wr W64
        have Sh_D_64 : Sta Z h64 "java/util/ArrayList" "DEFAULTCAPACITY_EMPTY_ELEMENTDATA" "[Ljava/lang/Object;" (.ref w_D) := Sh_D_62.wr W64
        have Sh_E_64 : Sta Z h64 "java/util/ImmutableCollections" "EMPTY" "Ljava/lang/Object;" (.ref w_E) := Sh_E_62.wr W64
        have Sh_F_64 : Sta Z h64 "jdk/internal/util/Preconditions" "SIOOBE_FORMATTER" "Ljava/util/function/BiFunction;" GFx := Sh_F_62.wr W64
        have VD_64 : Arv Z h64 w_D kd (.object "java/lang/Object") (0 : Int32) [] .null := VD_62.other W64 ne_w_D_b58
        have hk64' : _ ≤ h64.size := Nat.le_trans hk62' (Keep.of_wr W64).1
        have Z64 : n0 ≤ h64.size := Nat.le_trans Z62 (Keep.of_wr W64).1
        obtain ⟨T65, h65, X65, e65, E65, A65, D65, -, st65⟩ := newO X64 hx hZ hown (hw _ (List.mem_of_getElem? (i := 1) rfl)) (hw _ (List.mem_of_getElem? (i := 2) rfl)) (hw _ (List.mem_of_getElem? (i := 3) rfl)) e64 (g := (mkF m 105 #[.val (.int p0), .val (.int p1), .val (.int p2), .val (.int p3), .val (.int (3 : Int32)), .val (.int (p1 &&& (255 : Int32)).toUInt32.toUInt16.toUInt32.toInt32), .val (.int (p2 &&& (255 : Int32)).toUInt32.toUInt16.toUInt32.toInt32), .val (.int (p3 &&& (255 : Int32)).toUInt32.toUInt16.toUInt32.toInt32), .val (.ref b58), .unset, .unset, .unset, .unset, .unset] [])) rfl (hb hby at_105) (by decide) (by decide)
        obtain ⟨b65, g65⟩ : ∃ z, z = h64.size := ⟨_, rfl⟩
        rw [← g65] at A65 D65 st65
        have ne_w_D_b65 : w_D ≠ b65 := Nat.ne_of_lt (Nat.lt_of_lt_of_le VD_64.lt (Nat.le_of_eq g65.symm))
        have ne_b58_b65 : b58 ≠ b65 := Nat.ne_of_lt (Nat.lt_of_lt_of_le V64.lt (Nat.le_of_eq g65.symm))
        have g_b65 : n0 ≤ b65 := Nat.le_trans Z64 (Nat.le_of_eq g65.symm)
        have X00_65 : Old Z n0 h65 := Old.ext X00_64 E65
        have Sh_CS_65 : Sta Z h65 "java/lang/String" "COMPACT_STRINGS" "Z" (.int zc) := Sh_CS_64.ext E65
        have Sh_D_65 : Sta Z h65 "java/util/ArrayList" "DEFAULTCAPACITY_EMPTY_ELEMENTDATA" "[Ljava/lang/Object;" (.ref w_D) := Sh_D_64.ext E65
        have Sh_E_65 : Sta Z h65 "java/util/ImmutableCollections" "EMPTY" "Ljava/lang/Object;" (.ref w_E) := Sh_E_64.ext E65
        have Sh_F_65 : Sta Z h65 "jdk/internal/util/Preconditions" "SIOOBE_FORMATTER" "Ljava/util/function/BiFunction;" GFx := Sh_F_64.ext E65
        have VD_65 : Arv Z h65 w_D kd (.object "java/lang/Object") (0 : Int32) [] .null := VD_64.ext E65
        have V64_65 : Arv Z h65 b58 k58 .char (3 : Int32) [(.int (nar .char (p1 &&& (255 : Int32)).toUInt32.toUInt16.toUInt32.toInt32)), (.int (nar .char (p2 &&& (255 : Int32)).toUInt32.toUInt16.toUInt32.toInt32)), (.int (nar .char (p3 &&& (255 : Int32)).toUInt32.toUInt16.toUInt32.toInt32))] (.int (0 : Int32)) := V64.ext E65
        have hk65' : _ ≤ h65.size := Nat.le_trans hk64' E65.1
        have Z65 : n0 ≤ h65.size := Nat.le_trans Z64 E65.1
        have F_value_b65 : Fld Z h65 b65 "java/lang/String" "value" "[B" .null := D65 (Or.inr (hw _ (List.mem_of_getElem? (i := 16) rfl))) (ty := (.array .byte)) (by decide)
        have F_coder_b65 : Fld Z h65 b65 "java/lang/String" "coder" "B" (.int (0 : Int32)) := D65 (Or.inr (hw _ (List.mem_of_getElem? (i := 17) rfl))) (ty := .byte) (by decide)
        obtain ⟨_, _, ⟨T66, L66, k66, n66⟩, -, X66, ⟨Lc66, hQ66, l66, y66, z66⟩, st66⟩ := X65.specialBack hx (y := (⟨"java/lang/String", "<init>", "([C)V"⟩ : MethodName)) rfl hown (mvT hZ (hw _ (List.mem_of_getElem? (i := 4) rfl))) (mvT hZ (hw _ (List.mem_of_getElem? (i := 5) rfl))) (mvT hZ (hw _ (List.mem_of_getElem? (i := 6) rfl))) (by decide) (StrChars.Road.backV (W := 1) hZ hws (kI := 4) (hw _ (List.mem_of_getElem? (i := 2) rfl)) (cs := ([(nar .char (p1 &&& (255 : Int32)).toUInt32.toUInt16.toUInt32.toInt32), (nar .char (p2 &&& (255 : Int32)).toUInt32.toUInt16.toUInt32.toInt32), (nar .char (p3 &&& (255 : Int32)).toUInt32.toUInt16.toUInt32.toInt32)] : List Int32)) (bs := (([(nar .char (p1 &&& (255 : Int32)).toUInt32.toUInt16.toUInt32.toInt32), (nar .char (p2 &&& (255 : Int32)).toUInt32.toUInt16.toUInt32.toInt32), (nar .char (p3 &&& (255 : Int32)).toUInt32.toUInt16.toUInt32.toInt32)] : List Int32)).map (fun c => c.toInt8.toInt32)) (n := 3) g_b65 Z65 A65 F_value_b65 F_coder_b65 V64_65 Sh_CS_65 P5 rfl rfl (by decide) (by decide) (List.forall_mem_cons.mpr ⟨own_ch _, (List.forall_mem_cons.mpr ⟨own_ch _, (List.forall_mem_cons.mpr ⟨own_ch _, (fun _ q => nomatch q)⟩)⟩)⟩) rfl (by decide) (by decide)) (g := (mkF m 111 #[.val (.int p0), .val (.int p1), .val (.int p2), .val (.int p3), .val (.int (3 : Int32)), .val (.int (p1 &&& (255 : Int32)).toUInt32.toUInt16.toUInt32.toInt32), .val (.int (p2 &&& (255 : Int32)).toUInt32.toUInt16.toUInt32.toInt32), .val (.int (p3 &&& (255 : Int32)).toUInt32.toUInt16.toUInt32.toInt32), .val (.ref b58), .unset, .unset, .unset, .unset, .unset] [(.ref b58), (.ref b65), (.ref b65)])) rfl (by rw [hml]; rfl) (Steps.refl _) (a := b65) (argsL := [(.ref b58)]) (rest := [(.ref b65)]) (lenOf pd_18 rfl) rfl (by show 2 * 0 + _ ≤ _; exact Nat.le_of_eq rfl) (hb hby at_111) (fun _ _ => ⟨rfl, e65, (by decide : 2 + 1 ≤ _), (by decide : 7 + 3 ≤ _)⟩)
        dsimp only [Pt.U, Pt.locs, Pt.cells, Pt.slots] at X66 l66 y66 z66 st66 hQ66
        subst l66 y66 z66
        obtain ⟨rfl, N66q, x66c0, x66c1, x66c2, x66c3, x66c4, x66c5, x66c6, x66c7, x66c8, x66c9⟩ := hQ66
        have N66 := Fr.app N64 N66q
        have ne_w_D_x66c3 : w_D ≠ x66c3 := Nat.ne_of_lt (Nat.lt_of_lt_of_le VD_65.lt x66c6)
        have ne_b58_x66c3 : b58 ≠ x66c3 := Nat.ne_of_lt (Nat.lt_of_lt_of_le V64_65.lt x66c6)
        have ne_b65_x66c3 : b65 ≠ x66c3 := Nat.ne_of_lt (Nat.lt_of_lt_of_le A65.lt x66c6)
        have X00_66 : Old Z n0 T66.heap := X00_65.keep x66c0 (allS g_b65 all0)
        have VD_66 : Arv Z T66.heap w_D kd (.object "java/lang/Object") (0 : Int32) [] .null := VD_65.keep x66c0 (ninS ne_w_D_b65 nin0)
        have V64_66 : Arv Z T66.heap b58 k58 .char (3 : Int32) [(.int (nar .char (p1 &&& (255 : Int32)).toUInt32.toUInt16.toUInt32.toInt32)), (.int (nar .char (p2 &&& (255 : Int32)).toUInt32.toUInt16.toUInt32.toInt32)), (.int (nar .char (p3 &&& (255 : Int32)).toUInt32.toUInt16.toUInt32.toInt32))] (.int (0 : Int32)) := V64_65.keep x66c0 (ninS ne_b58_b65 nin0)
        have A65_66 : Exa Z T66.heap b65 "java/lang/String" := A65.keep x66c0
        have Sh_CS_66 : Sta Z T66.heap "java/lang/String" "COMPACT_STRINGS" "Z" (.int zc) := S_CS.ext X00_66.2
        have Sh_D_66 : Sta Z T66.heap "java/util/ArrayList" "DEFAULTCAPACITY_EMPTY_ELEMENTDATA" "[Ljava/lang/Object;" (.ref w_D) := S_D.ext X00_66.2
        have Sh_E_66 : Sta Z T66.heap "java/util/ImmutableCollections" "EMPTY" "Ljava/lang/Object;" (.ref w_E) := S_E.ext X00_66.2
        have Sh_F_66 : Sta Z T66.heap "jdk/internal/util/Preconditions" "SIOOBE_FORMATTER" "Ljava/util/function/BiFunction;" GFx := S_F.ext X00_66.2
        have hk66' : _ ≤ T66.heap.size := Nat.le_trans hk65' x66c0.1
        have Z66 : n0 ≤ T66.heap.size := Nat.le_trans Z65 x66c0.1
        have VB66 : Arv Z T66.heap x66c3 x66c4 .byte (3 : Int32) [(.int ((nar .char (p1 &&& (255 : Int32)).toUInt32.toUInt16.toUInt32.toInt32)).toInt8.toInt32), (.int ((nar .char (p2 &&& (255 : Int32)).toUInt32.toUInt16.toUInt32.toInt32)).toInt8.toInt32), (.int ((nar .char (p3 &&& (255 : Int32)).toUInt32.toUInt16.toUInt32.toInt32)).toInt8.toInt32)] (.int (0 : Int32)) := x66c9
        obtain ⟨T67, h67, X67, e67, E67, A67, D67, -, st67⟩ := newO X66 hx hZ hown (hw _ (List.mem_of_getElem? (i := 22) rfl)) (hw _ (List.mem_of_getElem? (i := 23) rfl)) (hw _ (List.mem_of_getElem? (i := 24) rfl)) rfl (g := (mkF m 116 #[.val (.int p0), .val (.int p1), .val (.int p2), .val (.int p3), .val (.int (3 : Int32)), .val (.int (p1 &&& (255 : Int32)).toUInt32.toUInt16.toUInt32.toInt32), .val (.int (p2 &&& (255 : Int32)).toUInt32.toUInt16.toUInt32.toInt32), .val (.int (p3 &&& (255 : Int32)).toUInt32.toUInt16.toUInt32.toInt32), .val (.ref b58), .val (.ref b65), .unset, .unset, .unset, .unset] [])) rfl (hb hby at_116) (by decide) (by decide)
        obtain ⟨b67, g67⟩ : ∃ z, z = T66.heap.size := ⟨_, rfl⟩
        rw [← g67] at A67 D67 st67
        have ne_w_D_b67 : w_D ≠ b67 := Nat.ne_of_lt (Nat.lt_of_lt_of_le VD_66.lt (Nat.le_of_eq g67.symm))
        have ne_b58_b67 : b58 ≠ b67 := Nat.ne_of_lt (Nat.lt_of_lt_of_le V64_66.lt (Nat.le_of_eq g67.symm))
        have ne_b65_b67 : b65 ≠ b67 := Nat.ne_of_lt (Nat.lt_of_lt_of_le A65_66.lt (Nat.le_of_eq g67.symm))
        have ne_x66c3_b67 : x66c3 ≠ b67 := Nat.ne_of_lt (Nat.lt_of_lt_of_le VB66.lt (Nat.le_of_eq g67.symm))
        have g_b67 : n0 ≤ b67 := Nat.le_trans Z66 (Nat.le_of_eq g67.symm)
        have X00_67 : Old Z n0 h67 := Old.ext X00_66 E67
        have VD_67 : Arv Z h67 w_D kd (.object "java/lang/Object") (0 : Int32) [] .null := VD_66.ext E67
        have V64_67 : Arv Z h67 b58 k58 .char (3 : Int32) [(.int (nar .char (p1 &&& (255 : Int32)).toUInt32.toUInt16.toUInt32.toInt32)), (.int (nar .char (p2 &&& (255 : Int32)).toUInt32.toUInt16.toUInt32.toInt32)), (.int (nar .char (p3 &&& (255 : Int32)).toUInt32.toUInt16.toUInt32.toInt32))] (.int (0 : Int32)) := V64_66.ext E67
        have A65_67 : Exa Z h67 b65 "java/lang/String" := A65_66.ext E67
        have Sh_CS_67 : Sta Z h67 "java/lang/String" "COMPACT_STRINGS" "Z" (.int zc) := Sh_CS_66.ext E67
        have Sh_D_67 : Sta Z h67 "java/util/ArrayList" "DEFAULTCAPACITY_EMPTY_ELEMENTDATA" "[Ljava/lang/Object;" (.ref w_D) := Sh_D_66.ext E67
        have Sh_E_67 : Sta Z h67 "java/util/ImmutableCollections" "EMPTY" "Ljava/lang/Object;" (.ref w_E) := Sh_E_66.ext E67
        have Sh_F_67 : Sta Z h67 "jdk/internal/util/Preconditions" "SIOOBE_FORMATTER" "Ljava/util/function/BiFunction;" GFx := Sh_F_66.ext E67
        have x66c2_67 : Fld Z h67 b65 "java/lang/String" "coder" "B" (.int (0 : Int32)) := x66c2.ext E67
        have x66c8_67 : Fld Z h67 b65 "java/lang/String" "value" "[B" (.ref x66c3) := x66c8.ext E67
        have VB66_67 : Arv Z h67 x66c3 x66c4 .byte (3 : Int32) [(.int ((nar .char (p1 &&& (255 : Int32)).toUInt32.toUInt16.toUInt32.toInt32)).toInt8.toInt32), (.int ((nar .char (p2 &&& (255 : Int32)).toUInt32.toUInt16.toUInt32.toInt32)).toInt8.toInt32), (.int ((nar .char (p3 &&& (255 : Int32)).toUInt32.toUInt16.toUInt32.toInt32)).toInt8.toInt32)] (.int (0 : Int32)) := VB66.ext E67
        have hk67' : _ ≤ h67.size := Nat.le_trans hk66' E67.1
        have Z67 : n0 ≤ h67.size := Nat.le_trans Z66 E67.1
        have F_modCount_b67 : Fld Z h67 b67 "java/util/AbstractList" "modCount" "I" (.int (0 : Int32)) := D67 (Or.inl (hw _ (List.mem_of_getElem? (i := 42) rfl))) (ty := .int) (by decide)
        have F_elementData_b67 : Fld Z h67 b67 "java/util/ArrayList" "elementData" "[Ljava/lang/Object;" .null := D67 (Or.inl (hw _ (List.mem_of_getElem? (i := 45) rfl))) (ty := (.array (.object "java/lang/Object"))) (by decide)
        have F_size_b67 : Fld Z h67 b67 "java/util/ArrayList" "size" "I" (.int (0 : Int32)) := D67 (Or.inl (hw _ (List.mem_of_getElem? (i := 58) rfl))) (ty := .int) (by decide)
        obtain ⟨_, _, ⟨T68, L68, k68, n68⟩, -, X68, ⟨Lc68, hQ68, l68, y68, z68⟩, st68⟩ := X67.specialBack hx (y := (⟨"java/util/ArrayList", "<init>", "()V"⟩ : MethodName)) rfl hown (mvT hZ (hw _ (List.mem_of_getElem? (i := 25) rfl))) (mvT hZ (hw _ (List.mem_of_getElem? (i := 26) rfl))) (mvT hZ (hw _ (List.mem_of_getElem? (i := 27) rfl))) (by decide) (backOf (W := 1) (rm_al l Z a0 hw [] b67 w_D h67 n0 Z67 A67 F_modCount_b67 F_elementData_b67 F_size_b67 g_b67 X00_67 S_D) hZ (hw _ (List.mem_of_getElem? (i := 27) rfl)) (hw _ (List.mem_of_getElem? (i := 24) rfl)) (by decide) (by decide)) (g := (mkF m 120 #[.val (.int p0), .val (.int p1), .val (.int p2), .val (.int p3), .val (.int (3 : Int32)), .val (.int (p1 &&& (255 : Int32)).toUInt32.toUInt16.toUInt32.toInt32), .val (.int (p2 &&& (255 : Int32)).toUInt32.toUInt16.toUInt32.toInt32), .val (.int (p3 &&& (255 : Int32)).toUInt32.toUInt16.toUInt32.toInt32), .val (.ref b58), .val (.ref b65), .unset, .unset, .unset, .unset] [(.ref b67), (.ref b67)])) rfl (by rw [hml]; rfl) (Steps.refl _) (a := b67) (argsL := []) (rest := [(.ref b67)]) (lenOf pd_1 rfl) rfl (by show 2 * 0 + _ ≤ _; exact Nat.le_of_eq rfl) (hb hby at_120) (fun _ _ => ⟨rfl, e67, (by decide : 4 + 0 ≤ _), (by decide : 13 + 0 ≤ _)⟩)
        dsimp only [Pt.U, Pt.locs, Pt.cells, Pt.slots] at X68 l68 y68 z68 st68 hQ68
        subst l68 y68 z68
        obtain ⟨rfl, N68q, x68c0, x68c1, x68c2, x68c3⟩ := hQ68
        have N68 := Fr.app N66 N68q
        have X00_68 : Old Z n0 T68.heap := X00_67.keep x68c0 (allS g_b67 all0)
        have VD_68 : Arv Z T68.heap w_D kd (.object "java/lang/Object") (0 : Int32) [] .null := VD_67.keep x68c0 (ninS ne_w_D_b67 nin0)
        have V64_68 : Arv Z T68.heap b58 k58 .char (3 : Int32) [(.int (nar .char (p1 &&& (255 : Int32)).toUInt32.toUInt16.toUInt32.toInt32)), (.int (nar .char (p2 &&& (255 : Int32)).toUInt32.toUInt16.toUInt32.toInt32)), (.int (nar .char (p3 &&& (255 : Int32)).toUInt32.toUInt16.toUInt32.toInt32))] (.int (0 : Int32)) := V64_67.keep x68c0 (ninS ne_b58_b67 nin0)
        have A65_68 : Exa Z T68.heap b65 "java/lang/String" := A65_67.keep x68c0
        have x66c2_68 : Fld Z T68.heap b65 "java/lang/String" "coder" "B" (.int (0 : Int32)) := x66c2_67.keep x68c0 (ninS ne_b65_b67 nin0)
        have x66c8_68 : Fld Z T68.heap b65 "java/lang/String" "value" "[B" (.ref x66c3) := x66c8_67.keep x68c0 (ninS ne_b65_b67 nin0)
        have VB66_68 : Arv Z T68.heap x66c3 x66c4 .byte (3 : Int32) [(.int ((nar .char (p1 &&& (255 : Int32)).toUInt32.toUInt16.toUInt32.toInt32)).toInt8.toInt32), (.int ((nar .char (p2 &&& (255 : Int32)).toUInt32.toUInt16.toUInt32.toInt32)).toInt8.toInt32), (.int ((nar .char (p3 &&& (255 : Int32)).toUInt32.toUInt16.toUInt32.toInt32)).toInt8.toInt32)] (.int (0 : Int32)) := VB66_67.keep x68c0 (ninS ne_x66c3_b67 nin0)
        have A67_68 : Exa Z T68.heap b67 "java/util/ArrayList" := A67.keep x68c0
        have Sh_CS_68 : Sta Z T68.heap "java/lang/String" "COMPACT_STRINGS" "Z" (.int zc) := S_CS.ext X00_68.2
        have Sh_D_68 : Sta Z T68.heap "java/util/ArrayList" "DEFAULTCAPACITY_EMPTY_ELEMENTDATA" "[Ljava/lang/Object;" (.ref w_D) := S_D.ext X00_68.2
        have Sh_E_68 : Sta Z T68.heap "java/util/ImmutableCollections" "EMPTY" "Ljava/lang/Object;" (.ref w_E) := S_E.ext X00_68.2
        have Sh_F_68 : Sta Z T68.heap "jdk/internal/util/Preconditions" "SIOOBE_FORMATTER" "Ljava/util/function/BiFunction;" GFx := S_F.ext X00_68.2
        have hk68' : _ ≤ T68.heap.size := Nat.le_trans hk67' x68c0.1
        have Z68 : n0 ≤ T68.heap.size := Nat.le_trans Z67 x68c0.1
        obtain ⟨cq69, kq69, q69a, q69b, q69c⟩ := isOf hZ rfl A67_68
        obtain ⟨_, _, ⟨T69, L69, k69, n69⟩, -, X69, ⟨Lc69, hQ69, l69, y69, z69⟩, st69⟩ := X68.interfaceBack hx (xi := (⟨"java/util/List", "add", "(Ljava/lang/Object;)Z"⟩ : MethodName)) (y := (⟨"java/util/ArrayList", "add", "(Ljava/lang/Object;)Z"⟩ : MethodName)) hown (mvT hZ (hw _ (List.mem_of_getElem? (i := 46) rfl))) (mvT hZ (hw _ (List.mem_of_getElem? (i := 47) rfl))) (mvT hZ (hw _ (List.mem_of_getElem? (i := 48) rfl))) (mvT hZ (hw _ (List.mem_of_getElem? (i := 49) rfl))) (mvT hZ (hw _ (List.mem_of_getElem? (i := 50) rfl))) (mvT hZ (hw _ (List.mem_of_getElem? (i := 51) rfl))) (mvT hZ (hw _ (List.mem_of_getElem? (i := 52) rfl))) (mvT hZ (hw _ (List.mem_of_getElem? (i := 53) rfl))) (by decide) (backOf (W := 0) (rm_add l Z a0 hw [] b67 b65 w_D kd [] .null T68.heap n0 Z68 A67_68 g_b67 x68c2 x68c3 Sh_D_68 VD_68 (Ne.symm ne_w_D_b67) A65_68 x68c1) hZ (hw _ (List.mem_of_getElem? (i := 54) rfl)) (hw _ (List.mem_of_getElem? (i := 24) rfl)) (by decide) (by decide)) q69a q69b q69c (g := (mkF m 129 #[.val (.int p0), .val (.int p1), .val (.int p2), .val (.int p3), .val (.int (3 : Int32)), .val (.int (p1 &&& (255 : Int32)).toUInt32.toUInt16.toUInt32.toInt32), .val (.int (p2 &&& (255 : Int32)).toUInt32.toUInt16.toUInt32.toInt32), .val (.int (p3 &&& (255 : Int32)).toUInt32.toUInt16.toUInt32.toInt32), .val (.ref b58), .val (.ref b65), .val (.ref b67), .unset, .unset, .unset] [(.ref b65), (.ref b67)])) rfl (by rw [hml]; rfl) (Steps.refl _) (argsL := [(.ref b65)]) (rest := []) (lenOf pd_19 rfl) rfl (by show 2 * 0 + _ ≤ _; exact Nat.le_of_eq rfl) (hb hby at_129) (fun _ _ => ⟨rfl, rfl, (by decide : 4 + 1 ≤ _), (by decide : 13 + 10 ≤ _)⟩)
        dsimp only [Pt.U, Pt.locs, Pt.cells, Pt.slots] at X69 l69 y69 z69 st69 hQ69
        subst l69 y69 z69
        obtain ⟨rfl, N69q, x69c0, x69c1, x69c2⟩ := hQ69
        have N69 := Fr.app N68 N69q
        obtain ⟨ab69, ak69, ag69, ah69, aF69, aV69⟩ := x69c2
        have ne_w_D_ab69 : w_D ≠ ab69 := Nat.ne_of_lt (Nat.lt_of_lt_of_le VD_68.lt ah69)
        have ne_b58_ab69 : b58 ≠ ab69 := Nat.ne_of_lt (Nat.lt_of_lt_of_le V64_68.lt ah69)
        have ne_b65_ab69 : b65 ≠ ab69 := Nat.ne_of_lt (Nat.lt_of_lt_of_le A65_68.lt ah69)
        have ne_x66c3_ab69 : x66c3 ≠ ab69 := Nat.ne_of_lt (Nat.lt_of_lt_of_le VB66_68.lt ah69)
        have ne_b67_ab69 : b67 ≠ ab69 := Nat.ne_of_lt (Nat.lt_of_lt_of_le A67_68.lt ah69)
        have X00_69 : Old Z n0 T69.heap := X00_68.keep x69c0 (allS g_b67 all0)
        have VD_69 : Arv Z T69.heap w_D kd (.object "java/lang/Object") (0 : Int32) [] .null := VD_68.keep x69c0 (ninS ne_w_D_b67 nin0)
        have V64_69 : Arv Z T69.heap b58 k58 .char (3 : Int32) [(.int (nar .char (p1 &&& (255 : Int32)).toUInt32.toUInt16.toUInt32.toInt32)), (.int (nar .char (p2 &&& (255 : Int32)).toUInt32.toUInt16.toUInt32.toInt32)), (.int (nar .char (p3 &&& (255 : Int32)).toUInt32.toUInt16.toUInt32.toInt32))] (.int (0 : Int32)) := V64_68.keep x69c0 (ninS ne_b58_b67 nin0)
        have A65_69 : Exa Z T69.heap b65 "java/lang/String" := A65_68.keep x69c0
        have x66c2_69 : Fld Z T69.heap b65 "java/lang/String" "coder" "B" (.int (0 : Int32)) := x66c2_68.keep x69c0 (ninS ne_b65_b67 nin0)
        have x66c8_69 : Fld Z T69.heap b65 "java/lang/String" "value" "[B" (.ref x66c3) := x66c8_68.keep x69c0 (ninS ne_b65_b67 nin0)
        have VB66_69 : Arv Z T69.heap x66c3 x66c4 .byte (3 : Int32) [(.int ((nar .char (p1 &&& (255 : Int32)).toUInt32.toUInt16.toUInt32.toInt32)).toInt8.toInt32), (.int ((nar .char (p2 &&& (255 : Int32)).toUInt32.toUInt16.toUInt32.toInt32)).toInt8.toInt32), (.int ((nar .char (p3 &&& (255 : Int32)).toUInt32.toUInt16.toUInt32.toInt32)).toInt8.toInt32)] (.int (0 : Int32)) := VB66_68.keep x69c0 (ninS ne_x66c3_b67 nin0)
        have A67_69 : Exa Z T69.heap b67 "java/util/ArrayList" := A67_68.keep x69c0
        have Sh_CS_69 : Sta Z T69.heap "java/lang/String" "COMPACT_STRINGS" "Z" (.int zc) := S_CS.ext X00_69.2
        have Sh_D_69 : Sta Z T69.heap "java/util/ArrayList" "DEFAULTCAPACITY_EMPTY_ELEMENTDATA" "[Ljava/lang/Object;" (.ref w_D) := S_D.ext X00_69.2
        have Sh_E_69 : Sta Z T69.heap "java/util/ImmutableCollections" "EMPTY" "Ljava/lang/Object;" (.ref w_E) := S_E.ext X00_69.2
        have Sh_F_69 : Sta Z T69.heap "jdk/internal/util/Preconditions" "SIOOBE_FORMATTER" "Ljava/util/function/BiFunction;" GFx := S_F.ext X00_69.2
        have hk69' : _ ≤ T69.heap.size := Nat.le_trans hk68' x69c0.1
        have Z69 : n0 ≤ T69.heap.size := Nat.le_trans Z68 x69c0.1
        obtain ⟨_, _, ⟨T70, L70, k70, n70⟩, -, X70, hSq70, gr70, ⟨Lc70, hQ70, l70, y70, z70⟩, st70⟩ := callSS X69 hx (y := (⟨"com/example/fyfo/fyfo/Runner$Shell", "fromWords", "(Ljava/util/List;)Lcom/example/fyfo/fyfo/Runner$Shell;"⟩ : MethodName)) hown (mvT hZ (hw _ (List.mem_of_getElem? (i := 81) rfl))) (mvT hZ (hw _ (List.mem_of_getElem? (i := 82) rfl))) (mvT hZ (hw _ (List.mem_of_getElem? (i := 83) rfl))) (mvT hZ (hw _ (List.mem_of_getElem? (i := 84) rfl))) (by decide) (backOfS (W := 0) (rm_from l Z a0 hw [] b67 ab69 ak69 b65 T69.heap n0 Z69 aF69 aV69 x69c1 A67_69 A65_69) hZ (hw _ (List.mem_of_getElem? (i := 84) rfl)) (hw _ (List.mem_of_getElem? (i := 83) rfl)) (by decide) (by decide)) (g := (mkF m 137 #[.val (.int p0), .val (.int p1), .val (.int p2), .val (.int p3), .val (.int (3 : Int32)), .val (.int (p1 &&& (255 : Int32)).toUInt32.toUInt16.toUInt32.toInt32), .val (.int (p2 &&& (255 : Int32)).toUInt32.toUInt16.toUInt32.toInt32), .val (.int (p3 &&& (255 : Int32)).toUInt32.toUInt16.toUInt32.toInt32), .val (.ref b58), .val (.ref b65), .val (.ref b67), .unset, .unset, .unset] [(.ref b67)])) rfl (by rw [hml]; rfl) (argsL := [(.ref b67)]) (rest := []) (lenOf pd_20 rfl) rfl (by show 2 * 0 + _ ≤ _; exact Nat.le_of_eq rfl) (hb hby at_137) (fun _ _ => ⟨rfl, rfl, (by decide : 5 + 3 ≤ _), (by decide : 23 + 33 ≤ _)⟩)
        dsimp only [Pt.U, Pt.locs, Pt.cells, Pt.slots] at X70 l70 y70 z70 st70 hQ70 hSq70 gr70
        subst l70 y70 z70
        obtain ⟨bx70, rfl, N70q, x70c0, x70c1, x70c2, x70c3, x70c4⟩ := hQ70
        have N70 := Fr.app N69 N70q
        have ne_w_D_bx70 : w_D ≠ bx70 := Nat.ne_of_lt (Nat.lt_of_lt_of_le VD_69.lt x70c2)
        have ne_b58_bx70 : b58 ≠ bx70 := Nat.ne_of_lt (Nat.lt_of_lt_of_le V64_69.lt x70c2)
        have ne_b65_bx70 : b65 ≠ bx70 := Nat.ne_of_lt (Nat.lt_of_lt_of_le A65_69.lt x70c2)
        have ne_x66c3_bx70 : x66c3 ≠ bx70 := Nat.ne_of_lt (Nat.lt_of_lt_of_le VB66_69.lt x70c2)
        have ne_b67_bx70 : b67 ≠ bx70 := Nat.ne_of_lt (Nat.lt_of_lt_of_le A67_69.lt x70c2)
        have ne_ab69_bx70 : ab69 ≠ bx70 := Nat.ne_of_lt (Nat.lt_of_lt_of_le aV69.lt x70c2)
        have X00_70 : Old Z n0 T70.heap := X00_69.keep x70c0 all0
        have VD_70 : Arv Z T70.heap w_D kd (.object "java/lang/Object") (0 : Int32) [] .null := VD_69.keep x70c0 nin0
        have V64_70 : Arv Z T70.heap b58 k58 .char (3 : Int32) [(.int (nar .char (p1 &&& (255 : Int32)).toUInt32.toUInt16.toUInt32.toInt32)), (.int (nar .char (p2 &&& (255 : Int32)).toUInt32.toUInt16.toUInt32.toInt32)), (.int (nar .char (p3 &&& (255 : Int32)).toUInt32.toUInt16.toUInt32.toInt32))] (.int (0 : Int32)) := V64_69.keep x70c0 nin0
        have A65_70 : Exa Z T70.heap b65 "java/lang/String" := A65_69.keep x70c0
        have x66c2_70 : Fld Z T70.heap b65 "java/lang/String" "coder" "B" (.int (0 : Int32)) := x66c2_69.keep x70c0 nin0
        have x66c8_70 : Fld Z T70.heap b65 "java/lang/String" "value" "[B" (.ref x66c3) := x66c8_69.keep x70c0 nin0
        have VB66_70 : Arv Z T70.heap x66c3 x66c4 .byte (3 : Int32) [(.int ((nar .char (p1 &&& (255 : Int32)).toUInt32.toUInt16.toUInt32.toInt32)).toInt8.toInt32), (.int ((nar .char (p2 &&& (255 : Int32)).toUInt32.toUInt16.toUInt32.toInt32)).toInt8.toInt32), (.int ((nar .char (p3 &&& (255 : Int32)).toUInt32.toUInt16.toUInt32.toInt32)).toInt8.toInt32)] (.int (0 : Int32)) := VB66_69.keep x70c0 nin0
        have A67_70 : Exa Z T70.heap b67 "java/util/ArrayList" := A67_69.keep x70c0
        have x69c1_70 : Fld Z T70.heap b67 "java/util/ArrayList" "size" "I" (.int (1 : Int32)) := x69c1.keep x70c0 nin0
        have aF69_70 : Fld Z T70.heap b67 "java/util/ArrayList" "elementData" "[Ljava/lang/Object;" (.ref ab69) := aF69.keep x70c0 nin0
        have aV69_70 : Arv Z T70.heap ab69 ak69 (.object "java/lang/Object") (10 : Int32) [(.ref b65), .null, .null, .null, .null, .null, .null, .null, .null, .null] .null := aV69.keep x70c0 nin0
        have Sh_CS_70 : Sta Z T70.heap "java/lang/String" "COMPACT_STRINGS" "Z" (.int zc) := S_CS.ext X00_70.2
        have Sh_D_70 : Sta Z T70.heap "java/util/ArrayList" "DEFAULTCAPACITY_EMPTY_ELEMENTDATA" "[Ljava/lang/Object;" (.ref w_D) := S_D.ext X00_70.2
        have Sh_E_70 : Sta Z T70.heap "java/util/ImmutableCollections" "EMPTY" "Ljava/lang/Object;" (.ref w_E) := S_E.ext X00_70.2
        have Sh_F_70 : Sta Z T70.heap "jdk/internal/util/Preconditions" "SIOOBE_FORMATTER" "Ljava/util/function/BiFunction;" GFx := S_F.ext X00_70.2
        have hk70' : _ ≤ T70.heap.size := Nat.le_trans hk69' x70c0.1
        have Z70 : n0 ≤ T70.heap.size := Nat.le_trans Z69 x70c0.1
        have X70b : Stand p l e room_1 (s.setVm T70.vm) m #[(.int p0), (.int p1), (.int p2), (.int p3)] below meth c T70 _ _ _ := X70
        have hS70 : s.Since T70.vm T70.heap.size := foldS hS0 (T := T69) (by first | exact hk69' | (rw [rfl]; exact hk69')) hSq70 gr70
        have hZ70 : Z.Warmed39 (s.setVm T70.vm).vm := State.Warmed39.trans (t := s.setVm s.vm) hZ hSq70.1
        have hown70 : (s.setVm T70.vm).vm.findClass "com/example/fyfo/fyfo/ShellFromWordsPinLaw" = some m.cls := by rw [show (s.setVm T70.vm).vm = T70.vm from rfl, hSq70.1.alike.findClass]; exact hown
        have hk70 := Nat.le_refl T70.heap.size
        obtain ⟨cq71, kq71, q71a, q71b, q71c⟩ := isOf hZ70 rfl x70c3
        obtain ⟨_, _, ⟨T71, L71, k71, n71⟩, -, X71, ⟨Lc71, hQ71, l71, y71, z71⟩, st71⟩ := X70b.virtualBack hx (y := (⟨"com/example/fyfo/fyfo/Runner$Shell", "command", "()Ljava/lang/String;"⟩ : MethodName)) (z := (⟨"com/example/fyfo/fyfo/Runner$Shell", "command", "()Ljava/lang/String;"⟩ : MethodName)) hown70 (mvT hZ70 (hw _ (List.mem_of_getElem? (i := 132) rfl))) (mvT hZ70 (hw _ (List.mem_of_getElem? (i := 133) rfl))) (notFace_of_selects (args := #[]) (mvT hZ70 (hw _ (List.mem_of_getElem? (i := 135) rfl)))) (mvT hZ70 (hw _ (List.mem_of_getElem? (i := 135) rfl))) (mvT hZ70 (hw _ (List.mem_of_getElem? (i := 134) rfl))) (by decide) (backOf (W := 0) (rm_cmd l Z a0 hw [] bx70 b65 T70.heap n0 Z70 x70c4) hZ70 (hw _ (List.mem_of_getElem? (i := 136) rfl)) (hw _ (List.mem_of_getElem? (i := 83) rfl)) (by decide) (by decide)) q71a q71c (g := (mkF m 144 #[.val (.int p0), .val (.int p1), .val (.int p2), .val (.int p3), .val (.int (3 : Int32)), .val (.int (p1 &&& (255 : Int32)).toUInt32.toUInt16.toUInt32.toInt32), .val (.int (p2 &&& (255 : Int32)).toUInt32.toUInt16.toUInt32.toInt32), .val (.int (p3 &&& (255 : Int32)).toUInt32.toUInt16.toUInt32.toInt32), .val (.ref b58), .val (.ref b65), .val (.ref b67), .val (.ref bx70), .unset, .unset] [(.ref bx70)])) rfl (by rw [hml]; rfl) (Steps.refl _) (argsL := []) (rest := []) (lenOf pd_21 rfl) rfl (by show 2 * 0 + _ ≤ _; exact Nat.le_of_eq rfl) (hb hby at_144) (fun _ _ => ⟨rfl, rfl, (by decide : 8 + 0 ≤ _), (by decide : 56 + 0 ≤ _)⟩)
        dsimp only [Pt.U, Pt.locs, Pt.cells, Pt.slots] at X71 l71 y71 z71 st71 hQ71
        subst l71 y71 z71
        obtain ⟨rfl, N71q, e71⟩ := hQ71
        have N71 := Fr.app N70 N71q
        obtain ⟨cq72, kq72, q72a, q72b, q72c⟩ := isOf hZ70 e71 A65_70
        obtain ⟨_, _, ⟨T72, L72, k72, n72⟩, -, X72, ⟨Lc72, hQ72, l72, y72, z72⟩, st72⟩ := X71.virtualBack hx (y := (⟨"java/lang/String", "length", "()I"⟩ : MethodName)) (z := (⟨"java/lang/String", "length", "()I"⟩ : MethodName)) hown70 (mvT hZ70 (hw _ (List.mem_of_getElem? (i := 137) rfl))) (mvT hZ70 (hw _ (List.mem_of_getElem? (i := 138) rfl))) (notFace_of_selects (args := #[]) (mvT hZ70 (hw _ (List.mem_of_getElem? (i := 140) rfl)))) (mvT hZ70 (hw _ (List.mem_of_getElem? (i := 140) rfl))) (mvT hZ70 (hw _ (List.mem_of_getElem? (i := 139) rfl))) (by decide) (backOf (W := 0) (rm_len l Z a0 hw [] b65 zc x66c3 x66c4 (3 : Int32) [(.int ((nar .char (p1 &&& (255 : Int32)).toUInt32.toUInt16.toUInt32.toInt32)).toInt8.toInt32), (.int ((nar .char (p2 &&& (255 : Int32)).toUInt32.toUInt16.toUInt32.toInt32)).toInt8.toInt32), (.int ((nar .char (p3 &&& (255 : Int32)).toUInt32.toUInt16.toUInt32.toInt32)).toInt8.toInt32)] T70.heap n0 Z70 x66c2_70 Sh_CS_70 P5 x66c8_70 VB66_70 A65_70) hZ70 (hw _ (List.mem_of_getElem? (i := 141) rfl)) (hw _ (List.mem_of_getElem? (i := 3) rfl)) (by decide) (by decide)) q72a q72c (g := (mkF m 156 #[.val (.int p0), .val (.int p1), .val (.int p2), .val (.int p3), .val (.int (3 : Int32)), .val (.int (p1 &&& (255 : Int32)).toUInt32.toUInt16.toUInt32.toInt32), .val (.int (p2 &&& (255 : Int32)).toUInt32.toUInt16.toUInt32.toInt32), .val (.int (p3 &&& (255 : Int32)).toUInt32.toUInt16.toUInt32.toInt32), .val (.ref b58), .val (.ref b65), .val (.ref b67), .val (.ref bx70), .val (.ref b65), .unset] [(.ref b65)])) rfl (by rw [hml]; rfl) (Steps.refl _) (argsL := []) (rest := []) (lenOf pd_13 rfl) rfl (by show 2 * 0 + _ ≤ _; exact Nat.le_of_eq rfl) (hb hby at_156) (fun _ _ => ⟨rfl, e71, (by decide : 8 + 0 ≤ _), (by decide : 56 + 0 ≤ _)⟩)
        dsimp only [Pt.U, Pt.locs, Pt.cells, Pt.slots] at X72 l72 y72 z72 st72 hQ72
        subst l72 y72 z72
        obtain ⟨rfl, N72q, e72⟩ := hQ72
        have N72 := Fr.app N71 N72q
        obtain ⟨cq73, kq73, q73a, q73b, q73c⟩ := isOf hZ70 e72 A65_70
        obtain ⟨_, _, ⟨T73, L73, k73, n73⟩, -, X73, ⟨Lc73, hQ73, l73, y73, z73⟩, st73⟩ := X72.virtualBack hx (y := (⟨"java/lang/String", "charAt", "(I)C"⟩ : MethodName)) (z := (⟨"java/lang/String", "charAt", "(I)C"⟩ : MethodName)) hown70 (mvT hZ70 (hw _ (List.mem_of_getElem? (i := 215) rfl))) (mvT hZ70 (hw _ (List.mem_of_getElem? (i := 216) rfl))) (notFace_of_selects (args := #[]) (mvT hZ70 (hw _ (List.mem_of_getElem? (i := 218) rfl)))) (mvT hZ70 (hw _ (List.mem_of_getElem? (i := 218) rfl))) (mvT hZ70 (hw _ (List.mem_of_getElem? (i := 217) rfl))) (by decide) (backOf (W := 0) (rm_cat l Z a0 hw [] b65 (0 : Int32) zc x66c3 x66c4 (3 : Int32) [(.int ((nar .char (p1 &&& (255 : Int32)).toUInt32.toUInt16.toUInt32.toInt32)).toInt8.toInt32), (.int ((nar .char (p2 &&& (255 : Int32)).toUInt32.toUInt16.toUInt32.toInt32)).toInt8.toInt32), (.int ((nar .char (p3 &&& (255 : Int32)).toUInt32.toUInt16.toUInt32.toInt32)).toInt8.toInt32)] ((nar .char (p1 &&& (255 : Int32)).toUInt32.toUInt16.toUInt32.toInt32)).toInt8.toInt32 GFx T70.heap n0 Z70 x66c2_70 Sh_CS_70 P5 x66c8_70 VB66_70 A65_70 Sh_F_70 rG3 (by decide) (by decide) rfl) hZ70 (hw _ (List.mem_of_getElem? (i := 219) rfl)) (hw _ (List.mem_of_getElem? (i := 3) rfl)) (by decide) (by decide)) q73a q73c (g := (mkF m 175 #[.val (.int p0), .val (.int p1), .val (.int p2), .val (.int p3), .val (.int (3 : Int32)), .val (.int (p1 &&& (255 : Int32)).toUInt32.toUInt16.toUInt32.toInt32), .val (.int (p2 &&& (255 : Int32)).toUInt32.toUInt16.toUInt32.toInt32), .val (.int (p3 &&& (255 : Int32)).toUInt32.toUInt16.toUInt32.toInt32), .val (.ref b58), .val (.ref b65), .val (.ref b67), .val (.ref bx70), .val (.ref b65), .unset] [(.int (0 : Int32)), (.ref b65)])) rfl (by rw [hml]; rfl) (Steps.refl _) (argsL := [(.int (0 : Int32))]) (rest := []) (lenOf pd_23 rfl) rfl (by show 2 * 0 + _ ≤ _; exact Nat.le_of_eq rfl) (hb hby at_175) (fun _ _ => ⟨rfl, e72, (by decide : 8 + 0 ≤ _), (by decide : 56 + 0 ≤ _)⟩)
        dsimp only [Pt.U, Pt.locs, Pt.cells, Pt.slots] at X73 l73 y73 z73 st73 hQ73
        subst l73 y73 z73
        obtain ⟨rfl, N73q, e73⟩ := hQ73
        have N73 := Fr.app N72 N73q
        obtain ⟨cq74, kq74, q74a, q74b, q74c⟩ := isOf hZ70 e73 A65_70
        obtain ⟨_, _, ⟨T74, L74, k74, n74⟩, -, X74, ⟨Lc74, hQ74, l74, y74, z74⟩, st74⟩ := X73.virtualBack hx (y := (⟨"java/lang/String", "charAt", "(I)C"⟩ : MethodName)) (z := (⟨"java/lang/String", "charAt", "(I)C"⟩ : MethodName)) hown70 (mvT hZ70 (hw _ (List.mem_of_getElem? (i := 215) rfl))) (mvT hZ70 (hw _ (List.mem_of_getElem? (i := 216) rfl))) (notFace_of_selects (args := #[]) (mvT hZ70 (hw _ (List.mem_of_getElem? (i := 218) rfl)))) (mvT hZ70 (hw _ (List.mem_of_getElem? (i := 218) rfl))) (mvT hZ70 (hw _ (List.mem_of_getElem? (i := 217) rfl))) (by decide) (backOf (W := 0) (rm_cat l Z a0 hw [] b65 (1 : Int32) zc x66c3 x66c4 (3 : Int32) [(.int ((nar .char (p1 &&& (255 : Int32)).toUInt32.toUInt16.toUInt32.toInt32)).toInt8.toInt32), (.int ((nar .char (p2 &&& (255 : Int32)).toUInt32.toUInt16.toUInt32.toInt32)).toInt8.toInt32), (.int ((nar .char (p3 &&& (255 : Int32)).toUInt32.toUInt16.toUInt32.toInt32)).toInt8.toInt32)] ((nar .char (p2 &&& (255 : Int32)).toUInt32.toUInt16.toUInt32.toInt32)).toInt8.toInt32 GFx T70.heap n0 Z70 x66c2_70 Sh_CS_70 P5 x66c8_70 VB66_70 A65_70 Sh_F_70 rG3 (by decide) (by decide) rfl) hZ70 (hw _ (List.mem_of_getElem? (i := 219) rfl)) (hw _ (List.mem_of_getElem? (i := 3) rfl)) (by decide) (by decide)) q74a q74c (g := (mkF m 194 #[.val (.int p0), .val (.int p1), .val (.int p2), .val (.int p3), .val (.int (3 : Int32)), .val (.int (p1 &&& (255 : Int32)).toUInt32.toUInt16.toUInt32.toInt32), .val (.int (p2 &&& (255 : Int32)).toUInt32.toUInt16.toUInt32.toInt32), .val (.int (p3 &&& (255 : Int32)).toUInt32.toUInt16.toUInt32.toInt32), .val (.ref b58), .val (.ref b65), .val (.ref b67), .val (.ref bx70), .val (.ref b65), .unset] [(.int (1 : Int32)), (.ref b65)])) rfl (by rw [hml]; rfl) (Steps.refl _) (argsL := [(.int (1 : Int32))]) (rest := []) (lenOf pd_23 rfl) rfl (by show 2 * 0 + _ ≤ _; exact Nat.le_of_eq rfl) (hb hby at_194) (fun _ _ => ⟨rfl, e73, (by decide : 8 + 0 ≤ _), (by decide : 56 + 0 ≤ _)⟩)
        dsimp only [Pt.U, Pt.locs, Pt.cells, Pt.slots] at X74 l74 y74 z74 st74 hQ74
        subst l74 y74 z74
        obtain ⟨rfl, N74q, e74⟩ := hQ74
        have N74 := Fr.app N73 N74q
        obtain ⟨cq75, kq75, q75a, q75b, q75c⟩ := isOf hZ70 e74 A65_70
        obtain ⟨_, _, ⟨T75, L75, k75, n75⟩, -, X75, ⟨Lc75, hQ75, l75, y75, z75⟩, st75⟩ := X74.virtualBack hx (y := (⟨"java/lang/String", "charAt", "(I)C"⟩ : MethodName)) (z := (⟨"java/lang/String", "charAt", "(I)C"⟩ : MethodName)) hown70 (mvT hZ70 (hw _ (List.mem_of_getElem? (i := 215) rfl))) (mvT hZ70 (hw _ (List.mem_of_getElem? (i := 216) rfl))) (notFace_of_selects (args := #[]) (mvT hZ70 (hw _ (List.mem_of_getElem? (i := 218) rfl)))) (mvT hZ70 (hw _ (List.mem_of_getElem? (i := 218) rfl))) (mvT hZ70 (hw _ (List.mem_of_getElem? (i := 217) rfl))) (by decide) (backOf (W := 0) (rm_cat l Z a0 hw [] b65 (2 : Int32) zc x66c3 x66c4 (3 : Int32) [(.int ((nar .char (p1 &&& (255 : Int32)).toUInt32.toUInt16.toUInt32.toInt32)).toInt8.toInt32), (.int ((nar .char (p2 &&& (255 : Int32)).toUInt32.toUInt16.toUInt32.toInt32)).toInt8.toInt32), (.int ((nar .char (p3 &&& (255 : Int32)).toUInt32.toUInt16.toUInt32.toInt32)).toInt8.toInt32)] ((nar .char (p3 &&& (255 : Int32)).toUInt32.toUInt16.toUInt32.toInt32)).toInt8.toInt32 GFx T70.heap n0 Z70 x66c2_70 Sh_CS_70 P5 x66c8_70 VB66_70 A65_70 Sh_F_70 rG3 (by decide) (by decide) rfl) hZ70 (hw _ (List.mem_of_getElem? (i := 219) rfl)) (hw _ (List.mem_of_getElem? (i := 3) rfl)) (by decide) (by decide)) q75a q75c (g := (mkF m 213 #[.val (.int p0), .val (.int p1), .val (.int p2), .val (.int p3), .val (.int (3 : Int32)), .val (.int (p1 &&& (255 : Int32)).toUInt32.toUInt16.toUInt32.toInt32), .val (.int (p2 &&& (255 : Int32)).toUInt32.toUInt16.toUInt32.toInt32), .val (.int (p3 &&& (255 : Int32)).toUInt32.toUInt16.toUInt32.toInt32), .val (.ref b58), .val (.ref b65), .val (.ref b67), .val (.ref bx70), .val (.ref b65), .unset] [(.int (2 : Int32)), (.ref b65)])) rfl (by rw [hml]; rfl) (Steps.refl _) (argsL := [(.int (2 : Int32))]) (rest := []) (lenOf pd_23 rfl) rfl (by show 2 * 0 + _ ≤ _; exact Nat.le_of_eq rfl) (hb hby at_213) (fun _ _ => ⟨rfl, e74, (by decide : 8 + 0 ≤ _), (by decide : 56 + 0 ≤ _)⟩)
        dsimp only [Pt.U, Pt.locs, Pt.cells, Pt.slots] at X75 l75 y75 z75 st75 hQ75
        subst l75 y75 z75
        obtain ⟨rfl, N75q, e75⟩ := hQ75
        have N75 := Fr.app N74 N75q
        obtain ⟨cq76, kq76, q76a, q76b, q76c⟩ := isOf hZ70 e75 x70c3
        obtain ⟨_, _, ⟨T76, L76, k76, n76⟩, -, X76, ⟨Lc76, hQ76, l76, y76, z76⟩, st76⟩ := X75.virtualBack hx (y := (⟨"com/example/fyfo/fyfo/Runner$Shell", "words", "()Ljava/util/List;"⟩ : MethodName)) (z := (⟨"com/example/fyfo/fyfo/Runner$Shell", "words", "()Ljava/util/List;"⟩ : MethodName)) hown70 (mvT hZ70 (hw _ (List.mem_of_getElem? (i := 148) rfl))) (mvT hZ70 (hw _ (List.mem_of_getElem? (i := 149) rfl))) (notFace_of_selects (args := #[]) (mvT hZ70 (hw _ (List.mem_of_getElem? (i := 151) rfl)))) (mvT hZ70 (hw _ (List.mem_of_getElem? (i := 151) rfl))) (mvT hZ70 (hw _ (List.mem_of_getElem? (i := 150) rfl))) (by decide) (backOf (W := 0) (rm_words l Z a0 hw [] bx70 b65 w_E T70.heap n0 Z70 x70c4 Sh_E_70) hZ70 (hw _ (List.mem_of_getElem? (i := 152) rfl)) (hw _ (List.mem_of_getElem? (i := 83) rfl)) (by decide) (by decide)) q76a q76c (g := (mkF m 225 #[.val (.int p0), .val (.int p1), .val (.int p2), .val (.int p3), .val (.int (3 : Int32)), .val (.int (p1 &&& (255 : Int32)).toUInt32.toUInt16.toUInt32.toInt32), .val (.int (p2 &&& (255 : Int32)).toUInt32.toUInt16.toUInt32.toInt32), .val (.int (p3 &&& (255 : Int32)).toUInt32.toUInt16.toUInt32.toInt32), .val (.ref b58), .val (.ref b65), .val (.ref b67), .val (.ref bx70), .val (.ref b65), .unset] [(.ref bx70)])) rfl (by rw [hml]; rfl) (Steps.refl _) (argsL := []) (rest := []) (lenOf pd_22 rfl) rfl (by show 2 * 0 + _ ≤ _; exact Nat.le_of_eq rfl) (hb hby at_225) (fun _ _ => ⟨rfl, e75, (by decide : 8 + 1 ≤ _), (by decide : 56 + 2 ≤ _)⟩)
        dsimp only [Pt.U, Pt.locs, Pt.cells, Pt.slots] at X76 l76 y76 z76 st76 hQ76
        subst l76 y76 z76
        obtain ⟨bx76, rfl, N76q, x76c0, x76c1, x76c2, x76c3, x76c4, x76c5⟩ := hQ76
        have N76 := Fr.app N75 N76q
        have ne_w_D_bx76 : w_D ≠ bx76 := Nat.ne_of_lt (Nat.lt_of_lt_of_le VD_70.lt x76c2)
        have ne_b58_bx76 : b58 ≠ bx76 := Nat.ne_of_lt (Nat.lt_of_lt_of_le V64_70.lt x76c2)
        have ne_b65_bx76 : b65 ≠ bx76 := Nat.ne_of_lt (Nat.lt_of_lt_of_le A65_70.lt x76c2)
        have ne_x66c3_bx76 : x66c3 ≠ bx76 := Nat.ne_of_lt (Nat.lt_of_lt_of_le VB66_70.lt x76c2)
        have ne_b67_bx76 : b67 ≠ bx76 := Nat.ne_of_lt (Nat.lt_of_lt_of_le A67_70.lt x76c2)
        have ne_ab69_bx76 : ab69 ≠ bx76 := Nat.ne_of_lt (Nat.lt_of_lt_of_le aV69_70.lt x76c2)
        have ne_bx70_bx76 : bx70 ≠ bx76 := Nat.ne_of_lt (Nat.lt_of_lt_of_le x70c3.lt x76c2)
        have X00_76 : Old Z n0 T76.heap := X00_70.keep x76c0 all0
        have VD_76 : Arv Z T76.heap w_D kd (.object "java/lang/Object") (0 : Int32) [] .null := VD_70.keep x76c0 nin0
        have V64_76 : Arv Z T76.heap b58 k58 .char (3 : Int32) [(.int (nar .char (p1 &&& (255 : Int32)).toUInt32.toUInt16.toUInt32.toInt32)), (.int (nar .char (p2 &&& (255 : Int32)).toUInt32.toUInt16.toUInt32.toInt32)), (.int (nar .char (p3 &&& (255 : Int32)).toUInt32.toUInt16.toUInt32.toInt32))] (.int (0 : Int32)) := V64_70.keep x76c0 nin0
        have A65_76 : Exa Z T76.heap b65 "java/lang/String" := A65_70.keep x76c0
        have x66c2_76 : Fld Z T76.heap b65 "java/lang/String" "coder" "B" (.int (0 : Int32)) := x66c2_70.keep x76c0 nin0
        have x66c8_76 : Fld Z T76.heap b65 "java/lang/String" "value" "[B" (.ref x66c3) := x66c8_70.keep x76c0 nin0
        have VB66_76 : Arv Z T76.heap x66c3 x66c4 .byte (3 : Int32) [(.int ((nar .char (p1 &&& (255 : Int32)).toUInt32.toUInt16.toUInt32.toInt32)).toInt8.toInt32), (.int ((nar .char (p2 &&& (255 : Int32)).toUInt32.toUInt16.toUInt32.toInt32)).toInt8.toInt32), (.int ((nar .char (p3 &&& (255 : Int32)).toUInt32.toUInt16.toUInt32.toInt32)).toInt8.toInt32)] (.int (0 : Int32)) := VB66_70.keep x76c0 nin0
        have A67_76 : Exa Z T76.heap b67 "java/util/ArrayList" := A67_70.keep x76c0
        have x69c1_76 : Fld Z T76.heap b67 "java/util/ArrayList" "size" "I" (.int (1 : Int32)) := x69c1_70.keep x76c0 nin0
        have aF69_76 : Fld Z T76.heap b67 "java/util/ArrayList" "elementData" "[Ljava/lang/Object;" (.ref ab69) := aF69_70.keep x76c0 nin0
        have aV69_76 : Arv Z T76.heap ab69 ak69 (.object "java/lang/Object") (10 : Int32) [(.ref b65), .null, .null, .null, .null, .null, .null, .null, .null, .null] .null := aV69_70.keep x76c0 nin0
        have x70c3_76 : Exa Z T76.heap bx70 "com/example/fyfo/fyfo/Runner$Shell" := x70c3.keep x76c0
        have x70c4_76 : Fld Z T76.heap bx70 "com/example/fyfo/fyfo/Runner$Shell" "command" "Ljava/lang/String;" (.ref b65) := x70c4.keep x76c0 nin0
        have Sh_CS_76 : Sta Z T76.heap "java/lang/String" "COMPACT_STRINGS" "Z" (.int zc) := S_CS.ext X00_76.2
        have Sh_D_76 : Sta Z T76.heap "java/util/ArrayList" "DEFAULTCAPACITY_EMPTY_ELEMENTDATA" "[Ljava/lang/Object;" (.ref w_D) := S_D.ext X00_76.2
        have Sh_E_76 : Sta Z T76.heap "java/util/ImmutableCollections" "EMPTY" "Ljava/lang/Object;" (.ref w_E) := S_E.ext X00_76.2
        have Sh_F_76 : Sta Z T76.heap "jdk/internal/util/Preconditions" "SIOOBE_FORMATTER" "Ljava/util/function/BiFunction;" GFx := S_F.ext X00_76.2
        have hk76' : _ ≤ T76.heap.size := Nat.le_trans hk70 x76c0.1
        have Z76 : n0 ≤ T76.heap.size := Nat.le_trans Z70 x76c0.1
        obtain ⟨cq77, kq77, q77a, q77b, q77c⟩ := isOf hZ70 rfl A65_76
        obtain ⟨_, _, ⟨T77, L77, k77, n77⟩, -, X77, ⟨Lc77, hQ77, l77, y77, z77⟩, st77⟩ := X76.virtualBack hx (y := (⟨"java/lang/String", "equals", "(Ljava/lang/Object;)Z"⟩ : MethodName)) (z := (⟨"java/lang/String", "equals", "(Ljava/lang/Object;)Z"⟩ : MethodName)) hown70 (mvT hZ70 (hw _ (List.mem_of_getElem? (i := 187) rfl))) (mvT hZ70 (hw _ (List.mem_of_getElem? (i := 188) rfl))) (notFace_of_selects (args := #[]) (mvT hZ70 (hw _ (List.mem_of_getElem? (i := 190) rfl)))) (mvT hZ70 (hw _ (List.mem_of_getElem? (i := 190) rfl))) (mvT hZ70 (hw _ (List.mem_of_getElem? (i := 189) rfl))) (by decide) (backOf (W := 0) (rm_eq l Z a0 hw [] b65 b65 T76.heap n0 Z76 rfl) hZ70 (hw _ (List.mem_of_getElem? (i := 191) rfl)) (hw _ (List.mem_of_getElem? (i := 3) rfl)) (by decide) (by decide)) q77a q77c (g := (mkF m 234 #[.val (.int p0), .val (.int p1), .val (.int p2), .val (.int p3), .val (.int (3 : Int32)), .val (.int (p1 &&& (255 : Int32)).toUInt32.toUInt16.toUInt32.toInt32), .val (.int (p2 &&& (255 : Int32)).toUInt32.toUInt16.toUInt32.toInt32), .val (.int (p3 &&& (255 : Int32)).toUInt32.toUInt16.toUInt32.toInt32), .val (.ref b58), .val (.ref b65), .val (.ref b67), .val (.ref bx70), .val (.ref b65), .val (.ref bx76)] [(.ref b65), (.ref b65)])) rfl (by rw [hml]; rfl) (Steps.refl _) (argsL := [(.ref b65)]) (rest := []) (lenOf pd_19 rfl) rfl (by show 2 * 0 + _ ≤ _; exact Nat.le_of_eq rfl) (hb hby at_234) (fun _ _ => ⟨rfl, rfl, (by decide : 9 + 0 ≤ _), (by decide : 58 + 0 ≤ _)⟩)
        dsimp only [Pt.U, Pt.locs, Pt.cells, Pt.slots] at X77 l77 y77 z77 st77 hQ77
        subst l77 y77 z77
        obtain ⟨rfl, N77q, e77⟩ := hQ77
        have N77 := Fr.app N76 N77q
        obtain ⟨cq78, kq78, q78a, q78b, q78c⟩ := isOf hZ70 e77 x76c3
        obtain ⟨_, _, ⟨T78, L78, k78, n78⟩, -, X78, ⟨Lc78, hQ78, l78, y78, z78⟩, st78⟩ := X77.interfaceBack hx (xi := (⟨"java/util/List", "size", "()I"⟩ : MethodName)) (y := (⟨"java/util/ImmutableCollections$List12", "size", "()I"⟩ : MethodName)) hown70 (mvT hZ70 (hw _ (List.mem_of_getElem? (i := 192) rfl))) (mvT hZ70 (hw _ (List.mem_of_getElem? (i := 86) rfl))) (mvT hZ70 (hw _ (List.mem_of_getElem? (i := 87) rfl))) (mvT hZ70 (hw _ (List.mem_of_getElem? (i := 193) rfl))) (mvT hZ70 (hw _ (List.mem_of_getElem? (i := 194) rfl))) (mvT hZ70 (hw _ (List.mem_of_getElem? (i := 195) rfl))) (mvT hZ70 (hw _ (List.mem_of_getElem? (i := 196) rfl))) (mvT hZ70 (hw _ (List.mem_of_getElem? (i := 197) rfl))) (by decide) (backOf (W := 0) (rm_l12s l Z a0 hw [] bx76 w_E T76.heap n0 Z76 x76c5 Sh_E_76) hZ70 (hw _ (List.mem_of_getElem? (i := 198) rfl)) (hw _ (List.mem_of_getElem? (i := 159) rfl)) (by decide) (by decide)) q78a q78b q78c (g := (mkF m 242 #[.val (.int p0), .val (.int p1), .val (.int p2), .val (.int p3), .val (.int (3 : Int32)), .val (.int (p1 &&& (255 : Int32)).toUInt32.toUInt16.toUInt32.toInt32), .val (.int (p2 &&& (255 : Int32)).toUInt32.toUInt16.toUInt32.toInt32), .val (.int (p3 &&& (255 : Int32)).toUInt32.toUInt16.toUInt32.toInt32), .val (.ref b58), .val (.ref b65), .val (.ref b67), .val (.ref bx70), .val (.ref b65), .val (.ref bx76)] [(.ref bx76)])) rfl (by rw [hml]; rfl) (Steps.refl _) (argsL := []) (rest := []) (lenOf pd_13 rfl) rfl (by show 2 * 0 + _ ≤ _; exact Nat.le_of_eq rfl) (hb hby at_242) (fun _ _ => ⟨rfl, e77, (by decide : 9 + 0 ≤ _), (by decide : 58 + 0 ≤ _)⟩)
        dsimp only [Pt.U, Pt.locs, Pt.cells, Pt.slots] at X78 l78 y78 z78 st78 hQ78
        subst l78 y78 z78
        obtain ⟨rfl, N78q, e78⟩ := hQ78
        have N78 := Fr.app N77 N78q
        obtain ⟨cq79, kq79, q79a, q79b, q79c⟩ := isOf hZ70 e78 x76c3
        obtain ⟨_, _, ⟨T79, L79, k79, n79⟩, -, X79, ⟨Lc79, hQ79, l79, y79, z79⟩, st79⟩ := X78.interfaceBack hx (xi := (⟨"java/util/List", "get", "(I)Ljava/lang/Object;"⟩ : MethodName)) (y := (⟨"java/util/ImmutableCollections$List12", "get", "(I)Ljava/lang/Object;"⟩ : MethodName)) hown70 (mvT hZ70 (hw _ (List.mem_of_getElem? (i := 199) rfl))) (mvT hZ70 (hw _ (List.mem_of_getElem? (i := 96) rfl))) (mvT hZ70 (hw _ (List.mem_of_getElem? (i := 97) rfl))) (mvT hZ70 (hw _ (List.mem_of_getElem? (i := 200) rfl))) (mvT hZ70 (hw _ (List.mem_of_getElem? (i := 201) rfl))) (mvT hZ70 (hw _ (List.mem_of_getElem? (i := 202) rfl))) (mvT hZ70 (hw _ (List.mem_of_getElem? (i := 203) rfl))) (mvT hZ70 (hw _ (List.mem_of_getElem? (i := 197) rfl))) (by decide) (backOf (W := 0) (rm_l12g l Z a0 hw [] bx76 (0 : Int32) b65 T76.heap n0 Z76 x76c4 rfl) hZ70 (hw _ (List.mem_of_getElem? (i := 204) rfl)) (hw _ (List.mem_of_getElem? (i := 159) rfl)) (by decide) (by decide)) q79a q79b q79c (g := (mkF m 254 #[.val (.int p0), .val (.int p1), .val (.int p2), .val (.int p3), .val (.int (3 : Int32)), .val (.int (p1 &&& (255 : Int32)).toUInt32.toUInt16.toUInt32.toInt32), .val (.int (p2 &&& (255 : Int32)).toUInt32.toUInt16.toUInt32.toInt32), .val (.int (p3 &&& (255 : Int32)).toUInt32.toUInt16.toUInt32.toInt32), .val (.ref b58), .val (.ref b65), .val (.ref b67), .val (.ref bx70), .val (.ref b65), .val (.ref bx76)] [(.int (0 : Int32)), (.ref bx76)])) rfl (by rw [hml]; rfl) (Steps.refl _) (argsL := [(.int (0 : Int32))]) (rest := []) (lenOf pd_11 rfl) rfl (by show 2 * 0 + _ ≤ _; exact Nat.le_of_eq rfl) (hb hby at_254) (fun _ _ => ⟨rfl, e78, (by decide : 9 + 0 ≤ _), (by decide : 58 + 0 ≤ _)⟩)
        dsimp only [Pt.U, Pt.locs, Pt.cells, Pt.slots] at X79 l79 y79 z79 st79 hQ79
        subst l79 y79 z79
        obtain ⟨rfl, N79q, e79⟩ := hQ79
        have N79 := Fr.app N78 N79q
        obtain ⟨T80, X80, e80, st80⟩ := castY X79 hx hZ70 hown70 (hw _ (List.mem_of_getElem? (i := 1) rfl)) e79 (Ins.self A65_76) (g := (mkF m 259 #[.val (.int p0), .val (.int p1), .val (.int p2), .val (.int p3), .val (.int (3 : Int32)), .val (.int (p1 &&& (255 : Int32)).toUInt32.toUInt16.toUInt32.toInt32), .val (.int (p2 &&& (255 : Int32)).toUInt32.toUInt16.toUInt32.toInt32), .val (.int (p3 &&& (255 : Int32)).toUInt32.toUInt16.toUInt32.toInt32), .val (.ref b58), .val (.ref b65), .val (.ref b67), .val (.ref bx70), .val (.ref b65), .val (.ref bx76)] [(.ref b65)])) rfl rfl (hb hby at_259)
        obtain ⟨cq81, kq81, q81a, q81b, q81c⟩ := isOf hZ70 e80 A65_76
        obtain ⟨_, _, ⟨T81, L81, k81, n81⟩, -, X81, ⟨Lc81, hQ81, l81, y81, z81⟩, st81⟩ := X80.virtualBack hx (y := (⟨"java/lang/String", "equals", "(Ljava/lang/Object;)Z"⟩ : MethodName)) (z := (⟨"java/lang/String", "equals", "(Ljava/lang/Object;)Z"⟩ : MethodName)) hown70 (mvT hZ70 (hw _ (List.mem_of_getElem? (i := 187) rfl))) (mvT hZ70 (hw _ (List.mem_of_getElem? (i := 188) rfl))) (notFace_of_selects (args := #[]) (mvT hZ70 (hw _ (List.mem_of_getElem? (i := 190) rfl)))) (mvT hZ70 (hw _ (List.mem_of_getElem? (i := 190) rfl))) (mvT hZ70 (hw _ (List.mem_of_getElem? (i := 189) rfl))) (by decide) (backOf (W := 0) (rm_eq l Z a0 hw [] b65 b65 T76.heap n0 Z76 rfl) hZ70 (hw _ (List.mem_of_getElem? (i := 191) rfl)) (hw _ (List.mem_of_getElem? (i := 3) rfl)) (by decide) (by decide)) q81a q81c (g := (mkF m 264 #[.val (.int p0), .val (.int p1), .val (.int p2), .val (.int p3), .val (.int (3 : Int32)), .val (.int (p1 &&& (255 : Int32)).toUInt32.toUInt16.toUInt32.toInt32), .val (.int (p2 &&& (255 : Int32)).toUInt32.toUInt16.toUInt32.toInt32), .val (.int (p3 &&& (255 : Int32)).toUInt32.toUInt16.toUInt32.toInt32), .val (.ref b58), .val (.ref b65), .val (.ref b67), .val (.ref bx70), .val (.ref b65), .val (.ref bx76)] [(.ref b65), (.ref b65)])) rfl (by rw [hml]; rfl) (Steps.refl _) (argsL := [(.ref b65)]) (rest := []) (lenOf pd_19 rfl) rfl (by show 2 * 0 + _ ≤ _; exact Nat.le_of_eq rfl) (hb hby at_264) (fun _ _ => ⟨rfl, e80, (by decide : 9 + 0 ≤ _), (by decide : 58 + 0 ≤ _)⟩)
        dsimp only [Pt.U, Pt.locs, Pt.cells, Pt.slots] at X81 l81 y81 z81 st81 hQ81
        subst l81 y81 z81
        obtain ⟨rfl, N81q, e81⟩ := hQ81
        have N81 := Fr.app N79 N81q
        obtain ⟨fs, hr, hrun, hended, hREW⟩ := X81.leaveW hS70 (by first | exact hk76' | (rw [e81]; exact hk76')) (v := some (.int (1 : Int32))) (fun h => by rw [Bd.returns] at h; cases h)
        refine ⟨_, _, pre0 _ ?_, hrun, hended, _, _, rfl, ?_, hREW.1, hREW.2.1, hREW.2.2.1, hREW.2.2.2.mono (by decide) (by decide)⟩
        · refine k36 _ ?_
          show Steps p.tables e below (s₁.setTop (mkF m 64 #[.val (.int p0), .val (.int p1), .val (.int p2), .val (.int p3), .val (.int (p0 &&& (3 : Int32))), .val (.int (p1 &&& (255 : Int32)).toUInt32.toUInt16.toUInt32.toInt32), .val (.int (p2 &&& (255 : Int32)).toUInt32.toUInt16.toUInt32.toInt32), .val (.int (p3 &&& (255 : Int32)).toUInt32.toUInt16.toUInt32.toInt32), .unset, .unset, .unset, .unset, .unset, .unset] [(.int (2 : Int32)), (.int (p0 &&& (3 : Int32)))])) _
          refine XS.icmpYes X0.here hx rfl (pc0 := 64) (pc' := 85) rfl (hb hby at_64) rfl (feq hc64).2 (by decide) (by decide) ?_
          show Steps p.tables e below (s₁.setTop (mkF m 85 #[.val (.int p0), .val (.int p1), .val (.int p2), .val (.int p3), .val (.int (p0 &&& (3 : Int32))), .val (.int (p1 &&& (255 : Int32)).toUInt32.toUInt16.toUInt32.toInt32), .val (.int (p2 &&& (255 : Int32)).toUInt32.toUInt16.toUInt32.toInt32), .val (.int (p3 &&& (255 : Int32)).toUInt32.toUInt16.toUInt32.toInt32), .unset, .unset, .unset, .unset, .unset, .unset] [])) _
          refine XS.iconst X0.here hx rfl (hb hby at_85) ?_
          show Steps p.tables e below (s₁.setTop (mkF m 86 #[.val (.int p0), .val (.int p1), .val (.int p2), .val (.int p3), .val (.int (p0 &&& (3 : Int32))), .val (.int (p1 &&& (255 : Int32)).toUInt32.toUInt16.toUInt32.toInt32), .val (.int (p2 &&& (255 : Int32)).toUInt32.toUInt16.toUInt32.toInt32), .val (.int (p3 &&& (255 : Int32)).toUInt32.toUInt16.toUInt32.toInt32), .unset, .unset, .unset, .unset, .unset, .unset] [(.int (3 : Int32))])) _
          refine st58 _ ?_
          show Steps p.tables e below (T58.setTop (mkF m 88 #[.val (.int p0), .val (.int p1), .val (.int p2), .val (.int p3), .val (.int (p0 &&& (3 : Int32))), .val (.int (p1 &&& (255 : Int32)).toUInt32.toUInt16.toUInt32.toInt32), .val (.int (p2 &&& (255 : Int32)).toUInt32.toUInt16.toUInt32.toInt32), .val (.int (p3 &&& (255 : Int32)).toUInt32.toUInt16.toUInt32.toInt32), .unset, .unset, .unset, .unset, .unset, .unset] [(.ref b58)])) _
          refine XS.dup X58.here hx rfl (hb hby at_88) rfl rfl ?_
          show Steps p.tables e below (T58.setTop (mkF m 89 #[.val (.int p0), .val (.int p1), .val (.int p2), .val (.int p3), .val (.int (p0 &&& (3 : Int32))), .val (.int (p1 &&& (255 : Int32)).toUInt32.toUInt16.toUInt32.toInt32), .val (.int (p2 &&& (255 : Int32)).toUInt32.toUInt16.toUInt32.toInt32), .val (.int (p3 &&& (255 : Int32)).toUInt32.toUInt16.toUInt32.toInt32), .unset, .unset, .unset, .unset, .unset, .unset] [(.ref b58), (.ref b58)])) _
          refine XS.iconst X58.here hx rfl (hb hby at_89) ?_
          show Steps p.tables e below (T58.setTop (mkF m 90 #[.val (.int p0), .val (.int p1), .val (.int p2), .val (.int p3), .val (.int (p0 &&& (3 : Int32))), .val (.int (p1 &&& (255 : Int32)).toUInt32.toUInt16.toUInt32.toInt32), .val (.int (p2 &&& (255 : Int32)).toUInt32.toUInt16.toUInt32.toInt32), .val (.int (p3 &&& (255 : Int32)).toUInt32.toUInt16.toUInt32.toInt32), .unset, .unset, .unset, .unset, .unset, .unset] [(.int (0 : Int32)), (.ref b58), (.ref b58)])) _
          refine XS.iload X58.here hx rfl (hb hby at_90) rfl ?_
          show Steps p.tables e below (T58.setTop (mkF m 92 #[.val (.int p0), .val (.int p1), .val (.int p2), .val (.int p3), .val (.int (p0 &&& (3 : Int32))), .val (.int (p1 &&& (255 : Int32)).toUInt32.toUInt16.toUInt32.toInt32), .val (.int (p2 &&& (255 : Int32)).toUInt32.toUInt16.toUInt32.toInt32), .val (.int (p3 &&& (255 : Int32)).toUInt32.toUInt16.toUInt32.toInt32), .unset, .unset, .unset, .unset, .unset, .unset] [(.int (p1 &&& (255 : Int32)).toUInt32.toUInt16.toUInt32.toInt32), (.int (0 : Int32)), (.ref b58), (.ref b58)])) _
          refine st60 _ ?_
          show Steps p.tables e below (T60.setTop (mkF m 93 #[.val (.int p0), .val (.int p1), .val (.int p2), .val (.int p3), .val (.int (p0 &&& (3 : Int32))), .val (.int (p1 &&& (255 : Int32)).toUInt32.toUInt16.toUInt32.toInt32), .val (.int (p2 &&& (255 : Int32)).toUInt32.toUInt16.toUInt32.toInt32), .val (.int (p3 &&& (255 : Int32)).toUInt32.toUInt16.toUInt32.toInt32), .unset, .unset, .unset, .unset, .unset, .unset] [(.ref b58)])) _
          refine XS.dup X60.here hx rfl (hb hby at_93) rfl rfl ?_
          show Steps p.tables e below (T60.setTop (mkF m 94 #[.val (.int p0), .val (.int p1), .val (.int p2), .val (.int p3), .val (.int (p0 &&& (3 : Int32))), .val (.int (p1 &&& (255 : Int32)).toUInt32.toUInt16.toUInt32.toInt32), .val (.int (p2 &&& (255 : Int32)).toUInt32.toUInt16.toUInt32.toInt32), .val (.int (p3 &&& (255 : Int32)).toUInt32.toUInt16.toUInt32.toInt32), .unset, .unset, .unset, .unset, .unset, .unset] [(.ref b58), (.ref b58)])) _
          refine XS.iconst X60.here hx rfl (hb hby at_94) ?_
          show Steps p.tables e below (T60.setTop (mkF m 95 #[.val (.int p0), .val (.int p1), .val (.int p2), .val (.int p3), .val (.int (p0 &&& (3 : Int32))), .val (.int (p1 &&& (255 : Int32)).toUInt32.toUInt16.toUInt32.toInt32), .val (.int (p2 &&& (255 : Int32)).toUInt32.toUInt16.toUInt32.toInt32), .val (.int (p3 &&& (255 : Int32)).toUInt32.toUInt16.toUInt32.toInt32), .unset, .unset, .unset, .unset, .unset, .unset] [(.int (1 : Int32)), (.ref b58), (.ref b58)])) _
          refine XS.iload X60.here hx rfl (hb hby at_95) rfl ?_
          show Steps p.tables e below (T60.setTop (mkF m 97 #[.val (.int p0), .val (.int p1), .val (.int p2), .val (.int p3), .val (.int (p0 &&& (3 : Int32))), .val (.int (p1 &&& (255 : Int32)).toUInt32.toUInt16.toUInt32.toInt32), .val (.int (p2 &&& (255 : Int32)).toUInt32.toUInt16.toUInt32.toInt32), .val (.int (p3 &&& (255 : Int32)).toUInt32.toUInt16.toUInt32.toInt32), .unset, .unset, .unset, .unset, .unset, .unset] [(.int (p2 &&& (255 : Int32)).toUInt32.toUInt16.toUInt32.toInt32), (.int (1 : Int32)), (.ref b58), (.ref b58)])) _
          refine st62 _ ?_
          show Steps p.tables e below (T62.setTop (mkF m 98 #[.val (.int p0), .val (.int p1), .val (.int p2), .val (.int p3), .val (.int (p0 &&& (3 : Int32))), .val (.int (p1 &&& (255 : Int32)).toUInt32.toUInt16.toUInt32.toInt32), .val (.int (p2 &&& (255 : Int32)).toUInt32.toUInt16.toUInt32.toInt32), .val (.int (p3 &&& (255 : Int32)).toUInt32.toUInt16.toUInt32.toInt32), .unset, .unset, .unset, .unset, .unset, .unset] [(.ref b58)])) _
          refine XS.dup X62.here hx rfl (hb hby at_98) rfl rfl ?_
          show Steps p.tables e below (T62.setTop (mkF m 99 #[.val (.int p0), .val (.int p1), .val (.int p2), .val (.int p3), .val (.int (p0 &&& (3 : Int32))), .val (.int (p1 &&& (255 : Int32)).toUInt32.toUInt16.toUInt32.toInt32), .val (.int (p2 &&& (255 : Int32)).toUInt32.toUInt16.toUInt32.toInt32), .val (.int (p3 &&& (255 : Int32)).toUInt32.toUInt16.toUInt32.toInt32), .unset, .unset, .unset, .unset, .unset, .unset] [(.ref b58), (.ref b58)])) _
          refine XS.iconst X62.here hx rfl (hb hby at_99) ?_
          show Steps p.tables e below (T62.setTop (mkF m 100 #[.val (.int p0), .val (.int p1), .val (.int p2), .val (.int p3), .val (.int (p0 &&& (3 : Int32))), .val (.int (p1 &&& (255 : Int32)).toUInt32.toUInt16.toUInt32.toInt32), .val (.int (p2 &&& (255 : Int32)).toUInt32.toUInt16.toUInt32.toInt32), .val (.int (p3 &&& (255 : Int32)).toUInt32.toUInt16.toUInt32.toInt32), .unset, .unset, .unset, .unset, .unset, .unset] [(.int (2 : Int32)), (.ref b58), (.ref b58)])) _
          refine XS.iload X62.here hx rfl (hb hby at_100) rfl ?_
          show Steps p.tables e below (T62.setTop (mkF m 102 #[.val (.int p0), .val (.int p1), .val (.int p2), .val (.int p3), .val (.int (p0 &&& (3 : Int32))), .val (.int (p1 &&& (255 : Int32)).toUInt32.toUInt16.toUInt32.toInt32), .val (.int (p2 &&& (255 : Int32)).toUInt32.toUInt16.toUInt32.toInt32), .val (.int (p3 &&& (255 : Int32)).toUInt32.toUInt16.toUInt32.toInt32), .unset, .unset, .unset, .unset, .unset, .unset] [(.int (p3 &&& (255 : Int32)).toUInt32.toUInt16.toUInt32.toInt32), (.int (2 : Int32)), (.ref b58), (.ref b58)])) _
          refine st64 _ ?_
          show Steps p.tables e below (T64.setTop (mkF m 103 #[.val (.int p0), .val (.int p1), .val (.int p2), .val (.int p3), .val (.int (p0 &&& (3 : Int32))), .val (.int (p1 &&& (255 : Int32)).toUInt32.toUInt16.toUInt32.toInt32), .val (.int (p2 &&& (255 : Int32)).toUInt32.toUInt16.toUInt32.toInt32), .val (.int (p3 &&& (255 : Int32)).toUInt32.toUInt16.toUInt32.toInt32), .unset, .unset, .unset, .unset, .unset, .unset] [(.ref b58)])) _
          refine XS.astore X64.here hx rfl (hb hby at_103) rfl rfl (l' := #[.val (.int p0), .val (.int p1), .val (.int p2), .val (.int p3), .val (.int (p0 &&& (3 : Int32))), .val (.int (p1 &&& (255 : Int32)).toUInt32.toUInt16.toUInt32.toInt32), .val (.int (p2 &&& (255 : Int32)).toUInt32.toUInt16.toUInt32.toInt32), .val (.int (p3 &&& (255 : Int32)).toUInt32.toUInt16.toUInt32.toInt32), .val (.ref b58), .unset, .unset, .unset, .unset, .unset]) rfl ?_
          show Steps p.tables e below (T64.setTop (mkF m 105 #[.val (.int p0), .val (.int p1), .val (.int p2), .val (.int p3), .val (.int (p0 &&& (3 : Int32))), .val (.int (p1 &&& (255 : Int32)).toUInt32.toUInt16.toUInt32.toInt32), .val (.int (p2 &&& (255 : Int32)).toUInt32.toUInt16.toUInt32.toInt32), .val (.int (p3 &&& (255 : Int32)).toUInt32.toUInt16.toUInt32.toInt32), .val (.ref b58), .unset, .unset, .unset, .unset, .unset] [])) _
          rw [own_three hc31 hc45 hc64]
          show Steps p.tables e below (T64.setTop (mkF m 105 #[.val (.int p0), .val (.int p1), .val (.int p2), .val (.int p3), .val (.int (3 : Int32)), .val (.int (p1 &&& (255 : Int32)).toUInt32.toUInt16.toUInt32.toInt32), .val (.int (p2 &&& (255 : Int32)).toUInt32.toUInt16.toUInt32.toInt32), .val (.int (p3 &&& (255 : Int32)).toUInt32.toUInt16.toUInt32.toInt32), .val (.ref b58), .unset, .unset, .unset, .unset, .unset] [])) _
          refine st65 _ ?_
          show Steps p.tables e below (T65.setTop (mkF m 108 #[.val (.int p0), .val (.int p1), .val (.int p2), .val (.int p3), .val (.int (3 : Int32)), .val (.int (p1 &&& (255 : Int32)).toUInt32.toUInt16.toUInt32.toInt32), .val (.int (p2 &&& (255 : Int32)).toUInt32.toUInt16.toUInt32.toInt32), .val (.int (p3 &&& (255 : Int32)).toUInt32.toUInt16.toUInt32.toInt32), .val (.ref b58), .unset, .unset, .unset, .unset, .unset] [(.ref b65)])) _
          refine XS.dup X65.here hx rfl (hb hby at_108) rfl rfl ?_
          show Steps p.tables e below (T65.setTop (mkF m 109 #[.val (.int p0), .val (.int p1), .val (.int p2), .val (.int p3), .val (.int (3 : Int32)), .val (.int (p1 &&& (255 : Int32)).toUInt32.toUInt16.toUInt32.toInt32), .val (.int (p2 &&& (255 : Int32)).toUInt32.toUInt16.toUInt32.toInt32), .val (.int (p3 &&& (255 : Int32)).toUInt32.toUInt16.toUInt32.toInt32), .val (.ref b58), .unset, .unset, .unset, .unset, .unset] [(.ref b65), (.ref b65)])) _
          refine XS.aload X65.here hx rfl (hb hby at_109) rfl rfl ?_
          show Steps p.tables e below (T65.setTop (mkF m 111 #[.val (.int p0), .val (.int p1), .val (.int p2), .val (.int p3), .val (.int (3 : Int32)), .val (.int (p1 &&& (255 : Int32)).toUInt32.toUInt16.toUInt32.toInt32), .val (.int (p2 &&& (255 : Int32)).toUInt32.toUInt16.toUInt32.toInt32), .val (.int (p3 &&& (255 : Int32)).toUInt32.toUInt16.toUInt32.toInt32), .val (.ref b58), .unset, .unset, .unset, .unset, .unset] [(.ref b58), (.ref b65), (.ref b65)])) _
          refine st66.trans ?_
          show Steps p.tables e below (T66.setTop (mkF m 114 #[.val (.int p0), .val (.int p1), .val (.int p2), .val (.int p3), .val (.int (3 : Int32)), .val (.int (p1 &&& (255 : Int32)).toUInt32.toUInt16.toUInt32.toInt32), .val (.int (p2 &&& (255 : Int32)).toUInt32.toUInt16.toUInt32.toInt32), .val (.int (p3 &&& (255 : Int32)).toUInt32.toUInt16.toUInt32.toInt32), .val (.ref b58), .unset, .unset, .unset, .unset, .unset] [(.ref b65)])) _
          refine XS.astore X66.here hx rfl (hb hby at_114) rfl rfl (l' := #[.val (.int p0), .val (.int p1), .val (.int p2), .val (.int p3), .val (.int (3 : Int32)), .val (.int (p1 &&& (255 : Int32)).toUInt32.toUInt16.toUInt32.toInt32), .val (.int (p2 &&& (255 : Int32)).toUInt32.toUInt16.toUInt32.toInt32), .val (.int (p3 &&& (255 : Int32)).toUInt32.toUInt16.toUInt32.toInt32), .val (.ref b58), .val (.ref b65), .unset, .unset, .unset, .unset]) rfl ?_
          show Steps p.tables e below (T66.setTop (mkF m 116 #[.val (.int p0), .val (.int p1), .val (.int p2), .val (.int p3), .val (.int (3 : Int32)), .val (.int (p1 &&& (255 : Int32)).toUInt32.toUInt16.toUInt32.toInt32), .val (.int (p2 &&& (255 : Int32)).toUInt32.toUInt16.toUInt32.toInt32), .val (.int (p3 &&& (255 : Int32)).toUInt32.toUInt16.toUInt32.toInt32), .val (.ref b58), .val (.ref b65), .unset, .unset, .unset, .unset] [])) _
          refine st67 _ ?_
          show Steps p.tables e below (T67.setTop (mkF m 119 #[.val (.int p0), .val (.int p1), .val (.int p2), .val (.int p3), .val (.int (3 : Int32)), .val (.int (p1 &&& (255 : Int32)).toUInt32.toUInt16.toUInt32.toInt32), .val (.int (p2 &&& (255 : Int32)).toUInt32.toUInt16.toUInt32.toInt32), .val (.int (p3 &&& (255 : Int32)).toUInt32.toUInt16.toUInt32.toInt32), .val (.ref b58), .val (.ref b65), .unset, .unset, .unset, .unset] [(.ref b67)])) _
          refine XS.dup X67.here hx rfl (hb hby at_119) rfl rfl ?_
          show Steps p.tables e below (T67.setTop (mkF m 120 #[.val (.int p0), .val (.int p1), .val (.int p2), .val (.int p3), .val (.int (3 : Int32)), .val (.int (p1 &&& (255 : Int32)).toUInt32.toUInt16.toUInt32.toInt32), .val (.int (p2 &&& (255 : Int32)).toUInt32.toUInt16.toUInt32.toInt32), .val (.int (p3 &&& (255 : Int32)).toUInt32.toUInt16.toUInt32.toInt32), .val (.ref b58), .val (.ref b65), .unset, .unset, .unset, .unset] [(.ref b67), (.ref b67)])) _
          refine st68.trans ?_
          show Steps p.tables e below (T68.setTop (mkF m 123 #[.val (.int p0), .val (.int p1), .val (.int p2), .val (.int p3), .val (.int (3 : Int32)), .val (.int (p1 &&& (255 : Int32)).toUInt32.toUInt16.toUInt32.toInt32), .val (.int (p2 &&& (255 : Int32)).toUInt32.toUInt16.toUInt32.toInt32), .val (.int (p3 &&& (255 : Int32)).toUInt32.toUInt16.toUInt32.toInt32), .val (.ref b58), .val (.ref b65), .unset, .unset, .unset, .unset] [(.ref b67)])) _
          refine XS.astore X68.here hx rfl (hb hby at_123) rfl rfl (l' := #[.val (.int p0), .val (.int p1), .val (.int p2), .val (.int p3), .val (.int (3 : Int32)), .val (.int (p1 &&& (255 : Int32)).toUInt32.toUInt16.toUInt32.toInt32), .val (.int (p2 &&& (255 : Int32)).toUInt32.toUInt16.toUInt32.toInt32), .val (.int (p3 &&& (255 : Int32)).toUInt32.toUInt16.toUInt32.toInt32), .val (.ref b58), .val (.ref b65), .val (.ref b67), .unset, .unset, .unset]) rfl ?_
          show Steps p.tables e below (T68.setTop (mkF m 125 #[.val (.int p0), .val (.int p1), .val (.int p2), .val (.int p3), .val (.int (3 : Int32)), .val (.int (p1 &&& (255 : Int32)).toUInt32.toUInt16.toUInt32.toInt32), .val (.int (p2 &&& (255 : Int32)).toUInt32.toUInt16.toUInt32.toInt32), .val (.int (p3 &&& (255 : Int32)).toUInt32.toUInt16.toUInt32.toInt32), .val (.ref b58), .val (.ref b65), .val (.ref b67), .unset, .unset, .unset] [])) _
          refine XS.aload X68.here hx rfl (hb hby at_125) rfl rfl ?_
          show Steps p.tables e below (T68.setTop (mkF m 127 #[.val (.int p0), .val (.int p1), .val (.int p2), .val (.int p3), .val (.int (3 : Int32)), .val (.int (p1 &&& (255 : Int32)).toUInt32.toUInt16.toUInt32.toInt32), .val (.int (p2 &&& (255 : Int32)).toUInt32.toUInt16.toUInt32.toInt32), .val (.int (p3 &&& (255 : Int32)).toUInt32.toUInt16.toUInt32.toInt32), .val (.ref b58), .val (.ref b65), .val (.ref b67), .unset, .unset, .unset] [(.ref b67)])) _
          refine XS.aload X68.here hx rfl (hb hby at_127) rfl rfl ?_
          show Steps p.tables e below (T68.setTop (mkF m 129 #[.val (.int p0), .val (.int p1), .val (.int p2), .val (.int p3), .val (.int (3 : Int32)), .val (.int (p1 &&& (255 : Int32)).toUInt32.toUInt16.toUInt32.toInt32), .val (.int (p2 &&& (255 : Int32)).toUInt32.toUInt16.toUInt32.toInt32), .val (.int (p3 &&& (255 : Int32)).toUInt32.toUInt16.toUInt32.toInt32), .val (.ref b58), .val (.ref b65), .val (.ref b67), .unset, .unset, .unset] [(.ref b65), (.ref b67)])) _
          refine st69.trans ?_
          show Steps p.tables e below (T69.setTop (mkF m 134 #[.val (.int p0), .val (.int p1), .val (.int p2), .val (.int p3), .val (.int (3 : Int32)), .val (.int (p1 &&& (255 : Int32)).toUInt32.toUInt16.toUInt32.toInt32), .val (.int (p2 &&& (255 : Int32)).toUInt32.toUInt16.toUInt32.toInt32), .val (.int (p3 &&& (255 : Int32)).toUInt32.toUInt16.toUInt32.toInt32), .val (.ref b58), .val (.ref b65), .val (.ref b67), .unset, .unset, .unset] [(.int (1 : Int32))])) _
          refine XS.pop X69.here hx rfl (hb hby at_134) rfl rfl ?_
          show Steps p.tables e below (T69.setTop (mkF m 135 #[.val (.int p0), .val (.int p1), .val (.int p2), .val (.int p3), .val (.int (3 : Int32)), .val (.int (p1 &&& (255 : Int32)).toUInt32.toUInt16.toUInt32.toInt32), .val (.int (p2 &&& (255 : Int32)).toUInt32.toUInt16.toUInt32.toInt32), .val (.int (p3 &&& (255 : Int32)).toUInt32.toUInt16.toUInt32.toInt32), .val (.ref b58), .val (.ref b65), .val (.ref b67), .unset, .unset, .unset] [])) _
          refine XS.aload X69.here hx rfl (hb hby at_135) rfl rfl ?_
          show Steps p.tables e below (T69.setTop (mkF m 137 #[.val (.int p0), .val (.int p1), .val (.int p2), .val (.int p3), .val (.int (3 : Int32)), .val (.int (p1 &&& (255 : Int32)).toUInt32.toUInt16.toUInt32.toInt32), .val (.int (p2 &&& (255 : Int32)).toUInt32.toUInt16.toUInt32.toInt32), .val (.int (p3 &&& (255 : Int32)).toUInt32.toUInt16.toUInt32.toInt32), .val (.ref b58), .val (.ref b65), .val (.ref b67), .unset, .unset, .unset] [(.ref b67)])) _
          refine st70.trans ?_
          show Steps p.tables e below (T70.setTop (mkF m 140 #[.val (.int p0), .val (.int p1), .val (.int p2), .val (.int p3), .val (.int (3 : Int32)), .val (.int (p1 &&& (255 : Int32)).toUInt32.toUInt16.toUInt32.toInt32), .val (.int (p2 &&& (255 : Int32)).toUInt32.toUInt16.toUInt32.toInt32), .val (.int (p3 &&& (255 : Int32)).toUInt32.toUInt16.toUInt32.toInt32), .val (.ref b58), .val (.ref b65), .val (.ref b67), .unset, .unset, .unset] [(.ref bx70)])) _
          refine XS.astore X70b.here hx rfl (hb hby at_140) rfl rfl (l' := #[.val (.int p0), .val (.int p1), .val (.int p2), .val (.int p3), .val (.int (3 : Int32)), .val (.int (p1 &&& (255 : Int32)).toUInt32.toUInt16.toUInt32.toInt32), .val (.int (p2 &&& (255 : Int32)).toUInt32.toUInt16.toUInt32.toInt32), .val (.int (p3 &&& (255 : Int32)).toUInt32.toUInt16.toUInt32.toInt32), .val (.ref b58), .val (.ref b65), .val (.ref b67), .val (.ref bx70), .unset, .unset]) rfl ?_
          show Steps p.tables e below (T70.setTop (mkF m 142 #[.val (.int p0), .val (.int p1), .val (.int p2), .val (.int p3), .val (.int (3 : Int32)), .val (.int (p1 &&& (255 : Int32)).toUInt32.toUInt16.toUInt32.toInt32), .val (.int (p2 &&& (255 : Int32)).toUInt32.toUInt16.toUInt32.toInt32), .val (.int (p3 &&& (255 : Int32)).toUInt32.toUInt16.toUInt32.toInt32), .val (.ref b58), .val (.ref b65), .val (.ref b67), .val (.ref bx70), .unset, .unset] [])) _
          refine XS.aload X70b.here hx rfl (hb hby at_142) rfl rfl ?_
          show Steps p.tables e below (T70.setTop (mkF m 144 #[.val (.int p0), .val (.int p1), .val (.int p2), .val (.int p3), .val (.int (3 : Int32)), .val (.int (p1 &&& (255 : Int32)).toUInt32.toUInt16.toUInt32.toInt32), .val (.int (p2 &&& (255 : Int32)).toUInt32.toUInt16.toUInt32.toInt32), .val (.int (p3 &&& (255 : Int32)).toUInt32.toUInt16.toUInt32.toInt32), .val (.ref b58), .val (.ref b65), .val (.ref b67), .val (.ref bx70), .unset, .unset] [(.ref bx70)])) _
          refine st71.trans ?_
          show Steps p.tables e below (T71.setTop (mkF m 147 #[.val (.int p0), .val (.int p1), .val (.int p2), .val (.int p3), .val (.int (3 : Int32)), .val (.int (p1 &&& (255 : Int32)).toUInt32.toUInt16.toUInt32.toInt32), .val (.int (p2 &&& (255 : Int32)).toUInt32.toUInt16.toUInt32.toInt32), .val (.int (p3 &&& (255 : Int32)).toUInt32.toUInt16.toUInt32.toInt32), .val (.ref b58), .val (.ref b65), .val (.ref b67), .val (.ref bx70), .unset, .unset] [(.ref b65)])) _
          refine XS.astore X71.here hx rfl (hb hby at_147) rfl rfl (l' := #[.val (.int p0), .val (.int p1), .val (.int p2), .val (.int p3), .val (.int (3 : Int32)), .val (.int (p1 &&& (255 : Int32)).toUInt32.toUInt16.toUInt32.toInt32), .val (.int (p2 &&& (255 : Int32)).toUInt32.toUInt16.toUInt32.toInt32), .val (.int (p3 &&& (255 : Int32)).toUInt32.toUInt16.toUInt32.toInt32), .val (.ref b58), .val (.ref b65), .val (.ref b67), .val (.ref bx70), .val (.ref b65), .unset]) rfl ?_
          show Steps p.tables e below (T71.setTop (mkF m 149 #[.val (.int p0), .val (.int p1), .val (.int p2), .val (.int p3), .val (.int (3 : Int32)), .val (.int (p1 &&& (255 : Int32)).toUInt32.toUInt16.toUInt32.toInt32), .val (.int (p2 &&& (255 : Int32)).toUInt32.toUInt16.toUInt32.toInt32), .val (.int (p3 &&& (255 : Int32)).toUInt32.toUInt16.toUInt32.toInt32), .val (.ref b58), .val (.ref b65), .val (.ref b67), .val (.ref bx70), .val (.ref b65), .unset] [])) _
          refine XS.aload X71.here hx rfl (hb hby at_149) rfl rfl ?_
          show Steps p.tables e below (T71.setTop (mkF m 151 #[.val (.int p0), .val (.int p1), .val (.int p2), .val (.int p3), .val (.int (3 : Int32)), .val (.int (p1 &&& (255 : Int32)).toUInt32.toUInt16.toUInt32.toInt32), .val (.int (p2 &&& (255 : Int32)).toUInt32.toUInt16.toUInt32.toInt32), .val (.int (p3 &&& (255 : Int32)).toUInt32.toUInt16.toUInt32.toInt32), .val (.ref b58), .val (.ref b65), .val (.ref b67), .val (.ref bx70), .val (.ref b65), .unset] [(.ref b65)])) _
          refine XS.ifnullNo X71.here hx rfl (hb hby at_151) rfl ?_
          show Steps p.tables e below (T71.setTop (mkF m 154 #[.val (.int p0), .val (.int p1), .val (.int p2), .val (.int p3), .val (.int (3 : Int32)), .val (.int (p1 &&& (255 : Int32)).toUInt32.toUInt16.toUInt32.toInt32), .val (.int (p2 &&& (255 : Int32)).toUInt32.toUInt16.toUInt32.toInt32), .val (.int (p3 &&& (255 : Int32)).toUInt32.toUInt16.toUInt32.toInt32), .val (.ref b58), .val (.ref b65), .val (.ref b67), .val (.ref bx70), .val (.ref b65), .unset] [])) _
          refine XS.aload X71.here hx rfl (hb hby at_154) rfl rfl ?_
          show Steps p.tables e below (T71.setTop (mkF m 156 #[.val (.int p0), .val (.int p1), .val (.int p2), .val (.int p3), .val (.int (3 : Int32)), .val (.int (p1 &&& (255 : Int32)).toUInt32.toUInt16.toUInt32.toInt32), .val (.int (p2 &&& (255 : Int32)).toUInt32.toUInt16.toUInt32.toInt32), .val (.int (p3 &&& (255 : Int32)).toUInt32.toUInt16.toUInt32.toInt32), .val (.ref b58), .val (.ref b65), .val (.ref b67), .val (.ref bx70), .val (.ref b65), .unset] [(.ref b65)])) _
          refine st72.trans ?_
          show Steps p.tables e below (T72.setTop (mkF m 159 #[.val (.int p0), .val (.int p1), .val (.int p2), .val (.int p3), .val (.int (3 : Int32)), .val (.int (p1 &&& (255 : Int32)).toUInt32.toUInt16.toUInt32.toInt32), .val (.int (p2 &&& (255 : Int32)).toUInt32.toUInt16.toUInt32.toInt32), .val (.int (p3 &&& (255 : Int32)).toUInt32.toUInt16.toUInt32.toInt32), .val (.ref b58), .val (.ref b65), .val (.ref b67), .val (.ref bx70), .val (.ref b65), .unset] [(.int (3 : Int32))])) _
          refine XS.iload X72.here hx rfl (hb hby at_159) rfl ?_
          show Steps p.tables e below (T72.setTop (mkF m 161 #[.val (.int p0), .val (.int p1), .val (.int p2), .val (.int p3), .val (.int (3 : Int32)), .val (.int (p1 &&& (255 : Int32)).toUInt32.toUInt16.toUInt32.toInt32), .val (.int (p2 &&& (255 : Int32)).toUInt32.toUInt16.toUInt32.toInt32), .val (.int (p3 &&& (255 : Int32)).toUInt32.toUInt16.toUInt32.toInt32), .val (.ref b58), .val (.ref b65), .val (.ref b67), .val (.ref bx70), .val (.ref b65), .unset] [(.int (3 : Int32)), (.int (3 : Int32))])) _
          refine XS.icmpYes X72.here hx rfl (pc0 := 161) (pc' := 166) rfl (hb hby at_161) rfl (teq (by decide : (3 : Int32) = (3 : Int32))).1 (by decide) (by decide) ?_
          show Steps p.tables e below (T72.setTop (mkF m 166 #[.val (.int p0), .val (.int p1), .val (.int p2), .val (.int p3), .val (.int (3 : Int32)), .val (.int (p1 &&& (255 : Int32)).toUInt32.toUInt16.toUInt32.toInt32), .val (.int (p2 &&& (255 : Int32)).toUInt32.toUInt16.toUInt32.toInt32), .val (.int (p3 &&& (255 : Int32)).toUInt32.toUInt16.toUInt32.toInt32), .val (.ref b58), .val (.ref b65), .val (.ref b67), .val (.ref bx70), .val (.ref b65), .unset] [])) _
          refine XS.iload X72.here hx rfl (hb hby at_166) rfl ?_
          show Steps p.tables e below (T72.setTop (mkF m 168 #[.val (.int p0), .val (.int p1), .val (.int p2), .val (.int p3), .val (.int (3 : Int32)), .val (.int (p1 &&& (255 : Int32)).toUInt32.toUInt16.toUInt32.toInt32), .val (.int (p2 &&& (255 : Int32)).toUInt32.toUInt16.toUInt32.toInt32), .val (.int (p3 &&& (255 : Int32)).toUInt32.toUInt16.toUInt32.toInt32), .val (.ref b58), .val (.ref b65), .val (.ref b67), .val (.ref bx70), .val (.ref b65), .unset] [(.int (3 : Int32))])) _
          refine XS.iconst X72.here hx rfl (hb hby at_168) ?_
          show Steps p.tables e below (T72.setTop (mkF m 169 #[.val (.int p0), .val (.int p1), .val (.int p2), .val (.int p3), .val (.int (3 : Int32)), .val (.int (p1 &&& (255 : Int32)).toUInt32.toUInt16.toUInt32.toInt32), .val (.int (p2 &&& (255 : Int32)).toUInt32.toUInt16.toUInt32.toInt32), .val (.int (p3 &&& (255 : Int32)).toUInt32.toUInt16.toUInt32.toInt32), .val (.ref b58), .val (.ref b65), .val (.ref b67), .val (.ref bx70), .val (.ref b65), .unset] [(.int (1 : Int32)), (.int (3 : Int32))])) _
          refine XS.icmpNo X72.here hx rfl (hb hby at_169) rfl (flt (by decide : ¬ ((3 : Int32) < (1 : Int32)))).1 ?_
          show Steps p.tables e below (T72.setTop (mkF m 172 #[.val (.int p0), .val (.int p1), .val (.int p2), .val (.int p3), .val (.int (3 : Int32)), .val (.int (p1 &&& (255 : Int32)).toUInt32.toUInt16.toUInt32.toInt32), .val (.int (p2 &&& (255 : Int32)).toUInt32.toUInt16.toUInt32.toInt32), .val (.int (p3 &&& (255 : Int32)).toUInt32.toUInt16.toUInt32.toInt32), .val (.ref b58), .val (.ref b65), .val (.ref b67), .val (.ref bx70), .val (.ref b65), .unset] [])) _
          refine XS.aload X72.here hx rfl (hb hby at_172) rfl rfl ?_
          show Steps p.tables e below (T72.setTop (mkF m 174 #[.val (.int p0), .val (.int p1), .val (.int p2), .val (.int p3), .val (.int (3 : Int32)), .val (.int (p1 &&& (255 : Int32)).toUInt32.toUInt16.toUInt32.toInt32), .val (.int (p2 &&& (255 : Int32)).toUInt32.toUInt16.toUInt32.toInt32), .val (.int (p3 &&& (255 : Int32)).toUInt32.toUInt16.toUInt32.toInt32), .val (.ref b58), .val (.ref b65), .val (.ref b67), .val (.ref bx70), .val (.ref b65), .unset] [(.ref b65)])) _
          refine XS.iconst X72.here hx rfl (hb hby at_174) ?_
          show Steps p.tables e below (T72.setTop (mkF m 175 #[.val (.int p0), .val (.int p1), .val (.int p2), .val (.int p3), .val (.int (3 : Int32)), .val (.int (p1 &&& (255 : Int32)).toUInt32.toUInt16.toUInt32.toInt32), .val (.int (p2 &&& (255 : Int32)).toUInt32.toUInt16.toUInt32.toInt32), .val (.int (p3 &&& (255 : Int32)).toUInt32.toUInt16.toUInt32.toInt32), .val (.ref b58), .val (.ref b65), .val (.ref b67), .val (.ref bx70), .val (.ref b65), .unset] [(.int (0 : Int32)), (.ref b65)])) _
          refine st73.trans ?_
          show Steps p.tables e below (T73.setTop (mkF m 178 #[.val (.int p0), .val (.int p1), .val (.int p2), .val (.int p3), .val (.int (3 : Int32)), .val (.int (p1 &&& (255 : Int32)).toUInt32.toUInt16.toUInt32.toInt32), .val (.int (p2 &&& (255 : Int32)).toUInt32.toUInt16.toUInt32.toInt32), .val (.int (p3 &&& (255 : Int32)).toUInt32.toUInt16.toUInt32.toInt32), .val (.ref b58), .val (.ref b65), .val (.ref b67), .val (.ref bx70), .val (.ref b65), .unset] [(.int (own_c ((nar .char (p1 &&& (255 : Int32)).toUInt32.toUInt16.toUInt32.toInt32)).toInt8.toInt32))])) _
          refine XS.iload X73.here hx rfl (hb hby at_178) rfl ?_
          show Steps p.tables e below (T73.setTop (mkF m 180 #[.val (.int p0), .val (.int p1), .val (.int p2), .val (.int p3), .val (.int (3 : Int32)), .val (.int (p1 &&& (255 : Int32)).toUInt32.toUInt16.toUInt32.toInt32), .val (.int (p2 &&& (255 : Int32)).toUInt32.toUInt16.toUInt32.toInt32), .val (.int (p3 &&& (255 : Int32)).toUInt32.toUInt16.toUInt32.toInt32), .val (.ref b58), .val (.ref b65), .val (.ref b67), .val (.ref bx70), .val (.ref b65), .unset] [(.int (p1 &&& (255 : Int32)).toUInt32.toUInt16.toUInt32.toInt32), (.int (own_c ((nar .char (p1 &&& (255 : Int32)).toUInt32.toUInt16.toUInt32.toInt32)).toInt8.toInt32))])) _
          refine XS.icmpYes X73.here hx rfl (pc0 := 180) (pc' := 185) rfl (hb hby at_180) rfl (teq (own_chr _)).1 (by decide) (by decide) ?_
          show Steps p.tables e below (T73.setTop (mkF m 185 #[.val (.int p0), .val (.int p1), .val (.int p2), .val (.int p3), .val (.int (3 : Int32)), .val (.int (p1 &&& (255 : Int32)).toUInt32.toUInt16.toUInt32.toInt32), .val (.int (p2 &&& (255 : Int32)).toUInt32.toUInt16.toUInt32.toInt32), .val (.int (p3 &&& (255 : Int32)).toUInt32.toUInt16.toUInt32.toInt32), .val (.ref b58), .val (.ref b65), .val (.ref b67), .val (.ref bx70), .val (.ref b65), .unset] [])) _
          refine XS.iload X73.here hx rfl (hb hby at_185) rfl ?_
          show Steps p.tables e below (T73.setTop (mkF m 187 #[.val (.int p0), .val (.int p1), .val (.int p2), .val (.int p3), .val (.int (3 : Int32)), .val (.int (p1 &&& (255 : Int32)).toUInt32.toUInt16.toUInt32.toInt32), .val (.int (p2 &&& (255 : Int32)).toUInt32.toUInt16.toUInt32.toInt32), .val (.int (p3 &&& (255 : Int32)).toUInt32.toUInt16.toUInt32.toInt32), .val (.ref b58), .val (.ref b65), .val (.ref b67), .val (.ref bx70), .val (.ref b65), .unset] [(.int (3 : Int32))])) _
          refine XS.iconst X73.here hx rfl (hb hby at_187) ?_
          show Steps p.tables e below (T73.setTop (mkF m 188 #[.val (.int p0), .val (.int p1), .val (.int p2), .val (.int p3), .val (.int (3 : Int32)), .val (.int (p1 &&& (255 : Int32)).toUInt32.toUInt16.toUInt32.toInt32), .val (.int (p2 &&& (255 : Int32)).toUInt32.toUInt16.toUInt32.toInt32), .val (.int (p3 &&& (255 : Int32)).toUInt32.toUInt16.toUInt32.toInt32), .val (.ref b58), .val (.ref b65), .val (.ref b67), .val (.ref bx70), .val (.ref b65), .unset] [(.int (2 : Int32)), (.int (3 : Int32))])) _
          refine XS.icmpNo X73.here hx rfl (hb hby at_188) rfl (flt (by decide : ¬ ((3 : Int32) < (2 : Int32)))).1 ?_
          show Steps p.tables e below (T73.setTop (mkF m 191 #[.val (.int p0), .val (.int p1), .val (.int p2), .val (.int p3), .val (.int (3 : Int32)), .val (.int (p1 &&& (255 : Int32)).toUInt32.toUInt16.toUInt32.toInt32), .val (.int (p2 &&& (255 : Int32)).toUInt32.toUInt16.toUInt32.toInt32), .val (.int (p3 &&& (255 : Int32)).toUInt32.toUInt16.toUInt32.toInt32), .val (.ref b58), .val (.ref b65), .val (.ref b67), .val (.ref bx70), .val (.ref b65), .unset] [])) _
          refine XS.aload X73.here hx rfl (hb hby at_191) rfl rfl ?_
          show Steps p.tables e below (T73.setTop (mkF m 193 #[.val (.int p0), .val (.int p1), .val (.int p2), .val (.int p3), .val (.int (3 : Int32)), .val (.int (p1 &&& (255 : Int32)).toUInt32.toUInt16.toUInt32.toInt32), .val (.int (p2 &&& (255 : Int32)).toUInt32.toUInt16.toUInt32.toInt32), .val (.int (p3 &&& (255 : Int32)).toUInt32.toUInt16.toUInt32.toInt32), .val (.ref b58), .val (.ref b65), .val (.ref b67), .val (.ref bx70), .val (.ref b65), .unset] [(.ref b65)])) _
          refine XS.iconst X73.here hx rfl (hb hby at_193) ?_
          show Steps p.tables e below (T73.setTop (mkF m 194 #[.val (.int p0), .val (.int p1), .val (.int p2), .val (.int p3), .val (.int (3 : Int32)), .val (.int (p1 &&& (255 : Int32)).toUInt32.toUInt16.toUInt32.toInt32), .val (.int (p2 &&& (255 : Int32)).toUInt32.toUInt16.toUInt32.toInt32), .val (.int (p3 &&& (255 : Int32)).toUInt32.toUInt16.toUInt32.toInt32), .val (.ref b58), .val (.ref b65), .val (.ref b67), .val (.ref bx70), .val (.ref b65), .unset] [(.int (1 : Int32)), (.ref b65)])) _
          refine st74.trans ?_
          show Steps p.tables e below (T74.setTop (mkF m 197 #[.val (.int p0), .val (.int p1), .val (.int p2), .val (.int p3), .val (.int (3 : Int32)), .val (.int (p1 &&& (255 : Int32)).toUInt32.toUInt16.toUInt32.toInt32), .val (.int (p2 &&& (255 : Int32)).toUInt32.toUInt16.toUInt32.toInt32), .val (.int (p3 &&& (255 : Int32)).toUInt32.toUInt16.toUInt32.toInt32), .val (.ref b58), .val (.ref b65), .val (.ref b67), .val (.ref bx70), .val (.ref b65), .unset] [(.int (own_c ((nar .char (p2 &&& (255 : Int32)).toUInt32.toUInt16.toUInt32.toInt32)).toInt8.toInt32))])) _
          refine XS.iload X74.here hx rfl (hb hby at_197) rfl ?_
          show Steps p.tables e below (T74.setTop (mkF m 199 #[.val (.int p0), .val (.int p1), .val (.int p2), .val (.int p3), .val (.int (3 : Int32)), .val (.int (p1 &&& (255 : Int32)).toUInt32.toUInt16.toUInt32.toInt32), .val (.int (p2 &&& (255 : Int32)).toUInt32.toUInt16.toUInt32.toInt32), .val (.int (p3 &&& (255 : Int32)).toUInt32.toUInt16.toUInt32.toInt32), .val (.ref b58), .val (.ref b65), .val (.ref b67), .val (.ref bx70), .val (.ref b65), .unset] [(.int (p2 &&& (255 : Int32)).toUInt32.toUInt16.toUInt32.toInt32), (.int (own_c ((nar .char (p2 &&& (255 : Int32)).toUInt32.toUInt16.toUInt32.toInt32)).toInt8.toInt32))])) _
          refine XS.icmpYes X74.here hx rfl (pc0 := 199) (pc' := 204) rfl (hb hby at_199) rfl (teq (own_chr _)).1 (by decide) (by decide) ?_
          show Steps p.tables e below (T74.setTop (mkF m 204 #[.val (.int p0), .val (.int p1), .val (.int p2), .val (.int p3), .val (.int (3 : Int32)), .val (.int (p1 &&& (255 : Int32)).toUInt32.toUInt16.toUInt32.toInt32), .val (.int (p2 &&& (255 : Int32)).toUInt32.toUInt16.toUInt32.toInt32), .val (.int (p3 &&& (255 : Int32)).toUInt32.toUInt16.toUInt32.toInt32), .val (.ref b58), .val (.ref b65), .val (.ref b67), .val (.ref bx70), .val (.ref b65), .unset] [])) _
          refine XS.iload X74.here hx rfl (hb hby at_204) rfl ?_
          show Steps p.tables e below (T74.setTop (mkF m 206 #[.val (.int p0), .val (.int p1), .val (.int p2), .val (.int p3), .val (.int (3 : Int32)), .val (.int (p1 &&& (255 : Int32)).toUInt32.toUInt16.toUInt32.toInt32), .val (.int (p2 &&& (255 : Int32)).toUInt32.toUInt16.toUInt32.toInt32), .val (.int (p3 &&& (255 : Int32)).toUInt32.toUInt16.toUInt32.toInt32), .val (.ref b58), .val (.ref b65), .val (.ref b67), .val (.ref bx70), .val (.ref b65), .unset] [(.int (3 : Int32))])) _
          refine XS.iconst X74.here hx rfl (hb hby at_206) ?_
          show Steps p.tables e below (T74.setTop (mkF m 207 #[.val (.int p0), .val (.int p1), .val (.int p2), .val (.int p3), .val (.int (3 : Int32)), .val (.int (p1 &&& (255 : Int32)).toUInt32.toUInt16.toUInt32.toInt32), .val (.int (p2 &&& (255 : Int32)).toUInt32.toUInt16.toUInt32.toInt32), .val (.int (p3 &&& (255 : Int32)).toUInt32.toUInt16.toUInt32.toInt32), .val (.ref b58), .val (.ref b65), .val (.ref b67), .val (.ref bx70), .val (.ref b65), .unset] [(.int (3 : Int32)), (.int (3 : Int32))])) _
          refine XS.icmpNo X74.here hx rfl (hb hby at_207) rfl (flt (by decide : ¬ ((3 : Int32) < (3 : Int32)))).1 ?_
          show Steps p.tables e below (T74.setTop (mkF m 210 #[.val (.int p0), .val (.int p1), .val (.int p2), .val (.int p3), .val (.int (3 : Int32)), .val (.int (p1 &&& (255 : Int32)).toUInt32.toUInt16.toUInt32.toInt32), .val (.int (p2 &&& (255 : Int32)).toUInt32.toUInt16.toUInt32.toInt32), .val (.int (p3 &&& (255 : Int32)).toUInt32.toUInt16.toUInt32.toInt32), .val (.ref b58), .val (.ref b65), .val (.ref b67), .val (.ref bx70), .val (.ref b65), .unset] [])) _
          refine XS.aload X74.here hx rfl (hb hby at_210) rfl rfl ?_
          show Steps p.tables e below (T74.setTop (mkF m 212 #[.val (.int p0), .val (.int p1), .val (.int p2), .val (.int p3), .val (.int (3 : Int32)), .val (.int (p1 &&& (255 : Int32)).toUInt32.toUInt16.toUInt32.toInt32), .val (.int (p2 &&& (255 : Int32)).toUInt32.toUInt16.toUInt32.toInt32), .val (.int (p3 &&& (255 : Int32)).toUInt32.toUInt16.toUInt32.toInt32), .val (.ref b58), .val (.ref b65), .val (.ref b67), .val (.ref bx70), .val (.ref b65), .unset] [(.ref b65)])) _
          refine XS.iconst X74.here hx rfl (hb hby at_212) ?_
          show Steps p.tables e below (T74.setTop (mkF m 213 #[.val (.int p0), .val (.int p1), .val (.int p2), .val (.int p3), .val (.int (3 : Int32)), .val (.int (p1 &&& (255 : Int32)).toUInt32.toUInt16.toUInt32.toInt32), .val (.int (p2 &&& (255 : Int32)).toUInt32.toUInt16.toUInt32.toInt32), .val (.int (p3 &&& (255 : Int32)).toUInt32.toUInt16.toUInt32.toInt32), .val (.ref b58), .val (.ref b65), .val (.ref b67), .val (.ref bx70), .val (.ref b65), .unset] [(.int (2 : Int32)), (.ref b65)])) _
          refine st75.trans ?_
          show Steps p.tables e below (T75.setTop (mkF m 216 #[.val (.int p0), .val (.int p1), .val (.int p2), .val (.int p3), .val (.int (3 : Int32)), .val (.int (p1 &&& (255 : Int32)).toUInt32.toUInt16.toUInt32.toInt32), .val (.int (p2 &&& (255 : Int32)).toUInt32.toUInt16.toUInt32.toInt32), .val (.int (p3 &&& (255 : Int32)).toUInt32.toUInt16.toUInt32.toInt32), .val (.ref b58), .val (.ref b65), .val (.ref b67), .val (.ref bx70), .val (.ref b65), .unset] [(.int (own_c ((nar .char (p3 &&& (255 : Int32)).toUInt32.toUInt16.toUInt32.toInt32)).toInt8.toInt32))])) _
          refine XS.iload X75.here hx rfl (hb hby at_216) rfl ?_
          show Steps p.tables e below (T75.setTop (mkF m 218 #[.val (.int p0), .val (.int p1), .val (.int p2), .val (.int p3), .val (.int (3 : Int32)), .val (.int (p1 &&& (255 : Int32)).toUInt32.toUInt16.toUInt32.toInt32), .val (.int (p2 &&& (255 : Int32)).toUInt32.toUInt16.toUInt32.toInt32), .val (.int (p3 &&& (255 : Int32)).toUInt32.toUInt16.toUInt32.toInt32), .val (.ref b58), .val (.ref b65), .val (.ref b67), .val (.ref bx70), .val (.ref b65), .unset] [(.int (p3 &&& (255 : Int32)).toUInt32.toUInt16.toUInt32.toInt32), (.int (own_c ((nar .char (p3 &&& (255 : Int32)).toUInt32.toUInt16.toUInt32.toInt32)).toInt8.toInt32))])) _
          refine XS.icmpYes X75.here hx rfl (pc0 := 218) (pc' := 223) rfl (hb hby at_218) rfl (teq (own_chr _)).1 (by decide) (by decide) ?_
          show Steps p.tables e below (T75.setTop (mkF m 223 #[.val (.int p0), .val (.int p1), .val (.int p2), .val (.int p3), .val (.int (3 : Int32)), .val (.int (p1 &&& (255 : Int32)).toUInt32.toUInt16.toUInt32.toInt32), .val (.int (p2 &&& (255 : Int32)).toUInt32.toUInt16.toUInt32.toInt32), .val (.int (p3 &&& (255 : Int32)).toUInt32.toUInt16.toUInt32.toInt32), .val (.ref b58), .val (.ref b65), .val (.ref b67), .val (.ref bx70), .val (.ref b65), .unset] [])) _
          refine XS.aload X75.here hx rfl (hb hby at_223) rfl rfl ?_
          show Steps p.tables e below (T75.setTop (mkF m 225 #[.val (.int p0), .val (.int p1), .val (.int p2), .val (.int p3), .val (.int (3 : Int32)), .val (.int (p1 &&& (255 : Int32)).toUInt32.toUInt16.toUInt32.toInt32), .val (.int (p2 &&& (255 : Int32)).toUInt32.toUInt16.toUInt32.toInt32), .val (.int (p3 &&& (255 : Int32)).toUInt32.toUInt16.toUInt32.toInt32), .val (.ref b58), .val (.ref b65), .val (.ref b67), .val (.ref bx70), .val (.ref b65), .unset] [(.ref bx70)])) _
          refine st76.trans ?_
          show Steps p.tables e below (T76.setTop (mkF m 228 #[.val (.int p0), .val (.int p1), .val (.int p2), .val (.int p3), .val (.int (3 : Int32)), .val (.int (p1 &&& (255 : Int32)).toUInt32.toUInt16.toUInt32.toInt32), .val (.int (p2 &&& (255 : Int32)).toUInt32.toUInt16.toUInt32.toInt32), .val (.int (p3 &&& (255 : Int32)).toUInt32.toUInt16.toUInt32.toInt32), .val (.ref b58), .val (.ref b65), .val (.ref b67), .val (.ref bx70), .val (.ref b65), .unset] [(.ref bx76)])) _
          refine XS.astore X76.here hx rfl (hb hby at_228) rfl rfl (l' := #[.val (.int p0), .val (.int p1), .val (.int p2), .val (.int p3), .val (.int (3 : Int32)), .val (.int (p1 &&& (255 : Int32)).toUInt32.toUInt16.toUInt32.toInt32), .val (.int (p2 &&& (255 : Int32)).toUInt32.toUInt16.toUInt32.toInt32), .val (.int (p3 &&& (255 : Int32)).toUInt32.toUInt16.toUInt32.toInt32), .val (.ref b58), .val (.ref b65), .val (.ref b67), .val (.ref bx70), .val (.ref b65), .val (.ref bx76)]) rfl ?_
          show Steps p.tables e below (T76.setTop (mkF m 230 #[.val (.int p0), .val (.int p1), .val (.int p2), .val (.int p3), .val (.int (3 : Int32)), .val (.int (p1 &&& (255 : Int32)).toUInt32.toUInt16.toUInt32.toInt32), .val (.int (p2 &&& (255 : Int32)).toUInt32.toUInt16.toUInt32.toInt32), .val (.int (p3 &&& (255 : Int32)).toUInt32.toUInt16.toUInt32.toInt32), .val (.ref b58), .val (.ref b65), .val (.ref b67), .val (.ref bx70), .val (.ref b65), .val (.ref bx76)] [])) _
          refine XS.aload X76.here hx rfl (hb hby at_230) rfl rfl ?_
          show Steps p.tables e below (T76.setTop (mkF m 232 #[.val (.int p0), .val (.int p1), .val (.int p2), .val (.int p3), .val (.int (3 : Int32)), .val (.int (p1 &&& (255 : Int32)).toUInt32.toUInt16.toUInt32.toInt32), .val (.int (p2 &&& (255 : Int32)).toUInt32.toUInt16.toUInt32.toInt32), .val (.int (p3 &&& (255 : Int32)).toUInt32.toUInt16.toUInt32.toInt32), .val (.ref b58), .val (.ref b65), .val (.ref b67), .val (.ref bx70), .val (.ref b65), .val (.ref bx76)] [(.ref b65)])) _
          refine XS.aload X76.here hx rfl (hb hby at_232) rfl rfl ?_
          show Steps p.tables e below (T76.setTop (mkF m 234 #[.val (.int p0), .val (.int p1), .val (.int p2), .val (.int p3), .val (.int (3 : Int32)), .val (.int (p1 &&& (255 : Int32)).toUInt32.toUInt16.toUInt32.toInt32), .val (.int (p2 &&& (255 : Int32)).toUInt32.toUInt16.toUInt32.toInt32), .val (.int (p3 &&& (255 : Int32)).toUInt32.toUInt16.toUInt32.toInt32), .val (.ref b58), .val (.ref b65), .val (.ref b67), .val (.ref bx70), .val (.ref b65), .val (.ref bx76)] [(.ref b65), (.ref b65)])) _
          refine st77.trans ?_
          show Steps p.tables e below (T77.setTop (mkF m 237 #[.val (.int p0), .val (.int p1), .val (.int p2), .val (.int p3), .val (.int (3 : Int32)), .val (.int (p1 &&& (255 : Int32)).toUInt32.toUInt16.toUInt32.toInt32), .val (.int (p2 &&& (255 : Int32)).toUInt32.toUInt16.toUInt32.toInt32), .val (.int (p3 &&& (255 : Int32)).toUInt32.toUInt16.toUInt32.toInt32), .val (.ref b58), .val (.ref b65), .val (.ref b67), .val (.ref bx70), .val (.ref b65), .val (.ref bx76)] [(.int (1 : Int32))])) _
          refine XS.ifNo X77.here hx rfl (hb hby at_237) rfl ((if0 _ _).trans (feq (by decide : ¬ ((1 : Int32) = (0 : Int32)))).1) ?_
          show Steps p.tables e below (T77.setTop (mkF m 240 #[.val (.int p0), .val (.int p1), .val (.int p2), .val (.int p3), .val (.int (3 : Int32)), .val (.int (p1 &&& (255 : Int32)).toUInt32.toUInt16.toUInt32.toInt32), .val (.int (p2 &&& (255 : Int32)).toUInt32.toUInt16.toUInt32.toInt32), .val (.int (p3 &&& (255 : Int32)).toUInt32.toUInt16.toUInt32.toInt32), .val (.ref b58), .val (.ref b65), .val (.ref b67), .val (.ref bx70), .val (.ref b65), .val (.ref bx76)] [])) _
          refine XS.aload X77.here hx rfl (hb hby at_240) rfl rfl ?_
          show Steps p.tables e below (T77.setTop (mkF m 242 #[.val (.int p0), .val (.int p1), .val (.int p2), .val (.int p3), .val (.int (3 : Int32)), .val (.int (p1 &&& (255 : Int32)).toUInt32.toUInt16.toUInt32.toInt32), .val (.int (p2 &&& (255 : Int32)).toUInt32.toUInt16.toUInt32.toInt32), .val (.int (p3 &&& (255 : Int32)).toUInt32.toUInt16.toUInt32.toInt32), .val (.ref b58), .val (.ref b65), .val (.ref b67), .val (.ref bx70), .val (.ref b65), .val (.ref bx76)] [(.ref bx76)])) _
          refine st78.trans ?_
          show Steps p.tables e below (T78.setTop (mkF m 247 #[.val (.int p0), .val (.int p1), .val (.int p2), .val (.int p3), .val (.int (3 : Int32)), .val (.int (p1 &&& (255 : Int32)).toUInt32.toUInt16.toUInt32.toInt32), .val (.int (p2 &&& (255 : Int32)).toUInt32.toUInt16.toUInt32.toInt32), .val (.int (p3 &&& (255 : Int32)).toUInt32.toUInt16.toUInt32.toInt32), .val (.ref b58), .val (.ref b65), .val (.ref b67), .val (.ref bx70), .val (.ref b65), .val (.ref bx76)] [(.int (1 : Int32))])) _
          refine XS.iconst X78.here hx rfl (hb hby at_247) ?_
          show Steps p.tables e below (T78.setTop (mkF m 248 #[.val (.int p0), .val (.int p1), .val (.int p2), .val (.int p3), .val (.int (3 : Int32)), .val (.int (p1 &&& (255 : Int32)).toUInt32.toUInt16.toUInt32.toInt32), .val (.int (p2 &&& (255 : Int32)).toUInt32.toUInt16.toUInt32.toInt32), .val (.int (p3 &&& (255 : Int32)).toUInt32.toUInt16.toUInt32.toInt32), .val (.ref b58), .val (.ref b65), .val (.ref b67), .val (.ref bx70), .val (.ref b65), .val (.ref bx76)] [(.int (1 : Int32)), (.int (1 : Int32))])) _
          refine XS.icmpNo X78.here hx rfl (hb hby at_248) rfl (teq (by decide : (1 : Int32) = (1 : Int32))).2 ?_
          show Steps p.tables e below (T78.setTop (mkF m 251 #[.val (.int p0), .val (.int p1), .val (.int p2), .val (.int p3), .val (.int (3 : Int32)), .val (.int (p1 &&& (255 : Int32)).toUInt32.toUInt16.toUInt32.toInt32), .val (.int (p2 &&& (255 : Int32)).toUInt32.toUInt16.toUInt32.toInt32), .val (.int (p3 &&& (255 : Int32)).toUInt32.toUInt16.toUInt32.toInt32), .val (.ref b58), .val (.ref b65), .val (.ref b67), .val (.ref bx70), .val (.ref b65), .val (.ref bx76)] [])) _
          refine XS.aload X78.here hx rfl (hb hby at_251) rfl rfl ?_
          show Steps p.tables e below (T78.setTop (mkF m 253 #[.val (.int p0), .val (.int p1), .val (.int p2), .val (.int p3), .val (.int (3 : Int32)), .val (.int (p1 &&& (255 : Int32)).toUInt32.toUInt16.toUInt32.toInt32), .val (.int (p2 &&& (255 : Int32)).toUInt32.toUInt16.toUInt32.toInt32), .val (.int (p3 &&& (255 : Int32)).toUInt32.toUInt16.toUInt32.toInt32), .val (.ref b58), .val (.ref b65), .val (.ref b67), .val (.ref bx70), .val (.ref b65), .val (.ref bx76)] [(.ref bx76)])) _
          refine XS.iconst X78.here hx rfl (hb hby at_253) ?_
          show Steps p.tables e below (T78.setTop (mkF m 254 #[.val (.int p0), .val (.int p1), .val (.int p2), .val (.int p3), .val (.int (3 : Int32)), .val (.int (p1 &&& (255 : Int32)).toUInt32.toUInt16.toUInt32.toInt32), .val (.int (p2 &&& (255 : Int32)).toUInt32.toUInt16.toUInt32.toInt32), .val (.int (p3 &&& (255 : Int32)).toUInt32.toUInt16.toUInt32.toInt32), .val (.ref b58), .val (.ref b65), .val (.ref b67), .val (.ref bx70), .val (.ref b65), .val (.ref bx76)] [(.int (0 : Int32)), (.ref bx76)])) _
          refine st79.trans ?_
          show Steps p.tables e below (T79.setTop (mkF m 259 #[.val (.int p0), .val (.int p1), .val (.int p2), .val (.int p3), .val (.int (3 : Int32)), .val (.int (p1 &&& (255 : Int32)).toUInt32.toUInt16.toUInt32.toInt32), .val (.int (p2 &&& (255 : Int32)).toUInt32.toUInt16.toUInt32.toInt32), .val (.int (p3 &&& (255 : Int32)).toUInt32.toUInt16.toUInt32.toInt32), .val (.ref b58), .val (.ref b65), .val (.ref b67), .val (.ref bx70), .val (.ref b65), .val (.ref bx76)] [(.ref b65)])) _
          refine st80 _ ?_
          show Steps p.tables e below (T80.setTop (mkF m 262 #[.val (.int p0), .val (.int p1), .val (.int p2), .val (.int p3), .val (.int (3 : Int32)), .val (.int (p1 &&& (255 : Int32)).toUInt32.toUInt16.toUInt32.toInt32), .val (.int (p2 &&& (255 : Int32)).toUInt32.toUInt16.toUInt32.toInt32), .val (.int (p3 &&& (255 : Int32)).toUInt32.toUInt16.toUInt32.toInt32), .val (.ref b58), .val (.ref b65), .val (.ref b67), .val (.ref bx70), .val (.ref b65), .val (.ref bx76)] [(.ref b65)])) _
          refine XS.aload X80.here hx rfl (hb hby at_262) rfl rfl ?_
          show Steps p.tables e below (T80.setTop (mkF m 264 #[.val (.int p0), .val (.int p1), .val (.int p2), .val (.int p3), .val (.int (3 : Int32)), .val (.int (p1 &&& (255 : Int32)).toUInt32.toUInt16.toUInt32.toInt32), .val (.int (p2 &&& (255 : Int32)).toUInt32.toUInt16.toUInt32.toInt32), .val (.int (p3 &&& (255 : Int32)).toUInt32.toUInt16.toUInt32.toInt32), .val (.ref b58), .val (.ref b65), .val (.ref b67), .val (.ref bx70), .val (.ref b65), .val (.ref bx76)] [(.ref b65), (.ref b65)])) _
          refine st81.trans ?_
          show Steps p.tables e below (T81.setTop (mkF m 267 #[.val (.int p0), .val (.int p1), .val (.int p2), .val (.int p3), .val (.int (3 : Int32)), .val (.int (p1 &&& (255 : Int32)).toUInt32.toUInt16.toUInt32.toInt32), .val (.int (p2 &&& (255 : Int32)).toUInt32.toUInt16.toUInt32.toInt32), .val (.int (p3 &&& (255 : Int32)).toUInt32.toUInt16.toUInt32.toInt32), .val (.ref b58), .val (.ref b65), .val (.ref b67), .val (.ref bx70), .val (.ref b65), .val (.ref bx76)] [(.int (1 : Int32))])) _
          refine XS.ifNo X81.here hx rfl (hb hby at_267) rfl ((if0 _ _).trans (feq (by decide : ¬ ((1 : Int32) = (0 : Int32)))).1) ?_
          show Steps p.tables e below (T81.setTop (mkF m 270 #[.val (.int p0), .val (.int p1), .val (.int p2), .val (.int p3), .val (.int (3 : Int32)), .val (.int (p1 &&& (255 : Int32)).toUInt32.toUInt16.toUInt32.toInt32), .val (.int (p2 &&& (255 : Int32)).toUInt32.toUInt16.toUInt32.toInt32), .val (.int (p3 &&& (255 : Int32)).toUInt32.toUInt16.toUInt32.toInt32), .val (.ref b58), .val (.ref b65), .val (.ref b67), .val (.ref bx70), .val (.ref b65), .val (.ref bx76)] [])) _
          refine XS.iconst X81.here hx rfl (hb hby at_270) ?_
          show Steps p.tables e below (T81.setTop (mkF m 271 #[.val (.int p0), .val (.int p1), .val (.int p2), .val (.int p3), .val (.int (3 : Int32)), .val (.int (p1 &&& (255 : Int32)).toUInt32.toUInt16.toUInt32.toInt32), .val (.int (p2 &&& (255 : Int32)).toUInt32.toUInt16.toUInt32.toInt32), .val (.int (p3 &&& (255 : Int32)).toUInt32.toUInt16.toUInt32.toInt32), .val (.ref b58), .val (.ref b65), .val (.ref b67), .val (.ref bx70), .val (.ref b65), .val (.ref bx76)] [(.int (1 : Int32))])) _
          refine XS.goto X81.here hx rfl (pc0 := 271) (pc' := 275) rfl (hb hby at_271) (by decide) (by decide) ?_
          show Steps p.tables e below (T81.setTop (mkF m 275 #[.val (.int p0), .val (.int p1), .val (.int p2), .val (.int p3), .val (.int (3 : Int32)), .val (.int (p1 &&& (255 : Int32)).toUInt32.toUInt16.toUInt32.toInt32), .val (.int (p2 &&& (255 : Int32)).toUInt32.toUInt16.toUInt32.toInt32), .val (.int (p3 &&& (255 : Int32)).toUInt32.toUInt16.toUInt32.toInt32), .val (.ref b58), .val (.ref b65), .val (.ref b67), .val (.ref bx70), .val (.ref b65), .val (.ref bx76)] [(.int (1 : Int32))])) _
          exact retN X81 hx (t := .boolean) Bd.returns (by simp) (hb hby at_275) hr
        · show Q_rm_law Z p0 p1 p2 p3 zc w_D kd w_E GFx h0 n0 _ T81.heap _
          rw [e81]
          exact ⟨rfl, N81, trivial⟩
theorem own_len0 {args : Array Value} {Z : State} {t : Term} {a : Addr} {cl : Cell} {ty : FieldType} {dv : Value} (hf : Fit Z) (A : Arr Z Z.heap a cl ty) (ht : t.eval args Z none [] Z = some (.ref a)) (h : (Jvm.Cond.eq (.length t) (.int (0 : Int32))).value args Z none Z [] = some true) : Arv Z Z.heap a cl.cls ty (0 : Int32) [] dv := by
  have ha : Z.arrayAt? a = some cl := A.fin (U := Z) (Vm.Alike.refl _)
  have k : (Term.length t).eval args Z none [] Z = some (.int (0 : Int32)) := eqv_i (Term.int_eval (0 : Int32)) h
  by_cases q : cl.slots.size < 2 ^ 31
  · have e := len_f (args := args) (first := Z) (o := none) (idx := []) ht ha q
    have e0 : cl.slots.size.toInt32 = 0 := Value.int.inj (Option.some.inj (e.symm.trans k))
    have sz : cl.slots.size = 0 := by
      have := len_toInt q
      rw [e0] at this
      have z : (0 : Int32).toInt = 0 := rfl
      omega
    exact ⟨cl, A, rfl, by rw [sz]; rfl, by decide, fun i hi => by omega, fun i hi => by omega⟩
  · exfalso
    simp [Term.eval, ht, ha, q] at k
set_option maxRecDepth 65536 in
set_option maxHeartbeats 40000000 in
theorem comes_1 {Post : Tables → Env → Array Value → State → Outcome → State → Prop} (hpost : ∀ tb e args s v u, (limb_1_1.after args s (.returned v) u = true ∧ limb_1_2.after args s (.returned v) u = true ∧ True) → ReturnedEndW s (.returned v) u (Jvm.fieldLocs frame_1_writes args s ++ Jvm.arrayLocs frame_1_arrays args s ++ Jvm.staticLocs frame_1_statics s) 32 2176 → Post tb e args s (.returned v) u) :
    ArmFor flags0 classFile x code maxLocals ret World_1 tables_1 room_1 Calls_1 rest_1 Pre_1 Post := by
  intro l hfl _ _ p e ha hc hk s m args below hf hA hF happ hP
  obtain ⟨hcalls, hrest, hpre⟩ := hP
  obtain ⟨-, -, -, hnamed, -, -, -, hat⟩ := (Spec.applies_iff hf).mp happ
  obtain ⟨hg, hn⟩ := and_e (Cond.before_iff.mp (show (Jvm.Cond.and given_1 narrow_1).before args s = true from hpre))
  obtain ⟨hcnt, hgv0⟩ := and_e hg
  obtain ⟨hg0, hgv1⟩ := and_e hgv0
  obtain ⟨hg1, hgv2⟩ := and_e hgv1
  obtain ⟨hg2, hgv3⟩ := and_e hgv2
  have hg3 := hgv3
  obtain ⟨w0, w1, w2, w3, rfl⟩ : ∃ w0 w1 w2 w3 : Value, args = #[w0, w1, w2, w3] := by
    have hs : args.size = 4 := by simpa [Cond.value, given_1] using hcnt
    obtain ⟨L⟩ := args
    match L, hs with
    | [w0, w1, w2, w3], _ => exact ⟨w0, w1, w2, w3, rfl⟩
  have hw := fun d (hd : d ∈ tables_1) => atoms_spec (ws := Jvm.Cond.code x code maxLocals ret :: tables_1) hat d (List.mem_cons_of_mem _ hd)
  have hfit : Fit s := fun {y c} hc i hi => by
    obtain ⟨ha, rfl⟩ := Array.getElem?_eq_some_iff.mp hc
    have q := List.all_eq_true.mp ((Array.all_eq_true_iff_forall_mem.mp hF) _ (Array.getElem_mem ha)) i (List.mem_range.mpr hi)
    simpa [Array.getElem?_eq_getElem hi] using q
  obtain ⟨i0, ei0⟩ := is_v hg0
  obtain rfl : w0 = (.int i0) := Option.some.inj ei0
  obtain ⟨i1, ei1⟩ := is_v hg1
  obtain rfl : w1 = (.int i1) := Option.some.inj ei1
  obtain ⟨i2, ei2⟩ := is_v hg2
  obtain rfl : w2 = (.int i2) := Option.some.inj ei2
  obtain ⟨i3, ei3⟩ := is_v hg3
  obtain rfl : w3 = (.int i3) := Option.some.inj ei3
  obtain ⟨hsets, hown0⟩ := atoms_of _ (rest_1_c_eq ▸ (show rest_1_c.before _ s = true from hrest))
  obtain ⟨zc, ezc⟩ := is_v (Cond.before_iff.mp (hsets _ (List.mem_of_getElem? (i := 10) rfl)))
  have S_CS : Sta s s.heap "java/lang/String" "COMPACT_STRINGS" "Z" (.int zc) := Sta.start ezc (Or.inl (hsets _ (List.mem_of_getElem? (i := 9) rfl)))
  have P5 : ¬ (zc = (0 : Int32)) := by
    intro q
    have n3 := not_v (Cond.before_iff.mp (hsets _ (List.mem_of_getElem? (i := 11) rfl)))
    have n4 := eq_i ezc (Term.int_eval (0 : Int32)) (by rw [q])
    rw [n4] at n3; cases n3
  obtain ⟨GFx, eG3, rG3⟩ := isR_v (Cond.before_iff.mp (hsets _ (List.mem_of_getElem? (i := 17) rfl)))
  have S_F : Sta s s.heap "jdk/internal/util/Preconditions" "SIOOBE_FORMATTER" "Ljava/util/function/BiFunction;" GFx := Sta.start eG3 (Or.inl (hsets _ (List.mem_of_getElem? (i := 16) rfl)))
  obtain ⟨w_E, eE⟩ := exa_v (Cond.before_iff.mp (hsets _ (List.mem_of_getElem? (i := 20) rfl)))
  have S_E : Sta s s.heap "java/util/ImmutableCollections" "EMPTY" "Ljava/lang/Object;" (.ref w_E) := Sta.start eE (Or.inl (hsets _ (List.mem_of_getElem? (i := 19) rfl)))
  have hD6 := Cond.before_iff.mp (hsets _ (List.mem_of_getElem? (i := 6) rfl))
  obtain ⟨w_D, eD⟩ := arr_v hD6
  have S_D : Sta s s.heap "java/util/ArrayList" "DEFAULTCAPACITY_EMPTY_ELEMENTDATA" "[Ljava/lang/Object;" (.ref w_D) := Sta.start eD (Or.inr ⟨(hw _ (List.mem_of_getElem? (i := 24) rfl)), (hsets _ (List.mem_of_getElem? (i := 2) rfl))⟩)
  obtain ⟨cD, AD⟩ := Arr.start eD hD6
  have hD8 := Cond.before_iff.mp (hsets _ (List.mem_of_getElem? (i := 8) rfl))
  have VD : Arv s s.heap w_D cD.cls (.object "java/lang/Object") (0 : Int32) [] .null := own_len0 hfit AD eD hD8
  obtain ⟨n, o, h1, h2, h3, _, L, rfl, hQL, hq⟩ := rm_law l s _ hw tables_1 i0 i1 i2 i3 zc w_D cD.cls w_E GFx s.heap s.heap.size (Nat.le_refl _) (Old.start s) S_CS P5 S_D S_E S_F rG3 VD (hcalls.1 ("java/lang/String", 7) (by decide)) (hsets _ (List.mem_of_getElem? (i := 11) rfl)) p e ha hc hk s m _ below hf ((Spec.applies_iff_loose hf).mp happ).1 ⟨rfl, State.Warmed39.refl s, rfl, IB.start⟩ trivial
  obtain ⟨rfl, N, -⟩ := hQL
  refine ⟨n, _, h1, h2, h3, hpost _ _ _ _ _ _ ⟨Cond.after_iff.mpr rfl, Cond.after_iff.mpr (eq_i res_at (Term.int_eval (1)) rfl), trivial⟩ ⟨hq.1, hq.2.1, hq.2.2.1, (hq.2.2.2.sift fun y hy => Or.inr (N y hy)).mono (by decide) (by decide)⟩⟩
theorem main_1_1 : Claimed_1_1 := comes_1 fun _ _ _ _ _ _ h hF => ⟨h.1, hF⟩
theorem main_1_2 : Claimed_1_2 := comes_1 fun _ _ _ _ _ _ h hF => ⟨h.2.1, hF⟩
end Jvm.Pilot.@@N@@
namespace Jvm.Pilot.@@N@@
open Jvm Jvm.ClassFile Sem Op Lib Jvm.Free Jvm.Stand Jvm.Pilot.@@N@@.Jvm.D
/-! MADE BY PROGRAM (witnessworld.py) out of the Statement's table words and the real class files: 38 classes; the members and pool entries that the words name. The judged class is class 1, her method 1. -/
namespace start1
open Jvm.ClassFile
def u (s : String) : CpInfo := .utf8 (stringToUtf16 s)
/-- a pool by its gaps: so many unusable entries, then the entry; so many at the end -/
def gap : Nat → List CpInfo → List CpInfo
  | 0, r => r
  | n + 1, r => .unusable :: gap n r
def poolList (es : List (Nat × CpInfo)) (last : Nat) : List CpInfo := es.foldr (fun e r => gap e.1 (e.2 :: r)) (gap last [])
def pool (es : List (Nat × CpInfo)) (last : Nat) : Array CpInfo := ⟨poolList es last⟩
def fileOf (pool : Array CpInfo) (this : Nat) (attrs : Array Attribute := #[]) (ms : Array MethodInfo := #[]) (fl : Nat := 33) (sup : Nat := 0) (ifs : Array Nat := #[]) (fds : Array FieldInfo := #[]) : ClassFile where
  minorVersion := 0
  majorVersion := 65
  constantPool := pool
  accessFlags := fl
  thisClass := this
  superClass := sup
  interfaces := ifs
  fields := fds
  methods := ms
  attributes := attrs
def plain (name : String) (sup : Option ClassId) : Class where
  name := name
  kind := .ordinary
  loader := none
  accessFlags := 33
  super := sup
  interfaces := #[]
  cf := none
  fields := #[]
  methods := #[]
  instanceTypes := #[]
  staticTypes := #[]
  resolved := #[]
  callSites := []
  init := .initialized
  statics := none
  mirror := none

def pool0 : Array CpInfo := pool [(5, u "<init>"), (0, u "()V"), (1, .class_ 10), (1, u "java/lang/Object")] 113

def k0c0 : Code := { maxStack := 0, maxLocals := 1, code := object_method_1_code, exceptionTable := #[], attributes := #[] }
def k0m0 : Method := { name := "<init>", desc := "()V", sig := { parameters := [], returnType := none }, accessFlags := 1, code := some k0c0 }
/-- java/lang/Object -/
def k0 : Class := { plain "java/lang/Object" none with
  accessFlags := 33
  interfaces := #[]
  cf := some (fileOf pool0 8 #[] #[{ accessFlags := 1, nameIndex := 5, descriptorIndex := 6, attributes := #[] }] 33 0 #[] #[])
  fields := #[]
  methods := #[k0m0]
  instanceTypes := #[]
  staticTypes := #[]
  resolved := Array.replicate 124 none
  statics := none }

def pool1 : Array CpInfo := pool [(2, .class_ 4), (0, .nameAndType 5 6), (0, u "java/lang/Object"), (0, u "<init>"), (0, u "()V"), (0, .class_ 8), (0, u "java/lang/String"), (0, .methodref 7 10), (0, .nameAndType 5 11), (0, u "([C)V"), (0, .class_ 13), (0, u "java/util/ArrayList"), (0, .methodref 12 3), (0, .interfaceMethodref 16 17), (0, .class_ 18), (0, .nameAndType 19 20), (0, u "java/util/List"), (0, u "add"), (0, u "(Ljava/lang/Object;)Z"), (0, .methodref 22 23), (0, .class_ 24), (0, .nameAndType 25 26), (0, u "com/example/fyfo/fyfo/Runner$Shell"), (0, u "fromWords"), (0, u "(Ljava/util/List;)Lcom/example/fyfo/fyfo/Runner$Shell;"), (0, .methodref 22 28), (0, .nameAndType 29 30), (0, u "command"), (0, u "()Ljava/lang/String;"), (0, .methodref 7 32), (0, .nameAndType 33 34), (0, u "length"), (0, u "()I"), (0, .methodref 7 36), (0, .nameAndType 37 38), (0, u "charAt"), (0, u "(I)C"), (0, .methodref 22 40), (0, .nameAndType 41 42), (0, u "words"), (0, u "()Ljava/util/List;"), (0, .methodref 7 44), (0, .nameAndType 45 20), (0, u "equals"), (0, .interfaceMethodref 16 47), (0, .nameAndType 48 34), (0, u "size"), (0, .interfaceMethodref 16 50), (0, .nameAndType 51 52), (0, u "get"), (0, u "(I)Ljava/lang/Object;"), (0, .class_ 54), (0, u "com/example/fyfo/fyfo/ShellFromWordsPinLaw"), (2, u "law"), (0, u "(IIII)Z")] 9

def k1m0 : Method := { name := "<init>", desc := "()V", sig := { parameters := [], returnType := none }, accessFlags := 1, code := none }
def k1c1 : Code := { maxStack := 4, maxLocals := 14, code := code, exceptionTable := #[], attributes := #[] }
def k1m1 : Method := { name := "law", desc := "(IIII)Z", sig := { parameters := [.int, .int, .int, .int], returnType := some .boolean }, accessFlags := 9, code := some k1c1 }
/-- com/example/fyfo/fyfo/ShellFromWordsPinLaw -/
def k1 : Class := { plain "com/example/fyfo/fyfo/ShellFromWordsPinLaw" (some 0) with
  accessFlags := 49
  interfaces := #[]
  cf := some (fileOf pool1 53 #[] #[{ accessFlags := 1, nameIndex := 5, descriptorIndex := 6, attributes := #[] }, { accessFlags := 9, nameIndex := 57, descriptorIndex := 58, attributes := #[] }] 49 2 #[] #[])
  fields := #[]
  methods := #[k1m0, k1m1]
  instanceTypes := #[]
  staticTypes := #[]
  resolved := Array.replicate 68 none
  statics := none }

def pool2 : Array CpInfo := pool [(1, .class_ 2), (0, u "java/io/Serializable"), (0, .class_ 4), (0, u "java/lang/Object")] 2

/-- java/io/Serializable -/
def k2 : Class := { plain "java/io/Serializable" (some 0) with
  accessFlags := 1537
  interfaces := #[]
  cf := some (fileOf pool2 1 #[] #[] 1537 3 #[] #[])
  fields := #[]
  methods := #[]
  instanceTypes := #[]
  staticTypes := #[]
  resolved := Array.replicate 7 none
  statics := none }

def pool3 : Array CpInfo := pool [(1, .class_ 2), (0, u "java/lang/Comparable"), (0, .class_ 4), (0, u "java/lang/Object")] 7

/-- java/lang/Comparable -/
def k3 : Class := { plain "java/lang/Comparable" (some 0) with
  accessFlags := 1537
  interfaces := #[]
  cf := some (fileOf pool3 1 #[] #[] 1537 3 #[] #[])
  fields := #[]
  methods := #[]
  instanceTypes := #[]
  staticTypes := #[]
  resolved := Array.replicate 12 none
  statics := none }

def pool4 : Array CpInfo := pool [(2, .class_ 4), (1, u "java/lang/CharSequence"), (42, .class_ 48), (0, u "java/lang/CharSequence$1CodePointIterator"), (10, .class_ 60), (0, u "java/lang/CharSequence$1CharIterator"), (5, .class_ 67), (0, u "java/lang/Object")] 63

/-- java/lang/CharSequence -/
def k4 : Class := { plain "java/lang/CharSequence" (some 0) with
  accessFlags := 1537
  interfaces := #[]
  cf := some (fileOf pool4 2 #[.nestMembers #[47, 59]] #[] 1537 66 #[] #[])
  fields := #[]
  methods := #[]
  instanceTypes := #[]
  staticTypes := #[]
  resolved := Array.replicate 131 none
  statics := none }

def pool5 : Array CpInfo := pool [(1, .class_ 2), (0, u "java/lang/constant/Constable"), (0, .class_ 4), (0, u "java/lang/Object")] 6

/-- java/lang/constant/Constable -/
def k5 : Class := { plain "java/lang/constant/Constable" (some 0) with
  accessFlags := 1537
  interfaces := #[]
  cf := some (fileOf pool5 1 #[] #[] 1537 3 #[] #[])
  fields := #[]
  methods := #[]
  instanceTypes := #[]
  staticTypes := #[]
  resolved := Array.replicate 11 none
  statics := none }

def pool6 : Array CpInfo := pool [(1, .class_ 2), (0, u "java/lang/constant/ConstantDesc"), (0, .class_ 4), (0, u "java/lang/Object")] 32

/-- java/lang/constant/ConstantDesc -/
def k6 : Class := { plain "java/lang/constant/ConstantDesc" (some 0) with
  accessFlags := 1537
  interfaces := #[]
  cf := some (fileOf pool6 1 #[] #[] 1537 3 #[] #[])
  fields := #[]
  methods := #[]
  instanceTypes := #[]
  staticTypes := #[]
  resolved := Array.replicate 37 none
  statics := none }

def pool7 : Array CpInfo := pool [(1, .methodref 2 3), (0, .class_ 4), (0, .nameAndType 5 6), (0, u "java/lang/Object"), (0, u "<init>"), (0, u "()V"), (0, .string 8), (0, u ""), (0, .fieldref 10 11), (0, .class_ 12), (0, .nameAndType 13 14), (0, u "java/lang/String"), (0, u "value"), (0, u "[B"), (0, .fieldref 10 16), (0, .nameAndType 17 18), (0, u "coder"), (0, u "B"), (2, u "hash"), (0, u "I"), (2, u "hashIsZero"), (0, u "Z"), (0, .methodref 10 28), (0, .nameAndType 5 29), (0, u "([CIILjava/lang/Void;)V"), (8, .fieldref 10 39), (0, .nameAndType 40 26), (0, u "COMPACT_STRINGS"), (1, .class_ 44), (1, u "java/lang/StringUTF16"), (0, u "compress"), (1, .methodref 42 48), (0, .nameAndType 49 50), (0, u "coderFromArrayLen"), (0, u "([BI)B"), (56, .class_ 109), (1, u "java/lang/StringLatin1"), (32, u "()Z"), (34, .methodref 42 178), (0, .nameAndType 45 179), (0, u "([CII)[B"), (154, u "()I"), (0, .methodref 10 336), (0, .nameAndType 17 337), (0, u "()B"), (25, u "([BI)C"), (27, u "(II)V"), (35, u "(I)C"), (64, .methodref 10 493), (0, .nameAndType 494 142), (0, u "isLatin1"), (0, .methodref 107 496), (0, .nameAndType 497 363), (0, u "charAt"), (3, u "checkIndex"), (5, u "length"), (35, u "equals"), (29, u "(Ljava/lang/Object;)Z"), (1, .class_ 576), (0, u "java/lang/CharSequence"), (22, u "CASE_INSENSITIVE_ORDER"), (0, u "Ljava/util/Comparator;"), (409, u "([C)V"), (42, .fieldref 1054 1055), (0, .class_ 1056), (0, .nameAndType 1057 1058), (0, u "jdk/internal/util/Preconditions"), (0, u "SIOOBE_FORMATTER"), (0, u "Ljava/util/function/BiFunction;"), (0, .methodref 1054 1060), (0, .nameAndType 501 1061), (0, u "(IILjava/util/function/BiFunction;)I"), (39, u "serialPersistentFields"), (0, u "[Ljava/io/ObjectStreamField;"), (0, .class_ 1104), (0, u "java/lang/String$CaseInsensitiveComparator"), (1, .class_ 1107), (0, u "java/io/Serializable"), (0, .class_ 1109), (0, u "java/lang/Comparable"), (0, .class_ 1111), (0, u "java/lang/constant/Constable"), (0, .class_ 1113), (0, u "java/lang/constant/ConstantDesc"), (2, u "serialVersionUID"), (0, u "J"), (3, u "REPL"), (0, u "C"), (2, u "LATIN1"), (1, u "UTF16")] 323

def k7m0 : Method := { name := "<init>", desc := "()V", sig := { parameters := [], returnType := none }, accessFlags := 1, code := none }
def k7c1 : Code := { maxStack := 5, maxLocals := 2, code := jdk_42_method_3_code, exceptionTable := #[], attributes := #[] }
def k7m1 : Method := { name := "<init>", desc := "([C)V", sig := { parameters := [(.array .char)], returnType := none }, accessFlags := 1, code := some k7c1 }
def k7c2 : Code := { maxStack := 2, maxLocals := 1, code := jdk_42_method_54_code, exceptionTable := #[], attributes := #[] }
def k7m2 : Method := { name := "length", desc := "()I", sig := { parameters := [], returnType := some .int }, accessFlags := 1, code := some k7c2 }
def k7c3 : Code := { maxStack := 2, maxLocals := 2, code := jdk_42_method_56_code, exceptionTable := #[], attributes := #[] }
def k7m3 : Method := { name := "charAt", desc := "(I)C", sig := { parameters := [.int], returnType := some .char }, accessFlags := 1, code := some k7c3 }
def k7c4 : Code := { maxStack := 2, maxLocals := 3, code := jdk_42_method_66_code, exceptionTable := #[], attributes := #[] }
def k7m4 : Method := { name := "equals", desc := "(Ljava/lang/Object;)Z", sig := { parameters := [(.object "java/lang/Object")], returnType := some .boolean }, accessFlags := 1, code := some k7c4 }
def k7c5 : Code := { maxStack := 4, maxLocals := 6, code := jdk_42_method_149_code, exceptionTable := #[], attributes := #[] }
def k7m5 : Method := { name := "<init>", desc := "([CIILjava/lang/Void;)V", sig := { parameters := [(.array .char), .int, .int, (.object "java/lang/Void")], returnType := none }, accessFlags := 2, code := some k7c5 }
def k7c6 : Code := { maxStack := 1, maxLocals := 1, code := jdk_42_method_152_code, exceptionTable := #[], attributes := #[] }
def k7m6 : Method := { name := "coder", desc := "()B", sig := { parameters := [], returnType := some .byte }, accessFlags := 0, code := some k7c6 }
def k7c7 : Code := { maxStack := 1, maxLocals := 1, code := jdk_42_method_154_code, exceptionTable := #[], attributes := #[] }
def k7m7 : Method := { name := "isLatin1", desc := "()Z", sig := { parameters := [], returnType := some .boolean }, accessFlags := 0, code := some k7c7 }
def k7c8 : Code := { maxStack := 3, maxLocals := 2, code := jdk_42_method_155_code, exceptionTable := #[], attributes := #[] }
def k7m8 : Method := { name := "checkIndex", desc := "(II)V", sig := { parameters := [.int, .int], returnType := none }, accessFlags := 8, code := some k7c8 }
/-- java/lang/String -/
def k7 : Class := { plain "java/lang/String" (some 0) with
  accessFlags := 49
  interfaces := #[2, 3, 4, 5, 6]
  cf := some (fileOf pool7 10 #[.nestMembers #[1103]] #[{ accessFlags := 1, nameIndex := 5, descriptorIndex := 6, attributes := #[] }, { accessFlags := 1, nameIndex := 5, descriptorIndex := 1010, attributes := #[] }, { accessFlags := 1, nameIndex := 507, descriptorIndex := 334, attributes := #[] }, { accessFlags := 1, nameIndex := 497, descriptorIndex := 427, attributes := #[] }, { accessFlags := 1, nameIndex := 543, descriptorIndex := 573, attributes := #[] }, { accessFlags := 2, nameIndex := 5, descriptorIndex := 29, attributes := #[] }, { accessFlags := 0, nameIndex := 17, descriptorIndex := 337, attributes := #[] }, { accessFlags := 0, nameIndex := 494, descriptorIndex := 142, attributes := #[] }, { accessFlags := 8, nameIndex := 501, descriptorIndex := 391, attributes := #[] }] 49 2 #[1106, 1108, 575, 1110, 1112] #[{ accessFlags := 18, nameIndex := 13, descriptorIndex := 14, attributes := #[] }, { accessFlags := 18, nameIndex := 17, descriptorIndex := 18, attributes := #[] }, { accessFlags := 2, nameIndex := 21, descriptorIndex := 22, attributes := #[] }, { accessFlags := 2, nameIndex := 25, descriptorIndex := 26, attributes := #[] }, { accessFlags := 26, nameIndex := 1116, descriptorIndex := 1117, attributes := #[] }, { accessFlags := 24, nameIndex := 40, descriptorIndex := 26, attributes := #[] }, { accessFlags := 26, nameIndex := 1101, descriptorIndex := 1102, attributes := #[] }, { accessFlags := 26, nameIndex := 1121, descriptorIndex := 1122, attributes := #[] }, { accessFlags := 25, nameIndex := 599, descriptorIndex := 600, attributes := #[] }, { accessFlags := 24, nameIndex := 1125, descriptorIndex := 18, attributes := #[] }, { accessFlags := 24, nameIndex := 1127, descriptorIndex := 18, attributes := #[] }])
  fields := #[{ name := "value", type := (.array .byte), accessFlags := 18, slot := 0, constantValue := 0 }, { name := "coder", type := .byte, accessFlags := 18, slot := 1, constantValue := 0 }, { name := "hash", type := .int, accessFlags := 2, slot := 2, constantValue := 0 }, { name := "hashIsZero", type := .boolean, accessFlags := 2, slot := 3, constantValue := 0 }, { name := "serialVersionUID", type := .long, accessFlags := 26, slot := 0, constantValue := 0 }, { name := "COMPACT_STRINGS", type := .boolean, accessFlags := 24, slot := 1, constantValue := 0 }, { name := "serialPersistentFields", type := (.array (.object "java/io/ObjectStreamField")), accessFlags := 26, slot := 2, constantValue := 0 }, { name := "REPL", type := .char, accessFlags := 26, slot := 3, constantValue := 0 }, { name := "CASE_INSENSITIVE_ORDER", type := (.object "java/util/Comparator"), accessFlags := 25, slot := 4, constantValue := 0 }, { name := "LATIN1", type := .byte, accessFlags := 24, slot := 5, constantValue := 0 }, { name := "UTF16", type := .byte, accessFlags := 24, slot := 6, constantValue := 0 }]
  methods := #[k7m0, k7m1, k7m2, k7m3, k7m4, k7m5, k7m6, k7m7, k7m8]
  instanceTypes := #[(.array .byte), .byte, .int, .boolean]
  staticTypes := #[.long, .boolean, (.array (.object "java/io/ObjectStreamField")), .char, (.object "java/util/Comparator"), .byte, .byte]
  resolved := Array.replicate 1451 none
  statics := some 0 }

def pool8 : Array CpInfo := pool [(8, .class_ 10), (1, u "java/lang/Iterable"), (24, .class_ 36), (0, u "java/lang/Object")] 25

/-- java/lang/Iterable -/
def k8 : Class := { plain "java/lang/Iterable" (some 0) with
  accessFlags := 1537
  interfaces := #[]
  cf := some (fileOf pool8 8 #[] #[] 1537 35 #[] #[])
  fields := #[]
  methods := #[]
  instanceTypes := #[]
  staticTypes := #[]
  resolved := Array.replicate 62 none
  statics := none }

def pool9 : Array CpInfo := pool [(10, .class_ 12), (1, u "java/util/Collection"), (47, .class_ 61), (0, u "java/lang/Object"), (0, .class_ 63), (0, u "java/lang/Iterable")] 51

/-- java/util/Collection -/
def k9 : Class := { plain "java/util/Collection" (some 0) with
  accessFlags := 1537
  interfaces := #[8]
  cf := some (fileOf pool9 10 #[] #[] 1537 60 #[62] #[])
  fields := #[]
  methods := #[]
  instanceTypes := #[]
  staticTypes := #[]
  resolved := Array.replicate 115 none
  statics := none }

def pool10 : Array CpInfo := pool [(1, .methodref 2 3), (0, .class_ 4), (0, .nameAndType 5 6), (0, u "java/lang/Object"), (0, u "<init>"), (0, u "()V"), (1, .class_ 10), (1, u "java/util/AbstractCollection"), (66, .class_ 78), (0, u "java/util/Collection")] 81

def k10c0 : Code := { maxStack := 1, maxLocals := 1, code := jdk_22_method_1_code, exceptionTable := #[], attributes := #[] }
def k10m0 : Method := { name := "<init>", desc := "()V", sig := { parameters := [], returnType := none }, accessFlags := 4, code := some k10c0 }
/-- java/util/AbstractCollection -/
def k10 : Class := { plain "java/util/AbstractCollection" (some 0) with
  accessFlags := 1057
  interfaces := #[9]
  cf := some (fileOf pool10 8 #[] #[{ accessFlags := 4, nameIndex := 5, descriptorIndex := 6, attributes := #[] }] 1057 2 #[77] #[])
  fields := #[]
  methods := #[k10m0]
  instanceTypes := #[]
  staticTypes := #[]
  resolved := Array.replicate 160 none
  statics := none }

def pool11 : Array CpInfo := pool [(8, .class_ 10), (1, u "java/util/SequencedCollection"), (15, .class_ 27), (0, u "java/lang/Object"), (0, .class_ 29), (0, u "java/util/Collection")] 27

/-- java/util/SequencedCollection -/
def k11 : Class := { plain "java/util/SequencedCollection" (some 0) with
  accessFlags := 1537
  interfaces := #[9]
  cf := some (fileOf pool11 8 #[] #[] 1537 26 #[28] #[])
  fields := #[]
  methods := #[]
  instanceTypes := #[]
  staticTypes := #[]
  resolved := Array.replicate 57 none
  statics := none }

def pool12 : Array CpInfo := pool [(8, .class_ 10), (1, u "java/util/List"), (20, u "(Ljava/lang/Object;)V"), (16, u "<init>"), (11, u "add"), (3, u "(Ljava/lang/Object;)Z"), (10, u "get"), (0, u "(I)Ljava/lang/Object;"), (2, u "size"), (0, u "()I"), (7, u "of"), (7, .class_ 97), (0, u "java/util/ImmutableCollections$List12"), (0, .methodref 96 99), (0, .nameAndType 48 31), (3, .class_ 104), (0, u "java/lang/Object"), (15, .class_ 121), (0, u "java/util/SequencedCollection"), (76, u "(Ljava/lang/Object;)Ljava/util/List;")] 52

def k12m0 : Method := { name := "size", desc := "()I", sig := { parameters := [], returnType := some .int }, accessFlags := 1025, code := none }
def k12m1 : Method := { name := "add", desc := "(Ljava/lang/Object;)Z", sig := { parameters := [(.object "java/lang/Object")], returnType := some .boolean }, accessFlags := 1025, code := none }
def k12m2 : Method := { name := "get", desc := "(I)Ljava/lang/Object;", sig := { parameters := [.int], returnType := some (.object "java/lang/Object") }, accessFlags := 1025, code := none }
def k12c3 : Code := { maxStack := 3, maxLocals := 1, code := jdk_40_method_37_code, exceptionTable := #[], attributes := #[] }
def k12m3 : Method := { name := "of", desc := "(Ljava/lang/Object;)Ljava/util/List;", sig := { parameters := [(.object "java/lang/Object")], returnType := some (.object "java/util/List") }, accessFlags := 9, code := some k12c3 }
/-- java/util/List -/
def k12 : Class := { plain "java/util/List" (some 0) with
  accessFlags := 1537
  interfaces := #[11]
  cf := some (fileOf pool12 8 #[] #[{ accessFlags := 1025, nameIndex := 79, descriptorIndex := 80, attributes := #[] }, { accessFlags := 1025, nameIndex := 60, descriptorIndex := 64, attributes := #[] }, { accessFlags := 1025, nameIndex := 75, descriptorIndex := 76, attributes := #[] }, { accessFlags := 9, nameIndex := 88, descriptorIndex := 198, attributes := #[] }] 1537 103 #[120] #[])
  fields := #[]
  methods := #[k12m0, k12m1, k12m2, k12m3]
  instanceTypes := #[]
  staticTypes := #[]
  resolved := Array.replicate 251 none
  statics := none }

def pool13 : Array CpInfo := pool [(1, .methodref 2 3), (0, .class_ 4), (0, .nameAndType 5 6), (0, u "java/util/AbstractCollection"), (0, u "<init>"), (0, u "()V"), (0, .fieldref 8 9), (0, .class_ 10), (0, .nameAndType 11 12), (0, u "java/util/AbstractList"), (0, u "modCount"), (0, u "I"), (64, .class_ 78), (0, u "java/util/AbstractList$Itr"), (3, .class_ 83), (0, u "java/util/AbstractList$ListItr"), (9, .class_ 94), (0, u "java/util/AbstractList$RandomAccessSubList"), (3, .class_ 99), (0, u "java/util/AbstractList$SubList"), (33, .class_ 134), (0, u "java/util/List"), (73, .class_ 209), (0, u "java/util/AbstractList$SubList$1"), (0, .class_ 211), (0, u "java/util/AbstractList$RandomAccessSpliterator")] 6

def k13c0 : Code := { maxStack := 2, maxLocals := 1, code := jdk_39_method_1_code, exceptionTable := #[], attributes := #[] }
def k13m0 : Method := { name := "<init>", desc := "()V", sig := { parameters := [], returnType := none }, accessFlags := 4, code := some k13c0 }
/-- java/util/AbstractList -/
def k13 : Class := { plain "java/util/AbstractList" (some 10) with
  accessFlags := 1057
  interfaces := #[12]
  cf := some (fileOf pool13 8 #[.nestMembers #[93, 98, 208, 210, 82, 77]] #[{ accessFlags := 4, nameIndex := 5, descriptorIndex := 6, attributes := #[] }] 1057 2 #[133] #[{ accessFlags := 132, nameIndex := 11, descriptorIndex := 12, attributes := #[] }])
  fields := #[{ name := "modCount", type := .int, accessFlags := 132, slot := 0, constantValue := 0 }]
  methods := #[k13m0]
  instanceTypes := #[.int]
  staticTypes := #[]
  resolved := Array.replicate 218 none
  statics := none }

def pool14 : Array CpInfo := pool [(1, .class_ 2), (0, u "java/util/RandomAccess"), (0, .class_ 4), (0, u "java/lang/Object")] 2

/-- java/util/RandomAccess -/
def k14 : Class := { plain "java/util/RandomAccess" (some 0) with
  accessFlags := 1537
  interfaces := #[]
  cf := some (fileOf pool14 1 #[] #[] 1537 3 #[] #[])
  fields := #[]
  methods := #[]
  instanceTypes := #[]
  staticTypes := #[]
  resolved := Array.replicate 7 none
  statics := none }

def pool15 : Array CpInfo := pool [(1, .class_ 2), (0, u "java/lang/Cloneable"), (0, .class_ 4), (0, u "java/lang/Object")] 2

/-- java/lang/Cloneable -/
def k15 : Class := { plain "java/lang/Cloneable" (some 0) with
  accessFlags := 1537
  interfaces := #[]
  cf := some (fileOf pool15 1 #[] #[] 1537 3 #[] #[])
  fields := #[]
  methods := #[]
  instanceTypes := #[]
  staticTypes := #[]
  resolved := Array.replicate 7 none
  statics := none }

def pool16 : Array CpInfo := pool [(1, .methodref 2 3), (0, .class_ 4), (0, .nameAndType 5 6), (0, u "java/util/AbstractList"), (0, u "<init>"), (0, u "()V"), (0, .class_ 8), (0, u "java/lang/Object"), (0, .fieldref 10 11), (0, .class_ 12), (0, .nameAndType 13 14), (0, u "java/util/ArrayList"), (0, u "elementData"), (0, u "[Ljava/lang/Object;"), (2, u "EMPTY_ELEMENTDATA"), (21, .fieldref 10 40), (0, .nameAndType 41 14), (0, u "DEFAULTCAPACITY_EMPTY_ELEMENTDATA"), (5, u "()[Ljava/lang/Object;"), (0, .fieldref 10 49), (0, .nameAndType 50 51), (0, u "size"), (0, u "I"), (11, .fieldref 10 64), (0, .nameAndType 65 51), (0, u "modCount"), (3, .methodref 10 70), (0, .nameAndType 71 72), (0, u "grow"), (0, u "(I)[Ljava/lang/Object;"), (6, .methodref 80 81), (0, .class_ 82), (0, .nameAndType 83 84), (0, u "java/lang/Math"), (0, u "max"), (0, u "(II)I"), (11, u "(Ljava/lang/Object;)Z"), (21, .methodref 119 120), (0, .class_ 121), (0, .nameAndType 122 84), (0, u "java/util/Objects"), (0, u "checkIndex"), (0, .methodref 10 124), (0, .nameAndType 13 125), (0, u "(I)Ljava/lang/Object;"), (3, .methodref 10 130), (0, .nameAndType 71 47), (0, .methodref 10 132), (0, .nameAndType 133 134), (0, u "add"), (0, u "(Ljava/lang/Object;[Ljava/lang/Object;I)V"), (13, .class_ 149), (0, u "java/util/List"), (36, u "()I"), (75, .class_ 263), (0, u "java/util/ArrayList$ListItr"), (3, .class_ 268), (0, u "java/util/ArrayList$Itr"), (7, .class_ 277), (0, u "java/util/ArrayList$SubList"), (12, .class_ 291), (0, u "java/util/ArrayList$ArrayListSpliterator"), (37, .class_ 330), (0, u "java/util/RandomAccess"), (0, .class_ 332), (0, u "java/lang/Cloneable"), (0, .class_ 334), (0, u "java/io/Serializable"), (0, u "serialVersionUID"), (0, u "J"), (3, u "DEFAULT_CAPACITY"), (40, u "get"), (118, .class_ 501), (0, u "java/util/ArrayList$SubList$2"), (0, .class_ 503), (0, u "java/util/ArrayList$SubList$1")] 5

def k16c0 : Code := { maxStack := 2, maxLocals := 1, code := jdk_38_method_2_code, exceptionTable := #[], attributes := #[] }
def k16m0 : Method := { name := "<init>", desc := "()V", sig := { parameters := [], returnType := none }, accessFlags := 1, code := some k16c0 }
def k16c1 : Code := { maxStack := 4, maxLocals := 4, code := jdk_38_method_6_code, exceptionTable := #[], attributes := #[] }
def k16m1 : Method := { name := "grow", desc := "(I)[Ljava/lang/Object;", sig := { parameters := [.int], returnType := some (.array (.object "java/lang/Object")) }, accessFlags := 2, code := some k16c1 }
def k16c2 : Code := { maxStack := 3, maxLocals := 1, code := jdk_38_method_7_code, exceptionTable := #[], attributes := #[] }
def k16m2 : Method := { name := "grow", desc := "()[Ljava/lang/Object;", sig := { parameters := [], returnType := some (.array (.object "java/lang/Object")) }, accessFlags := 2, code := some k16c2 }
def k16c3 : Code := { maxStack := 1, maxLocals := 1, code := jdk_38_method_8_code, exceptionTable := #[], attributes := #[] }
def k16m3 : Method := { name := "size", desc := "()I", sig := { parameters := [], returnType := some .int }, accessFlags := 1, code := some k16c3 }
def k16c4 : Code := { maxStack := 2, maxLocals := 2, code := jdk_38_method_18_code, exceptionTable := #[], attributes := #[] }
def k16m4 : Method := { name := "elementData", desc := "(I)Ljava/lang/Object;", sig := { parameters := [.int], returnType := some (.object "java/lang/Object") }, accessFlags := 0, code := some k16c4 }
def k16c5 : Code := { maxStack := 2, maxLocals := 2, code := jdk_38_method_20_code, exceptionTable := #[], attributes := #[] }
def k16m5 : Method := { name := "get", desc := "(I)Ljava/lang/Object;", sig := { parameters := [.int], returnType := some (.object "java/lang/Object") }, accessFlags := 1, code := some k16c5 }
def k16c6 : Code := { maxStack := 3, maxLocals := 4, code := jdk_38_method_24_code, exceptionTable := #[], attributes := #[] }
def k16m6 : Method := { name := "add", desc := "(Ljava/lang/Object;[Ljava/lang/Object;I)V", sig := { parameters := [(.object "java/lang/Object"), (.array (.object "java/lang/Object")), .int], returnType := none }, accessFlags := 2, code := some k16c6 }
def k16c7 : Code := { maxStack := 4, maxLocals := 2, code := jdk_38_method_25_code, exceptionTable := #[], attributes := #[] }
def k16m7 : Method := { name := "add", desc := "(Ljava/lang/Object;)Z", sig := { parameters := [(.object "java/lang/Object")], returnType := some .boolean }, accessFlags := 1, code := some k16c7 }
/-- java/util/ArrayList -/
def k16 : Class := { plain "java/util/ArrayList" (some 13) with
  accessFlags := 33
  interfaces := #[12, 14, 15, 2]
  cf := some (fileOf pool16 10 #[.nestMembers #[290, 276, 500, 502, 262, 267]] #[{ accessFlags := 1, nameIndex := 5, descriptorIndex := 6, attributes := #[] }, { accessFlags := 2, nameIndex := 71, descriptorIndex := 72, attributes := #[] }, { accessFlags := 2, nameIndex := 71, descriptorIndex := 47, attributes := #[] }, { accessFlags := 1, nameIndex := 50, descriptorIndex := 186, attributes := #[] }, { accessFlags := 0, nameIndex := 13, descriptorIndex := 125, attributes := #[] }, { accessFlags := 1, nameIndex := 381, descriptorIndex := 125, attributes := #[] }, { accessFlags := 2, nameIndex := 133, descriptorIndex := 134, attributes := #[] }, { accessFlags := 1, nameIndex := 133, descriptorIndex := 96, attributes := #[] }] 33 2 #[148, 329, 331, 333] #[{ accessFlags := 26, nameIndex := 335, descriptorIndex := 336, attributes := #[] }, { accessFlags := 26, nameIndex := 340, descriptorIndex := 51, attributes := #[] }, { accessFlags := 26, nameIndex := 17, descriptorIndex := 14, attributes := #[] }, { accessFlags := 26, nameIndex := 41, descriptorIndex := 14, attributes := #[] }, { accessFlags := 128, nameIndex := 13, descriptorIndex := 14, attributes := #[] }, { accessFlags := 2, nameIndex := 50, descriptorIndex := 51, attributes := #[] }])
  fields := #[{ name := "serialVersionUID", type := .long, accessFlags := 26, slot := 0, constantValue := 0 }, { name := "DEFAULT_CAPACITY", type := .int, accessFlags := 26, slot := 1, constantValue := 0 }, { name := "EMPTY_ELEMENTDATA", type := (.array (.object "java/lang/Object")), accessFlags := 26, slot := 2, constantValue := 0 }, { name := "DEFAULTCAPACITY_EMPTY_ELEMENTDATA", type := (.array (.object "java/lang/Object")), accessFlags := 26, slot := 3, constantValue := 0 }, { name := "elementData", type := (.array (.object "java/lang/Object")), accessFlags := 128, slot := 1, constantValue := 0 }, { name := "size", type := .int, accessFlags := 2, slot := 2, constantValue := 0 }]
  methods := #[k16m0, k16m1, k16m2, k16m3, k16m4, k16m5, k16m6, k16m7]
  instanceTypes := #[.int, (.array (.object "java/lang/Object")), .int]
  staticTypes := #[.long, .int, (.array (.object "java/lang/Object")), (.array (.object "java/lang/Object"))]
  resolved := Array.replicate 509 none
  statics := some 1 }

def pool17 : Array CpInfo := pool [(1, .class_ 2), (0, u "java/lang/Math"), (1, .class_ 6), (1, u "java/lang/Object"), (0, u "<init>"), (0, u "()V"), (89, .class_ 100), (1, u "java/lang/Math$RandomNumberGeneratorHolder"), (71, u "negativeZeroFloatBits"), (0, u "J"), (2, u "negativeZeroDoubleBits"), (21, u "max"), (46, u "$assertionsDisabled"), (0, u "Z"), (88, u "(II)I"), (2, u "twoToTheDoubleScaleDown"), (0, u "D"), (4, u "twoToTheDoubleScaleUp"), (9, u "E"), (3, u "PI"), (2, u "TAU"), (2, u "DEGREES_TO_RADIANS"), (0, u "RADIANS_TO_DEGREES")] 94

def k17m0 : Method := { name := "<init>", desc := "()V", sig := { parameters := [], returnType := none }, accessFlags := 2, code := none }
def k17c1 : Code := { maxStack := 2, maxLocals := 2, code := jdk_29_method_65_code, exceptionTable := #[], attributes := #[] }
def k17m1 : Method := { name := "max", desc := "(II)I", sig := { parameters := [.int, .int], returnType := some .int }, accessFlags := 9, code := some k17c1 }
/-- java/lang/Math -/
def k17 : Class := { plain "java/lang/Math" (some 0) with
  accessFlags := 49
  interfaces := #[]
  cf := some (fileOf pool17 1 #[.nestMembers #[98]] #[{ accessFlags := 2, nameIndex := 7, descriptorIndex := 8, attributes := #[] }, { accessFlags := 9, nameIndex := 198, descriptorIndex := 335, attributes := #[] }] 49 4 #[] #[{ accessFlags := 25, nameIndex := 354, descriptorIndex := 339, attributes := #[] }, { accessFlags := 25, nameIndex := 358, descriptorIndex := 339, attributes := #[] }, { accessFlags := 25, nameIndex := 361, descriptorIndex := 339, attributes := #[] }, { accessFlags := 26, nameIndex := 364, descriptorIndex := 339, attributes := #[] }, { accessFlags := 26, nameIndex := 365, descriptorIndex := 339, attributes := #[] }, { accessFlags := 26, nameIndex := 172, descriptorIndex := 173, attributes := #[] }, { accessFlags := 26, nameIndex := 176, descriptorIndex := 173, attributes := #[] }, { accessFlags := 8, nameIndex := 344, descriptorIndex := 339, attributes := #[] }, { accessFlags := 8, nameIndex := 338, descriptorIndex := 339, attributes := #[] }, { accessFlags := 4120, nameIndex := 245, descriptorIndex := 246, attributes := #[] }])
  fields := #[{ name := "E", type := .double, accessFlags := 25, slot := 0, constantValue := 0 }, { name := "PI", type := .double, accessFlags := 25, slot := 1, constantValue := 0 }, { name := "TAU", type := .double, accessFlags := 25, slot := 2, constantValue := 0 }, { name := "DEGREES_TO_RADIANS", type := .double, accessFlags := 26, slot := 3, constantValue := 0 }, { name := "RADIANS_TO_DEGREES", type := .double, accessFlags := 26, slot := 4, constantValue := 0 }, { name := "negativeZeroFloatBits", type := .long, accessFlags := 26, slot := 5, constantValue := 0 }, { name := "negativeZeroDoubleBits", type := .long, accessFlags := 26, slot := 6, constantValue := 0 }, { name := "twoToTheDoubleScaleUp", type := .double, accessFlags := 8, slot := 7, constantValue := 0 }, { name := "twoToTheDoubleScaleDown", type := .double, accessFlags := 8, slot := 8, constantValue := 0 }, { name := "$assertionsDisabled", type := .boolean, accessFlags := 4120, slot := 9, constantValue := 0 }]
  methods := #[k17m0, k17m1]
  instanceTypes := #[]
  staticTypes := #[.double, .double, .double, .double, .double, .long, .long, .double, .double, .boolean]
  resolved := Array.replicate 460 none
  statics := none }

def pool18 : Array CpInfo := pool [(1, .methodref 2 3), (0, .class_ 4), (0, .nameAndType 5 6), (0, u "java/lang/Object"), (0, u "<init>"), (0, u "()V"), (0, .class_ 8), (0, u "java/lang/Record")] 13

def k18c0 : Code := { maxStack := 1, maxLocals := 1, code := jdk_30_method_1_code, exceptionTable := #[], attributes := #[] }
def k18m0 : Method := { name := "<init>", desc := "()V", sig := { parameters := [], returnType := none }, accessFlags := 4, code := some k18c0 }
/-- java/lang/Record -/
def k18 : Class := { plain "java/lang/Record" (some 0) with
  accessFlags := 1057
  interfaces := #[]
  cf := some (fileOf pool18 7 #[] #[{ accessFlags := 4, nameIndex := 5, descriptorIndex := 6, attributes := #[] }] 1057 2 #[] #[])
  fields := #[]
  methods := #[k18m0]
  instanceTypes := #[]
  staticTypes := #[]
  resolved := Array.replicate 22 none
  statics := none }

def pool19 : Array CpInfo := pool [(1, .class_ 2), (0, u "com/example/fyfo/fyfo/Runner"), (0, .class_ 4), (0, u "java/lang/Object"), (16, .class_ 22), (0, u "com/example/fyfo/fyfo/Runner$Http"), (0, .class_ 24), (0, u "com/example/fyfo/fyfo/Runner$Direct"), (0, .class_ 26), (0, u "com/example/fyfo/fyfo/Runner$Shell"), (0, .class_ 28), (0, u "com/example/fyfo/fyfo/Runner$Kind")] 6

/-- com/example/fyfo/fyfo/Runner -/
def k19 : Class := { plain "com/example/fyfo/fyfo/Runner" (some 0) with
  accessFlags := 1536
  interfaces := #[]
  cf := some (fileOf pool19 1 #[.nestMembers #[21, 23, 25, 27]] #[] 1536 3 #[] #[])
  fields := #[]
  methods := #[]
  instanceTypes := #[]
  staticTypes := #[]
  resolved := Array.replicate 35 none
  statics := none }

def pool20 : Array CpInfo := pool [(1, .methodref 2 3), (0, .class_ 4), (0, .nameAndType 5 6), (0, u "java/lang/Record"), (0, u "<init>"), (0, u "()V"), (0, .string 8), (0, u "command"), (0, .methodref 10 11), (0, .class_ 12), (0, .nameAndType 13 14), (0, u "java/util/Objects"), (0, u "requireNonNull"), (0, u "(Ljava/lang/Object;Ljava/lang/String;)Ljava/lang/Object;"), (0, .fieldref 16 17), (0, .class_ 18), (0, .nameAndType 8 19), (0, u "com/example/fyfo/fyfo/Runner$Shell"), (0, u "Ljava/lang/String;"), (0, .interfaceMethodref 21 22), (0, .class_ 23), (0, .nameAndType 24 25), (0, u "java/util/List"), (0, u "size"), (0, u "()I"), (5, .nameAndType 5 32), (0, u "(Ljava/lang/String;)V"), (0, .interfaceMethodref 21 34), (0, .nameAndType 35 36), (0, u "get"), (0, u "(I)Ljava/lang/Object;"), (0, .class_ 38), (0, u "java/lang/String"), (0, .methodref 16 31), (6, .interfaceMethodref 21 47), (0, .nameAndType 48 49), (0, u "of"), (0, u "(Ljava/lang/Object;)Ljava/util/List;"), (25, .class_ 76), (0, u "com/example/fyfo/fyfo/Runner"), (3, u "fromWords"), (0, u "(Ljava/util/List;)Lcom/example/fyfo/fyfo/Runner$Shell;"), (5, u "words"), (0, u "()Ljava/util/List;"), (7, u "()Ljava/lang/String;")] 22

def k20c0 : Code := { maxStack := 2, maxLocals := 2, code := prog_34_method_1_code, exceptionTable := #[], attributes := #[] }
def k20m0 : Method := { name := "<init>", desc := "(Ljava/lang/String;)V", sig := { parameters := [(.object "java/lang/String")], returnType := none }, accessFlags := 1, code := some k20c0 }
def k20c1 : Code := { maxStack := 4, maxLocals := 1, code := prog_34_method_2_code, exceptionTable := #[], attributes := #[] }
def k20m1 : Method := { name := "fromWords", desc := "(Ljava/util/List;)Lcom/example/fyfo/fyfo/Runner$Shell;", sig := { parameters := [(.object "java/util/List")], returnType := some (.object "com/example/fyfo/fyfo/Runner$Shell") }, accessFlags := 8, code := some k20c1 }
def k20c2 : Code := { maxStack := 1, maxLocals := 1, code := prog_34_method_4_code, exceptionTable := #[], attributes := #[] }
def k20m2 : Method := { name := "words", desc := "()Ljava/util/List;", sig := { parameters := [], returnType := some (.object "java/util/List") }, accessFlags := 1, code := some k20c2 }
def k20c3 : Code := { maxStack := 1, maxLocals := 1, code := prog_34_method_9_code, exceptionTable := #[], attributes := #[] }
def k20m3 : Method := { name := "command", desc := "()Ljava/lang/String;", sig := { parameters := [], returnType := some (.object "java/lang/String") }, accessFlags := 1, code := some k20c3 }
/-- com/example/fyfo/fyfo/Runner$Shell -/
def k20 : Class := { plain "com/example/fyfo/fyfo/Runner$Shell" (some 18) with
  accessFlags := 49
  interfaces := #[19]
  cf := some (fileOf pool20 16 #[.nestHost 75] #[{ accessFlags := 1, nameIndex := 5, descriptorIndex := 32, attributes := #[] }, { accessFlags := 8, nameIndex := 80, descriptorIndex := 81, attributes := #[] }, { accessFlags := 1, nameIndex := 87, descriptorIndex := 88, attributes := #[] }, { accessFlags := 1, nameIndex := 8, descriptorIndex := 96, attributes := #[] }] 49 2 #[75] #[{ accessFlags := 18, nameIndex := 8, descriptorIndex := 19, attributes := #[] }])
  fields := #[{ name := "command", type := (.object "java/lang/String"), accessFlags := 18, slot := 0, constantValue := 0 }]
  methods := #[k20m0, k20m1, k20m2, k20m3]
  instanceTypes := #[(.object "java/lang/String")]
  staticTypes := #[]
  resolved := Array.replicate 119 none
  statics := none }

def pool21 : Array CpInfo := pool [(2, .class_ 4), (1, u "java/lang/Object"), (0, u "<init>"), (0, u "()V"), (35, .class_ 44), (1, u "java/util/Objects"), (0, u "requireNonNull"), (0, u "(Ljava/lang/Object;)Ljava/lang/Object;"), (47, u "(Ljava/lang/Object;Ljava/lang/String;)Ljava/lang/Object;"), (10, .methodref 106 107), (0, .class_ 108), (0, .nameAndType 109 110), (0, u "jdk/internal/util/Preconditions"), (0, u "checkIndex"), (0, u "(IILjava/util/function/BiFunction;)I"), (60, u "(II)I")] 12

def k21m0 : Method := { name := "<init>", desc := "()V", sig := { parameters := [], returnType := none }, accessFlags := 2, code := none }
def k21c1 : Code := { maxStack := 2, maxLocals := 1, code := jdk_31_method_10_code, exceptionTable := #[], attributes := #[] }
def k21m1 : Method := { name := "requireNonNull", desc := "(Ljava/lang/Object;)Ljava/lang/Object;", sig := { parameters := [(.object "java/lang/Object")], returnType := some (.object "java/lang/Object") }, accessFlags := 9, code := some k21c1 }
def k21c2 : Code := { maxStack := 3, maxLocals := 2, code := jdk_31_method_11_code, exceptionTable := #[], attributes := #[] }
def k21m2 : Method := { name := "requireNonNull", desc := "(Ljava/lang/Object;Ljava/lang/String;)Ljava/lang/Object;", sig := { parameters := [(.object "java/lang/Object"), (.object "java/lang/String")], returnType := some (.object "java/lang/Object") }, accessFlags := 9, code := some k21c2 }
def k21c3 : Code := { maxStack := 3, maxLocals := 2, code := jdk_31_method_17_code, exceptionTable := #[], attributes := #[] }
def k21m3 : Method := { name := "checkIndex", desc := "(II)I", sig := { parameters := [.int, .int], returnType := some .int }, accessFlags := 9, code := some k21c3 }
/-- java/util/Objects -/
def k21 : Class := { plain "java/util/Objects" (some 0) with
  accessFlags := 49
  interfaces := #[]
  cf := some (fileOf pool21 42 #[] #[{ accessFlags := 2, nameIndex := 5, descriptorIndex := 6, attributes := #[] }, { accessFlags := 9, nameIndex := 45, descriptorIndex := 46, attributes := #[] }, { accessFlags := 9, nameIndex := 45, descriptorIndex := 94, attributes := #[] }, { accessFlags := 9, nameIndex := 109, descriptorIndex := 171, attributes := #[] }] 49 2 #[] #[])
  fields := #[]
  methods := #[k21m0, k21m1, k21m2, k21m3]
  instanceTypes := #[]
  staticTypes := #[]
  resolved := Array.replicate 184 none
  statics := none }

def pool22 : Array CpInfo := pool [(2, .class_ 4), (1, u "java/lang/Object"), (0, u "<init>"), (0, u "()V"), (17, .class_ 26), (1, u "jdk/internal/util/Preconditions"), (6, u "checkIndex"), (21, .class_ 56), (0, u "jdk/internal/util/Preconditions$4"), (57, .class_ 115), (0, u "jdk/internal/util/Preconditions$1"), (7, u "SIOOBE_FORMATTER"), (0, u "Ljava/util/function/BiFunction;"), (0, .class_ 126), (0, u "jdk/internal/util/Preconditions$2"), (3, u "AIOOBE_FORMATTER"), (0, .class_ 132), (0, u "jdk/internal/util/Preconditions$3"), (3, u "IOOBE_FORMATTER"), (41, u "(IILjava/util/function/BiFunction;)I")] 15

def k22m0 : Method := { name := "<init>", desc := "()V", sig := { parameters := [], returnType := none }, accessFlags := 1, code := none }
def k22c1 : Code := { maxStack := 3, maxLocals := 3, code := jdk_41_method_11_code, exceptionTable := #[], attributes := #[] }
def k22m1 : Method := { name := "checkIndex", desc := "(IILjava/util/function/BiFunction;)I", sig := { parameters := [.int, .int, (.object "java/util/function/BiFunction")], returnType := some .int }, accessFlags := 9, code := some k22c1 }
/-- jdk/internal/util/Preconditions -/
def k22 : Class := { plain "jdk/internal/util/Preconditions" (some 0) with
  accessFlags := 33
  interfaces := #[]
  cf := some (fileOf pool22 24 #[.nestMembers #[55, 131, 125, 114]] #[{ accessFlags := 1, nameIndex := 5, descriptorIndex := 6, attributes := #[] }, { accessFlags := 9, nameIndex := 33, descriptorIndex := 178, attributes := #[] }] 33 2 #[] #[{ accessFlags := 25, nameIndex := 123, descriptorIndex := 124, attributes := #[] }, { accessFlags := 25, nameIndex := 130, descriptorIndex := 124, attributes := #[] }, { accessFlags := 25, nameIndex := 136, descriptorIndex := 124, attributes := #[] }])
  fields := #[{ name := "SIOOBE_FORMATTER", type := (.object "java/util/function/BiFunction"), accessFlags := 25, slot := 0, constantValue := 0 }, { name := "AIOOBE_FORMATTER", type := (.object "java/util/function/BiFunction"), accessFlags := 25, slot := 1, constantValue := 0 }, { name := "IOOBE_FORMATTER", type := (.object "java/util/function/BiFunction"), accessFlags := 25, slot := 2, constantValue := 0 }]
  methods := #[k22m0, k22m1]
  instanceTypes := #[]
  staticTypes := #[(.object "java/util/function/BiFunction"), (.object "java/util/function/BiFunction"), (.object "java/util/function/BiFunction")]
  resolved := Array.replicate 194 none
  statics := some 2 }

def pool23 : Array CpInfo := pool [(1, .methodref 2 3), (0, .class_ 4), (0, .nameAndType 5 6), (0, u "java/util/AbstractCollection"), (0, u "<init>"), (0, u "()V"), (1, .class_ 10), (1, u "java/util/ImmutableCollections"), (2, .class_ 14), (0, u "java/util/ImmutableCollections$AbstractImmutableCollection")] 41

def k23c0 : Code := { maxStack := 1, maxLocals := 1, code := jdk_47_method_1_code, exceptionTable := #[], attributes := #[] }
def k23m0 : Method := { name := "<init>", desc := "()V", sig := { parameters := [], returnType := none }, accessFlags := 0, code := some k23c0 }
/-- java/util/ImmutableCollections$AbstractImmutableCollection -/
def k23 : Class := { plain "java/util/ImmutableCollections$AbstractImmutableCollection" (some 10) with
  accessFlags := 1056
  interfaces := #[]
  cf := some (fileOf pool23 13 #[.nestHost 8] #[{ accessFlags := 0, nameIndex := 5, descriptorIndex := 6, attributes := #[] }] 1056 2 #[] #[])
  fields := #[]
  methods := #[k23m0]
  instanceTypes := #[]
  staticTypes := #[]
  resolved := Array.replicate 56 none
  statics := none }

def pool24 : Array CpInfo := pool [(1, .methodref 2 3), (0, .class_ 4), (0, .nameAndType 5 6), (0, u "java/util/ImmutableCollections$AbstractImmutableCollection"), (0, u "<init>"), (0, u "()V"), (1, .class_ 10), (1, u "java/util/ImmutableCollections"), (3, .class_ 16), (1, u "java/util/ImmutableCollections$AbstractImmutableList"), (60, .class_ 78), (0, u "java/util/List"), (45, .class_ 125), (0, u "java/util/RandomAccess")] 70

def k24c0 : Code := { maxStack := 1, maxLocals := 1, code := jdk_46_method_1_code, exceptionTable := #[], attributes := #[] }
def k24m0 : Method := { name := "<init>", desc := "()V", sig := { parameters := [], returnType := none }, accessFlags := 0, code := some k24c0 }
/-- java/util/ImmutableCollections$AbstractImmutableList -/
def k24 : Class := { plain "java/util/ImmutableCollections$AbstractImmutableList" (some 23) with
  accessFlags := 1056
  interfaces := #[12, 14]
  cf := some (fileOf pool24 14 #[.nestHost 8] #[{ accessFlags := 0, nameIndex := 5, descriptorIndex := 6, attributes := #[] }] 1056 2 #[77, 124] #[])
  fields := #[]
  methods := #[k24m0]
  instanceTypes := #[]
  staticTypes := #[]
  resolved := Array.replicate 196 none
  statics := none }

def pool25 : Array CpInfo := pool [(1, .methodref 2 3), (0, .class_ 4), (0, .nameAndType 5 6), (0, u "java/util/ImmutableCollections$AbstractImmutableList"), (0, u "<init>"), (0, u "()V"), (0, .methodref 8 9), (0, .class_ 10), (0, .nameAndType 11 12), (0, u "java/util/Objects"), (0, u "requireNonNull"), (0, u "(Ljava/lang/Object;)Ljava/lang/Object;"), (0, .fieldref 14 15), (0, .class_ 16), (0, .nameAndType 17 18), (0, u "java/util/ImmutableCollections$List12"), (0, u "e0"), (0, u "Ljava/lang/Object;"), (0, .fieldref 20 21), (0, .class_ 22), (0, .nameAndType 23 18), (0, u "java/util/ImmutableCollections"), (0, u "EMPTY"), (0, .fieldref 14 25), (0, .nameAndType 26 18), (0, u "e1"), (24, u "size"), (0, u "()I"), (17, .class_ 71), (0, u "java/io/Serializable"), (4, u "(Ljava/lang/Object;)V"), (13, u "get"), (0, u "(I)Ljava/lang/Object;")] 33

def k25c0 : Code := { maxStack := 2, maxLocals := 2, code := jdk_44_method_1_code, exceptionTable := #[], attributes := #[] }
def k25m0 : Method := { name := "<init>", desc := "(Ljava/lang/Object;)V", sig := { parameters := [(.object "java/lang/Object")], returnType := none }, accessFlags := 0, code := some k25c0 }
def k25c1 : Code := { maxStack := 2, maxLocals := 1, code := jdk_44_method_3_code, exceptionTable := #[], attributes := #[] }
def k25m1 : Method := { name := "size", desc := "()I", sig := { parameters := [], returnType := some .int }, accessFlags := 1, code := some k25c1 }
def k25c2 : Code := { maxStack := 2, maxLocals := 2, code := jdk_44_method_5_code, exceptionTable := #[], attributes := #[] }
def k25m2 : Method := { name := "get", desc := "(I)Ljava/lang/Object;", sig := { parameters := [.int], returnType := some (.object "java/lang/Object") }, accessFlags := 1, code := some k25c2 }
/-- java/util/ImmutableCollections$List12 -/
def k25 : Class := { plain "java/util/ImmutableCollections$List12" (some 24) with
  accessFlags := 48
  interfaces := #[2]
  cf := some (fileOf pool25 14 #[.nestHost 20] #[{ accessFlags := 0, nameIndex := 5, descriptorIndex := 76, attributes := #[] }, { accessFlags := 1, nameIndex := 51, descriptorIndex := 52, attributes := #[] }, { accessFlags := 1, nameIndex := 90, descriptorIndex := 91, attributes := #[] }] 48 2 #[70] #[{ accessFlags := 18, nameIndex := 17, descriptorIndex := 18, attributes := #[] }, { accessFlags := 18, nameIndex := 26, descriptorIndex := 18, attributes := #[] }])
  fields := #[{ name := "e0", type := (.object "java/lang/Object"), accessFlags := 18, slot := 0, constantValue := 0 }, { name := "e1", type := (.object "java/lang/Object"), accessFlags := 18, slot := 1, constantValue := 0 }]
  methods := #[k25m0, k25m1, k25m2]
  instanceTypes := #[(.object "java/lang/Object"), (.object "java/lang/Object")]
  staticTypes := #[]
  resolved := Array.replicate 125 none
  statics := none }

def pool26 : Array CpInfo := pool [(2, .class_ 4), (1, u "java/lang/Object"), (0, u "<init>"), (0, u "()V"), (3, .class_ 11), (0, u "java/util/ImmutableCollections$List12"), (0, .class_ 13), (0, u "java/util/ImmutableCollections$ListN"), (3, u "Z"), (29, .class_ 49), (1, u "java/util/ImmutableCollections"), (0, u "$assertionsDisabled"), (5, u "[Ljava/lang/Object;"), (5, u "EMPTY_LIST"), (0, u "Ljava/util/ImmutableCollections$ListN;"), (8, u "EMPTY_LIST_NULLS"), (22, u "SALT32L"), (0, u "J"), (2, u "REVERSE"), (6, u "archivedObjects"), (2, u "EMPTY"), (0, u "Ljava/lang/Object;"), (0, .class_ 112), (0, u "java/util/ImmutableCollections$SetN"), (5, u "EMPTY_SET"), (0, u "Ljava/util/ImmutableCollections$SetN;"), (0, .class_ 121), (0, u "java/util/ImmutableCollections$MapN"), (3, u "EMPTY_MAP"), (0, u "Ljava/util/ImmutableCollections$MapN;"), (4, u "EXPAND_FACTOR"), (0, u "I"), (36, .class_ 170), (0, u "java/util/ImmutableCollections$MapN$MapNIterator"), (0, .class_ 172), (0, u "java/util/ImmutableCollections$MapN$1"), (0, .class_ 174), (0, u "java/util/ImmutableCollections$Map1"), (0, .class_ 176), (0, u "java/util/ImmutableCollections$AbstractImmutableMap"), (0, .class_ 178), (0, u "java/util/ImmutableCollections$SetN$SetNIterator"), (0, .class_ 180), (0, u "java/util/ImmutableCollections$Set12"), (0, .class_ 182), (0, u "java/util/ImmutableCollections$Set12$1"), (0, .class_ 184), (0, u "java/util/ImmutableCollections$AbstractImmutableSet"), (0, .class_ 186), (0, u "java/util/ImmutableCollections$SubList"), (0, .class_ 188), (0, u "java/util/ImmutableCollections$ListItr"), (0, .class_ 190), (0, u "java/util/ImmutableCollections$AbstractImmutableList"), (0, .class_ 192), (0, u "java/util/ImmutableCollections$AbstractImmutableCollection"), (0, .class_ 194), (0, u "java/util/ImmutableCollections$Access"), (0, .class_ 196), (0, u "java/util/ImmutableCollections$Access$1")] 16

def k26m0 : Method := { name := "<init>", desc := "()V", sig := { parameters := [], returnType := none }, accessFlags := 2, code := none }
/-- java/util/ImmutableCollections -/
def k26 : Class := { plain "java/util/ImmutableCollections" (some 0) with
  accessFlags := 32
  interfaces := #[]
  cf := some (fileOf pool26 47 #[.nestMembers #[120, 169, 171, 173, 175, 111, 177, 179, 181, 183, 12, 10, 185, 187, 189, 191, 193, 195]] #[{ accessFlags := 2, nameIndex := 5, descriptorIndex := 6, attributes := #[] }] 32 2 #[] #[{ accessFlags := 26, nameIndex := 95, descriptorIndex := 96, attributes := #[] }, { accessFlags := 26, nameIndex := 99, descriptorIndex := 17, attributes := #[] }, { accessFlags := 10, nameIndex := 106, descriptorIndex := 56, attributes := #[] }, { accessFlags := 26, nameIndex := 109, descriptorIndex := 110, attributes := #[] }, { accessFlags := 24, nameIndex := 62, descriptorIndex := 63, attributes := #[] }, { accessFlags := 24, nameIndex := 72, descriptorIndex := 63, attributes := #[] }, { accessFlags := 24, nameIndex := 118, descriptorIndex := 119, attributes := #[] }, { accessFlags := 24, nameIndex := 125, descriptorIndex := 126, attributes := #[] }, { accessFlags := 24, nameIndex := 131, descriptorIndex := 132, attributes := #[] }, { accessFlags := 4120, nameIndex := 50, descriptorIndex := 17, attributes := #[] }])
  fields := #[{ name := "SALT32L", type := .long, accessFlags := 26, slot := 0, constantValue := 0 }, { name := "REVERSE", type := .boolean, accessFlags := 26, slot := 1, constantValue := 0 }, { name := "archivedObjects", type := (.array (.object "java/lang/Object")), accessFlags := 10, slot := 2, constantValue := 0 }, { name := "EMPTY", type := (.object "java/lang/Object"), accessFlags := 26, slot := 3, constantValue := 0 }, { name := "EMPTY_LIST", type := (.object "java/util/ImmutableCollections$ListN"), accessFlags := 24, slot := 4, constantValue := 0 }, { name := "EMPTY_LIST_NULLS", type := (.object "java/util/ImmutableCollections$ListN"), accessFlags := 24, slot := 5, constantValue := 0 }, { name := "EMPTY_SET", type := (.object "java/util/ImmutableCollections$SetN"), accessFlags := 24, slot := 6, constantValue := 0 }, { name := "EMPTY_MAP", type := (.object "java/util/ImmutableCollections$MapN"), accessFlags := 24, slot := 7, constantValue := 0 }, { name := "EXPAND_FACTOR", type := .int, accessFlags := 24, slot := 8, constantValue := 0 }, { name := "$assertionsDisabled", type := .boolean, accessFlags := 4120, slot := 9, constantValue := 0 }]
  methods := #[k26m0]
  instanceTypes := #[]
  staticTypes := #[.long, .boolean, (.array (.object "java/lang/Object")), (.object "java/lang/Object"), (.object "java/util/ImmutableCollections$ListN"), (.object "java/util/ImmutableCollections$ListN"), (.object "java/util/ImmutableCollections$SetN"), (.object "java/util/ImmutableCollections$MapN"), .int, .boolean]
  resolved := Array.replicate 213 none
  statics := some 3 }

def pool27 : Array CpInfo := pool [(6, .class_ 8), (1, u "java/lang/Object"), (0, u "<init>"), (0, u "()V"), (1, .class_ 14), (1, u "java/lang/StringUTF16"), (31, u "$assertionsDisabled"), (0, u "Z"), (13, u "HI_BYTE_SHIFT"), (0, u "I"), (2, u "LO_BYTE_SHIFT"), (49, .methodref 12 116), (0, .nameAndType 117 118), (0, u "compress"), (0, u "([CI[BII)I"), (3, u "([CII)[B"), (138, u "coderFromArrayLen"), (0, u "([BI)B"), (106, .class_ 371), (1, u "java/lang/StringUTF16$LinesSpliterator"), (58, u "MAX_LENGTH"), (196, .class_ 628), (0, u "java/lang/StringUTF16$CodePointsSpliterator"), (0, .class_ 630), (0, u "java/lang/StringUTF16$CharsSpliterator")] 4

def k27m0 : Method := { name := "<init>", desc := "()V", sig := { parameters := [], returnType := none }, accessFlags := 0, code := none }
def k27c1 : Code := { maxStack := 2, maxLocals := 2, code := jdk_52_method_15_code, exceptionTable := #[], attributes := #[] }
def k27m1 : Method := { name := "coderFromArrayLen", desc := "([BI)B", sig := { parameters := [(.array .byte), .int], returnType := some .byte }, accessFlags := 8, code := some k27c1 }
def k27c2 : Code := { maxStack := 5, maxLocals := 6, code := jdk_52_method_16_code, exceptionTable := #[], attributes := #[] }
def k27m2 : Method := { name := "compress", desc := "([CII)[B", sig := { parameters := [(.array .char), .int, .int], returnType := some (.array .byte) }, accessFlags := 9, code := some k27c2 }
def k27c3 : Code := { maxStack := 3, maxLocals := 7, code := jdk_52_method_21_code, exceptionTable := #[], attributes := #[] }
def k27m3 : Method := { name := "compress", desc := "([CI[BII)I", sig := { parameters := [(.array .char), .int, (.array .byte), .int, .int], returnType := some .int }, accessFlags := 9, code := some k27c3 }
/-- java/lang/StringUTF16 -/
def k27 : Class := { plain "java/lang/StringUTF16" (some 0) with
  accessFlags := 48
  interfaces := #[]
  cf := some (fileOf pool27 12 #[.nestMembers #[627, 629, 369]] #[{ accessFlags := 0, nameIndex := 9, descriptorIndex := 10, attributes := #[] }, { accessFlags := 8, nameIndex := 261, descriptorIndex := 262, attributes := #[] }, { accessFlags := 9, nameIndex := 117, descriptorIndex := 122, attributes := #[] }, { accessFlags := 9, nameIndex := 117, descriptorIndex := 118, attributes := #[] }] 48 6 #[] #[{ accessFlags := 26, nameIndex := 61, descriptorIndex := 62, attributes := #[] }, { accessFlags := 26, nameIndex := 65, descriptorIndex := 62, attributes := #[] }, { accessFlags := 24, nameIndex := 430, descriptorIndex := 62, attributes := #[] }, { accessFlags := 4120, nameIndex := 46, descriptorIndex := 47, attributes := #[] }])
  fields := #[{ name := "HI_BYTE_SHIFT", type := .int, accessFlags := 26, slot := 0, constantValue := 0 }, { name := "LO_BYTE_SHIFT", type := .int, accessFlags := 26, slot := 1, constantValue := 0 }, { name := "MAX_LENGTH", type := .int, accessFlags := 24, slot := 2, constantValue := 0 }, { name := "$assertionsDisabled", type := .boolean, accessFlags := 4120, slot := 3, constantValue := 0 }]
  methods := #[k27m0, k27m1, k27m2, k27m3]
  instanceTypes := #[]
  staticTypes := #[.int, .int, .int, .boolean]
  resolved := Array.replicate 635 none
  statics := none }

def pool28 : Array CpInfo := pool [(1, .class_ 2), (0, u "java/lang/String"), (1, .class_ 6), (1, u "java/lang/Object"), (0, u "<init>"), (0, u "()V"), (0, .methodref 1 10), (0, .nameAndType 11 12), (0, u "checkIndex"), (0, u "(II)V"), (1, .class_ 16), (1, u "java/lang/StringLatin1"), (36, u "([BI)C"), (67, u "$assertionsDisabled"), (0, u "Z"), (98, .class_ 223), (1, u "java/lang/StringLatin1$LinesSpliterator"), (28, u "charAt"), (137, .class_ 391), (0, u "java/lang/StringLatin1$CharsSpliterator")] 3

def k28m0 : Method := { name := "<init>", desc := "()V", sig := { parameters := [], returnType := none }, accessFlags := 0, code := none }
def k28c1 : Code := { maxStack := 2, maxLocals := 2, code := jdk_43_method_2_code, exceptionTable := #[], attributes := #[] }
def k28m1 : Method := { name := "charAt", desc := "([BI)C", sig := { parameters := [(.array .byte), .int], returnType := some .char }, accessFlags := 9, code := some k28c1 }
/-- java/lang/StringLatin1 -/
def k28 : Class := { plain "java/lang/StringLatin1" (some 0) with
  accessFlags := 48
  interfaces := #[]
  cf := some (fileOf pool28 14 #[.nestMembers #[390, 221]] #[{ accessFlags := 0, nameIndex := 7, descriptorIndex := 8, attributes := #[] }, { accessFlags := 9, nameIndex := 252, descriptorIndex := 53, attributes := #[] }] 48 4 #[] #[{ accessFlags := 4120, nameIndex := 121, descriptorIndex := 122, attributes := #[] }])
  fields := #[{ name := "$assertionsDisabled", type := .boolean, accessFlags := 4120, slot := 0, constantValue := 0 }]
  methods := #[k28m0, k28m1]
  instanceTypes := #[]
  staticTypes := #[.boolean]
  resolved := Array.replicate 395 none
  statics := none }

def pool29 : Array CpInfo := pool [(9, u "<init>"), (6, .class_ 18), (1, u "java/lang/Object"), (0, u "()V"), (1, .class_ 23), (1, u "jdk/internal/util/ArraysSupport"), (0, u "LOG2_ARRAY_LONG_INDEX_SCALE"), (0, u "I"), (2, u "U"), (0, u "Ljdk/internal/misc/Unsafe;"), (8, u "BIG_ENDIAN"), (0, u "Z"), (8, u "LOG2_BYTE_BIT_SIZE"), (4, u "LOG2_ARRAY_INT_INDEX_SCALE"), (54, u "JLA"), (0, u "Ljdk/internal/access/JavaLangAccess;"), (11, u "LOG2_ARRAY_BOOLEAN_INDEX_SCALE"), (9, u "LOG2_ARRAY_BYTE_INDEX_SCALE"), (5, u "LOG2_ARRAY_CHAR_INDEX_SCALE"), (5, u "LOG2_ARRAY_SHORT_INDEX_SCALE"), (18, u "LOG2_ARRAY_FLOAT_INDEX_SCALE"), (24, u "LOG2_ARRAY_DOUBLE_INDEX_SCALE"), (89, u "T_BOOLEAN"), (2, u "T_CHAR"), (1, u "T_FLOAT"), (1, u "T_DOUBLE"), (1, u "T_BYTE"), (1, u "T_SHORT"), (1, u "T_INT"), (1, u "T_LONG"), (1, u "SOFT_MAX_ARRAY_LENGTH")] 83

def k29m0 : Method := { name := "<init>", desc := "()V", sig := { parameters := [], returnType := none }, accessFlags := 2, code := none }
/-- jdk/internal/util/ArraysSupport -/
def k29 : Class := { plain "jdk/internal/util/ArraysSupport" (some 0) with
  accessFlags := 33
  interfaces := #[]
  cf := some (fileOf pool29 21 #[] #[{ accessFlags := 2, nameIndex := 9, descriptorIndex := 19, attributes := #[] }] 33 16 #[] #[{ accessFlags := 24, nameIndex := 28, descriptorIndex := 29, attributes := #[] }, { accessFlags := 26, nameIndex := 38, descriptorIndex := 39, attributes := #[] }, { accessFlags := 25, nameIndex := 121, descriptorIndex := 25, attributes := #[] }, { accessFlags := 25, nameIndex := 131, descriptorIndex := 25, attributes := #[] }, { accessFlags := 25, nameIndex := 137, descriptorIndex := 25, attributes := #[] }, { accessFlags := 25, nameIndex := 143, descriptorIndex := 25, attributes := #[] }, { accessFlags := 25, nameIndex := 53, descriptorIndex := 25, attributes := #[] }, { accessFlags := 25, nameIndex := 24, descriptorIndex := 25, attributes := #[] }, { accessFlags := 25, nameIndex := 162, descriptorIndex := 25, attributes := #[] }, { accessFlags := 25, nameIndex := 187, descriptorIndex := 25, attributes := #[] }, { accessFlags := 26, nameIndex := 48, descriptorIndex := 25, attributes := #[] }, { accessFlags := 25, nameIndex := 277, descriptorIndex := 25, attributes := #[] }, { accessFlags := 25, nameIndex := 280, descriptorIndex := 25, attributes := #[] }, { accessFlags := 25, nameIndex := 282, descriptorIndex := 25, attributes := #[] }, { accessFlags := 25, nameIndex := 284, descriptorIndex := 25, attributes := #[] }, { accessFlags := 25, nameIndex := 286, descriptorIndex := 25, attributes := #[] }, { accessFlags := 25, nameIndex := 288, descriptorIndex := 25, attributes := #[] }, { accessFlags := 25, nameIndex := 290, descriptorIndex := 25, attributes := #[] }, { accessFlags := 25, nameIndex := 292, descriptorIndex := 25, attributes := #[] }, { accessFlags := 26, nameIndex := 108, descriptorIndex := 109, attributes := #[] }, { accessFlags := 25, nameIndex := 294, descriptorIndex := 25, attributes := #[] }])
  fields := #[{ name := "U", type := (.object "jdk/internal/misc/Unsafe"), accessFlags := 24, slot := 0, constantValue := 0 }, { name := "BIG_ENDIAN", type := .boolean, accessFlags := 26, slot := 1, constantValue := 0 }, { name := "LOG2_ARRAY_BOOLEAN_INDEX_SCALE", type := .int, accessFlags := 25, slot := 2, constantValue := 0 }, { name := "LOG2_ARRAY_BYTE_INDEX_SCALE", type := .int, accessFlags := 25, slot := 3, constantValue := 0 }, { name := "LOG2_ARRAY_CHAR_INDEX_SCALE", type := .int, accessFlags := 25, slot := 4, constantValue := 0 }, { name := "LOG2_ARRAY_SHORT_INDEX_SCALE", type := .int, accessFlags := 25, slot := 5, constantValue := 0 }, { name := "LOG2_ARRAY_INT_INDEX_SCALE", type := .int, accessFlags := 25, slot := 6, constantValue := 0 }, { name := "LOG2_ARRAY_LONG_INDEX_SCALE", type := .int, accessFlags := 25, slot := 7, constantValue := 0 }, { name := "LOG2_ARRAY_FLOAT_INDEX_SCALE", type := .int, accessFlags := 25, slot := 8, constantValue := 0 }, { name := "LOG2_ARRAY_DOUBLE_INDEX_SCALE", type := .int, accessFlags := 25, slot := 9, constantValue := 0 }, { name := "LOG2_BYTE_BIT_SIZE", type := .int, accessFlags := 26, slot := 10, constantValue := 0 }, { name := "T_BOOLEAN", type := .int, accessFlags := 25, slot := 11, constantValue := 0 }, { name := "T_CHAR", type := .int, accessFlags := 25, slot := 12, constantValue := 0 }, { name := "T_FLOAT", type := .int, accessFlags := 25, slot := 13, constantValue := 0 }, { name := "T_DOUBLE", type := .int, accessFlags := 25, slot := 14, constantValue := 0 }, { name := "T_BYTE", type := .int, accessFlags := 25, slot := 15, constantValue := 0 }, { name := "T_SHORT", type := .int, accessFlags := 25, slot := 16, constantValue := 0 }, { name := "T_INT", type := .int, accessFlags := 25, slot := 17, constantValue := 0 }, { name := "T_LONG", type := .int, accessFlags := 25, slot := 18, constantValue := 0 }, { name := "JLA", type := (.object "jdk/internal/access/JavaLangAccess"), accessFlags := 26, slot := 19, constantValue := 0 }, { name := "SOFT_MAX_ARRAY_LENGTH", type := .int, accessFlags := 25, slot := 20, constantValue := 0 }]
  methods := #[k29m0]
  instanceTypes := #[]
  staticTypes := #[(.object "jdk/internal/misc/Unsafe"), .boolean, .int, .int, .int, .int, .int, .int, .int, .int, .int, .int, .int, .int, .int, .int, .int, .int, .int, (.object "jdk/internal/access/JavaLangAccess"), .int]
  resolved := Array.replicate 378 none
  statics := none }

def pool30 : Array CpInfo := pool [(2, .class_ 4), (1, u "java/util/ImmutableCollections$AbstractImmutableList"), (3, .class_ 10), (1, u "java/util/ImmutableCollections$ListN"), (0, u "elements"), (0, u "[Ljava/lang/Object;"), (2, u "allowNulls"), (0, u "Z"), (42, .class_ 60), (0, u "java/io/Serializable"), (53, .class_ 115), (0, u "java/util/ImmutableCollections")] 3

/-- java/util/ImmutableCollections$ListN -/
def k30 : Class := { plain "java/util/ImmutableCollections$ListN" (some 24) with
  accessFlags := 48
  interfaces := #[2]
  cf := some (fileOf pool30 8 #[.nestHost 114] #[] 48 2 #[59] #[{ accessFlags := 18, nameIndex := 11, descriptorIndex := 12, attributes := #[] }, { accessFlags := 18, nameIndex := 15, descriptorIndex := 16, attributes := #[] }])
  fields := #[{ name := "elements", type := (.array (.object "java/lang/Object")), accessFlags := 18, slot := 0, constantValue := 0 }, { name := "allowNulls", type := .boolean, accessFlags := 18, slot := 1, constantValue := 0 }]
  methods := #[]
  instanceTypes := #[(.array (.object "java/lang/Object")), .boolean]
  staticTypes := #[]
  resolved := Array.replicate 119 none
  statics := none }

/-- the primitive byte -/
def k31 : Class := { plain "byte" none with kind := .primitive 'B', accessFlags := 0x411 }
/-- [B -/
def k32 : Class := { plain "[B" (some 0) with kind := .array 31 .byte, interfaces := #[15, 2], accessFlags := 1041 }

/-- the primitive char -/
def k33 : Class := { plain "char" none with kind := .primitive 'C', accessFlags := 0x411 }
/-- [C -/
def k34 : Class := { plain "[C" (some 0) with kind := .array 33 .char, interfaces := #[15, 2], accessFlags := 1041 }

/-- the primitive int -/
def k35 : Class := { plain "int" none with kind := .primitive 'I', accessFlags := 0x411 }
/-- [I -/
def k36 : Class := { plain "[I" (some 0) with kind := .array 35 .int, interfaces := #[15, 2], accessFlags := 1041 }

/-- [Ljava/lang/Object; -/
def k37 : Class := { plain "[Ljava/lang/Object;" (some 0) with kind := .array 0 (.object "java/lang/Object"), interfaces := #[15, 2], accessFlags := 1041 }

def heap : Heap := #[{ cls := 7, slots := #[.long 0, .int 1, .null, .int 0, .null, .int 0, .int 0], vm := .statics 7 },
  { cls := 16, slots := #[.long 0, .int 0, .ref 4, .ref 5], vm := .statics 16 },
  { cls := 22, slots := #[.null, .null, .null], vm := .statics 22 },
  { cls := 26, slots := #[.long 0, .int 0, .null, .ref 6, .ref 7, .null, .null, .null, .int 0, .int 1], vm := .statics 26 },
  { cls := 37, slots := #[], vm := .none },
  { cls := 37, slots := #[], vm := .none },
  { cls := 0, slots := #[], vm := .none },
  { cls := 30, slots := #[.null, .int 0], vm := .none }]
def classes : Array Class := #[k0, k1, k2, k3, k4, k5, k6, k7, k8, k9, k10, k11, k12, k13, k14, k15, k16, k17, k18, k19, k20, k21, k22, k23, k24, k25, k26, k27, k28, k29, k30, k31, k32, k33, k34, k35, k36, k37]
def interned : List (Array UInt16 × Addr) := []
def slotsUsed : Nat := 26
def theMethod : MethodId := ⟨1, 1⟩
def args0 : Array Value := #[.int 5, .int 5, .int 5, .int 5]
def aboutOver (below : List Frame) : State where
  vm := { classes := classes, interned := interned.toArray }
  heap := heap
  slotsUsed := slotsUsed
  threads := #[{ frames := .invoking theMethod args0 :: below }]
def below0 : List Frame := [.native { method := ⟨0, 0⟩, args := #[] }]
def about1 : State := aboutOver below0
def p0 : Program := .bare "" "" ""
def e0 : Env := launch0.env 0 0 0
theorem w_frames : about1.frames = Frame.invoking theMethod args0 :: below0 := rfl
set_option maxRecDepth 65536 in
theorem w_args : argsFit about1.vm theMethod args0 = true := by decide +kernel
set_option maxRecDepth 65536 in
theorem w_heap : heapFits about1 = true := by decide +kernel
set_option maxRecDepth 65536 in
theorem w_runnable : about1.curStatus? = some .runnable := by decide +kernel
set_option maxRecDepth 65536 in
theorem w_alone : about1.alone = true := by decide +kernel
set_option maxRecDepth 65536 in
theorem w_named : about1.methodNamed? x = some theMethod := by decide +kernel
set_option maxRecDepth 65536 in
theorem w_hears : about1.hears theMethod below0 = true := by decide +kernel
set_option maxRecDepth 65536 in
theorem w_ripe : about1.ripe theMethod args0 below0 = true := by decide +kernel
theorem w_running : about1.status = .running := rfl
set_option maxRecDepth 65536 in
theorem w_room : about1.hasRoom e0.platform room_1 = true :=
  launch0.hasRoom_least _ room_1 (by decide +kernel) (by decide +kernel) (by decide +kernel) (by decide +kernel) (by decide +kernel) (by decide +kernel)
theorem allAtoms_all (ts : List Jvm.Cond) (a : Array Jvm.Value) (st : Jvm.State) : (allAtoms ts).before a st = ts.all (fun c => c.before a st) := by
  induction ts with
  | nil => rfl
  | cons c t ih =>
    show (Jvm.Cond.and c (allAtoms t)).before a st = _
    rw [Jvm.Cond.before_and, ih, List.all_cons]
def words1 : List Jvm.Cond := Jvm.Cond.code x code maxLocals ret :: tables_1
/-- a 'code' word, met by the world's own term for the bytes: nothing is compared byte by byte -/
theorem code_word {y : MethodName} {bytes : ByteArray} {mx : Nat} {rt : Option FieldType} {a : Array Value} {s : State} {m : MethodId} {meth : Method} {c : Code} (h1 : s.methodNamed? y = some m) (h2 : s.vm.method? m = some meth) (h3 : meth.code = some c) (h4 : c.code = bytes)
    (h5 : (c.maxLocals == mx && c.exceptionTable.isEmpty && decide (c.maxStack ≤ mostOperands) && decide (meth.sig.returnType = rt) && !meth.locks && decide (parseMethodDescriptor y.desc = some meth.sig)) = true) : (Jvm.Cond.code y bytes mx rt).before a s = true := by
  simp only [Bool.and_eq_true, beq_iff_eq, Bool.not_eq_true', decide_eq_true_eq] at h5
  obtain ⟨⟨⟨⟨⟨g1, g2⟩, g3⟩, g4⟩, g5⟩, g6⟩ := h5
  simp [Cond.before, Cond.holds, Cond.value, h1, h2, h3, h4, g1, g2, g3, g4, g5, g6]
def isCode : Jvm.Cond → Bool
  | .code _ _ _ _ => true
  | _ => false
theorem all_split {L : List Jvm.Cond} {P : Jvm.Cond → Bool} (h1 : L.all (fun c => isCode c || P c) = true) (h2 : ∀ c ∈ L.filter isCode, P c = true) : L.all P = true := by
  refine List.all_eq_true.mpr fun c hc => ?_
  have h := List.all_eq_true.mp h1 c hc
  rcases Bool.eq_false_or_eq_true (isCode c) with hi | hi
  · exact h2 c (List.mem_filter.mpr ⟨hc, hi⟩)
  · simpa [hi] using h
set_option maxRecDepth 65536 in
theorem w_c0 : (Jvm.Cond.code x code maxLocals ret).before args0 about1 = true := code_word (m := ⟨1, 1⟩) (meth := k1m1) (c := k1c1) (by decide +kernel) rfl rfl rfl (by decide +kernel)
set_option maxRecDepth 65536 in
theorem w_c1 : (Jvm.Cond.code ({ cls := "java/lang/String", name := "<init>", desc := "([C)V" } : Jvm.MethodName) jdk_42_method_3_code (2 : Nat) (Option.none : Option Jvm.ClassFile.FieldType)).before args0 about1 = true := code_word (m := ⟨7, 1⟩) (meth := k7m1) (c := k7c1) (by decide +kernel) rfl rfl rfl (by decide +kernel)
set_option maxRecDepth 65536 in
theorem w_c2 : (Jvm.Cond.code ({ cls := "java/lang/String", name := "<init>", desc := "([CIILjava/lang/Void;)V" } : Jvm.MethodName) jdk_42_method_149_code (6 : Nat) (Option.none : Option Jvm.ClassFile.FieldType)).before args0 about1 = true := code_word (m := ⟨7, 5⟩) (meth := k7m5) (c := k7c5) (by decide +kernel) rfl rfl rfl (by decide +kernel)
set_option maxRecDepth 65536 in
theorem w_c3 : (Jvm.Cond.code ({ cls := "java/lang/Object", name := "<init>", desc := "()V" } : Jvm.MethodName) object_method_1_code (1 : Nat) (Option.none : Option Jvm.ClassFile.FieldType)).before args0 about1 = true := code_word (m := ⟨0, 0⟩) (meth := k0m0) (c := k0c0) (by decide +kernel) rfl rfl rfl (by decide +kernel)
set_option maxRecDepth 65536 in
theorem w_c4 : (Jvm.Cond.code ({ cls := "java/util/ArrayList", name := "<init>", desc := "()V" } : Jvm.MethodName) jdk_38_method_2_code (1 : Nat) (Option.none : Option Jvm.ClassFile.FieldType)).before args0 about1 = true := code_word (m := ⟨16, 0⟩) (meth := k16m0) (c := k16c0) (by decide +kernel) rfl rfl rfl (by decide +kernel)
set_option maxRecDepth 65536 in
theorem w_c5 : (Jvm.Cond.code ({ cls := "java/util/AbstractList", name := "<init>", desc := "()V" } : Jvm.MethodName) jdk_39_method_1_code (1 : Nat) (Option.none : Option Jvm.ClassFile.FieldType)).before args0 about1 = true := code_word (m := ⟨13, 0⟩) (meth := k13m0) (c := k13c0) (by decide +kernel) rfl rfl rfl (by decide +kernel)
set_option maxRecDepth 65536 in
theorem w_c6 : (Jvm.Cond.code ({ cls := "java/util/AbstractCollection", name := "<init>", desc := "()V" } : Jvm.MethodName) jdk_22_method_1_code (1 : Nat) (Option.none : Option Jvm.ClassFile.FieldType)).before args0 about1 = true := code_word (m := ⟨10, 0⟩) (meth := k10m0) (c := k10c0) (by decide +kernel) rfl rfl rfl (by decide +kernel)
set_option maxRecDepth 65536 in
theorem w_c7 : (Jvm.Cond.code ({ cls := "java/util/ArrayList", name := "add", desc := "(Ljava/lang/Object;)Z" } : Jvm.MethodName) jdk_38_method_25_code (2 : Nat) (Option.some Jvm.ClassFile.FieldType.boolean)).before args0 about1 = true := code_word (m := ⟨16, 7⟩) (meth := k16m7) (c := k16c7) (by decide +kernel) rfl rfl rfl (by decide +kernel)
set_option maxRecDepth 65536 in
theorem w_c8 : (Jvm.Cond.code ({ cls := "java/util/ArrayList", name := "add", desc := "(Ljava/lang/Object;[Ljava/lang/Object;I)V" } : Jvm.MethodName) jdk_38_method_24_code (4 : Nat) (Option.none : Option Jvm.ClassFile.FieldType)).before args0 about1 = true := code_word (m := ⟨16, 6⟩) (meth := k16m6) (c := k16c6) (by decide +kernel) rfl rfl rfl (by decide +kernel)
set_option maxRecDepth 65536 in
theorem w_c9 : (Jvm.Cond.code ({ cls := "java/util/ArrayList", name := "grow", desc := "()[Ljava/lang/Object;" } : Jvm.MethodName) jdk_38_method_7_code (1 : Nat) (Option.some (Jvm.ClassFile.FieldType.array (Jvm.ClassFile.FieldType.object "java/lang/Object")))).before args0 about1 = true := code_word (m := ⟨16, 2⟩) (meth := k16m2) (c := k16c2) (by decide +kernel) rfl rfl rfl (by decide +kernel)
set_option maxRecDepth 65536 in
theorem w_c10 : (Jvm.Cond.code ({ cls := "java/util/ArrayList", name := "grow", desc := "(I)[Ljava/lang/Object;" } : Jvm.MethodName) jdk_38_method_6_code (4 : Nat) (Option.some (Jvm.ClassFile.FieldType.array (Jvm.ClassFile.FieldType.object "java/lang/Object")))).before args0 about1 = true := code_word (m := ⟨16, 1⟩) (meth := k16m1) (c := k16c1) (by decide +kernel) rfl rfl rfl (by decide +kernel)
set_option maxRecDepth 65536 in
theorem w_c11 : (Jvm.Cond.code ({ cls := "java/lang/Math", name := "max", desc := "(II)I" } : Jvm.MethodName) jdk_29_method_65_code (2 : Nat) (Option.some Jvm.ClassFile.FieldType.int)).before args0 about1 = true := code_word (m := ⟨17, 1⟩) (meth := k17m1) (c := k17c1) (by decide +kernel) rfl rfl rfl (by decide +kernel)
set_option maxRecDepth 65536 in
theorem w_c12 : (Jvm.Cond.code ({ cls := "com/example/fyfo/fyfo/Runner$Shell", name := "fromWords", desc := "(Ljava/util/List;)Lcom/example/fyfo/fyfo/Runner$Shell;" } : Jvm.MethodName) prog_34_method_2_code (1 : Nat) (Option.some (Jvm.ClassFile.FieldType.object "com/example/fyfo/fyfo/Runner$Shell"))).before args0 about1 = true := code_word (m := ⟨20, 1⟩) (meth := k20m1) (c := k20c1) (by decide +kernel) rfl rfl rfl (by decide +kernel)
set_option maxRecDepth 65536 in
theorem w_c13 : (Jvm.Cond.code ({ cls := "java/util/ArrayList", name := "size", desc := "()I" } : Jvm.MethodName) jdk_38_method_8_code (1 : Nat) (Option.some Jvm.ClassFile.FieldType.int)).before args0 about1 = true := code_word (m := ⟨16, 3⟩) (meth := k16m3) (c := k16c3) (by decide +kernel) rfl rfl rfl (by decide +kernel)
set_option maxRecDepth 65536 in
theorem w_c14 : (Jvm.Cond.code ({ cls := "java/util/ArrayList", name := "get", desc := "(I)Ljava/lang/Object;" } : Jvm.MethodName) jdk_38_method_20_code (2 : Nat) (Option.some (Jvm.ClassFile.FieldType.object "java/lang/Object"))).before args0 about1 = true := code_word (m := ⟨16, 5⟩) (meth := k16m5) (c := k16c5) (by decide +kernel) rfl rfl rfl (by decide +kernel)
set_option maxRecDepth 65536 in
theorem w_c15 : (Jvm.Cond.code ({ cls := "java/util/Objects", name := "checkIndex", desc := "(II)I" } : Jvm.MethodName) jdk_31_method_17_code (2 : Nat) (Option.some Jvm.ClassFile.FieldType.int)).before args0 about1 = true := code_word (m := ⟨21, 3⟩) (meth := k21m3) (c := k21c3) (by decide +kernel) rfl rfl rfl (by decide +kernel)
set_option maxRecDepth 65536 in
theorem w_c16 : (Jvm.Cond.code ({ cls := "jdk/internal/util/Preconditions", name := "checkIndex", desc := "(IILjava/util/function/BiFunction;)I" } : Jvm.MethodName) jdk_41_method_11_code (3 : Nat) (Option.some Jvm.ClassFile.FieldType.int)).before args0 about1 = true := code_word (m := ⟨22, 1⟩) (meth := k22m1) (c := k22c1) (by decide +kernel) rfl rfl rfl (by decide +kernel)
set_option maxRecDepth 65536 in
theorem w_c17 : (Jvm.Cond.code ({ cls := "java/util/ArrayList", name := "elementData", desc := "(I)Ljava/lang/Object;" } : Jvm.MethodName) jdk_38_method_18_code (2 : Nat) (Option.some (Jvm.ClassFile.FieldType.object "java/lang/Object"))).before args0 about1 = true := code_word (m := ⟨16, 4⟩) (meth := k16m4) (c := k16c4) (by decide +kernel) rfl rfl rfl (by decide +kernel)
set_option maxRecDepth 65536 in
theorem w_c18 : (Jvm.Cond.code ({ cls := "com/example/fyfo/fyfo/Runner$Shell", name := "<init>", desc := "(Ljava/lang/String;)V" } : Jvm.MethodName) prog_34_method_1_code (2 : Nat) (Option.none : Option Jvm.ClassFile.FieldType)).before args0 about1 = true := code_word (m := ⟨20, 0⟩) (meth := k20m0) (c := k20c0) (by decide +kernel) rfl rfl rfl (by decide +kernel)
set_option maxRecDepth 65536 in
theorem w_c19 : (Jvm.Cond.code ({ cls := "java/lang/Record", name := "<init>", desc := "()V" } : Jvm.MethodName) jdk_30_method_1_code (1 : Nat) (Option.none : Option Jvm.ClassFile.FieldType)).before args0 about1 = true := code_word (m := ⟨18, 0⟩) (meth := k18m0) (c := k18c0) (by decide +kernel) rfl rfl rfl (by decide +kernel)
set_option maxRecDepth 65536 in
theorem w_c20 : (Jvm.Cond.code ({ cls := "java/util/Objects", name := "requireNonNull", desc := "(Ljava/lang/Object;Ljava/lang/String;)Ljava/lang/Object;" } : Jvm.MethodName) jdk_31_method_11_code (2 : Nat) (Option.some (Jvm.ClassFile.FieldType.object "java/lang/Object"))).before args0 about1 = true := code_word (m := ⟨21, 2⟩) (meth := k21m2) (c := k21c2) (by decide +kernel) rfl rfl rfl (by decide +kernel)
set_option maxRecDepth 65536 in
theorem w_c21 : (Jvm.Cond.code ({ cls := "com/example/fyfo/fyfo/Runner$Shell", name := "command", desc := "()Ljava/lang/String;" } : Jvm.MethodName) prog_34_method_9_code (1 : Nat) (Option.some (Jvm.ClassFile.FieldType.object "java/lang/String"))).before args0 about1 = true := code_word (m := ⟨20, 3⟩) (meth := k20m3) (c := k20c3) (by decide +kernel) rfl rfl rfl (by decide +kernel)
set_option maxRecDepth 65536 in
theorem w_c22 : (Jvm.Cond.code ({ cls := "java/lang/String", name := "length", desc := "()I" } : Jvm.MethodName) jdk_42_method_54_code (1 : Nat) (Option.some Jvm.ClassFile.FieldType.int)).before args0 about1 = true := code_word (m := ⟨7, 2⟩) (meth := k7m2) (c := k7c2) (by decide +kernel) rfl rfl rfl (by decide +kernel)
set_option maxRecDepth 65536 in
theorem w_c23 : (Jvm.Cond.code ({ cls := "java/lang/String", name := "coder", desc := "()B" } : Jvm.MethodName) jdk_42_method_152_code (1 : Nat) (Option.some Jvm.ClassFile.FieldType.byte)).before args0 about1 = true := code_word (m := ⟨7, 6⟩) (meth := k7m6) (c := k7c6) (by decide +kernel) rfl rfl rfl (by decide +kernel)
set_option maxRecDepth 65536 in
theorem w_c24 : (Jvm.Cond.code ({ cls := "com/example/fyfo/fyfo/Runner$Shell", name := "words", desc := "()Ljava/util/List;" } : Jvm.MethodName) prog_34_method_4_code (1 : Nat) (Option.some (Jvm.ClassFile.FieldType.object "java/util/List"))).before args0 about1 = true := code_word (m := ⟨20, 2⟩) (meth := k20m2) (c := k20c2) (by decide +kernel) rfl rfl rfl (by decide +kernel)
set_option maxRecDepth 65536 in
theorem w_c25 : (Jvm.Cond.code ({ cls := "java/util/List", name := "of", desc := "(Ljava/lang/Object;)Ljava/util/List;" } : Jvm.MethodName) jdk_40_method_37_code (1 : Nat) (Option.some (Jvm.ClassFile.FieldType.object "java/util/List"))).before args0 about1 = true := code_word (m := ⟨12, 3⟩) (meth := k12m3) (c := k12c3) (by decide +kernel) rfl rfl rfl (by decide +kernel)
set_option maxRecDepth 65536 in
theorem w_c26 : (Jvm.Cond.code ({ cls := "java/util/ImmutableCollections$List12", name := "<init>", desc := "(Ljava/lang/Object;)V" } : Jvm.MethodName) jdk_44_method_1_code (2 : Nat) (Option.none : Option Jvm.ClassFile.FieldType)).before args0 about1 = true := code_word (m := ⟨25, 0⟩) (meth := k25m0) (c := k25c0) (by decide +kernel) rfl rfl rfl (by decide +kernel)
set_option maxRecDepth 65536 in
theorem w_c27 : (Jvm.Cond.code ({ cls := "java/util/ImmutableCollections$AbstractImmutableList", name := "<init>", desc := "()V" } : Jvm.MethodName) jdk_46_method_1_code (1 : Nat) (Option.none : Option Jvm.ClassFile.FieldType)).before args0 about1 = true := code_word (m := ⟨24, 0⟩) (meth := k24m0) (c := k24c0) (by decide +kernel) rfl rfl rfl (by decide +kernel)
set_option maxRecDepth 65536 in
theorem w_c28 : (Jvm.Cond.code ({ cls := "java/util/ImmutableCollections$AbstractImmutableCollection", name := "<init>", desc := "()V" } : Jvm.MethodName) jdk_47_method_1_code (1 : Nat) (Option.none : Option Jvm.ClassFile.FieldType)).before args0 about1 = true := code_word (m := ⟨23, 0⟩) (meth := k23m0) (c := k23c0) (by decide +kernel) rfl rfl rfl (by decide +kernel)
set_option maxRecDepth 65536 in
theorem w_c29 : (Jvm.Cond.code ({ cls := "java/util/Objects", name := "requireNonNull", desc := "(Ljava/lang/Object;)Ljava/lang/Object;" } : Jvm.MethodName) jdk_31_method_10_code (1 : Nat) (Option.some (Jvm.ClassFile.FieldType.object "java/lang/Object"))).before args0 about1 = true := code_word (m := ⟨21, 1⟩) (meth := k21m1) (c := k21c1) (by decide +kernel) rfl rfl rfl (by decide +kernel)
set_option maxRecDepth 65536 in
theorem w_c30 : (Jvm.Cond.code ({ cls := "java/lang/String", name := "equals", desc := "(Ljava/lang/Object;)Z" } : Jvm.MethodName) jdk_42_method_66_code (3 : Nat) (Option.some Jvm.ClassFile.FieldType.boolean)).before args0 about1 = true := code_word (m := ⟨7, 4⟩) (meth := k7m4) (c := k7c4) (by decide +kernel) rfl rfl rfl (by decide +kernel)
set_option maxRecDepth 65536 in
theorem w_c31 : (Jvm.Cond.code ({ cls := "java/util/ImmutableCollections$List12", name := "size", desc := "()I" } : Jvm.MethodName) jdk_44_method_3_code (1 : Nat) (Option.some Jvm.ClassFile.FieldType.int)).before args0 about1 = true := code_word (m := ⟨25, 1⟩) (meth := k25m1) (c := k25c1) (by decide +kernel) rfl rfl rfl (by decide +kernel)
set_option maxRecDepth 65536 in
theorem w_c32 : (Jvm.Cond.code ({ cls := "java/util/ImmutableCollections$List12", name := "get", desc := "(I)Ljava/lang/Object;" } : Jvm.MethodName) jdk_44_method_5_code (2 : Nat) (Option.some (Jvm.ClassFile.FieldType.object "java/lang/Object"))).before args0 about1 = true := code_word (m := ⟨25, 2⟩) (meth := k25m2) (c := k25c2) (by decide +kernel) rfl rfl rfl (by decide +kernel)
set_option maxRecDepth 65536 in
theorem w_c33 : (Jvm.Cond.code ({ cls := "java/lang/StringUTF16", name := "compress", desc := "([CII)[B" } : Jvm.MethodName) jdk_52_method_16_code (6 : Nat) (Option.some (Jvm.ClassFile.FieldType.array Jvm.ClassFile.FieldType.byte))).before args0 about1 = true := code_word (m := ⟨27, 2⟩) (meth := k27m2) (c := k27c2) (by decide +kernel) rfl rfl rfl (by decide +kernel)
set_option maxRecDepth 65536 in
theorem w_c34 : (Jvm.Cond.code ({ cls := "java/lang/StringUTF16", name := "compress", desc := "([CI[BII)I" } : Jvm.MethodName) jdk_52_method_21_code (7 : Nat) (Option.some Jvm.ClassFile.FieldType.int)).before args0 about1 = true := code_word (m := ⟨27, 3⟩) (meth := k27m3) (c := k27c3) (by decide +kernel) rfl rfl rfl (by decide +kernel)
set_option maxRecDepth 65536 in
theorem w_c35 : (Jvm.Cond.code ({ cls := "java/lang/StringUTF16", name := "coderFromArrayLen", desc := "([BI)B" } : Jvm.MethodName) jdk_52_method_15_code (2 : Nat) (Option.some Jvm.ClassFile.FieldType.byte)).before args0 about1 = true := code_word (m := ⟨27, 1⟩) (meth := k27m1) (c := k27c1) (by decide +kernel) rfl rfl rfl (by decide +kernel)
set_option maxRecDepth 65536 in
theorem w_c36 : (Jvm.Cond.code ({ cls := "java/lang/String", name := "charAt", desc := "(I)C" } : Jvm.MethodName) jdk_42_method_56_code (2 : Nat) (Option.some Jvm.ClassFile.FieldType.char)).before args0 about1 = true := code_word (m := ⟨7, 3⟩) (meth := k7m3) (c := k7c3) (by decide +kernel) rfl rfl rfl (by decide +kernel)
set_option maxRecDepth 65536 in
theorem w_c37 : (Jvm.Cond.code ({ cls := "java/lang/String", name := "isLatin1", desc := "()Z" } : Jvm.MethodName) jdk_42_method_154_code (1 : Nat) (Option.some Jvm.ClassFile.FieldType.boolean)).before args0 about1 = true := code_word (m := ⟨7, 7⟩) (meth := k7m7) (c := k7c7) (by decide +kernel) rfl rfl rfl (by decide +kernel)
set_option maxRecDepth 65536 in
theorem w_c38 : (Jvm.Cond.code ({ cls := "java/lang/StringLatin1", name := "charAt", desc := "([BI)C" } : Jvm.MethodName) jdk_43_method_2_code (2 : Nat) (Option.some Jvm.ClassFile.FieldType.char)).before args0 about1 = true := code_word (m := ⟨28, 1⟩) (meth := k28m1) (c := k28c1) (by decide +kernel) rfl rfl rfl (by decide +kernel)
set_option maxRecDepth 65536 in
theorem w_c39 : (Jvm.Cond.code ({ cls := "java/lang/String", name := "checkIndex", desc := "(II)V" } : Jvm.MethodName) jdk_42_method_155_code (2 : Nat) (Option.none : Option Jvm.ClassFile.FieldType)).before args0 about1 = true := code_word (m := ⟨7, 8⟩) (meth := k7m8) (c := k7c8) (by decide +kernel) rfl rfl rfl (by decide +kernel)
def codes1 : List Jvm.Cond := [Jvm.Cond.code x code maxLocals ret, Jvm.Cond.code ({ cls := "java/lang/String", name := "<init>", desc := "([C)V" } : Jvm.MethodName) jdk_42_method_3_code (2 : Nat) (Option.none : Option Jvm.ClassFile.FieldType), Jvm.Cond.code ({ cls := "java/lang/String", name := "<init>", desc := "([CIILjava/lang/Void;)V" } : Jvm.MethodName) jdk_42_method_149_code (6 : Nat) (Option.none : Option Jvm.ClassFile.FieldType), Jvm.Cond.code ({ cls := "java/lang/Object", name := "<init>", desc := "()V" } : Jvm.MethodName) object_method_1_code (1 : Nat) (Option.none : Option Jvm.ClassFile.FieldType), Jvm.Cond.code ({ cls := "java/util/ArrayList", name := "<init>", desc := "()V" } : Jvm.MethodName) jdk_38_method_2_code (1 : Nat) (Option.none : Option Jvm.ClassFile.FieldType), Jvm.Cond.code ({ cls := "java/util/AbstractList", name := "<init>", desc := "()V" } : Jvm.MethodName) jdk_39_method_1_code (1 : Nat) (Option.none : Option Jvm.ClassFile.FieldType), Jvm.Cond.code ({ cls := "java/util/AbstractCollection", name := "<init>", desc := "()V" } : Jvm.MethodName) jdk_22_method_1_code (1 : Nat) (Option.none : Option Jvm.ClassFile.FieldType), Jvm.Cond.code ({ cls := "java/util/ArrayList", name := "add", desc := "(Ljava/lang/Object;)Z" } : Jvm.MethodName) jdk_38_method_25_code (2 : Nat) (Option.some Jvm.ClassFile.FieldType.boolean), Jvm.Cond.code ({ cls := "java/util/ArrayList", name := "add", desc := "(Ljava/lang/Object;[Ljava/lang/Object;I)V" } : Jvm.MethodName) jdk_38_method_24_code (4 : Nat) (Option.none : Option Jvm.ClassFile.FieldType), Jvm.Cond.code ({ cls := "java/util/ArrayList", name := "grow", desc := "()[Ljava/lang/Object;" } : Jvm.MethodName) jdk_38_method_7_code (1 : Nat) (Option.some (Jvm.ClassFile.FieldType.array (Jvm.ClassFile.FieldType.object "java/lang/Object"))), Jvm.Cond.code ({ cls := "java/util/ArrayList", name := "grow", desc := "(I)[Ljava/lang/Object;" } : Jvm.MethodName) jdk_38_method_6_code (4 : Nat) (Option.some (Jvm.ClassFile.FieldType.array (Jvm.ClassFile.FieldType.object "java/lang/Object"))), Jvm.Cond.code ({ cls := "java/lang/Math", name := "max", desc := "(II)I" } : Jvm.MethodName) jdk_29_method_65_code (2 : Nat) (Option.some Jvm.ClassFile.FieldType.int), Jvm.Cond.code ({ cls := "com/example/fyfo/fyfo/Runner$Shell", name := "fromWords", desc := "(Ljava/util/List;)Lcom/example/fyfo/fyfo/Runner$Shell;" } : Jvm.MethodName) prog_34_method_2_code (1 : Nat) (Option.some (Jvm.ClassFile.FieldType.object "com/example/fyfo/fyfo/Runner$Shell")), Jvm.Cond.code ({ cls := "java/util/ArrayList", name := "size", desc := "()I" } : Jvm.MethodName) jdk_38_method_8_code (1 : Nat) (Option.some Jvm.ClassFile.FieldType.int), Jvm.Cond.code ({ cls := "java/util/ArrayList", name := "get", desc := "(I)Ljava/lang/Object;" } : Jvm.MethodName) jdk_38_method_20_code (2 : Nat) (Option.some (Jvm.ClassFile.FieldType.object "java/lang/Object")), Jvm.Cond.code ({ cls := "java/util/Objects", name := "checkIndex", desc := "(II)I" } : Jvm.MethodName) jdk_31_method_17_code (2 : Nat) (Option.some Jvm.ClassFile.FieldType.int), Jvm.Cond.code ({ cls := "jdk/internal/util/Preconditions", name := "checkIndex", desc := "(IILjava/util/function/BiFunction;)I" } : Jvm.MethodName) jdk_41_method_11_code (3 : Nat) (Option.some Jvm.ClassFile.FieldType.int), Jvm.Cond.code ({ cls := "java/util/ArrayList", name := "elementData", desc := "(I)Ljava/lang/Object;" } : Jvm.MethodName) jdk_38_method_18_code (2 : Nat) (Option.some (Jvm.ClassFile.FieldType.object "java/lang/Object")), Jvm.Cond.code ({ cls := "com/example/fyfo/fyfo/Runner$Shell", name := "<init>", desc := "(Ljava/lang/String;)V" } : Jvm.MethodName) prog_34_method_1_code (2 : Nat) (Option.none : Option Jvm.ClassFile.FieldType), Jvm.Cond.code ({ cls := "java/lang/Record", name := "<init>", desc := "()V" } : Jvm.MethodName) jdk_30_method_1_code (1 : Nat) (Option.none : Option Jvm.ClassFile.FieldType), Jvm.Cond.code ({ cls := "java/util/Objects", name := "requireNonNull", desc := "(Ljava/lang/Object;Ljava/lang/String;)Ljava/lang/Object;" } : Jvm.MethodName) jdk_31_method_11_code (2 : Nat) (Option.some (Jvm.ClassFile.FieldType.object "java/lang/Object")), Jvm.Cond.code ({ cls := "com/example/fyfo/fyfo/Runner$Shell", name := "command", desc := "()Ljava/lang/String;" } : Jvm.MethodName) prog_34_method_9_code (1 : Nat) (Option.some (Jvm.ClassFile.FieldType.object "java/lang/String")), Jvm.Cond.code ({ cls := "java/lang/String", name := "length", desc := "()I" } : Jvm.MethodName) jdk_42_method_54_code (1 : Nat) (Option.some Jvm.ClassFile.FieldType.int), Jvm.Cond.code ({ cls := "java/lang/String", name := "coder", desc := "()B" } : Jvm.MethodName) jdk_42_method_152_code (1 : Nat) (Option.some Jvm.ClassFile.FieldType.byte), Jvm.Cond.code ({ cls := "com/example/fyfo/fyfo/Runner$Shell", name := "words", desc := "()Ljava/util/List;" } : Jvm.MethodName) prog_34_method_4_code (1 : Nat) (Option.some (Jvm.ClassFile.FieldType.object "java/util/List")), Jvm.Cond.code ({ cls := "java/util/List", name := "of", desc := "(Ljava/lang/Object;)Ljava/util/List;" } : Jvm.MethodName) jdk_40_method_37_code (1 : Nat) (Option.some (Jvm.ClassFile.FieldType.object "java/util/List")), Jvm.Cond.code ({ cls := "java/util/ImmutableCollections$List12", name := "<init>", desc := "(Ljava/lang/Object;)V" } : Jvm.MethodName) jdk_44_method_1_code (2 : Nat) (Option.none : Option Jvm.ClassFile.FieldType), Jvm.Cond.code ({ cls := "java/util/ImmutableCollections$AbstractImmutableList", name := "<init>", desc := "()V" } : Jvm.MethodName) jdk_46_method_1_code (1 : Nat) (Option.none : Option Jvm.ClassFile.FieldType), Jvm.Cond.code ({ cls := "java/util/ImmutableCollections$AbstractImmutableCollection", name := "<init>", desc := "()V" } : Jvm.MethodName) jdk_47_method_1_code (1 : Nat) (Option.none : Option Jvm.ClassFile.FieldType), Jvm.Cond.code ({ cls := "java/util/Objects", name := "requireNonNull", desc := "(Ljava/lang/Object;)Ljava/lang/Object;" } : Jvm.MethodName) jdk_31_method_10_code (1 : Nat) (Option.some (Jvm.ClassFile.FieldType.object "java/lang/Object")), Jvm.Cond.code ({ cls := "java/lang/String", name := "equals", desc := "(Ljava/lang/Object;)Z" } : Jvm.MethodName) jdk_42_method_66_code (3 : Nat) (Option.some Jvm.ClassFile.FieldType.boolean), Jvm.Cond.code ({ cls := "java/util/ImmutableCollections$List12", name := "size", desc := "()I" } : Jvm.MethodName) jdk_44_method_3_code (1 : Nat) (Option.some Jvm.ClassFile.FieldType.int), Jvm.Cond.code ({ cls := "java/util/ImmutableCollections$List12", name := "get", desc := "(I)Ljava/lang/Object;" } : Jvm.MethodName) jdk_44_method_5_code (2 : Nat) (Option.some (Jvm.ClassFile.FieldType.object "java/lang/Object")), Jvm.Cond.code ({ cls := "java/lang/StringUTF16", name := "compress", desc := "([CII)[B" } : Jvm.MethodName) jdk_52_method_16_code (6 : Nat) (Option.some (Jvm.ClassFile.FieldType.array Jvm.ClassFile.FieldType.byte)), Jvm.Cond.code ({ cls := "java/lang/StringUTF16", name := "compress", desc := "([CI[BII)I" } : Jvm.MethodName) jdk_52_method_21_code (7 : Nat) (Option.some Jvm.ClassFile.FieldType.int), Jvm.Cond.code ({ cls := "java/lang/StringUTF16", name := "coderFromArrayLen", desc := "([BI)B" } : Jvm.MethodName) jdk_52_method_15_code (2 : Nat) (Option.some Jvm.ClassFile.FieldType.byte), Jvm.Cond.code ({ cls := "java/lang/String", name := "charAt", desc := "(I)C" } : Jvm.MethodName) jdk_42_method_56_code (2 : Nat) (Option.some Jvm.ClassFile.FieldType.char), Jvm.Cond.code ({ cls := "java/lang/String", name := "isLatin1", desc := "()Z" } : Jvm.MethodName) jdk_42_method_154_code (1 : Nat) (Option.some Jvm.ClassFile.FieldType.boolean), Jvm.Cond.code ({ cls := "java/lang/StringLatin1", name := "charAt", desc := "([BI)C" } : Jvm.MethodName) jdk_43_method_2_code (2 : Nat) (Option.some Jvm.ClassFile.FieldType.char), Jvm.Cond.code ({ cls := "java/lang/String", name := "checkIndex", desc := "(II)V" } : Jvm.MethodName) jdk_42_method_155_code (2 : Nat) (Option.none : Option Jvm.ClassFile.FieldType)]
set_option maxRecDepth 65536 in
theorem codes_eq : words1.filter isCode = codes1 := rfl
theorem w_codes : ∀ c ∈ words1.filter isCode, c.before args0 about1 = true := by
  rw [codes_eq]
  intro c hc
  simp only [codes1, List.mem_cons, List.not_mem_nil, or_false] at hc
  rcases hc with rfl | rfl | rfl | rfl | rfl | rfl | rfl | rfl | rfl | rfl | rfl | rfl | rfl | rfl | rfl | rfl | rfl | rfl | rfl | rfl | rfl | rfl | rfl | rfl | rfl | rfl | rfl | rfl | rfl | rfl | rfl | rfl | rfl | rfl | rfl | rfl | rfl | rfl | rfl | rfl
  · exact w_c0
  · exact w_c1
  · exact w_c2
  · exact w_c3
  · exact w_c4
  · exact w_c5
  · exact w_c6
  · exact w_c7
  · exact w_c8
  · exact w_c9
  · exact w_c10
  · exact w_c11
  · exact w_c12
  · exact w_c13
  · exact w_c14
  · exact w_c15
  · exact w_c16
  · exact w_c17
  · exact w_c18
  · exact w_c19
  · exact w_c20
  · exact w_c21
  · exact w_c22
  · exact w_c23
  · exact w_c24
  · exact w_c25
  · exact w_c26
  · exact w_c27
  · exact w_c28
  · exact w_c29
  · exact w_c30
  · exact w_c31
  · exact w_c32
  · exact w_c33
  · exact w_c34
  · exact w_c35
  · exact w_c36
  · exact w_c37
  · exact w_c38
  · exact w_c39
set_option maxRecDepth 65536 in
theorem w_t1 : (words1.take 24).all (fun c => isCode c || c.before args0 about1) = true := by decide +kernel
set_option maxRecDepth 65536 in
theorem w_t2 : ((words1.drop 24).take 24).all (fun c => isCode c || c.before args0 about1) = true := by decide +kernel
set_option maxRecDepth 65536 in
theorem w_t3 : (((words1.drop 24).drop 24).take 24).all (fun c => isCode c || c.before args0 about1) = true := by decide +kernel
set_option maxRecDepth 65536 in
theorem w_t4 : ((((words1.drop 24).drop 24).drop 24).take 24).all (fun c => isCode c || c.before args0 about1) = true := by decide +kernel
set_option maxRecDepth 65536 in
theorem w_t5 : (((((words1.drop 24).drop 24).drop 24).drop 24).take 24).all (fun c => isCode c || c.before args0 about1) = true := by decide +kernel
set_option maxRecDepth 65536 in
theorem w_t6 : ((((((words1.drop 24).drop 24).drop 24).drop 24).drop 24).take 24).all (fun c => isCode c || c.before args0 about1) = true := by decide +kernel
set_option maxRecDepth 65536 in
theorem w_t7 : (((((((words1.drop 24).drop 24).drop 24).drop 24).drop 24).drop 24).take 24).all (fun c => isCode c || c.before args0 about1) = true := by decide +kernel
set_option maxRecDepth 65536 in
theorem w_t8 : ((((((((words1.drop 24).drop 24).drop 24).drop 24).drop 24).drop 24).drop 24).take 24).all (fun c => isCode c || c.before args0 about1) = true := by decide +kernel
set_option maxRecDepth 65536 in
theorem w_t9 : (((((((((words1.drop 24).drop 24).drop 24).drop 24).drop 24).drop 24).drop 24).drop 24).take 24).all (fun c => isCode c || c.before args0 about1) = true := by decide +kernel
set_option maxRecDepth 65536 in
theorem w_t10 : (((((((((words1.drop 24).drop 24).drop 24).drop 24).drop 24).drop 24).drop 24).drop 24).drop 24).all (fun c => isCode c || c.before args0 about1) = true := by decide +kernel
theorem w_tables : (allAtoms (Jvm.Cond.code x code maxLocals ret :: tables_1)).before args0 about1 = true := by
  rw [allAtoms_all]
  show words1.all (fun c => c.before args0 about1) = true
  refine all_split ?_ w_codes
  rw [← List.take_append_drop 24 words1, List.all_append, w_t1, ← List.take_append_drop 24 (words1.drop 24), List.all_append, w_t2, ← List.take_append_drop 24 ((words1.drop 24).drop 24), List.all_append, w_t3, ← List.take_append_drop 24 (((words1.drop 24).drop 24).drop 24), List.all_append, w_t4, ← List.take_append_drop 24 ((((words1.drop 24).drop 24).drop 24).drop 24), List.all_append, w_t5, ← List.take_append_drop 24 (((((words1.drop 24).drop 24).drop 24).drop 24).drop 24), List.all_append, w_t6, ← List.take_append_drop 24 ((((((words1.drop 24).drop 24).drop 24).drop 24).drop 24).drop 24), List.all_append, w_t7, ← List.take_append_drop 24 (((((((words1.drop 24).drop 24).drop 24).drop 24).drop 24).drop 24).drop 24), List.all_append, w_t8, ← List.take_append_drop 24 ((((((((words1.drop 24).drop 24).drop 24).drop 24).drop 24).drop 24).drop 24).drop 24), List.all_append, w_t9, w_t10]
  rfl
set_option maxRecDepth 65536 in
theorem w_rest : rest_1_c.before args0 about1 = true := by decide +kernel
set_option maxRecDepth 65536 in
theorem w_case : (Jvm.Cond.and given_1 narrow_1).before args0 about1 = true := by decide +kernel
set_option maxRecDepth 65536 in
theorem w_consts : constsHeld consts_1 about1 := Jvm.Lit.constsHeldB_iff.mp (by decide +kernel)
theorem w_applies : (headSpec (Jvm.Cond.code x code maxLocals ret :: tables_1) room_1).applies x e0.platform about1 = true :=
  (Spec.applies_iff w_frames).mpr ⟨w_running, w_runnable, w_alone, w_named, w_hears, w_ripe, w_room, w_tables⟩
theorem atStart : AtStart classFile x code maxLocals ret World_1 tables_1 room_1 Calls_1 rest_1 Pre_1 launch0 p0 e0 about1 theMethod args0 below0 :=
  ⟨lists_1, trivial, launch0.admits_env _ _ _, launch0.least_env, fairChoices_fair.cas, fairChoices_fair.clock, w_frames, w_args, w_heap, w_applies, ⟨w_consts, trivial⟩, w_rest, w_case⟩
end start1
theorem witness_1 : WitnessClaimed_1 := ⟨start1.p0, start1.e0, start1.about1, start1.theMethod, start1.args0, start1.below0, start1.atStart⟩
end Jvm.Pilot.@@N@@
