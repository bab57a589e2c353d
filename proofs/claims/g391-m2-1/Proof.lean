import JvmDerived
import JvmDerived.Pilot.@@N@@Statement
import JvmDerived.Pilot.@@N@@Code
set_option linter.unusedVariables false
set_option linter.unusedSimpArgs false
@@BLOCK:NumsL.lean.txt@@
namespace Jvm.RoadKit
open Sem ClassFile Op Lib Jvm.Stand Jvm.Free Jvm.LawKit
section New
variable {p : Program} {l : Launch} {e : Env} {R : Room} {s : State} {m : MethodId} {args : Array Value} {below : List Frame} {meth : Method} {c : Code} {T : State} {locs : List Loc} {cells slots : Nat}
theorem retI (X : Stand p l e R s m args below meth c T locs cells slots) (hx : p.tables.exec = Jvm.exec) {pc : Nat} {Ls : Array Slot} {z : Int32} {rest : List Value} (hret : meth.sig.returnType = some .int) (hd : decode c.code pc = .ok (.ireturn, 1)) {fs : List Frame}
    (hl : ∀ (f : JFrame) (acts : List Action), f.method = m → f.locked = none → f.entered = [] → (doReturn e (T.setTop f) acts (some (.int z))).1 = T.setFrames fs) : Steps p.tables e below (T.setTop (mkF m pc Ls (.int z :: rest))) (T.setFrames fs) := by
  have hm' : T.vm.method? m = some meth := X.method'
  have hn : narrow .int (.int z) = .int z := rfl
  show Steps p.tables e below (T.setTop { method := m, pc := pc, locals := Ls, stack := _ :: rest, locked := none }) _
  jvm_step X.here [X.here.top, hx, hd, hm', hret, hn]
  first | (intro acts; rw [hl _ acts rfl rfl rfl]) | rw [hl _ _ rfl rfl rfl]
  exact Steps.refl _
end New
end Jvm.RoadKit
/- laws to paste: Road.backV (cut by pick.py; bodies as the Statement names them) -/
namespace Jvm.Pilot.@@N@@
namespace StrChars
open Jvm Sem ClassFile Op Lib Jvm.Stand Jvm.Free.XT Jvm.Free.ALB Jvm.Free.JM Jvm.Free
open Jvm.Lib.Cold (StaticIs)
/-- a char array whose places are chars -/
def Ch (a : Addr) (A : Cell) (U : State) : Prop := Arr .char a A U ∧ Typed .char A
theorem Ch.mv {a : Addr} {A : Cell} {U U' : State} (h : Ch a A U) (hal : U.vm.Alike U'.vm) (hh : U'.heap = U.heap) : Ch a A U' := ⟨h.1.mv hal hh, h.2⟩
theorem Ch.keep {a : Addr} {A : Cell} {U U' : State} (h : Ch a A U) (hal : U.vm.Alike U'.vm) (hk : U'.heap[a]? = some A) : Ch a A U' := ⟨h.1.keep hal hk, h.2⟩
/-- what place i of a char[]'s cell holds -/
def cv (A : Cell) (i : Nat) : Int32 := match A.slots[i]? with | some (.int x) => x | _ => 0
theorem Ch.get {a : Addr} {A : Cell} {U : State} (h : Ch a A U) {i : Nat} (hi : i < A.slots.size) : A.slots[i]? = some (.int (cv A i)) := by
  have e := Array.getElem?_eq_getElem hi
  have f := h.2 i _ e
  unfold cv; rw [e]
  generalize A.slots[i] = v at f
  cases v <;> simp [fits] at f ⊢
/-- the byte that i2b leaves of a char -/
def lo8 (x : Int32) : Int32 := x.toInt8.toInt32
theorem fits_lo8 (y : Int32) : fits .byte (.int (lo8 y)) = true := by
  have h1 := y.toInt8.le_toInt
  have h2 := y.toInt8.toInt_lt
  simp only [lo8, fits, Bool.and_eq_true, decide_eq_true_eq, Int32.le_iff_toInt_le, Int8.toInt_toInt32, show (-128 : Int32).toInt = -128 from by decide, show (127 : Int32).toInt = 127 from by decide]
  omega
/-- A' is A but that each place j of lo .. hi - 1 holds f j -/
def Laid (A A' : Cell) (lo hi : Nat) (f : Nat → Value) : Prop := A'.cls = A.cls ∧ A'.vm = A.vm ∧ A'.slots.size = A.slots.size ∧ ∀ i, A'.slots[i]? = if lo ≤ i ∧ i < hi then some (f i) else A.slots[i]?
theorem Laid.zero (A : Cell) (lo : Nat) (f : Nat → Value) : Laid A A lo (lo + 0) f := ⟨rfl, rfl, rfl, fun i => by rw [if_neg (by omega)]⟩
theorem Laid.step {A Ak : Cell} {lo k : Nat} {f : Nat → Value} {v : Value} (h : Laid A Ak lo k f) (hlo : lo ≤ k) (hk : k < Ak.slots.size) (hv : v = f k) : Laid A (Ak.setSlot k v) lo (k + 1) f := by
  refine ⟨h.1, h.2.1, by simpa [Cell.setSlot] using h.2.2.1, fun i => ?_⟩
  by_cases e : k = i
  · subst e; rw [Cell.slots_setSlot_self v hk, if_pos (by omega), hv]
  · rw [Cell.slots_setSlot_ne v e, h.2.2.2 i]
    by_cases q : lo ≤ i ∧ i < k
    · rw [if_pos q, if_pos (by omega)]
    · rw [if_neg q, if_neg (by omega)]
def U16 : String := "java/lang/StringUTF16"
namespace Cmp5
def yN : MethodName := ⟨"java/lang/StringUTF16", "compress", "([CI[BII)I"⟩
abbrev yB : ByteArray := jdk_52_method_21_code
theorem d0 : decode yB 0 = .ok (.iconst 0, 1) := by decide +kernel
theorem d1 : decode yB 1 = .ok (.istore 5, 2) := by decide +kernel
theorem d3 : decode yB 3 = .ok (.iload 5, 2) := by decide +kernel
theorem d5 : decode yB 5 = .ok (.iload 4, 2) := by decide +kernel
theorem d7 : decode yB 7 = .ok (.if_icmp (.ge) 37, 3) := by decide +kernel
theorem d10 : decode yB 10 = .ok (.aload_n 0, 1) := by decide +kernel
theorem d11 : decode yB 11 = .ok (.iload_n 1, 1) := by decide +kernel
theorem d12 : decode yB 12 = .ok (.caload, 1) := by decide +kernel
theorem d13 : decode yB 13 = .ok (.istore 6, 2) := by decide +kernel
theorem d15 : decode yB 15 = .ok (.iload 6, 2) := by decide +kernel
theorem d17 : decode yB 17 = .ok (.sipush 255, 3) := by decide +kernel
theorem d20 : decode yB 20 = .ok (.if_icmp (.le) 6, 3) := by decide +kernel
theorem d26 : decode yB 26 = .ok (.aload_n 2, 1) := by decide +kernel
theorem d27 : decode yB 27 = .ok (.iload_n 3, 1) := by decide +kernel
theorem d28 : decode yB 28 = .ok (.iload 6, 2) := by decide +kernel
theorem d30 : decode yB 30 = .ok (.i2b, 1) := by decide +kernel
theorem d31 : decode yB 31 = .ok (.bastore, 1) := by decide +kernel
theorem d32 : decode yB 32 = .ok (.iinc 1 1, 3) := by decide +kernel
theorem d35 : decode yB 35 = .ok (.iinc 3 1, 3) := by decide +kernel
theorem d38 : decode yB 38 = .ok (.iinc 5 1, 3) := by decide +kernel
theorem d41 : decode yB 41 = .ok (.goto (-38), 3) := by decide +kernel
theorem d44 : decode yB 44 = .ok (.iload 4, 2) := by decide +kernel
theorem d46 : decode yB 46 = .ok (.ireturn, 1) := by decide +kernel
def site : List Cond := []
def tab : Cond := tabOf yN yB 7 (some .int) site
def P (b : Addr) (A : Cell) (d : Addr) (B : Cell) (o q len : Nat) (args : Array Value) (s : State) : Prop := args = #[.ref b, .int (Int32.ofNat o), .ref d, .int (Int32.ofNat q), .int (Int32.ofNat len)] ∧ Ch b A s ∧ Arr .byte d B s ∧ b ≠ d ∧ o + len ≤ A.slots.size ∧ q + len ≤ B.slots.size ∧ ∀ i, i < len → ¬ 255 < cv A (o + i)
def E (b : Addr) (A : Cell) (d : Addr) (B : Cell) (o q len : Nat) (r : Option Value) (s u : State) : Prop := r = some (.int (Int32.ofNat len)) ∧ ∃ B', Put d B' s u ∧ Laid B B' q (q + len) (fun j => Value.int (lo8 (cv A (o + (j - q)))))
/-- no char of the range above 255: len; the places written hold each char's low byte -/
theorem law (l : Launch) (b : Addr) (A : Cell) (d : Addr) (B : Cell) (o q len : Nat) : Law l yN 5 5 0 0 yB 7 (some .int) site (P b A d B o q len) (E b A d B o q len) (copyLocs d q len) 0 0 := by
  refine Law.of_walk (plainFor_of_name (by decide +kernel)) (by decide +kernel) (by decide +kernel) (by decide) (fun _ _ h => by rw [h.1]; rfl) (fun _ U U' hal hh h => ⟨h.1, h.2.1.mv hal hh, h.2.2.1.mv hal hh, h.2.2.2⟩) (fun r U U' V V' h1 hal h2 h => ⟨h.1, h.2.elim fun B' q => ⟨B', q.1.mv h1 h2, q.2⟩⟩) ?_
  intro p e s m args below meth c s₁ X0 hexec hbytes hml hret hlk hnm hown hh0 W hP
  obtain ⟨rfl, hA, hB, hne, l1, l2, hp⟩ := hP
  have c1 : Steps p.tables e below (s₁.setTop (entryFrame m #[.ref b, .int (Int32.ofNat o), .ref d, .int (Int32.ofNat q), .int (Int32.ofNat len)] 7)) (s₁.setTop (mkF m 0 #[.val (.ref b), .val (.int (Int32.ofNat o)), .val (.ref d), .val (.int (Int32.ofNat q)), .val (.int (Int32.ofNat len)), .unset, .unset] [])) := entry rfl
  have hA0 := hA.1.mv X0.warmed.alike hh0
  have hB0 := hB.mv X0.warmed.alike hh0
  have a31 := hA.1.2.2.2
  have c2 : Steps p.tables e below (s₁.setTop (entryFrame m #[.ref b, .int (Int32.ofNat o), .ref d, .int (Int32.ofNat q), .int (Int32.ofNat len)] 7)) (s₁.setTop (mkF m 3 #[.val (.ref b), .val (.int (Int32.ofNat o)), .val (.ref d), .val (.int (Int32.ofNat q)), .val (.int (Int32.ofNat len)), .val (.int 0), .unset] [])) := c1.trans (by
    refine iconstV X0.here hexec rfl 0 (hb hbytes d0) (by decide) ?_
    refine XS.istore X0.here hexec rfl (hb hbytes d1) rfl rfl ?_
    exact Steps.refl _)
  have loop : ∀ (r i : Nat), i + r = len → ∀ (z : Slot), (z = .unset ∨ ∃ w, z = .val w ∧ w.category = 1) → ∀ (Tl : State) (Bk : Cell), Stand p l e { frames := 0, locals := 0, cells := 0, slots := 0 } s m #[.ref b, .int (Int32.ofNat o), .ref d, .int (Int32.ofNat q), .int (Int32.ofNat len)] below meth c Tl ([] ++ copyLocs d q i) 0 0 → Put d Bk s₁ Tl → Laid B Bk q (q + i) (fun j => Value.int (lo8 (cv A (o + (j - q))))) →
      Steps p.tables e below (s₁.setTop (entryFrame m #[.ref b, .int (Int32.ofNat o), .ref d, .int (Int32.ofNat q), .int (Int32.ofNat len)] 7)) (Tl.setTop (mkF m 3 #[.val (.ref b), .val (.int (Int32.ofNat (o + i))), .val (.ref d), .val (.int (Int32.ofNat (q + i))), .val (.int (Int32.ofNat len)), .val (.int (Int32.ofNat i)), z] [])) → ∃ (T' : State) (B' : Cell) (z' : Slot), Stand p l e { frames := 0, locals := 0, cells := 0, slots := 0 } s m #[.ref b, .int (Int32.ofNat o), .ref d, .int (Int32.ofNat q), .int (Int32.ofNat len)] below meth c T' ([] ++ copyLocs d q len) 0 0 ∧ Put d B' s₁ T' ∧ Laid B B' q (q + len) (fun j => Value.int (lo8 (cv A (o + (j - q))))) ∧
      Steps p.tables e below (s₁.setTop (entryFrame m #[.ref b, .int (Int32.ofNat o), .ref d, .int (Int32.ofNat q), .int (Int32.ofNat len)] 7)) (T'.setTop (mkF m 3 #[.val (.ref b), .val (.int (Int32.ofNat (o + len))), .val (.ref d), .val (.int (Int32.ofNat (q + len))), .val (.int (Int32.ofNat len)), .val (.int (Int32.ofNat len)), z'] [])) := by
    intro r
    induction r with
    | zero =>
      intro i hi z hz Tl Bk Xl pl fl cl
      have hil : i = len := by omega
      rw [hil] at Xl fl cl
      exact ⟨Tl, Bk, z, Xl, pl, fl, cl⟩
    | succ r ih =>
      intro i hi z hz Tl Bk Xl pl fl cl
      have all := X0.warmed.alike.symm.trans Xl.warmed.alike
      have hAl := hA0.keep all (pl.other hne hA0.1)
      have hBk := hB0.like all pl.1 fl.1 fl.2.1 fl.2.2.1
      have hlt : q + i < Bk.slots.size := by rw [fl.2.2.1]; omega
      have c3 : Steps p.tables e below (s₁.setTop (entryFrame m #[.ref b, .int (Int32.ofNat o), .ref d, .int (Int32.ofNat q), .int (Int32.ofNat len)] 7)) (Tl.setTop (mkF m 12 #[.val (.ref b), .val (.int (Int32.ofNat (o + i))), .val (.ref d), .val (.int (Int32.ofNat (q + i))), .val (.int (Int32.ofNat len)), .val (.int (Int32.ofNat i)), z] [.int (Int32.ofNat (o + i)), .ref b])) := cl.trans (by
        refine XS.iload Xl.here hexec rfl (hb hbytes d3) rfl ?_
        refine XS.iload Xl.here hexec rfl (hb hbytes d5) rfl ?_
        refine XS.icmpNo Xl.here hexec rfl (hb hbytes d7) rfl (ii_ge_f (lt32 (by omega) (by omega))) ?_
        refine XS.aloadN Xl.here hexec rfl (hb hbytes d10) rfl rfl ?_
        refine XS.iloadN Xl.here hexec rfl (hb hbytes d11) rfl ?_
        exact Steps.refl _)
      have c4 : Steps p.tables e below (s₁.setTop (entryFrame m #[.ref b, .int (Int32.ofNat o), .ref d, .int (Int32.ofNat q), .int (Int32.ofNat len)] 7)) (Tl.setTop (mkF m 13 #[.val (.ref b), .val (.int (Int32.ofNat (o + i))), .val (.ref d), .val (.int (Int32.ofNat (q + i))), .val (.int (Int32.ofNat len)), .val (.int (Int32.ofNat i)), z] [.int (cv A (o + i))])) := c3.trans (by
        refine Xl.aget hexec hAl rfl (hA.get (i := o + i) (by omega)) rfl rfl (hb hbytes d12) ?_
        exact Steps.refl _)
      have c5 : Steps p.tables e below (s₁.setTop (entryFrame m #[.ref b, .int (Int32.ofNat o), .ref d, .int (Int32.ofNat q), .int (Int32.ofNat len)] 7)) (Tl.setTop (mkF m 15 #[.val (.ref b), .val (.int (Int32.ofNat (o + i))), .val (.ref d), .val (.int (Int32.ofNat (q + i))), .val (.int (Int32.ofNat len)), .val (.int (Int32.ofNat i)), .val (.int (cv A (o + i)))] [])) := c4.trans (by
        refine XS.istoreS Xl.here hexec rfl (hb hbytes d13) rfl rfl hz ?_
        exact Steps.refl _)
      have c6 : Steps p.tables e below (s₁.setTop (entryFrame m #[.ref b, .int (Int32.ofNat o), .ref d, .int (Int32.ofNat q), .int (Int32.ofNat len)] 7)) (Tl.setTop (mkF m 31 #[.val (.ref b), .val (.int (Int32.ofNat (o + i))), .val (.ref d), .val (.int (Int32.ofNat (q + i))), .val (.int (Int32.ofNat len)), .val (.int (Int32.ofNat i)), .val (.int (cv A (o + i)))] [.int (lo8 (cv A (o + i))), .int (Int32.ofNat (q + i)), .ref d])) := c5.trans (by
        refine XS.iload Xl.here hexec rfl (hb hbytes d15) rfl ?_
        refine sipushV Xl.here hexec rfl 255 (hb hbytes d17) (by decide) ?_
        refine XS.icmpYes Xl.here hexec rfl (pc0 := 20) rfl (hb hbytes d20) rfl (ii_le_t (hp i (by omega))) (by decide) rfl ?_
        refine XS.aloadN Xl.here hexec rfl (hb hbytes d26) rfl rfl ?_
        refine XS.iloadN Xl.here hexec rfl (hb hbytes d27) rfl ?_
        refine XS.iload Xl.here hexec rfl (hb hbytes d28) rfl ?_
        refine i2b Xl.here hexec rfl (hb hbytes d30) rfl ?_
        exact Steps.refl _)
      obtain ⟨T7, X7, p7, st7⟩ := Xl.aput hexec hBk rfl hlt rfl (fits_lo8 (cv A (o + i))) (g := (mkF m 31 #[.val (.ref b), .val (.int (Int32.ofNat (o + i))), .val (.ref d), .val (.int (Int32.ofNat (q + i))), .val (.int (Int32.ofNat len)), .val (.int (Int32.ofNat i)), .val (.int (cv A (o + i)))] [.int (lo8 (cv A (o + i))), .int (Int32.ofNat (q + i)), .ref d])) rfl (rest := []) rfl (hb hbytes d31)
      have c8 : Steps p.tables e below (s₁.setTop (entryFrame m #[.ref b, .int (Int32.ofNat o), .ref d, .int (Int32.ofNat q), .int (Int32.ofNat len)] 7)) (T7.setTop (mkF m 32 #[.val (.ref b), .val (.int (Int32.ofNat (o + i))), .val (.ref d), .val (.int (Int32.ofNat (q + i))), .val (.int (Int32.ofNat len)), .val (.int (Int32.ofNat i)), .val (.int (cv A (o + i)))] [])) := c6.trans (st7 _ (Steps.refl _))
      have c9 : Steps p.tables e below (s₁.setTop (entryFrame m #[.ref b, .int (Int32.ofNat o), .ref d, .int (Int32.ofNat q), .int (Int32.ofNat len)] 7)) (T7.setTop (mkF m 3 #[.val (.ref b), .val (.int (Int32.ofNat (o + i) + 1)), .val (.ref d), .val (.int (Int32.ofNat (q + i) + 1)), .val (.int (Int32.ofNat len)), .val (.int (Int32.ofNat i + 1)), .val (.int (cv A (o + i)))] [])) := c8.trans (by
        refine iincV X7.here hexec rfl 1 (hb hbytes d32) (by decide) rfl rfl ?_
        refine iincV X7.here hexec rfl 1 (hb hbytes d35) (by decide) rfl rfl ?_
        refine iincV X7.here hexec rfl 1 (hb hbytes d38) (by decide) rfl rfl ?_
        refine XS.goto X7.here hexec rfl (pc0 := 41) rfl (hb hbytes d41) (by decide) rfl ?_
        exact Steps.refl _)
      have c10 : Steps p.tables e below (s₁.setTop (entryFrame m #[.ref b, .int (Int32.ofNat o), .ref d, .int (Int32.ofNat q), .int (Int32.ofNat len)] 7)) (T7.setTop (mkF m 3 #[.val (.ref b), .val (.int (Int32.ofNat (o + (i + 1)))), .val (.ref d), .val (.int (Int32.ofNat (q + (i + 1)))), .val (.int (Int32.ofNat len)), .val (.int (Int32.ofNat (i + 1))), .val (.int (cv A (o + i)))] [])) := by
        have := c9
        rw [succ32, succ32, succ32] at this
        exact this
      exact ih (i + 1) (by omega) _ (Or.inr ⟨_, rfl, rfl⟩) T7 _ (by rw [copyLocs_step, ← List.append_assoc]; exact X7) (pl.trans p7) (fl.step (by omega) hlt (by simp)) c10
  obtain ⟨T9, B9, z9, X9, p9, f9, g9⟩ := loop len 0 (by omega) .unset (Or.inl rfl) s₁ B (by simpa [copyLocs] using X0) ⟨hB0.1, fun _ _ => rfl, rfl⟩ (Laid.zero _ _ _) c2
  have c11 : Steps p.tables e below (s₁.setTop (entryFrame m #[.ref b, .int (Int32.ofNat o), .ref d, .int (Int32.ofNat q), .int (Int32.ofNat len)] 7)) (T9.setTop (mkF m 46 #[.val (.ref b), .val (.int (Int32.ofNat (o + len))), .val (.ref d), .val (.int (Int32.ofNat (q + len))), .val (.int (Int32.ofNat len)), .val (.int (Int32.ofNat len)), z9] [.int (Int32.ofNat len)])) := g9.trans (by
    refine XS.iload X9.here hexec rfl (hb hbytes d3) rfl ?_
    refine XS.iload X9.here hexec rfl (hb hbytes d5) rfl ?_
    refine XS.icmpYes X9.here hexec rfl (pc0 := 7) rfl (hb hbytes d7) rfl (ii_ge_t (nlt32 (by omega) (Nat.le_refl _))) (by decide) rfl ?_
    refine XS.iload X9.here hexec rfl (hb hbytes d44) rfl ?_
    exact Steps.refl _)
  exact ⟨T9, some (.int (Int32.ofNat len)), _, _, _, X9, by simp, rfl, rfl, (fun h => by cases h), ⟨rfl, B9, p9.from hh0, f9⟩, fun fs hl => c11.trans (X9.ireturnOut hexec hret rfl (Or.inl rfl) (hb hbytes d46) hl)⟩
end Cmp5
namespace Cmp3
def yN : MethodName := ⟨"java/lang/StringUTF16", "compress", "([CII)[B"⟩
abbrev yB : ByteArray := jdk_52_method_16_code
theorem d0 : decode yB 0 = .ok (.iload_n 2, 1) := by decide +kernel
theorem d1 : decode yB 1 = .ok (.newarray .byte, 2) := by decide +kernel
theorem d3 : decode yB 3 = .ok (.astore_n 3, 1) := by decide +kernel
theorem d4 : decode yB 4 = .ok (.aload_n 0, 1) := by decide +kernel
theorem d5 : decode yB 5 = .ok (.iload_n 1, 1) := by decide +kernel
theorem d6 : decode yB 6 = .ok (.aload_n 3, 1) := by decide +kernel
theorem d7 : decode yB 7 = .ok (.iconst 0, 1) := by decide +kernel
theorem d8 : decode yB 8 = .ok (.iload_n 2, 1) := by decide +kernel
theorem d9 : decode yB 9 = .ok (.invokestatic 115, 3) := by decide +kernel
theorem d12 : decode yB 12 = .ok (.istore 4, 2) := by decide +kernel
theorem d14 : decode yB 14 = .ok (.iload 4, 2) := by decide +kernel
theorem d16 : decode yB 16 = .ok (.iload_n 2, 1) := by decide +kernel
theorem d17 : decode yB 17 = .ok (.if_icmp (.eq) 40, 3) := by decide +kernel
theorem d57 : decode yB 57 = .ok (.aload_n 3, 1) := by decide +kernel
theorem d58 : decode yB 58 = .ok (.areturn, 1) := by decide +kernel
def site : List Cond := [.arrayClass .byte, Cmp5.tab] ++ staticW U16 115 Cmp5.yN
def tab : Cond := tabOf yN yB 6 (some (.array .byte)) site
def P (b : Addr) (A : Cell) (o len : Nat) (args : Array Value) (s : State) : Prop := args = #[.ref b, .int (Int32.ofNat o), .int (Int32.ofNat len)] ∧ Ch b A s ∧ o + len ≤ A.slots.size ∧ len ≤ 536870912 ∧ ∀ i, i < len → ¬ 255 < cv A (o + i)
def E (b : Addr) (A : Cell) (o len : Nat) (r : Option Value) (s u : State) : Prop := NewArr .byte "[B" len (fun j => .int (lo8 (cv A (o + j)))) r s u ∧ u.heap.size = s.heap.size + 1
/-- no char of the range above 255: a new byte[] of their low bytes -/
theorem law (l : Launch) (b : Addr) (A : Cell) (o len : Nat) : Law l yN 3 3 1 18 yB 6 (some (.array .byte)) site (P b A o len) (E b A o len) [] 1 len := by
  refine Law.of_walk (plainFor_of_name (by decide +kernel)) (by decide +kernel) (by decide +kernel) (by decide) (fun _ _ h => by rw [h.1]; rfl) (fun _ U U' hal hh h => ⟨h.1, h.2.1.mv hal hh, h.2.2⟩) (fun r U U' V V' h1 hal h2 h => ⟨NewArr.mv r U U' V V' h1 hal h2 h.1, by rw [h1, h2]; exact h.2⟩) ?_
  intro p e s m args below meth c s₁ X0 hexec hbytes hml hret hlk hnm hown hh0 W hP
  obtain ⟨rfl, hA, l1, l2, hp⟩ := hP
  have a31 := hA.1.2.2.2
  have c1 : Steps p.tables e below (s₁.setTop (entryFrame m #[.ref b, .int (Int32.ofNat o), .int (Int32.ofNat len)] 6)) (s₁.setTop (mkF m 0 #[.val (.ref b), .val (.int (Int32.ofNat o)), .val (.int (Int32.ofNat len)), .unset, .unset, .unset] [])) := entry rfl
  have c2 : Steps p.tables e below (s₁.setTop (entryFrame m #[.ref b, .int (Int32.ofNat o), .int (Int32.ofNat len)] 6)) (s₁.setTop (mkF m 1 #[.val (.ref b), .val (.int (Int32.ofNat o)), .val (.int (Int32.ofNat len)), .unset, .unset, .unset] [.int (Int32.ofNat len)])) := c1.trans (by
    refine XS.iloadN X0.here hexec rfl (hb hbytes d0) rfl ?_
    exact Steps.refl _)
  obtain ⟨T3, B3, X3, ba3, bs3, bv3, bh3, bf3, st3⟩ := X0.anew hexec (atype := .byte) (wk W (.arrayClass .byte)) rfl (by show len * 1 ≤ _; omega) (by omega) (g := (mkF m 1 #[.val (.ref b), .val (.int (Int32.ofNat o)), .val (.int (Int32.ofNat len)), .unset, .unset, .unset] [.int (Int32.ofNat len)])) rfl (hb hbytes d1) (rest := []) rfl (Nat.le_refl _) (by show 0 + len ≤ len; omega)
  rw [hh0] at ba3 st3
  have kp3 : XT.Kept s T3 := (XT.Kept.of_eq hh0).push bh3
  have hA3 := hA.keep X3.warmed.alike (kp3 _ _ hA.1.1)
  have hne : b ≠ s.heap.size := hA.1.ne
  have c4 : Steps p.tables e below (s₁.setTop (entryFrame m #[.ref b, .int (Int32.ofNat o), .int (Int32.ofNat len)] 6)) (T3.setTop (mkF m 3 #[.val (.ref b), .val (.int (Int32.ofNat o)), .val (.int (Int32.ofNat len)), .unset, .unset, .unset] [.ref s.heap.size])) := c2.trans (st3 _ (Steps.refl _))
  have c5 : Steps p.tables e below (s₁.setTop (entryFrame m #[.ref b, .int (Int32.ofNat o), .int (Int32.ofNat len)] 6)) (T3.setTop (mkF m 9 #[.val (.ref b), .val (.int (Int32.ofNat o)), .val (.int (Int32.ofNat len)), .val (.ref s.heap.size), .unset, .unset] [.int (Int32.ofNat len), .int 0, .ref s.heap.size, .int (Int32.ofNat o), .ref b])) := c4.trans (by
    refine XS.astoreN X3.here hexec rfl (hb hbytes d3) rfl rfl rfl ?_
    refine XS.aloadN X3.here hexec rfl (hb hbytes d4) rfl rfl ?_
    refine XS.iloadN X3.here hexec rfl (hb hbytes d5) rfl ?_
    refine XS.aloadN X3.here hexec rfl (hb hbytes d6) rfl rfl ?_
    refine iconstV X3.here hexec rfl 0 (hb hbytes d7) (by decide) ?_
    refine XS.iloadN X3.here hexec rfl (hb hbytes d8) rfl ?_
    exact Steps.refl _)
  obtain ⟨v6, T6, X6, E6, g6⟩ := X3.callS hexec (Cmp5.law l b A s.heap.size B3 o 0 len) hown (wks W (staticW U16 115 Cmp5.yN)) (wk W Cmp5.tab) (W := 0) (Nat.le_of_ble_eq_true rfl) (Nat.le_of_ble_eq_true rfl) (Nat.le_refl _) (by show 0 + len + 0 ≤ len; omega) (g := (mkF m 9 #[.val (.ref b), .val (.int (Int32.ofNat o)), .val (.int (Int32.ofNat len)), .val (.ref s.heap.size), .unset, .unset] [.int (Int32.ofNat len), .int (Int32.ofNat 0), .ref s.heap.size, .int (Int32.ofNat o), .ref b])) rfl (by rw [hml]; rfl) c5 (argsL := [.ref b, .int (Int32.ofNat o), .ref s.heap.size, .int (Int32.ofNat 0), .int (Int32.ofNat len)]) (rest := []) rfl rfl (by show 2 * 0 + 0 ≤ _; decide) (hb hbytes d9) (⟨rfl, hA3, ba3, hne, l1, by rw [bs3]; simp, hp⟩)
  obtain ⟨rfl, B6, p6, f6⟩ := E6
  have c7 : Steps p.tables e below (s₁.setTop (entryFrame m #[.ref b, .int (Int32.ofNat o), .int (Int32.ofNat len)] 6)) (T6.setTop (mkF m 12 #[.val (.ref b), .val (.int (Int32.ofNat o)), .val (.int (Int32.ofNat len)), .val (.ref s.heap.size), .unset, .unset] [.int (Int32.ofNat len)])) := g6
  have c8 : Steps p.tables e below (s₁.setTop (entryFrame m #[.ref b, .int (Int32.ofNat o), .int (Int32.ofNat len)] 6)) (T6.setTop (mkF m 58 #[.val (.ref b), .val (.int (Int32.ofNat o)), .val (.int (Int32.ofNat len)), .val (.ref s.heap.size), .val (.int (Int32.ofNat len)), .unset] [.ref s.heap.size])) := c7.trans (by
    refine XS.istore X6.here hexec rfl (hb hbytes d12) rfl rfl ?_
    refine XS.iload X6.here hexec rfl (hb hbytes d14) rfl ?_
    refine XS.iloadN X6.here hexec rfl (hb hbytes d16) rfl ?_
    refine XS.icmpYes X6.here hexec rfl (pc0 := 17) rfl (hb hbytes d17) rfl (ii_eq_t rfl) (by decide) rfl ?_
    refine XS.aloadN X6.here hexec rfl (hb hbytes d57) rfl rfl ?_
    exact Steps.refl _)
  have X8 := X6.wide (L' := []) (cells' := 1) (slots' := len) (fun x hx hlt => by
    simp only [List.nil_append, copyLocs, List.mem_map, List.mem_range] at hx
    obtain ⟨i, -, rfl⟩ := hx
    exact absurd hlt (Nat.lt_irrefl _)) (Nat.le_refl _) (by omega)
  exact ⟨T6, some (.ref s.heap.size), _, _, _, X8, rfl, rfl, rfl, (fun h => by cases h), ⟨⟨rfl, B6, ba3.like (X3.warmed.alike.symm.trans X6.warmed.alike) p6.1 f6.1 f6.2.1 f6.2.2.1, f6.2.1.trans bv3, by rw [X6.warmed.alike.findClass, f6.1]; exact bf3, by rw [f6.2.2.1, bs3]; simp, fun j hj => by rw [f6.2.2.2 j, if_pos (by omega)]; rfl, kp3.put p6 (Nat.le_refl _)⟩, by rw [p6.2.2, bh3, hh0]; simp⟩, fun fs hl => c8.trans (X8.areturnOut hexec rfl hret rfl (hb hbytes d58) hl)⟩
end Cmp3
namespace CodL
def yN : MethodName := ⟨"java/lang/StringUTF16", "coderFromArrayLen", "([BI)B"⟩
abbrev yB : ByteArray := jdk_52_method_15_code
theorem d0 : decode yB 0 = .ok (.iload_n 1, 1) := by decide +kernel
theorem d1 : decode yB 1 = .ok (.aload_n 0, 1) := by decide +kernel
theorem d2 : decode yB 2 = .ok (.arraylength, 1) := by decide +kernel
theorem d3 : decode yB 3 = .ok (.isub, 1) := by decide +kernel
theorem d4 : decode yB 4 = .ok (.bipush 31, 2) := by decide +kernel
theorem d6 : decode yB 6 = .ok (.iushr, 1) := by decide +kernel
theorem d7 : decode yB 7 = .ok (.i2b, 1) := by decide +kernel
theorem d8 : decode yB 8 = .ok (.ireturn, 1) := by decide +kernel
def site : List Cond := []
def tab : Cond := tabOf yN yB 2 (some .byte) site
def P (d : Addr) (B : Cell) (args : Array Value) (s : State) : Prop := args = #[.ref d, .int (Int32.ofNat B.slots.size)] ∧ Arr .byte d B s
def E (r : Option Value) (s u : State) : Prop := XT.PureE (some (.int 0)) r s u
/-- an array as long as the number of chars: LATIN1 -/
theorem law (l : Launch) (d : Addr) (B : Cell) : Law l yN 2 2 0 0 yB 2 (some .byte) site (P d B) E [] 0 0 := by
  refine Law.of_walk (plainFor_of_name (by decide +kernel)) (by decide +kernel) (by decide +kernel) (by decide) (fun _ _ h => by rw [h.1]; rfl) (fun _ U U' hal hh h => ⟨h.1, h.2.mv hal hh⟩) (fun r U U' V V' h1 hal h2 h => XT.PureE.mv r U U' V V' h1 hal h2 h) ?_
  intro p e s m args below meth c s₁ X0 hexec hbytes hml hret hlk hnm hown hh0 W hP
  obtain ⟨rfl, hB⟩ := hP
  have hB0 := hB.mv X0.warmed.alike hh0
  have c1 : Steps p.tables e below (s₁.setTop (entryFrame m #[.ref d, .int (Int32.ofNat B.slots.size)] 2)) (s₁.setTop (mkF m 0 #[.val (.ref d), .val (.int (Int32.ofNat B.slots.size))] [])) := entry rfl
  have c2 : Steps p.tables e below (s₁.setTop (entryFrame m #[.ref d, .int (Int32.ofNat B.slots.size)] 2)) (s₁.setTop (mkF m 2 #[.val (.ref d), .val (.int (Int32.ofNat B.slots.size))] [.ref d, .int (Int32.ofNat B.slots.size)])) := c1.trans (by
    refine XS.iloadN X0.here hexec rfl (hb hbytes d0) rfl ?_
    refine XS.aloadN X0.here hexec rfl (hb hbytes d1) rfl rfl ?_
    exact Steps.refl _)
  have c3 : Steps p.tables e below (s₁.setTop (entryFrame m #[.ref d, .int (Int32.ofNat B.slots.size)] 2)) (s₁.setTop (mkF m 8 #[.val (.ref d), .val (.int (Int32.ofNat B.slots.size))] [.int (lo8 (ushr (Int32.ofNat B.slots.size - Int32.ofNat B.slots.size) 31))])) := c2.trans (by
    refine X0.alen hexec hB0 rfl rfl (hb hbytes d2) ?_
    refine XS.isub X0.here hexec rfl (hb hbytes d3) rfl ?_
    refine bipushV X0.here hexec rfl 31 (hb hbytes d4) (by decide) ?_
    refine iushr X0.here hexec rfl (hb hbytes d6) rfl ?_
    refine i2b X0.here hexec rfl (hb hbytes d7) rfl ?_
    exact Steps.refl _)
  have e0 : lo8 (ushr (Int32.ofNat B.slots.size - Int32.ofNat B.slots.size) 31) = 0 := by rw [Int32.sub_self]; decide
  rw [e0] at c3
  exact ⟨s₁, some (.int 0), _, _, _, X0, rfl, rfl, rfl, (fun h => by cases h), ⟨rfl, hh0⟩, fun fs hl => c3.trans (X0.ireturnOut hexec hret rfl (Or.inr (Or.inr (Or.inl rfl))) (hb hbytes d8) hl)⟩
end CodL
/-- the String at a is Latin-1 over a new byte[] (the heap's one new cell): the low bytes of the len chars of A from o on; every cell but a is kept -/
def Got (a : Addr) (D : Cell) (fV fC : Field) (A : Cell) (o len : Nat) (r : Option Value) (s u : State) : Prop := r = none ∧ ∃ D' V : Cell, Blank "java/lang/String" a D' u ∧ Same D D' [fV.slot, fC.slot] ∧ D'.slots[fV.slot]? = some (.ref s.heap.size) ∧ D'.slots[fC.slot]? = some (.int 0) ∧ Arr .byte s.heap.size V u ∧ V.vm = .none ∧ u.vm.findClass "[B" = some V.cls ∧ V.slots.size = len ∧ (∀ j, j < len → V.slots[j]? = some (.int (lo8 (cv A (o + j))))) ∧ (∀ (y : Addr) (c : Cell), y ≠ a → s.heap[y]? = some c → u.heap[y]? = some c) ∧ u.heap.size = s.heap.size + 1
theorem Got.mv {a : Addr} {D A : Cell} {fV fC : Field} {o len : Nat} : ∀ r (U U' V V' : State), U'.heap = U.heap → V.vm.Alike V'.vm → V'.heap = V.heap → Got a D fV fC A o len r U V → Got a D fV fC A o len r U' V' :=
  fun r U U' V V' h1 hal h2 ⟨e0, D', X, a1, a2, a3, a4, a5, a6, a7, a8, a9, a10, a11⟩ => ⟨e0, D', X, a1.mv hal h2, a2, by rw [h1]; exact a3, a4, by rw [h1]; exact a5.mv hal h2, a6, by rw [hal.findClass]; exact a7, a8, a9, by rw [h1, h2]; exact a10, by rw [h1, h2]; exact a11⟩
namespace New4
def yN : MethodName := ⟨"java/lang/String", "<init>", "([CIILjava/lang/Void;)V"⟩
abbrev yB : ByteArray := jdk_42_method_149_code
theorem d0 : decode yB 0 = .ok (.aload_n 0, 1) := by decide +kernel
theorem d1 : decode yB 1 = .ok (.invokespecial 1, 3) := by decide +kernel
theorem d4 : decode yB 4 = .ok (.iload_n 3, 1) := by decide +kernel
theorem d5 : decode yB 5 = .ok (.ifCond (.ne) 22, 3) := by decide +kernel
theorem d27 : decode yB 27 = .ok (.getstatic 38, 3) := by decide +kernel
theorem d30 : decode yB 30 = .ok (.ifCond (.eq) 28, 3) := by decide +kernel
theorem d33 : decode yB 33 = .ok (.aload_n 1, 1) := by decide +kernel
theorem d34 : decode yB 34 = .ok (.iload_n 2, 1) := by decide +kernel
theorem d35 : decode yB 35 = .ok (.iload_n 3, 1) := by decide +kernel
theorem d36 : decode yB 36 = .ok (.invokestatic 177, 3) := by decide +kernel
theorem d39 : decode yB 39 = .ok (.astore 5, 2) := by decide +kernel
theorem d41 : decode yB 41 = .ok (.aload_n 0, 1) := by decide +kernel
theorem d42 : decode yB 42 = .ok (.aload 5, 2) := by decide +kernel
theorem d44 : decode yB 44 = .ok (.iload_n 3, 1) := by decide +kernel
theorem d45 : decode yB 45 = .ok (.invokestatic 47, 3) := by decide +kernel
theorem d48 : decode yB 48 = .ok (.putfield 15, 3) := by decide +kernel
theorem d51 : decode yB 51 = .ok (.aload_n 0, 1) := by decide +kernel
theorem d52 : decode yB 52 = .ok (.aload 5, 2) := by decide +kernel
theorem d54 : decode yB 54 = .ok (.putfield 9, 3) := by decide +kernel
theorem d57 : decode yB 57 = .ok (.return_, 1) := by decide +kernel
def site : List Cond := [.fieldLink "java/lang/String" 38 "java/lang/String" "COMPACT_STRINGS" "Z", Cmp3.tab, CodL.tab, .laysFinal "java/lang/String" "java/lang/String" "value" "[B", .fieldLink "java/lang/String" 9 "java/lang/String" "value" "[B", .laysFinal "java/lang/String" "java/lang/String" "coder" "B", .fieldLink "java/lang/String" 15 "java/lang/String" "coder" "B"] ++ objW "java/lang/String" 1 ++ staticW "java/lang/String" 177 Cmp3.yN ++ staticW "java/lang/String" 47 CodL.yN
def tab : Cond := tabOf yN yB 6 none site
def P (a : Addr) (D : Cell) (fV fC : Field) (b : Addr) (A : Cell) (z : Int32) (o len : Nat) (args : Array Value) (s : State) : Prop := args = #[.ref a, .ref b, .int (Int32.ofNat o), .int (Int32.ofNat len), .null] ∧ Blank "java/lang/String" a D s ∧ Found "java/lang/String" "value" "[B" fV s ∧ Found "java/lang/String" "coder" "B" fC s ∧ Ch b A s ∧ StaticIs s "java/lang/String" "COMPACT_STRINGS" "Z" (.int z) ∧ ¬ z = 0 ∧ 0 < len ∧ o + len ≤ A.slots.size ∧ len ≤ 536870912 ∧ ∀ i, i < len → ¬ 255 < cv A (o + i)
def E (a : Addr) (D : Cell) (fV fC : Field) (A : Cell) (o len : Nat) (r : Option Value) (s u : State) : Prop := Got a D fV fC A o len r s u
/-- len > 0, no char of the range above 255: a Latin-1 String of their low bytes -/
theorem law (l : Launch) (a : Addr) (D : Cell) (fV fC : Field) (b : Addr) (A : Cell) (z : Int32) (o len : Nat) : Law l yN 5 4 2 35 yB 6 none site (P a D fV fC b A z o len) (E a D fV fC A o len) [⟨a, fC.slot⟩, ⟨a, fV.slot⟩] 1 len := by
  refine Law.of_walk (plainFor_of_name (by decide +kernel)) (by decide +kernel) (by decide +kernel) (by decide) (fun _ _ h => by rw [h.1]; rfl) (fun _ U U' hal hh h => ⟨h.1, h.2.1.mv hal hh, h.2.2.1.al hal, h.2.2.2.1.al hal, h.2.2.2.2.1.mv hal hh, h.2.2.2.2.2.1.there hal hh, h.2.2.2.2.2.2⟩) (fun r U U' V V' h1 hal h2 h => Got.mv r U U' V V' h1 hal h2 h) ?_
  intro p e s m args below meth c s₁ X0 hexec hbytes hml hret hlk hnm hown hh0 W hP
  obtain ⟨rfl, hB, f1, f2, hA, s1, hz, l0, l1, l2, hp⟩ := hP
  have a31 := hA.1.2.2.2
  have c1 : Steps p.tables e below (s₁.setTop (entryFrame m #[.ref a, .ref b, .int (Int32.ofNat o), .int (Int32.ofNat len), .null] 6)) (s₁.setTop (mkF m 0 #[.val (.ref a), .val (.ref b), .val (.int (Int32.ofNat o)), .val (.int (Int32.ofNat len)), .val .null, .unset] [])) := entry rfl
  have c2 : Steps p.tables e below (s₁.setTop (entryFrame m #[.ref a, .ref b, .int (Int32.ofNat o), .int (Int32.ofNat len), .null] 6)) (s₁.setTop (mkF m 1 #[.val (.ref a), .val (.ref b), .val (.int (Int32.ofNat o)), .val (.int (Int32.ofNat len)), .val .null, .unset] [.ref a])) := c1.trans (by
    refine XS.aloadN X0.here hexec rfl (hb hbytes d0) rfl rfl ?_
    exact Steps.refl _)
  obtain ⟨T3, X3, q3, st3⟩ := X0.oinit hexec hown (wks W (objW "java/lang/String" 1)) (g := (mkF m 1 #[.val (.ref a), .val (.ref b), .val (.int (Int32.ofNat o)), .val (.int (Int32.ofNat len)), .val .null, .unset] [.ref a])) rfl (by rw [hml]; rfl) (rest := []) rfl (hb hbytes d1) (W := 0) (by show 2 * 0 + 0 ≤ _; decide) (Nat.le_of_ble_eq_true rfl) (Nat.le_of_ble_eq_true rfl)
  have hh3 := q3.trans hh0
  have c4 : Steps p.tables e below (s₁.setTop (entryFrame m #[.ref a, .ref b, .int (Int32.ofNat o), .int (Int32.ofNat len), .null] 6)) (T3.setTop (mkF m 27 #[.val (.ref a), .val (.ref b), .val (.int (Int32.ofNat o)), .val (.int (Int32.ofNat len)), .val .null, .unset] [])) := (c2.trans (st3 _ (Steps.refl _))).trans (by
    refine XS.iloadN X3.here hexec rfl (hb hbytes d4) rfl ?_
    refine XS.ifYes X3.here hexec rfl (pc0 := 5) rfl (hb hbytes d5) rfl (i0_ne_t (nz32 (by omega) l0)) (by decide) rfl ?_
    exact Steps.refl _)
  obtain ⟨T5, X5, q5, st5⟩ := X3.sget hexec hown (wk W (.fieldLink "java/lang/String" 38 "java/lang/String" "COMPACT_STRINGS" "Z")) s1 (fun _ _ h => by rw [hh3]; exact h) (g := (mkF m 27 #[.val (.ref a), .val (.ref b), .val (.int (Int32.ofNat o)), .val (.int (Int32.ofNat len)), .val .null, .unset] [])) rfl (hb hbytes d27)
  have hh5 := q5.trans hh3
  have c6 : Steps p.tables e below (s₁.setTop (entryFrame m #[.ref a, .ref b, .int (Int32.ofNat o), .int (Int32.ofNat len), .null] 6)) (T5.setTop (mkF m 30 #[.val (.ref a), .val (.ref b), .val (.int (Int32.ofNat o)), .val (.int (Int32.ofNat len)), .val .null, .unset] [.int z])) := c4.trans (st5 _ (Steps.refl _))
  have c7 : Steps p.tables e below (s₁.setTop (entryFrame m #[.ref a, .ref b, .int (Int32.ofNat o), .int (Int32.ofNat len), .null] 6)) (T5.setTop (mkF m 36 #[.val (.ref a), .val (.ref b), .val (.int (Int32.ofNat o)), .val (.int (Int32.ofNat len)), .val .null, .unset] [.int (Int32.ofNat len), .int (Int32.ofNat o), .ref b])) := c6.trans (by
    refine XS.ifNo X5.here hexec rfl (hb hbytes d30) rfl (i0_eq_f hz) ?_
    refine XS.aloadN X5.here hexec rfl (hb hbytes d33) rfl rfl ?_
    refine XS.iloadN X5.here hexec rfl (hb hbytes d34) rfl ?_
    refine XS.iloadN X5.here hexec rfl (hb hbytes d35) rfl ?_
    exact Steps.refl _)
  obtain ⟨v8, T8, X8, E8, g8⟩ := X5.callS hexec (Cmp3.law l b A o len) hown (wks W (staticW "java/lang/String" 177 Cmp3.yN)) (wk W Cmp3.tab) (W := 0) (Nat.le_of_ble_eq_true rfl) (Nat.le_of_ble_eq_true rfl) (Nat.le_refl _) (by show 0 + len ≤ len; omega) (g := (mkF m 36 #[.val (.ref a), .val (.ref b), .val (.int (Int32.ofNat o)), .val (.int (Int32.ofNat len)), .val .null, .unset] [.int (Int32.ofNat len), .int (Int32.ofNat o), .ref b])) rfl (by rw [hml]; rfl) c7 (argsL := [.ref b, .int (Int32.ofNat o), .int (Int32.ofNat len)]) (rest := []) rfl rfl (by show 2 * 0 + 0 ≤ _; decide) (hb hbytes d36) (⟨rfl, hA.mv X5.warmed.alike hh5, l1, l2, hp⟩)
  obtain ⟨e8, z8⟩ := E8
  obtain ⟨rfl, N, n1, n2, n3, n4, n5, n6⟩ := NewArr.mv _ T5 s _ _ hh5.symm (Vm.Alike.refl _) rfl e8
  rw [hh5] at z8
  have hB1 := hB.keep X8.warmed.alike (n6 _ _ hB.1)
  have hne : s.heap.size ≠ a := (Nat.ne_of_lt (Array.getElem?_eq_some_iff.mp hB.1).1).symm
  have c9 : Steps p.tables e below (s₁.setTop (entryFrame m #[.ref a, .ref b, .int (Int32.ofNat o), .int (Int32.ofNat len), .null] 6)) (T8.setTop (mkF m 39 #[.val (.ref a), .val (.ref b), .val (.int (Int32.ofNat o)), .val (.int (Int32.ofNat len)), .val .null, .unset] [.ref s.heap.size])) := g8
  have c10 : Steps p.tables e below (s₁.setTop (entryFrame m #[.ref a, .ref b, .int (Int32.ofNat o), .int (Int32.ofNat len), .null] 6)) (T8.setTop (mkF m 45 #[.val (.ref a), .val (.ref b), .val (.int (Int32.ofNat o)), .val (.int (Int32.ofNat len)), .val .null, .val (.ref s.heap.size)] [.int (Int32.ofNat N.slots.size), .ref s.heap.size, .ref a])) := by
    have hc : Steps p.tables e below (s₁.setTop (entryFrame m #[.ref a, .ref b, .int (Int32.ofNat o), .int (Int32.ofNat len), .null] 6)) (T8.setTop (mkF m 45 #[.val (.ref a), .val (.ref b), .val (.int (Int32.ofNat o)), .val (.int (Int32.ofNat len)), .val .null, .val (.ref s.heap.size)] [.int (Int32.ofNat len), .ref s.heap.size, .ref a])) := c9.trans (by
      refine XS.astore X8.here hexec rfl (hb hbytes d39) rfl rfl rfl ?_
      refine XS.aloadN X8.here hexec rfl (hb hbytes d41) rfl rfl ?_
      refine XS.aload X8.here hexec rfl (hb hbytes d42) rfl rfl ?_
      refine XS.iloadN X8.here hexec rfl (hb hbytes d44) rfl ?_
      exact Steps.refl _)
    rw [n4]; exact hc
  obtain ⟨v11, T11, X11, E11, g11⟩ := X8.callS hexec (CodL.law l s.heap.size N) hown (wks W (staticW "java/lang/String" 47 CodL.yN)) (wk W CodL.tab) (W := 1) (Nat.le_of_ble_eq_true rfl) (Nat.le_of_ble_eq_true rfl) (Nat.le_refl _) (by show 0 + len + 0 ≤ len; omega) (g := (mkF m 45 #[.val (.ref a), .val (.ref b), .val (.int (Int32.ofNat o)), .val (.int (Int32.ofNat len)), .val .null, .val (.ref s.heap.size)] [.int (Int32.ofNat N.slots.size), .ref s.heap.size, .ref a])) rfl (by rw [hml]; rfl) c10 (argsL := [.ref s.heap.size, .int (Int32.ofNat N.slots.size)]) (rest := [.ref a]) rfl rfl (by show 2 * 0 + (1 + 0) ≤ _; decide) (hb hbytes d45) (⟨rfl, n1⟩)
  obtain ⟨rfl, q11⟩ := E11
  have hB11 := hB1.mv (X8.warmed.alike.symm.trans X11.warmed.alike) q11
  have c12 : Steps p.tables e below (s₁.setTop (entryFrame m #[.ref a, .ref b, .int (Int32.ofNat o), .int (Int32.ofNat len), .null] 6)) (T11.setTop (mkF m 48 #[.val (.ref a), .val (.ref b), .val (.int (Int32.ofNat o)), .val (.int (Int32.ofNat len)), .val .null, .val (.ref s.heap.size)] [.int 0, .ref a])) := g11
  obtain ⟨T13, X13, p13, bl13, sl13, st13⟩ := X11.finit hexec hown (wk W (.fieldLink "java/lang/String" 15 "java/lang/String" "coder" "B")) (Or.inr ⟨_, (wk W (.laysFinal "java/lang/String" "java/lang/String" "coder" "B"))⟩) (Or.inl ⟨rfl, hnm⟩) f2 (Or.inl rfl) hB11 (t := .byte) (by decide +kernel) rfl (g := (mkF m 48 #[.val (.ref a), .val (.ref b), .val (.int (Int32.ofNat o)), .val (.int (Int32.ofNat len)), .val .null, .val (.ref s.heap.size)] [.int 0, .ref a])) rfl (rest := []) rfl (hb hbytes d48)
  have c14 : Steps p.tables e below (s₁.setTop (entryFrame m #[.ref a, .ref b, .int (Int32.ofNat o), .int (Int32.ofNat len), .null] 6)) (T13.setTop (mkF m 54 #[.val (.ref a), .val (.ref b), .val (.int (Int32.ofNat o)), .val (.int (Int32.ofNat len)), .val .null, .val (.ref s.heap.size)] [.ref s.heap.size, .ref a])) := (c12.trans (st13 _ (Steps.refl _))).trans (by
    refine XS.aloadN X13.here hexec rfl (hb hbytes d51) rfl rfl ?_
    refine XS.aload X13.here hexec rfl (hb hbytes d52) rfl rfl ?_
    exact Steps.refl _)
  obtain ⟨T15, X15, p15, bl15, sl15, st15⟩ := X13.finit hexec hown (wk W (.fieldLink "java/lang/String" 9 "java/lang/String" "value" "[B")) (Or.inr ⟨_, (wk W (.laysFinal "java/lang/String" "java/lang/String" "value" "[B"))⟩) (Or.inl ⟨rfl, hnm⟩) f1 (Or.inl rfl) bl13 (t := (.array .byte)) (by decide +kernel) rfl (g := (mkF m 54 #[.val (.ref a), .val (.ref b), .val (.int (Int32.ofNat o)), .val (.int (Int32.ofNat len)), .val .null, .val (.ref s.heap.size)] [.ref s.heap.size, .ref a])) rfl (rest := []) rfl (hb hbytes d54)
  have c16 : Steps p.tables e below (s₁.setTop (entryFrame m #[.ref a, .ref b, .int (Int32.ofNat o), .int (Int32.ofNat len), .null] 6)) (T15.setTop (mkF m 57 #[.val (.ref a), .val (.ref b), .val (.int (Int32.ofNat o)), .val (.int (Int32.ofNat len)), .val .null, .val (.ref s.heap.size)] [])) := c14.trans (st15 _ (Steps.refl _))
  have ap := apart (Or.inr ⟨_, (wk W (.laysFinal "java/lang/String" "java/lang/String" "value" "[B"))⟩) (Or.inr ⟨_, (wk W (.laysFinal "java/lang/String" "java/lang/String" "coder" "B"))⟩) f1 f2 (t₁ := .array .byte) (t₂ := .byte) (by decide +kernel) (by decide +kernel) (by decide)
  have al := X8.warmed.alike.symm.trans X15.warmed.alike
  have n7 : T11.heap[s.heap.size]? = some N := by rw [q11]; exact n1.1
  exact ⟨T15, none, _, _, _, X15, by simp, rfl, by omega, (fun _ => rfl), ⟨rfl, _, N, bl15, ((Same.refl D _).set _ (by simp)).set _ (by simp), sl15, (Cell.slots_setSlot_ne _ ap).trans sl13, n1.keep al (p15.other hne (p13.other hne n7)), n2, by rw [al.findClass]; exact n3, n4, n5, fun y c h1 h2 => p15.other h1 (p13.other h1 (by rw [q11]; exact n6 y c h2)), by rw [p15.2.2, p13.2.2, q11]; exact z8⟩, fun fs hl => c16.trans (X15.returnOut hexec hret (hb hbytes d57) hl)⟩
end New4
namespace New1
def yN : MethodName := ⟨"java/lang/String", "<init>", "([C)V"⟩
abbrev yB : ByteArray := jdk_42_method_3_code
theorem d0 : decode yB 0 = .ok (.aload_n 0, 1) := by decide +kernel
theorem d1 : decode yB 1 = .ok (.aload_n 1, 1) := by decide +kernel
theorem d2 : decode yB 2 = .ok (.iconst 0, 1) := by decide +kernel
theorem d3 : decode yB 3 = .ok (.aload_n 1, 1) := by decide +kernel
theorem d4 : decode yB 4 = .ok (.arraylength, 1) := by decide +kernel
theorem d5 : decode yB 5 = .ok (.aconst_null, 1) := by decide +kernel
theorem d6 : decode yB 6 = .ok (.invokespecial 27, 3) := by decide +kernel
theorem d9 : decode yB 9 = .ok (.return_, 1) := by decide +kernel
def site : List Cond := [New4.tab] ++ initW "java/lang/String" 27 New4.yN
def tab : Cond := tabOf yN yB 2 none site
def P (a : Addr) (D : Cell) (fV fC : Field) (b : Addr) (A : Cell) (z : Int32) (args : Array Value) (s : State) : Prop := args = #[.ref a, .ref b] ∧ Blank "java/lang/String" a D s ∧ Found "java/lang/String" "value" "[B" fV s ∧ Found "java/lang/String" "coder" "B" fC s ∧ Ch b A s ∧ StaticIs s "java/lang/String" "COMPACT_STRINGS" "Z" (.int z) ∧ ¬ z = 0 ∧ 0 < A.slots.size ∧ A.slots.size ≤ 536870912 ∧ ∀ i, i < A.slots.size → ¬ 255 < cv A i
def E (a : Addr) (D : Cell) (fV fC : Field) (A : Cell) (r : Option Value) (s u : State) : Prop := Got a D fV fC A 0 A.slots.size r s u
/-- new String(chars), not empty, no char above 255: a Latin-1 String of their low bytes -/
theorem law (l : Launch) (a : Addr) (D : Cell) (fV fC : Field) (b : Addr) (A : Cell) (z : Int32) : Law l yN 2 1 3 52 yB 2 none site (P a D fV fC b A z) (E a D fV fC A) [⟨a, fC.slot⟩, ⟨a, fV.slot⟩] 1 A.slots.size := by
  refine Law.of_walk (plainFor_of_name (by decide +kernel)) (by decide +kernel) (by decide +kernel) (by decide) (fun _ _ h => by rw [h.1]; rfl) (fun _ U U' hal hh h => ⟨h.1, h.2.1.mv hal hh, h.2.2.1.al hal, h.2.2.2.1.al hal, h.2.2.2.2.1.mv hal hh, h.2.2.2.2.2.1.there hal hh, h.2.2.2.2.2.2⟩) (fun r U U' V V' h1 hal h2 h => Got.mv r U U' V V' h1 hal h2 h) ?_
  intro p e s m args below meth c s₁ X0 hexec hbytes hml hret hlk hnm hown hh0 W hP
  obtain ⟨rfl, hB, f1, f2, hA, s1, hz, l0, l2, hp⟩ := hP
  have c1 : Steps p.tables e below (s₁.setTop (entryFrame m #[.ref a, .ref b] 2)) (s₁.setTop (mkF m 0 #[.val (.ref a), .val (.ref b)] [])) := entry rfl
  have c2 : Steps p.tables e below (s₁.setTop (entryFrame m #[.ref a, .ref b] 2)) (s₁.setTop (mkF m 6 #[.val (.ref a), .val (.ref b)] [.null, .int (Int32.ofNat A.slots.size), .int 0, .ref b, .ref a])) := c1.trans (by
    refine XS.aloadN X0.here hexec rfl (hb hbytes d0) rfl rfl ?_
    refine XS.aloadN X0.here hexec rfl (hb hbytes d1) rfl rfl ?_
    refine iconstV X0.here hexec rfl 0 (hb hbytes d2) (by decide) ?_
    refine XS.aloadN X0.here hexec rfl (hb hbytes d3) rfl rfl ?_
    refine X0.alen hexec (hA.1.mv X0.warmed.alike hh0) rfl rfl (hb hbytes d4) ?_
    refine XS.aconstNull X0.here hexec rfl (hb hbytes d5) ?_
    exact Steps.refl _)
  obtain ⟨v3, T3, X3, E3, g3⟩ := X0.callN hexec (New4.law l a D fV fC b A z 0 A.slots.size) rfl hown (wks W (initW "java/lang/String" 27 New4.yN)) (W New4.tab (by simp only [site, List.mem_cons, List.mem_append, true_or, or_true])) (W := 0) (Nat.le_of_ble_eq_true rfl) (Nat.le_of_ble_eq_true rfl) (Nat.le_refl _) (by show 0 + A.slots.size ≤ A.slots.size; omega) (g := (mkF m 6 #[.val (.ref a), .val (.ref b)] [.null, .int (Int32.ofNat A.slots.size), .int (Int32.ofNat 0), .ref b, .ref a])) rfl (by rw [hml]; rfl) c2 (argsL := [.ref b, .int (Int32.ofNat 0), .int (Int32.ofNat A.slots.size), .null]) (rest := []) rfl rfl (by show 2 * 0 + 0 ≤ _; decide) (hb hbytes d6) (⟨rfl, hB.mv X0.warmed.alike hh0, f1.al X0.warmed.alike, f2.al X0.warmed.alike, hA.mv X0.warmed.alike hh0, s1.there X0.warmed.alike hh0, hz, l0, by omega, l2, fun i hi => by rw [Nat.zero_add]; exact hp i hi⟩)
  have e0 := Got.mv _ s₁ s _ _ hh0.symm (Vm.Alike.refl _) rfl E3
  obtain rfl := e0.1
  have c4 : Steps p.tables e below (s₁.setTop (entryFrame m #[.ref a, .ref b] 2)) (T3.setTop (mkF m 9 #[.val (.ref a), .val (.ref b)] [])) := g3
  exact ⟨T3, none, _, _, _, X3, by simp, rfl, by omega, (fun _ => rfl), e0, fun fs hl => c4.trans (X3.returnOut hexec hret (hb hbytes d9) hl)⟩
theorem pays {l : Launch} {R : Room} {p : Program} {e : Env} {below : List Frame} {s : State} {sargs : Array Value} {len W : Nat} (a : Addr) (D : Cell) (fV fC : Field) (b : Addr) (A : Cell) (z : Int32) (htab : tab.before sargs s = true) (hfr : 4 ≤ R.frames) (hlo : W + 65 ≤ R.locals) :
    Back l R p e below s sargs yN len W (fun A₁ a₁ => A₁.cells + 1 ≤ R.cells ∧ A₁.slots + A.slots.size ≤ R.slots ∧ P a D fV fC b A z a₁ A₁.U) (fun A₁ _ v₁ B₁ => E a D fV fC A v₁ A₁.U B₁.U ∧ B₁.locs = A₁.locs ++ [⟨a, fC.slot⟩, ⟨a, fV.slot⟩] ∧ B₁.cells = A₁.cells + 1 ∧ B₁.slots = A₁.slots + A.slots.size) :=
  (law l a D fV fC b A z).pays htab hfr (by omega)
end New1
end StrChars
namespace StrChars.Road
open Jvm Sem ClassFile Op Lib Jvm.Stand Jvm.Free Jvm.Free.XT
open Jvm.Lib.Cold (StaticIs)
abbrev ST : String := "java/lang/String"
/-- every table word that New1's law asks, flat -/
abbrev words : List Jvm.Cond := [.code New1.yN New1.yB 2 none, .initialized ST, .methodLink ST 27 New4.yN, .instanceMethod New4.yN,
  .code New4.yN New4.yB 6 none, .fieldLink ST 38 ST "COMPACT_STRINGS" "Z", .laysFinal ST ST "value" "[B", .fieldLink ST 9 ST "value" "[B", .laysFinal ST ST "coder" "B", .fieldLink ST 15 ST "coder" "B",
  .methodLink ST 1 Lib.objectInit, .instanceMethod Lib.objectInit, .code Lib.objectInit ⟨#[0xb1]⟩ 1 none, .methodLink ST 177 Cmp3.yN, .static Cmp3.yN, .methodLink ST 47 CodL.yN, .static CodL.yN,
  .code Cmp3.yN Cmp3.yB 6 (some (.array .byte)), .initialized U16, .arrayClass .byte, .methodLink U16 115 Cmp5.yN, .static Cmp5.yN, .code Cmp5.yN Cmp5.yB 7 (some .int), .code CodL.yN CodL.yB 2 (some .byte)]
theorem tab_of {a : Array Value} {s : State} (h : ∀ w ∈ words, w.before a s = true) : New1.tab.before a s = true := by
  have h5 : Cmp5.tab.before a s = true := unparts (wk h (.code Cmp5.yN Cmp5.yB 7 (some .int))) (wks h (.initialized Cmp5.yN.cls :: Cmp5.site))
  have hc : CodL.tab.before a s = true := unparts (wk h (.code CodL.yN CodL.yB 2 (some .byte))) (wks h (.initialized CodL.yN.cls :: CodL.site))
  have q5 : ∀ w ∈ Cmp5.tab :: words, w.before a s = true := fun w hw => (List.mem_cons.mp hw).elim (fun e => e ▸ h5) (h w)
  have h3 : Cmp3.tab.before a s = true := unparts (wk q5 (.code Cmp3.yN Cmp3.yB 6 (some (.array .byte)))) (wks q5 (.initialized Cmp3.yN.cls :: Cmp3.site))
  have q3 : ∀ w ∈ Cmp3.tab :: CodL.tab :: words, w.before a s = true := fun w hw => (List.mem_cons.mp hw).elim (fun e => e ▸ h3) fun hw => (List.mem_cons.mp hw).elim (fun e => e ▸ hc) (h w)
  have h4 : New4.tab.before a s = true := unparts (wk q3 (.code New4.yN New4.yB 6 none)) (wks q3 (.initialized New4.yN.cls :: New4.site))
  have q4 : ∀ w ∈ New4.tab :: words, w.before a s = true := fun w hw => (List.mem_cons.mp hw).elim (fun e => e ▸ h4) (h w)
  exact unparts (wk q4 (.code New1.yN New1.yB 2 none)) (wks q4 (.initialized New1.yN.cls :: New1.site))
/-- the words ride from the start Z to the walk's own state -/
theorem moved {Z s : State} {a0 args : Array Value} (hZ : Z.Warmed39 s.vm) (hw : ∀ d ∈ words, d.before a0 Z = true) : ∀ d ∈ words, d.before args s = true := fun d hd => by
  have q := hw d hd
  have t : ∀ d ∈ words, d = .arrayClass .byte ∨ (d.onTables && d.keepsFace) = true := by decide +kernel
  rcases t d hd with rfl | t
  · exact RoadKit.mvA hZ q
  · exact RoadKit.mv hZ q t
/-- WHAT COMES BACK, over the tables of the start Z: h the heap at the call, h' behind it -/
def Q (Z : State) (x : Addr) (A : Cell) (h : Heap) (v : Option Value) (h' : Heap) (L : List Loc) : Prop := v = none ∧ (∀ y ∈ L, y.base = x) ∧ RoadKit.Keep h h' [x] ∧ h'.size = h.size + 1 ∧ RoadKit.Exa Z h' x ST ∧ RoadKit.Fld Z h' x ST "value" "[B" (.ref h.size) ∧ RoadKit.Fld Z h' x ST "coder" "B" (.int 0) ∧
  (∃ V : Cell, RoadKit.Arr Z h' h.size V .byte ∧ V.vm = .none ∧ Z.vm.findClass "[B" = some V.cls ∧ V.slots.size = A.slots.size ∧ ∀ j, j < A.slots.size → V.slots[j]? = some (.int (lo8 (cv A j)))) ∧
  ∀ (O n d : String) (w : Value), RoadKit.Fld Z h x O n d w → RoadKit.slotOf Z O n d ≠ RoadKit.slotOf Z ST "value" "[B" → RoadKit.slotOf Z O n d ≠ RoadKit.slotOf Z ST "coder" "B" → RoadKit.Fld Z h' x O n d w
/-- **new String(chars) AT A CALL, IN THE ROAD'S FORM**: for specialBack behind newO: x the fresh String, b the char[] with the cell A -/
theorem back {p : Program} {l : Launch} {e : Env} {R : Room} {s : State} {args : Array Value} {below : List Frame} {len W : Nat} {Z : State} {a0 : Array Value} {h : Heap} (hZ : Z.Warmed39 s.vm) (hw : ∀ d ∈ words, d.before a0 Z = true) {kI : Nat} (wi : (Jvm.Cond.instantiable ST kI).before a0 Z = true)
    {x b : Addr} {A : Cell} {z : Int32} {v0 c0 : Value} (E : RoadKit.Exa Z h x ST) (V : RoadKit.Fld Z h x ST "value" "[B" v0) (C : RoadKit.Fld Z h x ST "coder" "B" c0) (K : RoadKit.Arr Z h b A .char) (hty : Typed .char A) (S : RoadKit.Sta Z h ST "COMPACT_STRINGS" "Z" (.int z)) (hz : ¬ z = 0)
    (l0 : 0 < A.slots.size) (l2 : A.slots.size ≤ 536870912) (hp : ∀ i, i < A.slots.size → ¬ 255 < cv A i) (hfr : 4 ≤ R.frames) (hlo : W + 65 ≤ R.locals) :
    Back l R p e below s args New1.yN len W (fun P a => a = #[.ref x, .ref b] ∧ P.U.heap = h ∧ P.cells + 1 ≤ R.cells ∧ P.slots + A.slots.size ≤ R.slots)
      (fun P _ v B => ∃ L, Q Z x A h v B.U.heap L ∧ B.locs = P.locs ++ L ∧ B.cells = P.cells + 1 ∧ B.slots = P.slots + A.slots.size) := by
  intro m meth c P g ig mk a X hg hsize hdg hW hn hp'
  obtain ⟨rfl, rfl, r1, r2⟩ := hp'
  have al : Z.vm.Alike P.U.vm := hZ.alike.trans X.warmed.alike
  obtain ⟨D, cfV, kV, iV, fV, hD, gV, stV, knV, obV, asV, slV⟩ := id V
  obtain ⟨D', cfC, kC, iC, fC, hD', gC, stC, -, -, asC, slC⟩ := id C
  cases hD.symm.trans hD'
  obtain ⟨D2, kD, e1, e2, e3, e4, e5⟩ := id E
  cases hD.symm.trans e1
  obtain ⟨c2, k2, i1, i2, i3, -⟩ := Cond.instantiable_spec wi
  cases e2.symm.trans i1
  cases e3.symm.trans i2
  obtain ⟨kU, u1, u2⟩ := al.2.2 _ _ e3
  have hB : Blank ST x D P.U := ⟨hD, ⟨knV, fun q hq => by rw [hq] at obV; cases obV⟩, by rw [al.findClass]; exact e2, kU, u1, by rw [u2]; exact i3, by rw [u2]; exact e5 i3⟩
  have F1 : Found ST "value" "[B" fV P.U := ⟨SBG.found_only al ⟨cfV, kV, iV, gV⟩, stV⟩
  have F2 : Found ST "coder" "B" fC P.U := ⟨SBG.found_only al ⟨cfC, kC, iC, gC⟩, stC⟩
  have hA : Ch b A P.U := ⟨⟨K.1, State.isArrayOf_alike al K.2.1, K.2.2, by omega⟩, hty⟩
  have hS : StaticIs P.U ST "COMPACT_STRINGS" "Z" (.int z) := by
    obtain ⟨cfS, iS, kS, fS, st, cS, t1, t2, t3, t4, t5, t6, t7⟩ := S
    exact StaticIs.there (s := { Z with heap := P.U.heap }) ⟨cfS, iS, kS, fS, st, cS, t1, t2, t3, t4, t5, (fun q => by rw [q] at t6; cases t6), t7⟩ al rfl
  obtain ⟨v, B, X', ⟨⟨hv, E', V', q1, q2, q3, q4, q5, q6, q7, q8, q9, q10, q11⟩, hl, hc, hs⟩, st⟩ := New1.pays x D fV fC b A z (tab_of (moved hZ hw)) hfr hlo m meth c P g ig mk _ X hg hsize hdg hW hn ⟨r1, r2, rfl, hB, F1, F2, hA, hS, hz, l0, l2, hp⟩
  have al' : Z.vm.Alike B.U.vm := hZ.alike.trans X'.warmed.alike
  have hsz : E'.slots.size = D.slots.size := by
    obtain ⟨-, -, -, kB, w1, w2, w3⟩ := q1
    obtain ⟨kB', y1, y2⟩ := al'.2.2 _ _ e3
    rw [q2.2.1] at w1
    cases w1.symm.trans y1
    rw [w3, e5 i3, y2]
  refine ⟨v, B, X', ⟨_, ⟨hv, ?_, ⟨by omega, fun y cy hy hn' => q10 y cy (by simpa using hn') hy, fun y cy hy => ?_⟩, q11, ⟨E', _, q1.1, by rw [q2.2.1]; exact e2, by rw [q2.2.1]; exact e3, by rw [q2.1]; exact obV, fun _ => by rw [hsz]; exact e5 i3⟩,
    ⟨E', cfV, kV, iV, fV, q1.1, gV, stV, by rw [q2.1]; exact knV, by rw [q2.1]; exact obV, by rw [q2.2.1]; exact asV, q3⟩, ⟨E', cfC, kC, iC, fC, q1.1, gC, stC, by rw [q2.1]; exact knV, by rw [q2.1]; exact obV, by rw [q2.2.1]; exact asC, q4⟩,
    ⟨V', ⟨q5.1, State.isArrayOf_alike al'.symm q5.2.1, q5.2.2.1⟩, q6, by rw [← al'.findClass]; exact q7, q8, fun j hj => by have := q9 j hj; rwa [Nat.zero_add] at this⟩, fun O n d w F n1 n2 => ?_⟩, hl, hc, hs⟩, st⟩
  · intro y hy
    simp only [List.mem_cons, List.not_mem_nil, or_false] at hy
    rcases hy with rfl | rfl <;> rfl
  · by_cases q : y = x
    · subst q
      cases hD.symm.trans hy
      exact ⟨E', q1.1, q2.2.1, q2.1, hsz⟩
    · exact ⟨cy, q10 y cy q hy, rfl, rfl, rfl⟩
  · obtain ⟨D3, cf, k, i, f, g1, g2, g3, g4, g5, g6, g7⟩ := F
    cases hD.symm.trans g1
    simp only [RoadKit.slotOf, g2, gV, gC, Option.map_some, Option.getD_some] at n1 n2
    exact ⟨E', cf, k, i, f, q1.1, g2, g3, by rw [q2.1]; exact g4, by rw [q2.1]; exact g5, by rw [q2.2.1]; exact g6, by rw [q2.2.2 f.slot (by simp [n1, n2])]; exact g7⟩
end StrChars.Road
namespace StrChars.Road
open Jvm Sem ClassFile Op Lib Jvm.Stand Jvm.Free Jvm.Free.XT
/-- WHAT COMES BACK, the byte[] as a list of values -/
def QA (Z : State) (x : Addr) (zn : Int32) (cs : List Int32) (h : Heap) (v : Option Value) (h' : Heap) (L : List Loc) : Prop := v = none ∧ (∀ y ∈ L, y.base = x) ∧ RoadKit.Keep h h' [x] ∧ h'.size = h.size + 1 ∧ RoadKit.Exa Z h' x ST ∧ RoadKit.Fld Z h' x ST "value" "[B" (.ref h.size) ∧ RoadKit.Fld Z h' x ST "coder" "B" (.int 0) ∧
  (∃ kb, Z.vm.findClass "[B" = some kb ∧ RoadKit.Arv Z h' h.size kb .byte zn (cs.map fun c => .int (lo8 c)) (.int 0)) ∧
  ∀ (O n d : String) (w : Value), RoadKit.Fld Z h x O n d w → RoadKit.slotOf Z O n d ≠ RoadKit.slotOf Z ST "value" "[B" → RoadKit.slotOf Z O n d ≠ RoadKit.slotOf Z ST "coder" "B" → RoadKit.Fld Z h' x O n d w
/-- **new String(chars) AT A CALL, THE ARRAYS AS LISTS**: the char[] at b holds cs, not empty, no char above 255 -/
theorem backArv {p : Program} {l : Launch} {e : Env} {R : Room} {s : State} {args : Array Value} {below : List Frame} {len W : Nat} {Z : State} {a0 : Array Value} {h : Heap} (hZ : Z.Warmed39 s.vm) (hw : ∀ d ∈ words, d.before a0 Z = true) {kI : Nat} (wi : (Jvm.Cond.instantiable ST kI).before a0 Z = true)
    {x b : Addr} {k : ClassId} {zn z : Int32} {cs : List Int32} {dv v0 c0 : Value} (E : RoadKit.Exa Z h x ST) (V : RoadKit.Fld Z h x ST "value" "[B" v0) (C : RoadKit.Fld Z h x ST "coder" "B" c0) (K : RoadKit.Arv Z h b k .char zn (cs.map Value.int) dv) (S : RoadKit.Sta Z h ST "COMPACT_STRINGS" "Z" (.int z)) (hz : ¬ z = 0)
    (hlen : zn.toNatClampNeg = cs.length) (h0 : 0 < cs.length) (hbig : cs.length ≤ 536870912) (hall : ∀ c ∈ cs, ¬ 255 < c) (hfr : 4 ≤ R.frames) (hlo : W + 65 ≤ R.locals) :
    Back l R p e below s args New1.yN len W (fun P a => a = #[.ref x, .ref b] ∧ P.U.heap = h ∧ P.cells + 1 ≤ R.cells ∧ P.slots + cs.length ≤ R.slots)
      (fun P _ v B => ∃ L, QA Z x zn cs h v B.U.heap L ∧ B.locs = P.locs ++ L ∧ B.cells = P.cells + 1 ∧ B.slots = P.slots + cs.length) := by
  obtain ⟨A, K1, K2, K3, K4, K5, K6⟩ := K
  have e : A.slots.size = cs.length := K3.trans hlen
  have hat : ∀ (i : Nat) (hi : i < cs.length), A.slots[i]? = some (.int cs[i]) := fun i hi => by rw [K5 i (by omega)]; simp [List.getD_eq_getElem?_getD, hi]
  have hcv : ∀ (i : Nat) (hi : i < cs.length), cv A i = cs[i] := fun i hi => by unfold cv; rw [hat i hi]
  have hty : Typed .char A := fun i v hv => by
    have hi : i < A.slots.size := (Array.getElem?_eq_some_iff.mp hv).1
    have q := K5 i hi
    rw [hv] at q
    rw [Option.some.inj q]
    exact K6 i hi
  refine Back.mono (back hZ hw wi E V C K1 hty S hz (by omega) (by omega) (fun i hi => by rw [hcv i (by omega)]; exact hall _ (List.getElem_mem _)) hfr hlo) (fun P a hp => ⟨hp.1, hp.2.1, hp.2.2.1, by rw [e]; exact hp.2.2.2⟩) (fun P a v B hp hq => ?_)
  obtain ⟨L, ⟨q1, q2, q3, q4, q5, q6, q7, ⟨V', v1, v2, v3, v4, v5⟩, q9⟩, hl, hc, hs⟩ := hq
  refine ⟨L, ⟨q1, q2, q3, q4, q5, q6, q7, ⟨V'.cls, v3, V', v1, rfl, by rw [v4, e, hlen], K4, fun i hi => ?_, fun i hi => ?_⟩, q9⟩, hl, hc, by rw [hs, e]⟩
  · have hi' : i < cs.length := by omega
    rw [v5 i (by omega), hcv i hi']; simp [List.getD_eq_getElem?_getD, hi']
  · have hi' : i < cs.length := by omega
    simp only [List.getD_eq_getElem?_getD, List.getElem?_map, List.getElem?_eq_getElem hi', Option.map_some, Option.getD_some]
    exact fits_lo8 _
end StrChars.Road
namespace StrChars.Road
open Jvm Sem ClassFile Op Lib Jvm.Stand Jvm.Free Jvm.Free.XT
/-- WHAT COMES BACK, in the writer's own shape -/
def QV (Z : State) (x : Addr) (N : Int32) (bs : List Int32) (h : Heap) (n0 : Nat) (v : Option Value) (h' : Heap) (L : List Loc) : Prop := v = none ∧ RoadKit.Fr n0 L ∧ RoadKit.Keep h h' [x] ∧ RoadKit.Exa Z h' x ST ∧ RoadKit.Fld Z h' x ST "coder" "B" (.int 0) ∧
  ∃ (t : Addr) (kb : ClassId), n0 ≤ t ∧ h.size ≤ t ∧ ¬ t = x ∧ RoadKit.Fld Z h' x ST "value" "[B" (.ref t) ∧ RoadKit.Arv Z h' t kb .byte N (bs.map Value.int) (.int 0)
/-- **new String(chars) AT A CALL, FOR THE WRITER**: a char[] of n known ints, each 0 to 255 -/
theorem backV {p : Program} {l : Launch} {e : Env} {R : Room} {s : State} {args : Array Value} {below : List Frame} {len W : Nat} {Z : State} {a0 : Array Value} {h : Heap} (hZ : Z.Warmed39 s.vm) (hw : ∀ d ∈ words, d.before a0 Z = true) {kI : Nat} (wi : (Jvm.Cond.instantiable ST kI).before a0 Z = true)
    {x b : Addr} {kC : ClassId} {cs bs : List Int32} {d v0 c0 : Value} {z N : Int32} {n n0 : Nat} (hx0 : n0 ≤ x) (hh0 : n0 ≤ h.size) (E : RoadKit.Exa Z h x ST) (V : RoadKit.Fld Z h x ST "value" "[B" v0) (C : RoadKit.Fld Z h x ST "coder" "B" c0) (K : RoadKit.Arv Z h b kC .char N (cs.map Value.int) d) (S : RoadKit.Sta Z h ST "COMPACT_STRINGS" "Z" (.int z)) (hz : ¬ z = 0)
    (hn : cs.length = n) (hN : N = Int32.ofNat n) (l0 : 0 < n) (l2 : n ≤ 4000) (hp : ∀ c ∈ cs, ¬ c < 0 ∧ ¬ (255 : Int32) < c) (hb : bs = cs.map (fun c => c.toInt8.toInt32)) (hfr : 4 ≤ R.frames) (hlo : W + 65 ≤ R.locals) :
    Back l R p e below s args (⟨"java/lang/String", "<init>", "([C)V"⟩ : MethodName) len W (fun P a => a = #[.ref x, .ref b] ∧ P.U.heap = h ∧ P.cells + 1 ≤ R.cells ∧ P.slots + n ≤ R.slots)
      (fun P _ v B => ∃ L, QV Z x N bs h n0 v B.U.heap L ∧ B.locs = P.locs ++ L ∧ B.cells = P.cells + 1 ∧ B.slots = P.slots + n) := by
  subst hn hN hb
  refine Back.mono (backArv hZ hw wi E V C K S hz (n32 (by omega)) l0 (by omega) (fun c hc => (hp c hc).2) hfr hlo) (fun P a hp => hp) (fun P a v B hp hq => ?_)
  obtain ⟨L, ⟨q1, q2, q3, q4, q5, q6, q7, ⟨kb, v1, v2⟩, q9⟩, hl, hc, hs⟩ := hq
  exact ⟨L, ⟨q1, fun y hy => by rw [q2 y hy]; exact hx0, q3, q5, q7, h.size, kb, hh0, Nat.le_refl _, Nat.ne_of_gt E.lt, q6, by rw [List.map_map]; exact v2⟩, hl, hc, hs⟩
end StrChars.Road
end Jvm.Pilot.@@N@@

namespace Jvm.Pilot.@@N@@
open Jvm Jvm.ClassFile Sem Op Lib Jvm.Free Jvm.Stand Jvm.LawKit Jvm.RoadKit Bundle Jvm.Pilot.@@N@@.Jvm.D
theorem own_ch (x : Int32) : ¬ (nar .char ((x &&& (255 : Int32)).toUInt32.toUInt16.toUInt32.toInt32)) < 0 ∧ ¬ (255 : Int32) < (nar .char ((x &&& (255 : Int32)).toUInt32.toUInt16.toUInt32.toInt32)) := by
  have e1 : nar .char ((x &&& (255 : Int32)).toUInt32.toUInt16.toUInt32.toInt32) = x &&& 255 := by
    rw [i2c_mask]; exact i2c_mask x
  have e : (x &&& (255 : Int32)).toInt = x.toInt % 2 ^ 8 := Jvm.Kit.i32_mask x 255 (k := 8) (by decide) (by decide)
  have h1 := Int.emod_nonneg x.toInt (show (2 ^ 8 : Int) ≠ 0 by decide)
  have h2 := Int.emod_lt_of_pos x.toInt (show (0 : Int) < 2 ^ 8 by decide)
  have e0 : (0 : Int32).toInt = 0 := rfl
  have e255 : (255 : Int32).toInt = 255 := rfl
  rw [e1, Int32.lt_iff_toInt_lt, Int32.lt_iff_toInt_lt, e, e0, e255]; omega
theorem own_ch2 (x : Int32) : ¬ (255 : Int32) < ((x &&& (255 : Int32)).toUInt32.toUInt16.toUInt32.toInt32) := by
  have h := (own_ch x).2
  have e1 : nar .char ((x &&& (255 : Int32)).toUInt32.toUInt16.toUInt32.toInt32) = x &&& 255 := by
    rw [i2c_mask]; exact i2c_mask x
  rw [i2c_mask]; rw [e1] at h; exact h
theorem own_backOfI {p : Program} {l : Launch} {e : Env} {R : Room} {s : State} {args : Array Value} {below : List Frame} {Z : State} {a0 : Array Value} {h : Heap} {y : MethodName} {bytes : ByteArray} {maxL : Nat} {ret : Option FieldType} {rm : Room} {len W : Nat} {as' : Array Value} {Q : Option Value → Heap → List Loc → Prop}
    (hM : MetFree l y (head1 [Jvm.Cond.code y bytes maxL ret] rm) (fun a U => a = as' ∧ Z.Warmed39 U.vm ∧ U.heap = h ∧ IB Z U.vm []) (fun _ _ _ _ _ => True) (fun _ U o U' => ∃ v L, o = .returned v ∧ Q v U'.heap L ∧ ReturnedEndW U o U' L rm.cells rm.slots))
    (hZ : Z.Warmed39 s.vm) (hI : IB Z s.vm []) (wc : (Jvm.Cond.code y bytes maxL ret).before a0 Z = true) (wz : (Jvm.Cond.initialized y.cls).before a0 Z = true) (hf : rm.frames + 1 ≤ R.frames) (hl : W + (maxL + 11) + rm.locals ≤ R.locals) :
    BackS l R p e below s args y len W (fun A a => a = as' ∧ A.U.heap = h ∧ A.cells + rm.cells ≤ R.cells ∧ A.slots + rm.slots ≤ R.slots)
      (fun A _ v B => ∃ L, Q v B.U.heap L ∧ B.locs = A.locs ++ L ∧ B.cells = A.cells + rm.cells ∧ B.slots = A.slots + rm.slots) := by
  refine BackS.of_freeW (bytes := bytes) (maxL := maxL) (ret := ret) (E := fun _ _ o t L k n => k = rm.cells ∧ n = rm.slots ∧ ∃ v, o = .returned v ∧ Q v t.heap L) hM hf hl ?_ ?_ ?_ ?_ ?_
  · intro m meth c A a Y hp
    have hU : Z.Warmed39 A.U.vm := wtrans hZ Y.warmed
    refine ⟨?_, mv hU wc, mv hU wz, hp.2.2.1, hp.2.2.2⟩
    show (Jvm.Cond.and _ .tt).before a A.U = true
    rw [Cond.before_and, mv hU wc]; rfl
  · intro m meth c A a g mk Y hp
    obtain ⟨more, e1, e2⟩ := hI
    exact ⟨hp.1, wtrans hZ Y.warmed, hp.2.1, more, (by rw [← e1]; exact Y.warmed.interned_eq), e2⟩
  · intros; trivial
  · rintro _ _ _ _ ⟨v, L, h1, h2, h3⟩
    exact ⟨L, _, _, h3, rfl, rfl, v, h1, h2⟩
  · rintro m meth c A a g mk v t L k n Y hp _ _ ⟨e1, e2, v', e3, e4⟩
    cases e3; subst e1 e2
    exact ⟨L, e4, rfl, rfl, rfl⟩
theorem d2_0 : decode jdk_42_method_149_code 0 = .ok (.aload_n 0, 1) := by decide +kernel
theorem d2_1 : decode jdk_42_method_149_code 1 = .ok (.invokespecial 1, 3) := by decide +kernel
theorem d2_4 : decode jdk_42_method_149_code 4 = .ok (.iload_n 3, 1) := by decide +kernel
theorem d2_5 : decode jdk_42_method_149_code 5 = .ok (.ifCond .ne 22, 3) := by decide +kernel
theorem d2_8 : decode jdk_42_method_149_code 8 = .ok (.aload_n 0, 1) := by decide +kernel
theorem d2_9 : decode jdk_42_method_149_code 9 = .ok (.ldc 7, 2) := by decide +kernel
theorem d2_11 : decode jdk_42_method_149_code 11 = .ok (.getfield 9, 3) := by decide +kernel
theorem d2_14 : decode jdk_42_method_149_code 14 = .ok (.putfield 9, 3) := by decide +kernel
theorem d2_17 : decode jdk_42_method_149_code 17 = .ok (.aload_n 0, 1) := by decide +kernel
theorem d2_18 : decode jdk_42_method_149_code 18 = .ok (.ldc 7, 2) := by decide +kernel
theorem d2_20 : decode jdk_42_method_149_code 20 = .ok (.getfield 15, 3) := by decide +kernel
theorem d2_23 : decode jdk_42_method_149_code 23 = .ok (.putfield 15, 3) := by decide +kernel
theorem d2_26 : decode jdk_42_method_149_code 26 = .ok (.return_, 1) := by decide +kernel
theorem pn_0 : plainName "java/lang/String" = true := by first | (simp [plainName, overriddenIn]; done) | decide +kernel
theorem ef_2_rm_emp4 (m : MethodId) (x0 : Addr) (x1 : Addr) (x2 : Int32) (x3 : Int32) : entryFrame m #[(.ref x0), (.ref x1), (.int x2), (.int x3), .null] 6 = mkF m 0 #[.val (.ref x0), .val (.ref x1), .val (.int x2), .val (.int x3), .val .null, .unset] [] := by first | (simp [entryFrame, mkF, argsToLocals, Value.category]; done) | rfl
def Q_rm_emp4 (Z : State) (a0x : Addr) (a1x : Addr) (p1 : Int32) (p2 : Int32) (h0 : Heap) (n0 : Nat) (v : Option Value) (h : Heap) (L : List Loc) : Prop := v = none ∧ Fr n0 L ∧ Keep h0 h [a0x]
set_option maxRecDepth 65536 in
set_option maxHeartbeats 40000000 in
theorem rm_emp4 (l : Launch) (Z : State) (a0 : Array Value) (hw : ∀ d ∈ tables_1, d.before a0 Z = true) (ws : List Jvm.Cond) (a0x : Addr) (a1x : Addr) (p1 : Int32) (p2 : Int32) (h0 : Heap) (n0 : Nat) (Z0 : n0 ≤ h0.size) (X00 : Old Z n0 h0) (E0x : Exa Z h0 a0x "java/lang/String") (g0x : n0 ≤ a0x) (F0x : Fld Z h0 a0x "java/lang/String" "value" "[B" .null) (F1x : Fld Z h0 a0x "java/lang/String" "coder" "B" (.int (0 : Int32))) (Hc7 : Jvm.Lit.constHeld Z "java/lang/String" 7) (hcw : Jvm.Lit.compactW.before a0 Z = true) (hz : p2 = (0 : Int32)) :
    MetFree l (⟨"java/lang/String", "<init>", "([CIILjava/lang/Void;)V"⟩ : MethodName) (head1 (Jvm.Cond.code (⟨"java/lang/String", "<init>", "([CIILjava/lang/Void;)V"⟩ : MethodName) jdk_42_method_149_code 6 none :: ws) ({ frames := 1, cells := 2, slots := 4, locals := 12 } : Room)) (fun a U => a = #[(.ref a0x), (.ref a1x), (.int p1), (.int p2), .null] ∧ Z.Warmed39 U.vm ∧ U.heap = h0 ∧ IB Z U.vm []) (fun _ _ _ _ _ => True) (fun _ U o U' => ∃ v L, o = .returned v ∧ Q_rm_emp4 Z a0x a1x p1 p2 h0 n0 v U'.heap L ∧ ReturnedEndW U o U' L ({ frames := 1, cells := 2, slots := 4, locals := 12 } : Room).cells ({ frames := 1, cells := 2, slots := 4, locals := 12 } : Room).slots) := by
  refine MetFree.of_bodySF (plainFor_of_name pn_0) hisR ?_
  intro p e s m args below meth c s₁ Bd hml0 hP hK
  obtain ⟨rfl, hZ, hh, hI0⟩ := hP
  have hx := Bd.exec
  have hby := Bd.bytes
  have hml : c.maxLocals = 6 := hml0
  have hown : s.vm.findClass "java/lang/String" = some m.cls := findClass_of_methodNamed Bd.named
  have hnm := (name_of_methodNamed Bd.named Bd.method).1
  have X0 : Stand p l e ({ frames := 1, cells := 2, slots := 4, locals := 12 } : Room) (s.setVm s.vm) m #[(.ref a0x), (.ref a1x), (.int p1), (.int p2), .null] below meth c s₁ [] 0 0 := Stand.of_body Bd
  have e0 : s₁.heap = h0 := by rw [← hh, Bd.state]; rfl
  have N0 := Fr.nil n0
  have hS0 : s.Since s.vm s.heap.size := (State.WarmedH.refl s).since _
  have hk0 : s.heap.size ≤ h0.size := Nat.le_of_eq (congrArg Array.size hh)
  have wS : ∀ a ∈ Bundle.stringAtoms, a.before a0 Z = true := by
    intro a ha
    simp only [Bundle.stringAtoms, List.mem_cons, List.not_mem_nil, or_false] at ha
    rcases ha with rfl | rfl | rfl | rfl | rfl | rfl | rfl <;> first | exact hw _ (List.mem_of_getElem? (i := 3) rfl) | exact hw _ (List.mem_of_getElem? (i := 2) rfl) | exact hw _ (List.mem_of_getElem? (i := 19) rfl) | exact hw _ (List.mem_of_getElem? (i := 29) rfl) | exact hw _ (List.mem_of_getElem? (i := 27) rfl) | exact hw _ (List.mem_of_getElem? (i := 32) rfl) | exact hw _ (List.mem_of_getElem? (i := 33) rfl)
  have K0 : Keep h0 h0 [a0x] := Keep.refl h0 [a0x]
  have pre0 : ∀ t, Steps p.tables e below (s₁.setTop (mkF m 0 #[.val (.ref a0x), .val (.ref a1x), .val (.int p1), .val (.int p2), .val .null, .unset] [])) t → Steps p.tables e below (s₁.setTop (entryFrame m #[(.ref a0x), (.ref a1x), (.int p1), (.int p2), .null] 6)) t := fun t k => castTop (ef_2_rm_emp4 m a0x a1x p1 p2) k
  obtain ⟨T1, X1, e1, st1⟩ := initO X0 hx hZ hown (hw _ (List.mem_of_getElem? (i := 11) rfl)) (hw _ (List.mem_of_getElem? (i := 12) rfl)) (hw _ (List.mem_of_getElem? (i := 13) rfl)) e0 (g := (mkF m 1 #[.val (.ref a0x), .val (.ref a1x), .val (.int p1), .val (.int p2), .val .null, .unset] [(.ref a0x)])) rfl (by rw [hml]; rfl) rfl (hb hby d2_1) (by decide) (W := 0) (by show 2 * 0 + _ ≤ _; exact Nat.le_of_eq rfl) (by decide)
  obtain ⟨ax2, T2, h2, kk2, bb2, kb2, X2, e2, E2, hS2, hk2, hZ2, hown2, Ex2, Fc2, Fv2, Vb2, -, -, -, Li2, st2⟩ := ldcSVL X1 hx hZ hown (hw _ (List.mem_of_getElem? (i := 31) rfl)) wS e1 hS0 hk0 (Fr.nil _) (fun b cl q => by rw [hh]; exact X00.2.2 b cl q) hI0 (by simp) Hc7 hcw (vs := []) (z := 0) ⟨by decide, by decide⟩ (by decide) (by decide) (g := (mkF m 9 #[.val (.ref a0x), .val (.ref a1x), .val (.int p1), .val (.int p2), .val .null, .unset] [(.ref a0x)])) rfl (hb hby d2_9) (n := 0) (by decide) (by decide) (by decide) (by decide)
  have E0x_2 : Exa Z h2 a0x "java/lang/String" := E0x.ext E2
  have F0x_2 : Fld Z h2 a0x "java/lang/String" "value" "[B" .null := F0x.ext E2
  have F1x_2 : Fld Z h2 a0x "java/lang/String" "coder" "B" (.int (0 : Int32)) := F1x.ext E2
  have Z2 : n0 ≤ h2.size := Nat.le_trans Z0 E2.1
  have K2 : Keep h0 h2 [a0x] := K0.ext E2
  have ne_a0x_ax2 : a0x ≠ ax2 := Fld.ne F0x_2 Fv2 (fun q => nomatch q)
  obtain ⟨T3, X3, e3, st3⟩ := getF X2 hx hZ2 hown2 (host := "") (Or.inl (hw _ (List.mem_of_getElem? (i := 28) rfl))) Via.refl e2 Fv2 (g := (mkF m 11 #[.val (.ref a0x), .val (.ref a1x), .val (.int p1), .val (.int p2), .val .null, .unset] [(.ref ax2), (.ref a0x)])) rfl rfl (hb hby d2_11)
  obtain ⟨T4, h4, X4, e4, W4, st4⟩ := putF X3 hx hZ2 hown2 (host := "") (Or.inl (hw _ (List.mem_of_getElem? (i := 28) rfl))) Via.refl e3 F0x_2 E0x_2 (Or.inr ⟨(hw _ (List.mem_of_getElem? (i := 29) rfl)), rfl, hnm⟩) (hw _ (List.mem_of_getElem? (i := 2) rfl)) (ty := (.array .byte)) (by decide) rfl rfl (g := (mkF m 14 #[.val (.ref a0x), .val (.ref a1x), .val (.int p1), .val (.int p2), .val .null, .unset] [(.ref bb2), (.ref a0x)])) rfl rfl (hb hby d2_14)
  have N4 := Fr.snoc X4 N0 g0x
  have Fw4 : Fld Z h4 a0x "java/lang/String" "value" "[B" (.ref bb2) := F0x_2.same W4
  have E0x_4 : Exa Z h4 a0x "java/lang/String" := E0x_2.wr W4
  have F1x_4 : Fld Z h4 a0x "java/lang/String" "coder" "B" (.int (0 : Int32)) := F1x_2.other W4 (Or.inr (slot_ne (Or.inr (hw _ (List.mem_of_getElem? (i := 27) rfl))) (Or.inr (hw _ (List.mem_of_getElem? (i := 29) rfl))) (by decide) (t := .byte) (t' := (.array .byte)) (by decide) (by decide)))
  have Ex2_4 : Exa Z h4 ax2 "java/lang/String" := Ex2.wr W4
  have Fc2_4 : Fld Z h4 ax2 "java/lang/String" "coder" "B" (.int (0 : Int32)) := Fc2.other W4 (Or.inl (Ne.symm ne_a0x_ax2))
  have Fv2_4 : Fld Z h4 ax2 "java/lang/String" "value" "[B" (.ref bb2) := Fv2.other W4 (Or.inl (Ne.symm ne_a0x_ax2))
  have hk4' : _ ≤ h4.size := Nat.le_trans hk2 (Keep.of_wr W4).1
  have Z4 : n0 ≤ h4.size := Nat.le_trans Z2 (Keep.of_wr W4).1
  have K4 : Keep h0 h4 [a0x] := K2.wr W4 (Or.inl (List.mem_of_getElem? (i := 0) rfl))
  obtain ⟨T6, X6, e6, st6⟩ := getF X4 hx hZ2 hown2 (host := "") (Or.inl (hw _ (List.mem_of_getElem? (i := 26) rfl))) Via.refl e4 Fc2_4 (g := (mkF m 20 #[.val (.ref a0x), .val (.ref a1x), .val (.int p1), .val (.int p2), .val .null, .unset] [(.ref ax2), (.ref a0x)])) rfl rfl (hb hby d2_20)
  obtain ⟨T7, h7, X7, e7, W7, st7⟩ := putFN X6 hx hZ2 hown2 (hw _ (List.mem_of_getElem? (i := 26) rfl)) Via.refl e6 F1x_4 E0x_4 (Or.inr ⟨(hw _ (List.mem_of_getElem? (i := 27) rfl)), rfl, hnm⟩) (hw _ (List.mem_of_getElem? (i := 2) rfl)) (ty := .byte) (v' := (.int (0 : Int32).toInt8.toInt32)) (by decide) rfl (fits_nar_byte _) (g := (mkF m 23 #[.val (.ref a0x), .val (.ref a1x), .val (.int p1), .val (.int p2), .val .null, .unset] [(.int (0 : Int32)), (.ref a0x)])) rfl rfl (hb hby d2_23)
  have N7 := Fr.snoc X7 N4 g0x
  have Fw7 : Fld Z h7 a0x "java/lang/String" "coder" "B" (.int (0 : Int32).toInt8.toInt32) := F1x_4.same W7
  have E0x_7 : Exa Z h7 a0x "java/lang/String" := E0x_4.wr W7
  have Ex2_7 : Exa Z h7 ax2 "java/lang/String" := Ex2_4.wr W7
  have Fc2_7 : Fld Z h7 ax2 "java/lang/String" "coder" "B" (.int (0 : Int32)) := Fc2_4.other W7 (Or.inl (Ne.symm ne_a0x_ax2))
  have Fv2_7 : Fld Z h7 ax2 "java/lang/String" "value" "[B" (.ref bb2) := Fv2_4.other W7 (Or.inl (Ne.symm ne_a0x_ax2))
  have Fw4_7 : Fld Z h7 a0x "java/lang/String" "value" "[B" (.ref bb2) := Fw4.other W7 (Or.inr (slot_ne (Or.inr (hw _ (List.mem_of_getElem? (i := 29) rfl))) (Or.inr (hw _ (List.mem_of_getElem? (i := 27) rfl))) (by decide) (t := (.array .byte)) (t' := .byte) (by decide) (by decide)))
  have hk7' : _ ≤ h7.size := Nat.le_trans hk4' (Keep.of_wr W7).1
  have Z7 : n0 ≤ h7.size := Nat.le_trans Z4 (Keep.of_wr W7).1
  have K7 : Keep h0 h7 [a0x] := K4.wr W7 (Or.inl (List.mem_of_getElem? (i := 0) rfl))
  obtain ⟨fs, hr, hrun, hended, hREW⟩ := X7.leaveW hS2 (by first | exact hk7' | (rw [e7]; exact hk7')) (v := none) (fun _ => rfl)
  refine ⟨_, _, pre0 _ ?_, hrun, hended, _, _, rfl, ?_, hREW.1, hREW.2.1, hREW.2.2.1, hREW.2.2.2.mono (by decide) (by decide)⟩
  · show Steps p.tables e below (s₁.setTop (mkF m 0 #[.val (.ref a0x), .val (.ref a1x), .val (.int p1), .val (.int p2), .val .null, .unset] [])) _
    refine XS.aloadN X0.here hx rfl (hb hby d2_0) rfl rfl ?_
    show Steps p.tables e below (s₁.setTop (mkF m 1 #[.val (.ref a0x), .val (.ref a1x), .val (.int p1), .val (.int p2), .val .null, .unset] [(.ref a0x)])) _
    refine st1 _ ?_
    show Steps p.tables e below (T1.setTop (mkF m 4 #[.val (.ref a0x), .val (.ref a1x), .val (.int p1), .val (.int p2), .val .null, .unset] [])) _
    refine XS.iloadN X1.here hx rfl (hb hby d2_4) rfl ?_
    show Steps p.tables e below (T1.setTop (mkF m 5 #[.val (.ref a0x), .val (.ref a1x), .val (.int p1), .val (.int p2), .val .null, .unset] [(.int p2)])) _
    refine XS.ifNo X1.here hx rfl (hb hby d2_5) rfl ((if0 _ _).trans (teq hz).2) ?_
    show Steps p.tables e below (T1.setTop (mkF m 8 #[.val (.ref a0x), .val (.ref a1x), .val (.int p1), .val (.int p2), .val .null, .unset] [])) _
    refine XS.aloadN X1.here hx rfl (hb hby d2_8) rfl rfl ?_
    show Steps p.tables e below (T1.setTop (mkF m 9 #[.val (.ref a0x), .val (.ref a1x), .val (.int p1), .val (.int p2), .val .null, .unset] [(.ref a0x)])) _
    refine st2 _ ?_
    show Steps p.tables e below (T2.setTop (mkF m 11 #[.val (.ref a0x), .val (.ref a1x), .val (.int p1), .val (.int p2), .val .null, .unset] [(.ref ax2), (.ref a0x)])) _
    refine st3 _ ?_
    show Steps p.tables e below (T3.setTop (mkF m 14 #[.val (.ref a0x), .val (.ref a1x), .val (.int p1), .val (.int p2), .val .null, .unset] [(.ref bb2), (.ref a0x)])) _
    refine st4 _ ?_
    show Steps p.tables e below (T4.setTop (mkF m 17 #[.val (.ref a0x), .val (.ref a1x), .val (.int p1), .val (.int p2), .val .null, .unset] [])) _
    refine XS.aloadN X4.here hx rfl (hb hby d2_17) rfl rfl ?_
    show Steps p.tables e below (T4.setTop (mkF m 18 #[.val (.ref a0x), .val (.ref a1x), .val (.int p1), .val (.int p2), .val .null, .unset] [(.ref a0x)])) _
    refine ldcAgain X4 hx hZ2 hown2 (hw _ (List.mem_of_getElem? (i := 31) rfl)) Li2 (g := (mkF m 18 #[.val (.ref a0x), .val (.ref a1x), .val (.int p1), .val (.int p2), .val .null, .unset] [(.ref a0x)])) rfl (hb hby d2_18) _ ?_
    show Steps p.tables e below (T4.setTop (mkF m 20 #[.val (.ref a0x), .val (.ref a1x), .val (.int p1), .val (.int p2), .val .null, .unset] [(.ref ax2), (.ref a0x)])) _
    refine st6 _ ?_
    show Steps p.tables e below (T6.setTop (mkF m 23 #[.val (.ref a0x), .val (.ref a1x), .val (.int p1), .val (.int p2), .val .null, .unset] [(.int (0 : Int32)), (.ref a0x)])) _
    refine st7 _ ?_
    show Steps p.tables e below (T7.setTop (mkF m 26 #[.val (.ref a0x), .val (.ref a1x), .val (.int p1), .val (.int p2), .val .null, .unset] [])) _
    exact X7.returnOut hx Bd.returns (hb hby d2_26) hr
  · show Q_rm_emp4 Z a0x a1x p1 p2 h0 n0 _ T7.heap _
    rw [e7]
    exact ⟨rfl, N7, K7⟩
theorem d1_0 : decode jdk_42_method_3_code 0 = .ok (.aload_n 0, 1) := by decide +kernel
theorem d1_1 : decode jdk_42_method_3_code 1 = .ok (.aload_n 1, 1) := by decide +kernel
theorem d1_2 : decode jdk_42_method_3_code 2 = .ok (.iconst 0, 1) := by decide +kernel
theorem d1_3 : decode jdk_42_method_3_code 3 = .ok (.aload_n 1, 1) := by decide +kernel
theorem d1_4 : decode jdk_42_method_3_code 4 = .ok (.arraylength, 1) := by decide +kernel
theorem d1_5 : decode jdk_42_method_3_code 5 = .ok (.aconst_null, 1) := by decide +kernel
theorem d1_6 : decode jdk_42_method_3_code 6 = .ok (.invokespecial 27, 3) := by decide +kernel
theorem pd_0 : parseMethodDescriptor "([CIILjava/lang/Void;)V" = some ⟨[(.array .char), .int, .int, (.object "java/lang/Void")], none⟩ := by decide +kernel
theorem d1_9 : decode jdk_42_method_3_code 9 = .ok (.return_, 1) := by decide +kernel
theorem ef_1 (m : MethodId) (x0 : Addr) (x1 : Addr) : entryFrame m #[(.ref x0), (.ref x1)] 2 = mkF m 0 #[.val (.ref x0), .val (.ref x1)] [] := by first | (simp [entryFrame, mkF, argsToLocals, Value.category]; done) | rfl
def Q_rm_emp (Z : State) (a0x : Addr) (a1x : Addr) (kx : ClassId) (vsx : List Value) (dx : Value) (h0 : Heap) (n0 : Nat) (v : Option Value) (h : Heap) (L : List Loc) : Prop := v = none ∧ Fr n0 L ∧ Keep h0 h [a0x]
set_option maxRecDepth 65536 in
set_option maxHeartbeats 40000000 in
theorem rm_emp (l : Launch) (Z : State) (a0 : Array Value) (hw : ∀ d ∈ tables_1, d.before a0 Z = true) (ws : List Jvm.Cond) (a0x : Addr) (a1x : Addr) (kx : ClassId) (vsx : List Value) (dx : Value) (h0 : Heap) (n0 : Nat) (Z0 : n0 ≤ h0.size) (X00 : Old Z n0 h0) (E0x : Exa Z h0 a0x "java/lang/String") (g0x : n0 ≤ a0x) (F0x : Fld Z h0 a0x "java/lang/String" "value" "[B" .null) (F1x : Fld Z h0 a0x "java/lang/String" "coder" "B" (.int (0 : Int32))) (Hc7 : Jvm.Lit.constHeld Z "java/lang/String" 7) (hcw : Jvm.Lit.compactW.before a0 Z = true) (V1x : Arv Z h0 a1x kx .char (0 : Int32) vsx dx) (ne01 : a0x ≠ a1x) :
    MetFree l (⟨"java/lang/String", "<init>", "([C)V"⟩ : MethodName) (head1 (Jvm.Cond.code (⟨"java/lang/String", "<init>", "([C)V"⟩ : MethodName) jdk_42_method_3_code 2 none :: ws) ({ frames := 2, cells := 2, slots := 4, locals := 29 } : Room)) (fun a U => a = #[(.ref a0x), (.ref a1x)] ∧ Z.Warmed39 U.vm ∧ U.heap = h0 ∧ IB Z U.vm []) (fun _ _ _ _ _ => True) (fun _ U o U' => ∃ v L, o = .returned v ∧ Q_rm_emp Z a0x a1x kx vsx dx h0 n0 v U'.heap L ∧ ReturnedEndW U o U' L ({ frames := 2, cells := 2, slots := 4, locals := 29 } : Room).cells ({ frames := 2, cells := 2, slots := 4, locals := 29 } : Room).slots) := by
  refine MetFree.of_bodySF (plainFor_of_name pn_0) hisR ?_
  intro p e s m args below meth c s₁ Bd hml0 hP hK
  obtain ⟨rfl, hZ, hh, hI0⟩ := hP
  have hx := Bd.exec
  have hby := Bd.bytes
  have hml : c.maxLocals = 2 := hml0
  have hown : s.vm.findClass "java/lang/String" = some m.cls := findClass_of_methodNamed Bd.named
  have hnm := (name_of_methodNamed Bd.named Bd.method).1
  have X0 : Stand p l e ({ frames := 2, cells := 2, slots := 4, locals := 29 } : Room) (s.setVm s.vm) m #[(.ref a0x), (.ref a1x)] below meth c s₁ [] 0 0 := Stand.of_body Bd
  have e0 : s₁.heap = h0 := by rw [← hh, Bd.state]; rfl
  have N0 := Fr.nil n0
  have hS0 : s.Since s.vm s.heap.size := (State.WarmedH.refl s).since _
  have hk0 : s.heap.size ≤ h0.size := Nat.le_of_eq (congrArg Array.size hh)
  have wS : ∀ a ∈ Bundle.stringAtoms, a.before a0 Z = true := by
    intro a ha
    simp only [Bundle.stringAtoms, List.mem_cons, List.not_mem_nil, or_false] at ha
    rcases ha with rfl | rfl | rfl | rfl | rfl | rfl | rfl <;> first | exact hw _ (List.mem_of_getElem? (i := 3) rfl) | exact hw _ (List.mem_of_getElem? (i := 2) rfl) | exact hw _ (List.mem_of_getElem? (i := 19) rfl) | exact hw _ (List.mem_of_getElem? (i := 29) rfl) | exact hw _ (List.mem_of_getElem? (i := 27) rfl) | exact hw _ (List.mem_of_getElem? (i := 32) rfl) | exact hw _ (List.mem_of_getElem? (i := 33) rfl)
  have K0 : Keep h0 h0 [a0x] := Keep.refl h0 [a0x]
  have pre0 : ∀ t, Steps p.tables e below (s₁.setTop (mkF m 0 #[.val (.ref a0x), .val (.ref a1x)] [])) t → Steps p.tables e below (s₁.setTop (entryFrame m #[(.ref a0x), (.ref a1x)] 2)) t := fun t k => castTop (ef_1 m a0x a1x) k
  obtain ⟨cl1, Ar1, qk1, S1, N1', H1, G1⟩ := (id V1x)
  obtain ⟨_, _, ⟨T2, L2, k2, n2⟩, -, X2, hSq2, gr2, ⟨Lc2, hQ2, l2, y2, z2⟩, st2⟩ := X0.specialBackS hx (y := (⟨"java/lang/String", "<init>", "([CIILjava/lang/Void;)V"⟩ : MethodName)) rfl hown (mvT hZ (hw _ (List.mem_of_getElem? (i := 7) rfl))) (mvT hZ (hw _ (List.mem_of_getElem? (i := 8) rfl))) (mvT hZ (hw _ (List.mem_of_getElem? (i := 10) rfl))) (by decide) (own_backOfI (W := 0) (rm_emp4 l Z a0 hw [] a0x a1x (0 : Int32) (0 : Int32) h0 n0 Z0 X00 E0x g0x F0x F1x Hc7 hcw rfl) hZ hI0 (hw _ (List.mem_of_getElem? (i := 10) rfl)) (hw _ (List.mem_of_getElem? (i := 3) rfl)) (by decide) (by decide)) (g := (mkF m 6 #[.val (.ref a0x), .val (.ref a1x)] [.null, (.int (0 : Int32)), (.int (0 : Int32)), (.ref a1x), (.ref a0x)])) rfl (by rw [hml]; rfl) (Steps.refl _) (a := a0x) (argsL := [(.ref a1x), (.int (0 : Int32)), (.int (0 : Int32)), .null]) (rest := []) (lenOf pd_0 rfl) rfl (by show 2 * 0 + _ ≤ _; exact Nat.le_of_eq rfl) (hb hby d1_6) (fun _ _ => ⟨rfl, e0, (by decide : 0 + 2 ≤ _), (by decide : 0 + 4 ≤ _)⟩)
  dsimp only [Pt.U, Pt.locs, Pt.cells, Pt.slots] at X2 l2 y2 z2 st2 hQ2 hSq2 gr2
  subst l2 y2 z2
  obtain ⟨rfl, N2q, x2c0⟩ := hQ2
  have N2 := Fr.app N0 N2q
  have E0x_2 : Exa Z T2.heap a0x "java/lang/String" := E0x.keep x2c0
  have V1x_2 : Arv Z T2.heap a1x kx .char (0 : Int32) vsx dx := V1x.keep x2c0 (ninS (Ne.symm ne01) nin0)
  have hk2' : _ ≤ T2.heap.size := Nat.le_trans hk0 x2c0.1
  have Z2 : n0 ≤ T2.heap.size := Nat.le_trans Z0 x2c0.1
  have K2 : Keep h0 T2.heap [a0x] := K0.trans x2c0 (allS (P := fun x => x ∈ [a0x] ∨ h0.size ≤ x) (Or.inl (List.mem_of_getElem? (i := 0) rfl)) all0)
  have X2b : Stand p l e ({ frames := 2, cells := 2, slots := 4, locals := 29 } : Room) (s.setVm T2.vm) m #[(.ref a0x), (.ref a1x)] below meth c T2 _ _ _ := X2
  have hS2 : s.Since T2.vm T2.heap.size := foldS hS0 (T := s₁) (by first | exact hk0 | (rw [e0]; exact hk0)) hSq2 gr2
  have hZ2 : Z.Warmed39 (s.setVm T2.vm).vm := State.Warmed39.trans (t := s.setVm s.vm) hZ hSq2.1
  have hown2 : (s.setVm T2.vm).vm.findClass "java/lang/String" = some m.cls := by rw [show (s.setVm T2.vm).vm = T2.vm from rfl, hSq2.1.alike.findClass]; exact hown
  have hk2 := Nat.le_refl T2.heap.size
  obtain ⟨fs, hr, hrun, hended, hREW⟩ := X2b.leaveW hS2 (by first | exact hk2 | (rw [rfl]; exact hk2)) (v := none) (fun _ => rfl)
  refine ⟨_, _, pre0 _ ?_, hrun, hended, _, _, rfl, ?_, hREW.1, hREW.2.1, hREW.2.2.1, hREW.2.2.2.mono (by decide) (by decide)⟩
  · show Steps p.tables e below (s₁.setTop (mkF m 0 #[.val (.ref a0x), .val (.ref a1x)] [])) _
    refine XS.aloadN X0.here hx rfl (hb hby d1_0) rfl rfl ?_
    show Steps p.tables e below (s₁.setTop (mkF m 1 #[.val (.ref a0x), .val (.ref a1x)] [(.ref a0x)])) _
    refine XS.aloadN X0.here hx rfl (hb hby d1_1) rfl rfl ?_
    show Steps p.tables e below (s₁.setTop (mkF m 2 #[.val (.ref a0x), .val (.ref a1x)] [(.ref a1x), (.ref a0x)])) _
    refine XS.iconst X0.here hx rfl (hb hby d1_2) ?_
    show Steps p.tables e below (s₁.setTop (mkF m 3 #[.val (.ref a0x), .val (.ref a1x)] [(.int (0 : Int32)), (.ref a1x), (.ref a0x)])) _
    refine XS.aloadN X0.here hx rfl (hb hby d1_3) rfl rfl ?_
    show Steps p.tables e below (s₁.setTop (mkF m 4 #[.val (.ref a0x), .val (.ref a1x)] [(.ref a1x), (.int (0 : Int32)), (.ref a1x), (.ref a0x)])) _
    refine X0.arraylength hx (by rw [e0]; exact Ar1.1) (State.isArrayOf_alike hZ.alike Ar1.2.1) (g := (mkF m 4 #[.val (.ref a0x), .val (.ref a1x)] [(.ref a1x), (.int (0 : Int32)), (.ref a1x), (.ref a0x)])) rfl rfl (hb hby d1_4) _ ?_
    rw [len_of S1 N1']
    show Steps p.tables e below (s₁.setTop (mkF m 5 #[.val (.ref a0x), .val (.ref a1x)] [(.int (0 : Int32)), (.int (0 : Int32)), (.ref a1x), (.ref a0x)])) _
    refine XS.aconstNull X0.here hx rfl (hb hby d1_5) ?_
    show Steps p.tables e below (s₁.setTop (mkF m 6 #[.val (.ref a0x), .val (.ref a1x)] [.null, (.int (0 : Int32)), (.int (0 : Int32)), (.ref a1x), (.ref a0x)])) _
    refine st2.trans ?_
    show Steps p.tables e below (T2.setTop (mkF m 9 #[.val (.ref a0x), .val (.ref a1x)] [])) _
    exact X2b.returnOut hx Bd.returns (hb hby d1_9) hr
  · show Q_rm_emp Z a0x a1x kx vsx dx h0 n0 _ T2.heap _
    exact ⟨rfl, N2, K2⟩
theorem d8_0 : decode jdk_43_method_3_code 0 = .ok (.iload_n 0, 1) := by decide +kernel
theorem d8_1 : decode jdk_43_method_3_code 1 = .ok (.sipush 255, 3) := by decide +kernel
theorem d8_4 : decode jdk_43_method_3_code 4 = .ok (.if_icmp .gt 7, 3) := by decide +kernel
theorem d8_7 : decode jdk_43_method_3_code 7 = .ok (.iconst 1, 1) := by decide +kernel
theorem d8_8 : decode jdk_43_method_3_code 8 = .ok (.goto 4, 3) := by decide +kernel
theorem d8_12 : decode jdk_43_method_3_code 12 = .ok (.ireturn, 1) := by decide +kernel
theorem pn_1 : plainName "java/lang/StringLatin1" = true := by first | (simp [plainName, overriddenIn]; done) | decide +kernel
theorem ef_8 (m : MethodId) (x0 : Int32) : entryFrame m #[(.int x0)] 1 = mkF m 0 #[.val (.int x0)] [] := by first | (simp [entryFrame, mkF, argsToLocals, Value.category]; done) | rfl
def Q_rm_can (Z : State) (p0 : Int32) (h0 : Heap) (n0 : Nat) (v : Option Value) (h : Heap) (L : List Loc) : Prop := v = some (.int (1 : Int32)) ∧ Fr n0 L ∧ h = h0
set_option maxRecDepth 65536 in
set_option maxHeartbeats 40000000 in
theorem rm_can (l : Launch) (Z : State) (a0 : Array Value) (hw : ∀ d ∈ tables_1, d.before a0 Z = true) (ws : List Jvm.Cond) (p0 : Int32) (h0 : Heap) (n0 : Nat) (Z0 : n0 ≤ h0.size) (hc : ¬ ((255 : Int32) < p0)) :
    MetFree l (⟨"java/lang/StringLatin1", "canEncode", "(C)Z"⟩ : MethodName) (head1 (Jvm.Cond.code (⟨"java/lang/StringLatin1", "canEncode", "(C)Z"⟩ : MethodName) jdk_43_method_3_code 1 (some .boolean) :: ws) ({ frames := 0, cells := 0, slots := 0, locals := 0 } : Room)) (fun a U => a = #[(.int p0)] ∧ Z.Warmed39 U.vm ∧ U.heap = h0) (fun _ _ _ _ _ => True) (fun _ U o U' => ∃ v L, o = .returned v ∧ Q_rm_can Z p0 h0 n0 v U'.heap L ∧ FrameEnd U o U' L ({ frames := 0, cells := 0, slots := 0, locals := 0 } : Room).cells ({ frames := 0, cells := 0, slots := 0, locals := 0 } : Room).slots) := by
  refine MetFree.of_bodySF (plainFor_of_name pn_1) hisR ?_
  intro p e s m args below meth c s₁ Bd hml0 hP hK
  obtain ⟨rfl, hZ, hh⟩ := hP
  have hx := Bd.exec
  have hby := Bd.bytes
  have hml : c.maxLocals = 1 := hml0
  have hown : s.vm.findClass "java/lang/StringLatin1" = some m.cls := findClass_of_methodNamed Bd.named
  have hnm := (name_of_methodNamed Bd.named Bd.method).1
  have X0 : Stand p l e ({ frames := 0, cells := 0, slots := 0, locals := 0 } : Room) s m #[(.int p0)] below meth c s₁ [] 0 0 := Stand.of_body Bd
  have e0 : s₁.heap = h0 := by rw [← hh, Bd.state]; rfl
  have N0 := Fr.nil n0
  have pre0 : ∀ t, Steps p.tables e below (s₁.setTop (mkF m 0 #[.val (.int p0)] [])) t → Steps p.tables e below (s₁.setTop (entryFrame m #[(.int p0)] 1)) t := fun t k => castTop (ef_8 m p0) k
  obtain ⟨fs, hr, hrun, hended, hW, hsame⟩ := X0.leave (v := some (.int (1 : Int32))) (fun h => by rw [Bd.returns] at h; cases h)
  refine ⟨_, _, pre0 _ ?_, hrun, hended, _, _, rfl, ?_, ⟨_, rfl⟩, hW, hsame.mono (by decide) (by decide)⟩
  · show Steps p.tables e below (s₁.setTop (mkF m 0 #[.val (.int p0)] [])) _
    refine XS.iloadN X0.here hx rfl (hb hby d8_0) rfl ?_
    show Steps p.tables e below (s₁.setTop (mkF m 1 #[.val (.int p0)] [(.int p0)])) _
    refine XS.sipush X0.here hx rfl (hb hby d8_1) ?_
    show Steps p.tables e below (s₁.setTop (mkF m 4 #[.val (.int p0)] [(.int (255 : Int32)), (.int p0)])) _
    refine XS.icmpNo X0.here hx rfl (hb hby d8_4) rfl (flt hc).2.2.1 ?_
    show Steps p.tables e below (s₁.setTop (mkF m 7 #[.val (.int p0)] [])) _
    refine XS.iconst X0.here hx rfl (hb hby d8_7) ?_
    show Steps p.tables e below (s₁.setTop (mkF m 8 #[.val (.int p0)] [(.int (1 : Int32))])) _
    refine XS.goto X0.here hx rfl (pc0 := 8) (pc' := 12) rfl (hb hby d8_8) (by decide) (by decide) ?_
    show Steps p.tables e below (s₁.setTop (mkF m 12 #[.val (.int p0)] [(.int (1 : Int32))])) _
    exact retN X0 hx (t := .boolean) Bd.returns (by simp) (hb hby d8_12) hr
  · show Q_rm_can Z p0 h0 n0 _ s₁.heap _
    rw [e0]
    exact ⟨rfl, N0, rfl⟩
theorem d9_0 : decode jdk_43_method_46_code 0 = .ok (.iconst 1, 1) := by decide +kernel
theorem d9_1 : decode jdk_43_method_46_code 1 = .ok (.newarray .byte, 2) := by decide +kernel
theorem d9_3 : decode jdk_43_method_46_code 3 = .ok (.dup, 1) := by decide +kernel
theorem d9_4 : decode jdk_43_method_46_code 4 = .ok (.iconst 0, 1) := by decide +kernel
theorem d9_5 : decode jdk_43_method_46_code 5 = .ok (.iload_n 0, 1) := by decide +kernel
theorem d9_6 : decode jdk_43_method_46_code 6 = .ok (.i2b, 1) := by decide +kernel
theorem d9_7 : decode jdk_43_method_46_code 7 = .ok (.bastore, 1) := by decide +kernel
theorem d9_8 : decode jdk_43_method_46_code 8 = .ok (.areturn, 1) := by decide +kernel
theorem ef_9 (m : MethodId) (x0 : Int32) : entryFrame m #[(.int x0)] 1 = mkF m 0 #[.val (.int x0)] [] := by first | (simp [entryFrame, mkF, argsToLocals, Value.category]; done) | rfl
def Q_rm_tob (Z : State) (p0 : Int32) (h0 : Heap) (n0 : Nat) (v : Option Value) (h : Heap) (L : List Loc) : Prop := ∃ bq : Addr, v = some (.ref bq) ∧ Fr n0 L ∧ Keep h0 h [] ∧ n0 ≤ bq ∧ h0.size ≤ bq
set_option maxRecDepth 65536 in
set_option maxHeartbeats 40000000 in
theorem rm_tob (l : Launch) (Z : State) (a0 : Array Value) (hw : ∀ d ∈ tables_1, d.before a0 Z = true) (ws : List Jvm.Cond) (p0 : Int32) (h0 : Heap) (n0 : Nat) (Z0 : n0 ≤ h0.size)  :
    MetFree l (⟨"java/lang/StringLatin1", "toBytes", "(C)[B"⟩ : MethodName) (head1 (Jvm.Cond.code (⟨"java/lang/StringLatin1", "toBytes", "(C)[B"⟩ : MethodName) jdk_43_method_46_code 1 (some (.array .byte)) :: ws) ({ frames := 0, cells := 1, slots := 1, locals := 0 } : Room)) (fun a U => a = #[(.int p0)] ∧ Z.Warmed39 U.vm ∧ U.heap = h0) (fun _ _ _ _ _ => True) (fun _ U o U' => ∃ v L, o = .returned v ∧ Q_rm_tob Z p0 h0 n0 v U'.heap L ∧ FrameEnd U o U' L ({ frames := 0, cells := 1, slots := 1, locals := 0 } : Room).cells ({ frames := 0, cells := 1, slots := 1, locals := 0 } : Room).slots) := by
  refine MetFree.of_bodySF (plainFor_of_name pn_1) hisR ?_
  intro p e s m args below meth c s₁ Bd hml0 hP hK
  obtain ⟨rfl, hZ, hh⟩ := hP
  have hx := Bd.exec
  have hby := Bd.bytes
  have hml : c.maxLocals = 1 := hml0
  have hown : s.vm.findClass "java/lang/StringLatin1" = some m.cls := findClass_of_methodNamed Bd.named
  have hnm := (name_of_methodNamed Bd.named Bd.method).1
  have X0 : Stand p l e ({ frames := 0, cells := 1, slots := 1, locals := 0 } : Room) s m #[(.int p0)] below meth c s₁ [] 0 0 := Stand.of_body Bd
  have e0 : s₁.heap = h0 := by rw [← hh, Bd.state]; rfl
  have N0 := Fr.nil n0
  have K0 : Keep h0 h0 [] := Keep.refl h0 []
  have pre0 : ∀ t, Steps p.tables e below (s₁.setTop (mkF m 0 #[.val (.int p0)] [])) t → Steps p.tables e below (s₁.setTop (entryFrame m #[(.int p0)] 1)) t := fun t k => castTop (ef_9 m p0) k
  obtain ⟨T1, h1, k1, X1, e1, E1, A1, st1⟩ := newP X0 hx hZ (hw _ (List.mem_of_getElem? (i := 19) rfl)) e0 (g := (mkF m 1 #[.val (.int p0)] [(.int (1 : Int32))])) rfl (hb hby d9_1) rfl (by decide) (cap := 1) (by decide) (by decide) (by decide) (by decide)
  obtain ⟨b1, g1⟩ : ∃ z, z = h0.size := ⟨_, rfl⟩
  rw [← g1] at A1 st1
  have g_b1 : n0 ≤ b1 := Nat.le_trans Z0 (Nat.le_of_eq g1.symm)
  have sz_b1 : h0.size ≤ b1 := Nat.le_trans K0.1 (Nat.le_of_eq g1.symm)
  have Z1 : n0 ≤ h1.size := Nat.le_trans Z0 E1.1
  have K1 : Keep h0 h1 [] := K0.ext E1
  have V_b1 : Arv Z h1 b1 k1 .byte (1 : Int32) [(.int (0 : Int32))] (.int (0 : Int32)) := (Arv.new A1 (by decide)).pad (pad_rep [] (.int (0 : Int32)) 1)
  obtain ⟨cl2, Ar2, qk2, S2, N2', H2, G2⟩ := (id V_b1)
  have hin2 : ¬ ((0 : Int32) < 0 ∨ cl2.slots.size ≤ ((0 : Int32)).toNatClampNeg) := inb_of S2 ⟨by decide, by decide⟩
  obtain ⟨T3, h3, X3, e3, W3, st3⟩ := stB X1 hx hZ e1 Ar2 (j := (0 : Int32)) hin2 (g := (mkF m 7 #[.val (.int p0)] [(.int p0.toInt8.toInt32), (.int (0 : Int32)), (.ref b1), (.ref b1)])) rfl rfl (hb hby d9_7)
  have V3 : Arv Z h3 b1 k1 .byte (1 : Int32) [(.int p0.toInt8.toInt32.toInt8.toInt32)] (.int (0 : Int32)) := Arv.set Ar2 qk2 S2 N2' H2 G2 (fits_nar_byte _) W3 0 rfl (Nat.le_of_ble_eq_true rfl)
  have N3 := Fr.snoc X3 N0 g_b1
  have Z3 : n0 ≤ h3.size := Nat.le_trans Z1 (Keep.of_wr W3).1
  have K3 : Keep h0 h3 [] := K1.wr W3 (Or.inr sz_b1)
  obtain ⟨fs, hr, hrun, hended, hW, hsame⟩ := X3.leave (v := some (.ref b1)) (fun h => by rw [Bd.returns] at h; cases h)
  refine ⟨_, _, pre0 _ ?_, hrun, hended, _, _, rfl, ?_, ⟨_, rfl⟩, hW, hsame.mono (by decide) (by decide)⟩
  · show Steps p.tables e below (s₁.setTop (mkF m 0 #[.val (.int p0)] [])) _
    refine XS.iconst X0.here hx rfl (hb hby d9_0) ?_
    show Steps p.tables e below (s₁.setTop (mkF m 1 #[.val (.int p0)] [(.int (1 : Int32))])) _
    refine st1 _ ?_
    show Steps p.tables e below (T1.setTop (mkF m 3 #[.val (.int p0)] [(.ref b1)])) _
    refine XS.dup X1.here hx rfl (hb hby d9_3) rfl rfl ?_
    show Steps p.tables e below (T1.setTop (mkF m 4 #[.val (.int p0)] [(.ref b1), (.ref b1)])) _
    refine XS.iconst X1.here hx rfl (hb hby d9_4) ?_
    show Steps p.tables e below (T1.setTop (mkF m 5 #[.val (.int p0)] [(.int (0 : Int32)), (.ref b1), (.ref b1)])) _
    refine XS.iloadN X1.here hx rfl (hb hby d9_5) rfl ?_
    show Steps p.tables e below (T1.setTop (mkF m 6 #[.val (.int p0)] [(.int p0), (.int (0 : Int32)), (.ref b1), (.ref b1)])) _
    refine XS.i2b X1.here hx rfl (hb hby d9_6) rfl ?_
    show Steps p.tables e below (T1.setTop (mkF m 7 #[.val (.int p0)] [(.int p0.toInt8.toInt32), (.int (0 : Int32)), (.ref b1), (.ref b1)])) _
    refine st3 _ ?_
    show Steps p.tables e below (T3.setTop (mkF m 8 #[.val (.int p0)] [(.ref b1)])) _
    exact retOut X3 hx Bd.returns (by rfl) (Or.inr (Or.inr (Or.inr (Or.inr ⟨rfl, rfl, rfl⟩)))) (hb hby d9_8) hr
  · show Q_rm_tob Z p0 h0 n0 _ T3.heap _
    rw [e3]
    exact ⟨b1, rfl, N3, K3, g_b1, sz_b1⟩
theorem d10_0 : decode jdk_42_method_151_code 0 = .ok (.aload_n 0, 1) := by decide +kernel
theorem d10_1 : decode jdk_42_method_151_code 1 = .ok (.invokespecial 1, 3) := by decide +kernel
theorem d10_4 : decode jdk_42_method_151_code 4 = .ok (.aload_n 0, 1) := by decide +kernel
theorem d10_5 : decode jdk_42_method_151_code 5 = .ok (.aload_n 1, 1) := by decide +kernel
theorem d10_6 : decode jdk_42_method_151_code 6 = .ok (.putfield 9, 3) := by decide +kernel
theorem d10_9 : decode jdk_42_method_151_code 9 = .ok (.aload_n 0, 1) := by decide +kernel
theorem d10_10 : decode jdk_42_method_151_code 10 = .ok (.iload_n 2, 1) := by decide +kernel
theorem d10_11 : decode jdk_42_method_151_code 11 = .ok (.putfield 15, 3) := by decide +kernel
theorem d10_14 : decode jdk_42_method_151_code 14 = .ok (.return_, 1) := by decide +kernel
theorem ef_10 (m : MethodId) (x0 : Addr) (x1 : Addr) (x2 : Int32) : entryFrame m #[(.ref x0), (.ref x1), (.int x2)] 3 = mkF m 0 #[.val (.ref x0), .val (.ref x1), .val (.int x2)] [] := by first | (simp [entryFrame, mkF, argsToLocals, Value.category]; done) | rfl
def Q_rm_sbb (Z : State) (a0x : Addr) (a1x : Addr) (p1 : Int32) (h0 : Heap) (n0 : Nat) (v : Option Value) (h : Heap) (L : List Loc) : Prop := v = none ∧ Fr n0 L ∧ Keep h0 h [a0x] ∧ Fld Z h a0x "java/lang/String" "value" "[B" (.ref a1x) ∧ Fld Z h a0x "java/lang/String" "coder" "B" (.int p1.toInt8.toInt32)
set_option maxRecDepth 65536 in
set_option maxHeartbeats 40000000 in
theorem rm_sbb (l : Launch) (Z : State) (a0 : Array Value) (hw : ∀ d ∈ tables_1, d.before a0 Z = true) (ws : List Jvm.Cond) (a0x : Addr) (a1x : Addr) (p1 : Int32) (h0 : Heap) (n0 : Nat) (Z0 : n0 ≤ h0.size) (E0x : Exa Z h0 a0x "java/lang/String") (F0x0 : Fld Z h0 a0x "java/lang/String" "value" "[B" .null) (F0x1 : Fld Z h0 a0x "java/lang/String" "coder" "B" (.int (0 : Int32))) (g0x : n0 ≤ a0x) :
    MetFree l (⟨"java/lang/String", "<init>", "([BB)V"⟩ : MethodName) (head1 (Jvm.Cond.code (⟨"java/lang/String", "<init>", "([BB)V"⟩ : MethodName) jdk_42_method_151_code 3 none :: ws) ({ frames := 1, cells := 0, slots := 0, locals := 12 } : Room)) (fun a U => a = #[(.ref a0x), (.ref a1x), (.int p1)] ∧ Z.Warmed39 U.vm ∧ U.heap = h0) (fun _ _ _ _ _ => True) (fun _ U o U' => ∃ v L, o = .returned v ∧ Q_rm_sbb Z a0x a1x p1 h0 n0 v U'.heap L ∧ FrameEnd U o U' L ({ frames := 1, cells := 0, slots := 0, locals := 12 } : Room).cells ({ frames := 1, cells := 0, slots := 0, locals := 12 } : Room).slots) := by
  refine MetFree.of_bodySF (plainFor_of_name pn_0) hisR ?_
  intro p e s m args below meth c s₁ Bd hml0 hP hK
  obtain ⟨rfl, hZ, hh⟩ := hP
  have hx := Bd.exec
  have hby := Bd.bytes
  have hml : c.maxLocals = 3 := hml0
  have hown : s.vm.findClass "java/lang/String" = some m.cls := findClass_of_methodNamed Bd.named
  have hnm := (name_of_methodNamed Bd.named Bd.method).1
  have X0 : Stand p l e ({ frames := 1, cells := 0, slots := 0, locals := 12 } : Room) s m #[(.ref a0x), (.ref a1x), (.int p1)] below meth c s₁ [] 0 0 := Stand.of_body Bd
  have e0 : s₁.heap = h0 := by rw [← hh, Bd.state]; rfl
  have N0 := Fr.nil n0
  have K0 : Keep h0 h0 [a0x] := Keep.refl h0 [a0x]
  have pre0 : ∀ t, Steps p.tables e below (s₁.setTop (mkF m 0 #[.val (.ref a0x), .val (.ref a1x), .val (.int p1)] [])) t → Steps p.tables e below (s₁.setTop (entryFrame m #[(.ref a0x), (.ref a1x), (.int p1)] 3)) t := fun t k => castTop (ef_10 m a0x a1x p1) k
  obtain ⟨T1, X1, e1, st1⟩ := initO X0 hx hZ hown (hw _ (List.mem_of_getElem? (i := 11) rfl)) (hw _ (List.mem_of_getElem? (i := 12) rfl)) (hw _ (List.mem_of_getElem? (i := 13) rfl)) e0 (g := (mkF m 1 #[.val (.ref a0x), .val (.ref a1x), .val (.int p1)] [(.ref a0x)])) rfl (by rw [hml]; rfl) rfl (hb hby d10_1) (by decide) (W := 0) (by show 2 * 0 + _ ≤ _; exact Nat.le_of_eq rfl) (by decide)
  obtain ⟨T2, h2, X2, e2, W2, st2⟩ := putF X1 hx hZ hown (host := "") (Or.inl (hw _ (List.mem_of_getElem? (i := 28) rfl))) Via.refl e1 F0x0 E0x (Or.inr ⟨(hw _ (List.mem_of_getElem? (i := 29) rfl)), rfl, hnm⟩) (hw _ (List.mem_of_getElem? (i := 2) rfl)) (ty := (.array .byte)) (by decide) rfl rfl (g := (mkF m 6 #[.val (.ref a0x), .val (.ref a1x), .val (.int p1)] [(.ref a1x), (.ref a0x)])) rfl rfl (hb hby d10_6)
  have N2 := Fr.snoc X2 N0 g0x
  have Fw2 : Fld Z h2 a0x "java/lang/String" "value" "[B" (.ref a1x) := F0x0.same W2
  have E0x_2 : Exa Z h2 a0x "java/lang/String" := E0x.wr W2
  have F0x1_2 : Fld Z h2 a0x "java/lang/String" "coder" "B" (.int (0 : Int32)) := F0x1.other W2 (Or.inr (slot_ne (Or.inr (hw _ (List.mem_of_getElem? (i := 27) rfl))) (Or.inr (hw _ (List.mem_of_getElem? (i := 29) rfl))) (by decide) (t := .byte) (t' := (.array .byte)) (by decide) (by decide)))
  have Z2 : n0 ≤ h2.size := Nat.le_trans Z0 (Keep.of_wr W2).1
  have K2 : Keep h0 h2 [a0x] := K0.wr W2 (Or.inl (List.mem_of_getElem? (i := 0) rfl))
  obtain ⟨T3, h3, X3, e3, W3, st3⟩ := putFN X2 hx hZ hown (hw _ (List.mem_of_getElem? (i := 26) rfl)) Via.refl e2 F0x1_2 E0x_2 (Or.inr ⟨(hw _ (List.mem_of_getElem? (i := 27) rfl)), rfl, hnm⟩) (hw _ (List.mem_of_getElem? (i := 2) rfl)) (ty := .byte) (v' := (.int p1.toInt8.toInt32)) (by decide) rfl (fits_nar_byte _) (g := (mkF m 11 #[.val (.ref a0x), .val (.ref a1x), .val (.int p1)] [(.int p1), (.ref a0x)])) rfl rfl (hb hby d10_11)
  have N3 := Fr.snoc X3 N2 g0x
  have Fw3 : Fld Z h3 a0x "java/lang/String" "coder" "B" (.int p1.toInt8.toInt32) := F0x1_2.same W3
  have E0x_3 : Exa Z h3 a0x "java/lang/String" := E0x_2.wr W3
  have Fw2_3 : Fld Z h3 a0x "java/lang/String" "value" "[B" (.ref a1x) := Fw2.other W3 (Or.inr (slot_ne (Or.inr (hw _ (List.mem_of_getElem? (i := 29) rfl))) (Or.inr (hw _ (List.mem_of_getElem? (i := 27) rfl))) (by decide) (t := (.array .byte)) (t' := .byte) (by decide) (by decide)))
  have Z3 : n0 ≤ h3.size := Nat.le_trans Z2 (Keep.of_wr W3).1
  have K3 : Keep h0 h3 [a0x] := K2.wr W3 (Or.inl (List.mem_of_getElem? (i := 0) rfl))
  obtain ⟨fs, hr, hrun, hended, hW, hsame⟩ := X3.leave (v := none) (fun _ => rfl)
  refine ⟨_, _, pre0 _ ?_, hrun, hended, _, _, rfl, ?_, ⟨_, rfl⟩, hW, hsame.mono (by decide) (by decide)⟩
  · show Steps p.tables e below (s₁.setTop (mkF m 0 #[.val (.ref a0x), .val (.ref a1x), .val (.int p1)] [])) _
    refine XS.aloadN X0.here hx rfl (hb hby d10_0) rfl rfl ?_
    show Steps p.tables e below (s₁.setTop (mkF m 1 #[.val (.ref a0x), .val (.ref a1x), .val (.int p1)] [(.ref a0x)])) _
    refine st1 _ ?_
    show Steps p.tables e below (T1.setTop (mkF m 4 #[.val (.ref a0x), .val (.ref a1x), .val (.int p1)] [])) _
    refine XS.aloadN X1.here hx rfl (hb hby d10_4) rfl rfl ?_
    show Steps p.tables e below (T1.setTop (mkF m 5 #[.val (.ref a0x), .val (.ref a1x), .val (.int p1)] [(.ref a0x)])) _
    refine XS.aloadN X1.here hx rfl (hb hby d10_5) rfl rfl ?_
    show Steps p.tables e below (T1.setTop (mkF m 6 #[.val (.ref a0x), .val (.ref a1x), .val (.int p1)] [(.ref a1x), (.ref a0x)])) _
    refine st2 _ ?_
    show Steps p.tables e below (T2.setTop (mkF m 9 #[.val (.ref a0x), .val (.ref a1x), .val (.int p1)] [])) _
    refine XS.aloadN X2.here hx rfl (hb hby d10_9) rfl rfl ?_
    show Steps p.tables e below (T2.setTop (mkF m 10 #[.val (.ref a0x), .val (.ref a1x), .val (.int p1)] [(.ref a0x)])) _
    refine XS.iloadN X2.here hx rfl (hb hby d10_10) rfl ?_
    show Steps p.tables e below (T2.setTop (mkF m 11 #[.val (.ref a0x), .val (.ref a1x), .val (.int p1)] [(.int p1), (.ref a0x)])) _
    refine st3 _ ?_
    show Steps p.tables e below (T3.setTop (mkF m 14 #[.val (.ref a0x), .val (.ref a1x), .val (.int p1)] [])) _
    exact X3.returnOut hx Bd.returns (hb hby d10_14) hr
  · show Q_rm_sbb Z a0x a1x p1 h0 n0 _ T3.heap _
    rw [e3]
    exact ⟨rfl, N3, K3, Fw2_3, Fw3⟩
theorem d7_0 : decode jdk_42_method_139_code 0 = .ok (.getstatic 38, 3) := by decide +kernel
theorem d7_3 : decode jdk_42_method_139_code 3 = .ok (.ifCond .eq 23, 3) := by decide +kernel
theorem d7_6 : decode jdk_42_method_139_code 6 = .ok (.iload_n 0, 1) := by decide +kernel
theorem d7_7 : decode jdk_42_method_139_code 7 = .ok (.invokestatic 1015, 3) := by decide +kernel
theorem pd_1 : parseMethodDescriptor "(C)Z" = some ⟨[.char], some .boolean⟩ := by decide +kernel
theorem d7_10 : decode jdk_42_method_139_code 10 = .ok (.ifCond .eq 16, 3) := by decide +kernel
theorem d7_13 : decode jdk_42_method_139_code 13 = .ok (.new 10, 3) := by decide +kernel
theorem d7_16 : decode jdk_42_method_139_code 16 = .ok (.dup, 1) := by decide +kernel
theorem d7_17 : decode jdk_42_method_139_code 17 = .ok (.iload_n 0, 1) := by decide +kernel
theorem d7_18 : decode jdk_42_method_139_code 18 = .ok (.invokestatic 1018, 3) := by decide +kernel
theorem pd_2 : parseMethodDescriptor "(C)[B" = some ⟨[.char], some (.array .byte)⟩ := by decide +kernel
theorem d7_21 : decode jdk_42_method_139_code 21 = .ok (.iconst 0, 1) := by decide +kernel
theorem d7_22 : decode jdk_42_method_139_code 22 = .ok (.invokespecial 209, 3) := by decide +kernel
theorem pd_3 : parseMethodDescriptor "([BB)V" = some ⟨[(.array .byte), .byte], none⟩ := by decide +kernel
theorem d7_25 : decode jdk_42_method_139_code 25 = .ok (.areturn, 1) := by decide +kernel
theorem ef_7 (m : MethodId) (x0 : Int32) : entryFrame m #[(.int x0)] 1 = mkF m 0 #[.val (.int x0)] [] := by first | (simp [entryFrame, mkF, argsToLocals, Value.category]; done) | rfl
def Q_rm_vof (Z : State) (p0 : Int32) (zc : Int32) (h0 : Heap) (n0 : Nat) (v : Option Value) (h : Heap) (L : List Loc) : Prop := ∃ bq : Addr, v = some (.ref bq) ∧ Fr n0 L ∧ Keep h0 h [] ∧ n0 ≤ bq ∧ h0.size ≤ bq ∧ Exa Z h bq "java/lang/String"
set_option maxRecDepth 65536 in
set_option maxHeartbeats 40000000 in
theorem rm_vof (l : Launch) (Z : State) (a0 : Array Value) (hw : ∀ d ∈ tables_1, d.before a0 Z = true) (ws : List Jvm.Cond) (p0 : Int32) (zc : Int32) (h0 : Heap) (n0 : Nat) (Z0 : n0 ≤ h0.size) (S_CS : Sta Z h0 "java/lang/String" "COMPACT_STRINGS" "Z" (.int zc)) (P5 : ¬ (zc = (0 : Int32))) (hc : ¬ ((255 : Int32) < p0)) :
    MetFree l (⟨"java/lang/String", "valueOf", "(C)Ljava/lang/String;"⟩ : MethodName) (head1 (Jvm.Cond.code (⟨"java/lang/String", "valueOf", "(C)Ljava/lang/String;"⟩ : MethodName) jdk_42_method_139_code 1 (some (.object "java/lang/String")) :: ws) ({ frames := 2, cells := 2, slots := 5, locals := 27 } : Room)) (fun a U => a = #[(.int p0)] ∧ Z.Warmed39 U.vm ∧ U.heap = h0) (fun _ _ _ _ _ => True) (fun _ U o U' => ∃ v L, o = .returned v ∧ Q_rm_vof Z p0 zc h0 n0 v U'.heap L ∧ FrameEnd U o U' L ({ frames := 2, cells := 2, slots := 5, locals := 27 } : Room).cells ({ frames := 2, cells := 2, slots := 5, locals := 27 } : Room).slots) := by
  refine MetFree.of_bodySF (plainFor_of_name pn_0) hisR ?_
  intro p e s m args below meth c s₁ Bd hml0 hP hK
  obtain ⟨rfl, hZ, hh⟩ := hP
  have hx := Bd.exec
  have hby := Bd.bytes
  have hml : c.maxLocals = 1 := hml0
  have hown : s.vm.findClass "java/lang/String" = some m.cls := findClass_of_methodNamed Bd.named
  have hnm := (name_of_methodNamed Bd.named Bd.method).1
  have X0 : Stand p l e ({ frames := 2, cells := 2, slots := 5, locals := 27 } : Room) s m #[(.int p0)] below meth c s₁ [] 0 0 := Stand.of_body Bd
  have e0 : s₁.heap = h0 := by rw [← hh, Bd.state]; rfl
  have N0 := Fr.nil n0
  have K0 : Keep h0 h0 [] := Keep.refl h0 []
  have pre0 : ∀ t, Steps p.tables e below (s₁.setTop (mkF m 0 #[.val (.int p0)] [])) t → Steps p.tables e below (s₁.setTop (entryFrame m #[(.int p0)] 1)) t := fun t k => castTop (ef_7 m p0) k
  obtain ⟨T1, X1, e1, st1⟩ := getS2 X0 hx hZ hown (host := "") (Or.inl (hw _ (List.mem_of_getElem? (i := 14) rfl))) Via.refl e0 S_CS (g := (mkF m 0 #[.val (.int p0)] [])) rfl (hb hby d7_0)
  obtain ⟨_, _, ⟨T2, L2, k2, n2⟩, -, X2, ⟨Lc2, hQ2, l2, y2, z2⟩, st2⟩ := Jvm.LawKit.callS X1 hx (y := (⟨"java/lang/StringLatin1", "canEncode", "(C)Z"⟩ : MethodName)) hown (mvT hZ (hw _ (List.mem_of_getElem? (i := 37) rfl))) (mvT hZ (hw _ (List.mem_of_getElem? (i := 38) rfl))) (mvT hZ (hw _ (List.mem_of_getElem? (i := 39) rfl))) (mvT hZ (hw _ (List.mem_of_getElem? (i := 40) rfl))) (by decide) (backOf (W := 0) (rm_can l Z a0 hw [] p0 h0 n0 Z0 hc) hZ (hw _ (List.mem_of_getElem? (i := 40) rfl)) (hw _ (List.mem_of_getElem? (i := 39) rfl)) (by decide) (by decide)) (g := (mkF m 7 #[.val (.int p0)] [(.int p0)])) rfl (by rw [hml]; rfl) (argsL := [(.int p0)]) (rest := []) (lenOf pd_1 rfl) rfl (by show 2 * 0 + _ ≤ _; exact Nat.le_of_eq rfl) (hb hby d7_7) (fun _ _ => ⟨rfl, e1, (by decide : 0 + 0 ≤ _), (by decide : 0 + 0 ≤ _)⟩)
  dsimp only [Pt.U, Pt.locs, Pt.cells, Pt.slots] at X2 l2 y2 z2 st2 hQ2
  subst l2 y2 z2
  obtain ⟨rfl, N2q, e2⟩ := hQ2
  have N2 := Fr.app N0 N2q
  obtain ⟨T3, h3, X3, e3, E3, A3, D3, -, st3⟩ := newO X2 hx hZ hown (hw _ (List.mem_of_getElem? (i := 41) rfl)) (hw _ (List.mem_of_getElem? (i := 2) rfl)) (hw _ (List.mem_of_getElem? (i := 3) rfl)) e2 (g := (mkF m 13 #[.val (.int p0)] [])) rfl (hb hby d7_13) (by decide) (by decide)
  obtain ⟨b3, g3⟩ : ∃ z, z = h0.size := ⟨_, rfl⟩
  rw [← g3] at A3 D3 st3
  have g_b3 : n0 ≤ b3 := Nat.le_trans Z0 (Nat.le_of_eq g3.symm)
  have sz_b3 : h0.size ≤ b3 := Nat.le_trans K0.1 (Nat.le_of_eq g3.symm)
  have S_CS_3 : Sta Z h3 "java/lang/String" "COMPACT_STRINGS" "Z" (.int zc) := S_CS.ext E3
  have Z3 : n0 ≤ h3.size := Nat.le_trans Z0 E3.1
  have K3 : Keep h0 h3 [] := K0.ext E3
  have F_coder_b3 : Fld Z h3 b3 "java/lang/String" "coder" "B" (.int (0 : Int32)) := D3 (Or.inr (hw _ (List.mem_of_getElem? (i := 27) rfl))) (ty := .byte) (by decide)
  have F_value_b3 : Fld Z h3 b3 "java/lang/String" "value" "[B" .null := D3 (Or.inr (hw _ (List.mem_of_getElem? (i := 29) rfl))) (ty := (.array .byte)) (by decide)
  obtain ⟨_, _, ⟨T4, L4, k4, n4⟩, -, X4, ⟨Lc4, hQ4, l4, y4, z4⟩, st4⟩ := Jvm.LawKit.callS X3 hx (y := (⟨"java/lang/StringLatin1", "toBytes", "(C)[B"⟩ : MethodName)) hown (mvT hZ (hw _ (List.mem_of_getElem? (i := 42) rfl))) (mvT hZ (hw _ (List.mem_of_getElem? (i := 43) rfl))) (mvT hZ (hw _ (List.mem_of_getElem? (i := 39) rfl))) (mvT hZ (hw _ (List.mem_of_getElem? (i := 44) rfl))) (by decide) (backOf (W := 2) (rm_tob l Z a0 hw [] p0 h3 n0 Z3) hZ (hw _ (List.mem_of_getElem? (i := 44) rfl)) (hw _ (List.mem_of_getElem? (i := 39) rfl)) (by decide) (by decide)) (g := (mkF m 18 #[.val (.int p0)] [(.int p0), (.ref b3), (.ref b3)])) rfl (by rw [hml]; rfl) (argsL := [(.int p0)]) (rest := [(.ref b3), (.ref b3)]) (lenOf pd_2 rfl) rfl (by show 2 * 0 + _ ≤ _; exact Nat.le_of_eq rfl) (hb hby d7_18) (fun _ _ => ⟨rfl, e3, (by decide : 1 + 1 ≤ _), (by decide : 4 + 1 ≤ _)⟩)
  dsimp only [Pt.U, Pt.locs, Pt.cells, Pt.slots] at X4 l4 y4 z4 st4 hQ4
  subst l4 y4 z4
  obtain ⟨bx4, rfl, N4q, x4c0, x4c1, x4c2⟩ := hQ4
  have N4 := Fr.app N2 N4q
  have ne_b3_bx4 : b3 ≠ bx4 := Nat.ne_of_lt (Nat.lt_of_lt_of_le A3.lt x4c2)
  have A3_4 : Exa Z T4.heap b3 "java/lang/String" := A3.keep x4c0
  have F_coder_b3_4 : Fld Z T4.heap b3 "java/lang/String" "coder" "B" (.int (0 : Int32)) := F_coder_b3.keep x4c0 nin0
  have F_value_b3_4 : Fld Z T4.heap b3 "java/lang/String" "value" "[B" .null := F_value_b3.keep x4c0 nin0
  have Z4 : n0 ≤ T4.heap.size := Nat.le_trans Z3 x4c0.1
  have K4 : Keep h0 T4.heap [] := K3.trans x4c0 (all0 (P := fun x => x ∈ [] ∨ h0.size ≤ x))
  obtain ⟨_, _, ⟨T5, L5, k5, n5⟩, -, X5, ⟨Lc5, hQ5, l5, y5, z5⟩, st5⟩ := X4.specialBack hx (y := (⟨"java/lang/String", "<init>", "([BB)V"⟩ : MethodName)) rfl hown (mvT hZ (hw _ (List.mem_of_getElem? (i := 45) rfl))) (mvT hZ (hw _ (List.mem_of_getElem? (i := 46) rfl))) (mvT hZ (hw _ (List.mem_of_getElem? (i := 47) rfl))) (by decide) (backOf (W := 1) (rm_sbb l Z a0 hw [] b3 bx4 (0 : Int32) T4.heap n0 Z4 A3_4 F_value_b3_4 F_coder_b3_4 g_b3) hZ (hw _ (List.mem_of_getElem? (i := 47) rfl)) (hw _ (List.mem_of_getElem? (i := 3) rfl)) (by decide) (by decide)) (g := (mkF m 22 #[.val (.int p0)] [(.int (0 : Int32)), (.ref bx4), (.ref b3), (.ref b3)])) rfl (by rw [hml]; rfl) (Steps.refl _) (a := b3) (argsL := [(.ref bx4), (.int (0 : Int32))]) (rest := [(.ref b3)]) (lenOf pd_3 rfl) rfl (by show 2 * 0 + _ ≤ _; exact Nat.le_of_eq rfl) (hb hby d7_22) (fun _ _ => ⟨rfl, rfl, (by decide : 2 + 0 ≤ _), (by decide : 5 + 0 ≤ _)⟩)
  dsimp only [Pt.U, Pt.locs, Pt.cells, Pt.slots] at X5 l5 y5 z5 st5 hQ5
  subst l5 y5 z5
  obtain ⟨rfl, N5q, x5c0, x5c1, x5c2⟩ := hQ5
  have N5 := Fr.app N4 N5q
  have A3_5 : Exa Z T5.heap b3 "java/lang/String" := A3_4.keep x5c0
  have Z5 : n0 ≤ T5.heap.size := Nat.le_trans Z4 x5c0.1
  have K5 : Keep h0 T5.heap [] := K4.trans x5c0 (allS (P := fun x => x ∈ [] ∨ h0.size ≤ x) (Or.inr sz_b3) all0)
  obtain ⟨fs, hr, hrun, hended, hW, hsame⟩ := X5.leave (v := some (.ref b3)) (fun h => by rw [Bd.returns] at h; cases h)
  refine ⟨_, _, pre0 _ ?_, hrun, hended, _, _, rfl, ?_, ⟨_, rfl⟩, hW, hsame.mono (by decide) (by decide)⟩
  · show Steps p.tables e below (s₁.setTop (mkF m 0 #[.val (.int p0)] [])) _
    refine st1 _ ?_
    show Steps p.tables e below (T1.setTop (mkF m 3 #[.val (.int p0)] [(.int zc)])) _
    refine XS.ifNo X1.here hx rfl (hb hby d7_3) rfl ((if0 _ _).trans (feq P5).1) ?_
    show Steps p.tables e below (T1.setTop (mkF m 6 #[.val (.int p0)] [])) _
    refine XS.iloadN X1.here hx rfl (hb hby d7_6) rfl ?_
    show Steps p.tables e below (T1.setTop (mkF m 7 #[.val (.int p0)] [(.int p0)])) _
    refine st2 _ ?_
    show Steps p.tables e below (T2.setTop (mkF m 10 #[.val (.int p0)] [(.int (1 : Int32))])) _
    refine XS.ifNo X2.here hx rfl (hb hby d7_10) rfl ((if0 _ _).trans (feq (by decide : ¬ ((1 : Int32) = (0 : Int32)))).1) ?_
    show Steps p.tables e below (T2.setTop (mkF m 13 #[.val (.int p0)] [])) _
    refine st3 _ ?_
    show Steps p.tables e below (T3.setTop (mkF m 16 #[.val (.int p0)] [(.ref b3)])) _
    refine XS.dup X3.here hx rfl (hb hby d7_16) rfl rfl ?_
    show Steps p.tables e below (T3.setTop (mkF m 17 #[.val (.int p0)] [(.ref b3), (.ref b3)])) _
    refine XS.iloadN X3.here hx rfl (hb hby d7_17) rfl ?_
    show Steps p.tables e below (T3.setTop (mkF m 18 #[.val (.int p0)] [(.int p0), (.ref b3), (.ref b3)])) _
    refine st4 _ ?_
    show Steps p.tables e below (T4.setTop (mkF m 21 #[.val (.int p0)] [(.ref bx4), (.ref b3), (.ref b3)])) _
    refine XS.iconst X4.here hx rfl (hb hby d7_21) ?_
    show Steps p.tables e below (T4.setTop (mkF m 22 #[.val (.int p0)] [(.int (0 : Int32)), (.ref bx4), (.ref b3), (.ref b3)])) _
    refine st5.trans ?_
    show Steps p.tables e below (T5.setTop (mkF m 25 #[.val (.int p0)] [(.ref b3)])) _
    exact retOut X5 hx Bd.returns (by rfl) (Or.inr (Or.inr (Or.inr (Or.inr ⟨rfl, rfl, rfl⟩)))) (hb hby d7_25) hr
  · show Q_rm_vof Z p0 zc h0 n0 _ T5.heap _
    exact ⟨b3, rfl, N5, K5, g_b3, sz_b3, A3_5⟩
theorem d12_0 : decode prog_5_method_2_code 0 = .ok (.aload_n 0, 1) := by decide +kernel
theorem d12_1 : decode prog_5_method_2_code 1 = .ok (.invokespecial 7, 3) := by decide +kernel
theorem d12_4 : decode prog_5_method_2_code 4 = .ok (.aload_n 0, 1) := by decide +kernel
theorem d12_5 : decode prog_5_method_2_code 5 = .ok (.aload_n 1, 1) := by decide +kernel
theorem d12_6 : decode prog_5_method_2_code 6 = .ok (.putfield 12, 3) := by decide +kernel
theorem d12_9 : decode prog_5_method_2_code 9 = .ok (.aload_n 0, 1) := by decide +kernel
theorem d12_10 : decode prog_5_method_2_code 10 = .ok (.aload_n 2, 1) := by decide +kernel
theorem d12_11 : decode prog_5_method_2_code 11 = .ok (.putfield 16, 3) := by decide +kernel
theorem d12_14 : decode prog_5_method_2_code 14 = .ok (.aload_n 0, 1) := by decide +kernel
theorem d12_15 : decode prog_5_method_2_code 15 = .ok (.aload_n 3, 1) := by decide +kernel
theorem d12_16 : decode prog_5_method_2_code 16 = .ok (.putfield 19, 3) := by decide +kernel
theorem d12_19 : decode prog_5_method_2_code 19 = .ok (.aload_n 0, 1) := by decide +kernel
theorem d12_20 : decode prog_5_method_2_code 20 = .ok (.iload 4, 2) := by decide +kernel
theorem d12_22 : decode prog_5_method_2_code 22 = .ok (.putfield 22, 3) := by decide +kernel
theorem d12_25 : decode prog_5_method_2_code 25 = .ok (.return_, 1) := by decide +kernel
theorem pn_2 : plainName "com/example/watchpost/watchpost/Option" = true := by first | (simp [plainName, overriddenIn]; done) | decide +kernel
theorem ef_12_rm_opt00 (m : MethodId) (x0 : Addr) (x1 : Addr) (x4 : Int32) : entryFrame m #[(.ref x0), (.ref x1), .null, .null, (.int x4)] 5 = mkF m 0 #[.val (.ref x0), .val (.ref x1), .val .null, .val .null, .val (.int x4)] [] := by first | (simp [entryFrame, mkF, argsToLocals, Value.category]; done) | rfl
def Q_rm_opt00 (Z : State) (a0x : Addr) (a1x : Addr) (p1 : Int32) (h0 : Heap) (n0 : Nat) (v : Option Value) (h : Heap) (L : List Loc) : Prop := v = none ∧ Fr n0 L ∧ Keep h0 h [a0x] ∧ Fld Z h a0x "com/example/watchpost/watchpost/Option" "name" "Ljava/lang/String;" (.ref a1x) ∧ Fld Z h a0x "com/example/watchpost/watchpost/Option" "shortName" "Ljava/lang/String;" .null ∧ Fld Z h a0x "com/example/watchpost/watchpost/Option" "value" "Ljava/lang/String;" .null ∧ Fld Z h a0x "com/example/watchpost/watchpost/Option" "required" "Z" (.int (nar .boolean p1))
set_option maxRecDepth 65536 in
set_option maxHeartbeats 40000000 in
theorem rm_opt00 (l : Launch) (Z : State) (a0 : Array Value) (hw : ∀ d ∈ tables_1, d.before a0 Z = true) (ws : List Jvm.Cond) (a0x : Addr) (a1x : Addr) (p1 : Int32) (h0 : Heap) (n0 : Nat) (Z0 : n0 ≤ h0.size) (E0x : Exa Z h0 a0x "com/example/watchpost/watchpost/Option") (F0x0 : Fld Z h0 a0x "com/example/watchpost/watchpost/Option" "name" "Ljava/lang/String;" .null) (F0x1 : Fld Z h0 a0x "com/example/watchpost/watchpost/Option" "shortName" "Ljava/lang/String;" .null) (F0x2 : Fld Z h0 a0x "com/example/watchpost/watchpost/Option" "value" "Ljava/lang/String;" .null) (F0x3 : Fld Z h0 a0x "com/example/watchpost/watchpost/Option" "required" "Z" (.int (0 : Int32))) (g0x : n0 ≤ a0x) :
    MetFree l (⟨"com/example/watchpost/watchpost/Option", "<init>", "(Ljava/lang/String;Ljava/lang/String;Ljava/lang/String;Z)V"⟩ : MethodName) (head1 (Jvm.Cond.code (⟨"com/example/watchpost/watchpost/Option", "<init>", "(Ljava/lang/String;Ljava/lang/String;Ljava/lang/String;Z)V"⟩ : MethodName) prog_5_method_2_code 5 none :: ws) ({ frames := 1, cells := 0, slots := 0, locals := 12 } : Room)) (fun a U => a = #[(.ref a0x), (.ref a1x), .null, .null, (.int p1)] ∧ Z.Warmed39 U.vm ∧ U.heap = h0) (fun _ _ _ _ _ => True) (fun _ U o U' => ∃ v L, o = .returned v ∧ Q_rm_opt00 Z a0x a1x p1 h0 n0 v U'.heap L ∧ FrameEnd U o U' L ({ frames := 1, cells := 0, slots := 0, locals := 12 } : Room).cells ({ frames := 1, cells := 0, slots := 0, locals := 12 } : Room).slots) := by
  refine MetFree.of_bodySF (plainFor_of_name pn_2) hisR ?_
  intro p e s m args below meth c s₁ Bd hml0 hP hK
  obtain ⟨rfl, hZ, hh⟩ := hP
  have hx := Bd.exec
  have hby := Bd.bytes
  have hml : c.maxLocals = 5 := hml0
  have hown : s.vm.findClass "com/example/watchpost/watchpost/Option" = some m.cls := findClass_of_methodNamed Bd.named
  have hnm := (name_of_methodNamed Bd.named Bd.method).1
  have X0 : Stand p l e ({ frames := 1, cells := 0, slots := 0, locals := 12 } : Room) s m #[(.ref a0x), (.ref a1x), .null, .null, (.int p1)] below meth c s₁ [] 0 0 := Stand.of_body Bd
  have e0 : s₁.heap = h0 := by rw [← hh, Bd.state]; rfl
  have N0 := Fr.nil n0
  have K0 : Keep h0 h0 [a0x] := Keep.refl h0 [a0x]
  have pre0 : ∀ t, Steps p.tables e below (s₁.setTop (mkF m 0 #[.val (.ref a0x), .val (.ref a1x), .val .null, .val .null, .val (.int p1)] [])) t → Steps p.tables e below (s₁.setTop (entryFrame m #[(.ref a0x), (.ref a1x), .null, .null, (.int p1)] 5)) t := fun t k => castTop (ef_12_rm_opt00 m a0x a1x p1) k
  obtain ⟨T1, X1, e1, st1⟩ := initO X0 hx hZ hown (hw _ (List.mem_of_getElem? (i := 57) rfl)) (hw _ (List.mem_of_getElem? (i := 12) rfl)) (hw _ (List.mem_of_getElem? (i := 13) rfl)) e0 (g := (mkF m 1 #[.val (.ref a0x), .val (.ref a1x), .val .null, .val .null, .val (.int p1)] [(.ref a0x)])) rfl (by rw [hml]; rfl) rfl (hb hby d12_1) (by decide) (W := 0) (by show 2 * 0 + _ ≤ _; exact Nat.le_of_eq rfl) (by decide)
  obtain ⟨T2, h2, X2, e2, W2, st2⟩ := putF X1 hx hZ hown (host := "") (Or.inl (hw _ (List.mem_of_getElem? (i := 58) rfl))) Via.refl e1 F0x0 E0x (Or.inr ⟨(hw _ (List.mem_of_getElem? (i := 59) rfl)), rfl, hnm⟩) (hw _ (List.mem_of_getElem? (i := 49) rfl)) (ty := (.object "java/lang/String")) (by decide) rfl rfl (g := (mkF m 6 #[.val (.ref a0x), .val (.ref a1x), .val .null, .val .null, .val (.int p1)] [(.ref a1x), (.ref a0x)])) rfl rfl (hb hby d12_6)
  have N2 := Fr.snoc X2 N0 g0x
  have Fw2 : Fld Z h2 a0x "com/example/watchpost/watchpost/Option" "name" "Ljava/lang/String;" (.ref a1x) := F0x0.same W2
  have E0x_2 : Exa Z h2 a0x "com/example/watchpost/watchpost/Option" := E0x.wr W2
  have F0x1_2 : Fld Z h2 a0x "com/example/watchpost/watchpost/Option" "shortName" "Ljava/lang/String;" .null := F0x1.other W2 (Or.inr (slot_ne (Or.inr (hw _ (List.mem_of_getElem? (i := 61) rfl))) (Or.inr (hw _ (List.mem_of_getElem? (i := 59) rfl))) (by decide) (t := (.object "java/lang/String")) (t' := (.object "java/lang/String")) (by decide) (by decide)))
  have F0x2_2 : Fld Z h2 a0x "com/example/watchpost/watchpost/Option" "value" "Ljava/lang/String;" .null := F0x2.other W2 (Or.inr (slot_ne (Or.inr (hw _ (List.mem_of_getElem? (i := 63) rfl))) (Or.inr (hw _ (List.mem_of_getElem? (i := 59) rfl))) (by decide) (t := (.object "java/lang/String")) (t' := (.object "java/lang/String")) (by decide) (by decide)))
  have F0x3_2 : Fld Z h2 a0x "com/example/watchpost/watchpost/Option" "required" "Z" (.int (0 : Int32)) := F0x3.other W2 (Or.inr (slot_ne (Or.inr (hw _ (List.mem_of_getElem? (i := 65) rfl))) (Or.inr (hw _ (List.mem_of_getElem? (i := 59) rfl))) (by decide) (t := .boolean) (t' := (.object "java/lang/String")) (by decide) (by decide)))
  have Z2 : n0 ≤ h2.size := Nat.le_trans Z0 (Keep.of_wr W2).1
  have K2 : Keep h0 h2 [a0x] := K0.wr W2 (Or.inl (List.mem_of_getElem? (i := 0) rfl))
  obtain ⟨T3, h3, X3, e3, W3, st3⟩ := putF X2 hx hZ hown (host := "") (Or.inl (hw _ (List.mem_of_getElem? (i := 60) rfl))) Via.refl e2 F0x1_2 E0x_2 (Or.inr ⟨(hw _ (List.mem_of_getElem? (i := 61) rfl)), rfl, hnm⟩) (hw _ (List.mem_of_getElem? (i := 49) rfl)) (ty := (.object "java/lang/String")) (by decide) rfl rfl (g := (mkF m 11 #[.val (.ref a0x), .val (.ref a1x), .val .null, .val .null, .val (.int p1)] [.null, (.ref a0x)])) rfl rfl (hb hby d12_11)
  have N3 := Fr.snoc X3 N2 g0x
  have Fw3 : Fld Z h3 a0x "com/example/watchpost/watchpost/Option" "shortName" "Ljava/lang/String;" .null := F0x1_2.same W3
  have E0x_3 : Exa Z h3 a0x "com/example/watchpost/watchpost/Option" := E0x_2.wr W3
  have F0x2_3 : Fld Z h3 a0x "com/example/watchpost/watchpost/Option" "value" "Ljava/lang/String;" .null := F0x2_2.other W3 (Or.inr (slot_ne (Or.inr (hw _ (List.mem_of_getElem? (i := 63) rfl))) (Or.inr (hw _ (List.mem_of_getElem? (i := 61) rfl))) (by decide) (t := (.object "java/lang/String")) (t' := (.object "java/lang/String")) (by decide) (by decide)))
  have F0x3_3 : Fld Z h3 a0x "com/example/watchpost/watchpost/Option" "required" "Z" (.int (0 : Int32)) := F0x3_2.other W3 (Or.inr (slot_ne (Or.inr (hw _ (List.mem_of_getElem? (i := 65) rfl))) (Or.inr (hw _ (List.mem_of_getElem? (i := 61) rfl))) (by decide) (t := .boolean) (t' := (.object "java/lang/String")) (by decide) (by decide)))
  have Fw2_3 : Fld Z h3 a0x "com/example/watchpost/watchpost/Option" "name" "Ljava/lang/String;" (.ref a1x) := Fw2.other W3 (Or.inr (slot_ne (Or.inr (hw _ (List.mem_of_getElem? (i := 59) rfl))) (Or.inr (hw _ (List.mem_of_getElem? (i := 61) rfl))) (by decide) (t := (.object "java/lang/String")) (t' := (.object "java/lang/String")) (by decide) (by decide)))
  have Z3 : n0 ≤ h3.size := Nat.le_trans Z2 (Keep.of_wr W3).1
  have K3 : Keep h0 h3 [a0x] := K2.wr W3 (Or.inl (List.mem_of_getElem? (i := 0) rfl))
  obtain ⟨T4, h4, X4, e4, W4, st4⟩ := putF X3 hx hZ hown (host := "") (Or.inl (hw _ (List.mem_of_getElem? (i := 62) rfl))) Via.refl e3 F0x2_3 E0x_3 (Or.inr ⟨(hw _ (List.mem_of_getElem? (i := 63) rfl)), rfl, hnm⟩) (hw _ (List.mem_of_getElem? (i := 49) rfl)) (ty := (.object "java/lang/String")) (by decide) rfl rfl (g := (mkF m 16 #[.val (.ref a0x), .val (.ref a1x), .val .null, .val .null, .val (.int p1)] [.null, (.ref a0x)])) rfl rfl (hb hby d12_16)
  have N4 := Fr.snoc X4 N3 g0x
  have Fw4 : Fld Z h4 a0x "com/example/watchpost/watchpost/Option" "value" "Ljava/lang/String;" .null := F0x2_3.same W4
  have E0x_4 : Exa Z h4 a0x "com/example/watchpost/watchpost/Option" := E0x_3.wr W4
  have F0x3_4 : Fld Z h4 a0x "com/example/watchpost/watchpost/Option" "required" "Z" (.int (0 : Int32)) := F0x3_3.other W4 (Or.inr (slot_ne (Or.inr (hw _ (List.mem_of_getElem? (i := 65) rfl))) (Or.inr (hw _ (List.mem_of_getElem? (i := 63) rfl))) (by decide) (t := .boolean) (t' := (.object "java/lang/String")) (by decide) (by decide)))
  have Fw2_4 : Fld Z h4 a0x "com/example/watchpost/watchpost/Option" "name" "Ljava/lang/String;" (.ref a1x) := Fw2_3.other W4 (Or.inr (slot_ne (Or.inr (hw _ (List.mem_of_getElem? (i := 59) rfl))) (Or.inr (hw _ (List.mem_of_getElem? (i := 63) rfl))) (by decide) (t := (.object "java/lang/String")) (t' := (.object "java/lang/String")) (by decide) (by decide)))
  have Fw3_4 : Fld Z h4 a0x "com/example/watchpost/watchpost/Option" "shortName" "Ljava/lang/String;" .null := Fw3.other W4 (Or.inr (slot_ne (Or.inr (hw _ (List.mem_of_getElem? (i := 61) rfl))) (Or.inr (hw _ (List.mem_of_getElem? (i := 63) rfl))) (by decide) (t := (.object "java/lang/String")) (t' := (.object "java/lang/String")) (by decide) (by decide)))
  have Z4 : n0 ≤ h4.size := Nat.le_trans Z3 (Keep.of_wr W4).1
  have K4 : Keep h0 h4 [a0x] := K3.wr W4 (Or.inl (List.mem_of_getElem? (i := 0) rfl))
  obtain ⟨T5, h5, X5, e5, W5, st5⟩ := putFN X4 hx hZ hown (hw _ (List.mem_of_getElem? (i := 64) rfl)) Via.refl e4 F0x3_4 E0x_4 (Or.inr ⟨(hw _ (List.mem_of_getElem? (i := 65) rfl)), rfl, hnm⟩) (hw _ (List.mem_of_getElem? (i := 49) rfl)) (ty := .boolean) (v' := (.int (nar .boolean p1))) (by decide) rfl (fits_nar_bool _) (g := (mkF m 22 #[.val (.ref a0x), .val (.ref a1x), .val .null, .val .null, .val (.int p1)] [(.int p1), (.ref a0x)])) rfl rfl (hb hby d12_22)
  have N5 := Fr.snoc X5 N4 g0x
  have Fw5 : Fld Z h5 a0x "com/example/watchpost/watchpost/Option" "required" "Z" (.int (nar .boolean p1)) := F0x3_4.same W5
  have E0x_5 : Exa Z h5 a0x "com/example/watchpost/watchpost/Option" := E0x_4.wr W5
  have Fw2_5 : Fld Z h5 a0x "com/example/watchpost/watchpost/Option" "name" "Ljava/lang/String;" (.ref a1x) := Fw2_4.other W5 (Or.inr (slot_ne (Or.inr (hw _ (List.mem_of_getElem? (i := 59) rfl))) (Or.inr (hw _ (List.mem_of_getElem? (i := 65) rfl))) (by decide) (t := (.object "java/lang/String")) (t' := .boolean) (by decide) (by decide)))
  have Fw3_5 : Fld Z h5 a0x "com/example/watchpost/watchpost/Option" "shortName" "Ljava/lang/String;" .null := Fw3_4.other W5 (Or.inr (slot_ne (Or.inr (hw _ (List.mem_of_getElem? (i := 61) rfl))) (Or.inr (hw _ (List.mem_of_getElem? (i := 65) rfl))) (by decide) (t := (.object "java/lang/String")) (t' := .boolean) (by decide) (by decide)))
  have Fw4_5 : Fld Z h5 a0x "com/example/watchpost/watchpost/Option" "value" "Ljava/lang/String;" .null := Fw4.other W5 (Or.inr (slot_ne (Or.inr (hw _ (List.mem_of_getElem? (i := 63) rfl))) (Or.inr (hw _ (List.mem_of_getElem? (i := 65) rfl))) (by decide) (t := (.object "java/lang/String")) (t' := .boolean) (by decide) (by decide)))
  have Z5 : n0 ≤ h5.size := Nat.le_trans Z4 (Keep.of_wr W5).1
  have K5 : Keep h0 h5 [a0x] := K4.wr W5 (Or.inl (List.mem_of_getElem? (i := 0) rfl))
  obtain ⟨fs, hr, hrun, hended, hW, hsame⟩ := X5.leave (v := none) (fun _ => rfl)
  refine ⟨_, _, pre0 _ ?_, hrun, hended, _, _, rfl, ?_, ⟨_, rfl⟩, hW, hsame.mono (by decide) (by decide)⟩
  · show Steps p.tables e below (s₁.setTop (mkF m 0 #[.val (.ref a0x), .val (.ref a1x), .val .null, .val .null, .val (.int p1)] [])) _
    refine XS.aloadN X0.here hx rfl (hb hby d12_0) rfl rfl ?_
    show Steps p.tables e below (s₁.setTop (mkF m 1 #[.val (.ref a0x), .val (.ref a1x), .val .null, .val .null, .val (.int p1)] [(.ref a0x)])) _
    refine st1 _ ?_
    show Steps p.tables e below (T1.setTop (mkF m 4 #[.val (.ref a0x), .val (.ref a1x), .val .null, .val .null, .val (.int p1)] [])) _
    refine XS.aloadN X1.here hx rfl (hb hby d12_4) rfl rfl ?_
    show Steps p.tables e below (T1.setTop (mkF m 5 #[.val (.ref a0x), .val (.ref a1x), .val .null, .val .null, .val (.int p1)] [(.ref a0x)])) _
    refine XS.aloadN X1.here hx rfl (hb hby d12_5) rfl rfl ?_
    show Steps p.tables e below (T1.setTop (mkF m 6 #[.val (.ref a0x), .val (.ref a1x), .val .null, .val .null, .val (.int p1)] [(.ref a1x), (.ref a0x)])) _
    refine st2 _ ?_
    show Steps p.tables e below (T2.setTop (mkF m 9 #[.val (.ref a0x), .val (.ref a1x), .val .null, .val .null, .val (.int p1)] [])) _
    refine XS.aloadN X2.here hx rfl (hb hby d12_9) rfl rfl ?_
    show Steps p.tables e below (T2.setTop (mkF m 10 #[.val (.ref a0x), .val (.ref a1x), .val .null, .val .null, .val (.int p1)] [(.ref a0x)])) _
    refine XS.aloadN X2.here hx rfl (hb hby d12_10) rfl rfl ?_
    show Steps p.tables e below (T2.setTop (mkF m 11 #[.val (.ref a0x), .val (.ref a1x), .val .null, .val .null, .val (.int p1)] [.null, (.ref a0x)])) _
    refine st3 _ ?_
    show Steps p.tables e below (T3.setTop (mkF m 14 #[.val (.ref a0x), .val (.ref a1x), .val .null, .val .null, .val (.int p1)] [])) _
    refine XS.aloadN X3.here hx rfl (hb hby d12_14) rfl rfl ?_
    show Steps p.tables e below (T3.setTop (mkF m 15 #[.val (.ref a0x), .val (.ref a1x), .val .null, .val .null, .val (.int p1)] [(.ref a0x)])) _
    refine XS.aloadN X3.here hx rfl (hb hby d12_15) rfl rfl ?_
    show Steps p.tables e below (T3.setTop (mkF m 16 #[.val (.ref a0x), .val (.ref a1x), .val .null, .val .null, .val (.int p1)] [.null, (.ref a0x)])) _
    refine st4 _ ?_
    show Steps p.tables e below (T4.setTop (mkF m 19 #[.val (.ref a0x), .val (.ref a1x), .val .null, .val .null, .val (.int p1)] [])) _
    refine XS.aloadN X4.here hx rfl (hb hby d12_19) rfl rfl ?_
    show Steps p.tables e below (T4.setTop (mkF m 20 #[.val (.ref a0x), .val (.ref a1x), .val .null, .val .null, .val (.int p1)] [(.ref a0x)])) _
    refine XS.iload X4.here hx rfl (hb hby d12_20) rfl ?_
    show Steps p.tables e below (T4.setTop (mkF m 22 #[.val (.ref a0x), .val (.ref a1x), .val .null, .val .null, .val (.int p1)] [(.int p1), (.ref a0x)])) _
    refine st5 _ ?_
    show Steps p.tables e below (T5.setTop (mkF m 25 #[.val (.ref a0x), .val (.ref a1x), .val .null, .val .null, .val (.int p1)] [])) _
    exact X5.returnOut hx Bd.returns (hb hby d12_25) hr
  · show Q_rm_opt00 Z a0x a1x p1 h0 n0 _ T5.heap _
    rw [e5]
    exact ⟨rfl, N5, K5, Fw2_5, Fw3_5, Fw4_5, Fw5⟩
theorem ef_12_rm_opt01 (m : MethodId) (x0 : Addr) (x1 : Addr) (x3 : Addr) (x4 : Int32) : entryFrame m #[(.ref x0), (.ref x1), .null, (.ref x3), (.int x4)] 5 = mkF m 0 #[.val (.ref x0), .val (.ref x1), .val .null, .val (.ref x3), .val (.int x4)] [] := by first | (simp [entryFrame, mkF, argsToLocals, Value.category]; done) | rfl
def Q_rm_opt01 (Z : State) (a0x : Addr) (a1x : Addr) (a3x : Addr) (p1 : Int32) (h0 : Heap) (n0 : Nat) (v : Option Value) (h : Heap) (L : List Loc) : Prop := v = none ∧ Fr n0 L ∧ Keep h0 h [a0x] ∧ Fld Z h a0x "com/example/watchpost/watchpost/Option" "name" "Ljava/lang/String;" (.ref a1x) ∧ Fld Z h a0x "com/example/watchpost/watchpost/Option" "shortName" "Ljava/lang/String;" .null ∧ Fld Z h a0x "com/example/watchpost/watchpost/Option" "value" "Ljava/lang/String;" (.ref a3x) ∧ Fld Z h a0x "com/example/watchpost/watchpost/Option" "required" "Z" (.int (nar .boolean p1))
set_option maxRecDepth 65536 in
set_option maxHeartbeats 40000000 in
theorem rm_opt01 (l : Launch) (Z : State) (a0 : Array Value) (hw : ∀ d ∈ tables_1, d.before a0 Z = true) (ws : List Jvm.Cond) (a0x : Addr) (a1x : Addr) (a3x : Addr) (p1 : Int32) (h0 : Heap) (n0 : Nat) (Z0 : n0 ≤ h0.size) (E0x : Exa Z h0 a0x "com/example/watchpost/watchpost/Option") (F0x0 : Fld Z h0 a0x "com/example/watchpost/watchpost/Option" "name" "Ljava/lang/String;" .null) (F0x1 : Fld Z h0 a0x "com/example/watchpost/watchpost/Option" "shortName" "Ljava/lang/String;" .null) (F0x2 : Fld Z h0 a0x "com/example/watchpost/watchpost/Option" "value" "Ljava/lang/String;" .null) (F0x3 : Fld Z h0 a0x "com/example/watchpost/watchpost/Option" "required" "Z" (.int (0 : Int32))) (g0x : n0 ≤ a0x) :
    MetFree l (⟨"com/example/watchpost/watchpost/Option", "<init>", "(Ljava/lang/String;Ljava/lang/String;Ljava/lang/String;Z)V"⟩ : MethodName) (head1 (Jvm.Cond.code (⟨"com/example/watchpost/watchpost/Option", "<init>", "(Ljava/lang/String;Ljava/lang/String;Ljava/lang/String;Z)V"⟩ : MethodName) prog_5_method_2_code 5 none :: ws) ({ frames := 1, cells := 0, slots := 0, locals := 12 } : Room)) (fun a U => a = #[(.ref a0x), (.ref a1x), .null, (.ref a3x), (.int p1)] ∧ Z.Warmed39 U.vm ∧ U.heap = h0) (fun _ _ _ _ _ => True) (fun _ U o U' => ∃ v L, o = .returned v ∧ Q_rm_opt01 Z a0x a1x a3x p1 h0 n0 v U'.heap L ∧ FrameEnd U o U' L ({ frames := 1, cells := 0, slots := 0, locals := 12 } : Room).cells ({ frames := 1, cells := 0, slots := 0, locals := 12 } : Room).slots) := by
  refine MetFree.of_bodySF (plainFor_of_name pn_2) hisR ?_
  intro p e s m args below meth c s₁ Bd hml0 hP hK
  obtain ⟨rfl, hZ, hh⟩ := hP
  have hx := Bd.exec
  have hby := Bd.bytes
  have hml : c.maxLocals = 5 := hml0
  have hown : s.vm.findClass "com/example/watchpost/watchpost/Option" = some m.cls := findClass_of_methodNamed Bd.named
  have hnm := (name_of_methodNamed Bd.named Bd.method).1
  have X0 : Stand p l e ({ frames := 1, cells := 0, slots := 0, locals := 12 } : Room) s m #[(.ref a0x), (.ref a1x), .null, (.ref a3x), (.int p1)] below meth c s₁ [] 0 0 := Stand.of_body Bd
  have e0 : s₁.heap = h0 := by rw [← hh, Bd.state]; rfl
  have N0 := Fr.nil n0
  have K0 : Keep h0 h0 [a0x] := Keep.refl h0 [a0x]
  have pre0 : ∀ t, Steps p.tables e below (s₁.setTop (mkF m 0 #[.val (.ref a0x), .val (.ref a1x), .val .null, .val (.ref a3x), .val (.int p1)] [])) t → Steps p.tables e below (s₁.setTop (entryFrame m #[(.ref a0x), (.ref a1x), .null, (.ref a3x), (.int p1)] 5)) t := fun t k => castTop (ef_12_rm_opt01 m a0x a1x a3x p1) k
  obtain ⟨T1, X1, e1, st1⟩ := initO X0 hx hZ hown (hw _ (List.mem_of_getElem? (i := 57) rfl)) (hw _ (List.mem_of_getElem? (i := 12) rfl)) (hw _ (List.mem_of_getElem? (i := 13) rfl)) e0 (g := (mkF m 1 #[.val (.ref a0x), .val (.ref a1x), .val .null, .val (.ref a3x), .val (.int p1)] [(.ref a0x)])) rfl (by rw [hml]; rfl) rfl (hb hby d12_1) (by decide) (W := 0) (by show 2 * 0 + _ ≤ _; exact Nat.le_of_eq rfl) (by decide)
  obtain ⟨T2, h2, X2, e2, W2, st2⟩ := putF X1 hx hZ hown (host := "") (Or.inl (hw _ (List.mem_of_getElem? (i := 58) rfl))) Via.refl e1 F0x0 E0x (Or.inr ⟨(hw _ (List.mem_of_getElem? (i := 59) rfl)), rfl, hnm⟩) (hw _ (List.mem_of_getElem? (i := 49) rfl)) (ty := (.object "java/lang/String")) (by decide) rfl rfl (g := (mkF m 6 #[.val (.ref a0x), .val (.ref a1x), .val .null, .val (.ref a3x), .val (.int p1)] [(.ref a1x), (.ref a0x)])) rfl rfl (hb hby d12_6)
  have N2 := Fr.snoc X2 N0 g0x
  have Fw2 : Fld Z h2 a0x "com/example/watchpost/watchpost/Option" "name" "Ljava/lang/String;" (.ref a1x) := F0x0.same W2
  have E0x_2 : Exa Z h2 a0x "com/example/watchpost/watchpost/Option" := E0x.wr W2
  have F0x1_2 : Fld Z h2 a0x "com/example/watchpost/watchpost/Option" "shortName" "Ljava/lang/String;" .null := F0x1.other W2 (Or.inr (slot_ne (Or.inr (hw _ (List.mem_of_getElem? (i := 61) rfl))) (Or.inr (hw _ (List.mem_of_getElem? (i := 59) rfl))) (by decide) (t := (.object "java/lang/String")) (t' := (.object "java/lang/String")) (by decide) (by decide)))
  have F0x2_2 : Fld Z h2 a0x "com/example/watchpost/watchpost/Option" "value" "Ljava/lang/String;" .null := F0x2.other W2 (Or.inr (slot_ne (Or.inr (hw _ (List.mem_of_getElem? (i := 63) rfl))) (Or.inr (hw _ (List.mem_of_getElem? (i := 59) rfl))) (by decide) (t := (.object "java/lang/String")) (t' := (.object "java/lang/String")) (by decide) (by decide)))
  have F0x3_2 : Fld Z h2 a0x "com/example/watchpost/watchpost/Option" "required" "Z" (.int (0 : Int32)) := F0x3.other W2 (Or.inr (slot_ne (Or.inr (hw _ (List.mem_of_getElem? (i := 65) rfl))) (Or.inr (hw _ (List.mem_of_getElem? (i := 59) rfl))) (by decide) (t := .boolean) (t' := (.object "java/lang/String")) (by decide) (by decide)))
  have Z2 : n0 ≤ h2.size := Nat.le_trans Z0 (Keep.of_wr W2).1
  have K2 : Keep h0 h2 [a0x] := K0.wr W2 (Or.inl (List.mem_of_getElem? (i := 0) rfl))
  obtain ⟨T3, h3, X3, e3, W3, st3⟩ := putF X2 hx hZ hown (host := "") (Or.inl (hw _ (List.mem_of_getElem? (i := 60) rfl))) Via.refl e2 F0x1_2 E0x_2 (Or.inr ⟨(hw _ (List.mem_of_getElem? (i := 61) rfl)), rfl, hnm⟩) (hw _ (List.mem_of_getElem? (i := 49) rfl)) (ty := (.object "java/lang/String")) (by decide) rfl rfl (g := (mkF m 11 #[.val (.ref a0x), .val (.ref a1x), .val .null, .val (.ref a3x), .val (.int p1)] [.null, (.ref a0x)])) rfl rfl (hb hby d12_11)
  have N3 := Fr.snoc X3 N2 g0x
  have Fw3 : Fld Z h3 a0x "com/example/watchpost/watchpost/Option" "shortName" "Ljava/lang/String;" .null := F0x1_2.same W3
  have E0x_3 : Exa Z h3 a0x "com/example/watchpost/watchpost/Option" := E0x_2.wr W3
  have F0x2_3 : Fld Z h3 a0x "com/example/watchpost/watchpost/Option" "value" "Ljava/lang/String;" .null := F0x2_2.other W3 (Or.inr (slot_ne (Or.inr (hw _ (List.mem_of_getElem? (i := 63) rfl))) (Or.inr (hw _ (List.mem_of_getElem? (i := 61) rfl))) (by decide) (t := (.object "java/lang/String")) (t' := (.object "java/lang/String")) (by decide) (by decide)))
  have F0x3_3 : Fld Z h3 a0x "com/example/watchpost/watchpost/Option" "required" "Z" (.int (0 : Int32)) := F0x3_2.other W3 (Or.inr (slot_ne (Or.inr (hw _ (List.mem_of_getElem? (i := 65) rfl))) (Or.inr (hw _ (List.mem_of_getElem? (i := 61) rfl))) (by decide) (t := .boolean) (t' := (.object "java/lang/String")) (by decide) (by decide)))
  have Fw2_3 : Fld Z h3 a0x "com/example/watchpost/watchpost/Option" "name" "Ljava/lang/String;" (.ref a1x) := Fw2.other W3 (Or.inr (slot_ne (Or.inr (hw _ (List.mem_of_getElem? (i := 59) rfl))) (Or.inr (hw _ (List.mem_of_getElem? (i := 61) rfl))) (by decide) (t := (.object "java/lang/String")) (t' := (.object "java/lang/String")) (by decide) (by decide)))
  have Z3 : n0 ≤ h3.size := Nat.le_trans Z2 (Keep.of_wr W3).1
  have K3 : Keep h0 h3 [a0x] := K2.wr W3 (Or.inl (List.mem_of_getElem? (i := 0) rfl))
  obtain ⟨T4, h4, X4, e4, W4, st4⟩ := putF X3 hx hZ hown (host := "") (Or.inl (hw _ (List.mem_of_getElem? (i := 62) rfl))) Via.refl e3 F0x2_3 E0x_3 (Or.inr ⟨(hw _ (List.mem_of_getElem? (i := 63) rfl)), rfl, hnm⟩) (hw _ (List.mem_of_getElem? (i := 49) rfl)) (ty := (.object "java/lang/String")) (by decide) rfl rfl (g := (mkF m 16 #[.val (.ref a0x), .val (.ref a1x), .val .null, .val (.ref a3x), .val (.int p1)] [(.ref a3x), (.ref a0x)])) rfl rfl (hb hby d12_16)
  have N4 := Fr.snoc X4 N3 g0x
  have Fw4 : Fld Z h4 a0x "com/example/watchpost/watchpost/Option" "value" "Ljava/lang/String;" (.ref a3x) := F0x2_3.same W4
  have E0x_4 : Exa Z h4 a0x "com/example/watchpost/watchpost/Option" := E0x_3.wr W4
  have F0x3_4 : Fld Z h4 a0x "com/example/watchpost/watchpost/Option" "required" "Z" (.int (0 : Int32)) := F0x3_3.other W4 (Or.inr (slot_ne (Or.inr (hw _ (List.mem_of_getElem? (i := 65) rfl))) (Or.inr (hw _ (List.mem_of_getElem? (i := 63) rfl))) (by decide) (t := .boolean) (t' := (.object "java/lang/String")) (by decide) (by decide)))
  have Fw2_4 : Fld Z h4 a0x "com/example/watchpost/watchpost/Option" "name" "Ljava/lang/String;" (.ref a1x) := Fw2_3.other W4 (Or.inr (slot_ne (Or.inr (hw _ (List.mem_of_getElem? (i := 59) rfl))) (Or.inr (hw _ (List.mem_of_getElem? (i := 63) rfl))) (by decide) (t := (.object "java/lang/String")) (t' := (.object "java/lang/String")) (by decide) (by decide)))
  have Fw3_4 : Fld Z h4 a0x "com/example/watchpost/watchpost/Option" "shortName" "Ljava/lang/String;" .null := Fw3.other W4 (Or.inr (slot_ne (Or.inr (hw _ (List.mem_of_getElem? (i := 61) rfl))) (Or.inr (hw _ (List.mem_of_getElem? (i := 63) rfl))) (by decide) (t := (.object "java/lang/String")) (t' := (.object "java/lang/String")) (by decide) (by decide)))
  have Z4 : n0 ≤ h4.size := Nat.le_trans Z3 (Keep.of_wr W4).1
  have K4 : Keep h0 h4 [a0x] := K3.wr W4 (Or.inl (List.mem_of_getElem? (i := 0) rfl))
  obtain ⟨T5, h5, X5, e5, W5, st5⟩ := putFN X4 hx hZ hown (hw _ (List.mem_of_getElem? (i := 64) rfl)) Via.refl e4 F0x3_4 E0x_4 (Or.inr ⟨(hw _ (List.mem_of_getElem? (i := 65) rfl)), rfl, hnm⟩) (hw _ (List.mem_of_getElem? (i := 49) rfl)) (ty := .boolean) (v' := (.int (nar .boolean p1))) (by decide) rfl (fits_nar_bool _) (g := (mkF m 22 #[.val (.ref a0x), .val (.ref a1x), .val .null, .val (.ref a3x), .val (.int p1)] [(.int p1), (.ref a0x)])) rfl rfl (hb hby d12_22)
  have N5 := Fr.snoc X5 N4 g0x
  have Fw5 : Fld Z h5 a0x "com/example/watchpost/watchpost/Option" "required" "Z" (.int (nar .boolean p1)) := F0x3_4.same W5
  have E0x_5 : Exa Z h5 a0x "com/example/watchpost/watchpost/Option" := E0x_4.wr W5
  have Fw2_5 : Fld Z h5 a0x "com/example/watchpost/watchpost/Option" "name" "Ljava/lang/String;" (.ref a1x) := Fw2_4.other W5 (Or.inr (slot_ne (Or.inr (hw _ (List.mem_of_getElem? (i := 59) rfl))) (Or.inr (hw _ (List.mem_of_getElem? (i := 65) rfl))) (by decide) (t := (.object "java/lang/String")) (t' := .boolean) (by decide) (by decide)))
  have Fw3_5 : Fld Z h5 a0x "com/example/watchpost/watchpost/Option" "shortName" "Ljava/lang/String;" .null := Fw3_4.other W5 (Or.inr (slot_ne (Or.inr (hw _ (List.mem_of_getElem? (i := 61) rfl))) (Or.inr (hw _ (List.mem_of_getElem? (i := 65) rfl))) (by decide) (t := (.object "java/lang/String")) (t' := .boolean) (by decide) (by decide)))
  have Fw4_5 : Fld Z h5 a0x "com/example/watchpost/watchpost/Option" "value" "Ljava/lang/String;" (.ref a3x) := Fw4.other W5 (Or.inr (slot_ne (Or.inr (hw _ (List.mem_of_getElem? (i := 63) rfl))) (Or.inr (hw _ (List.mem_of_getElem? (i := 65) rfl))) (by decide) (t := (.object "java/lang/String")) (t' := .boolean) (by decide) (by decide)))
  have Z5 : n0 ≤ h5.size := Nat.le_trans Z4 (Keep.of_wr W5).1
  have K5 : Keep h0 h5 [a0x] := K4.wr W5 (Or.inl (List.mem_of_getElem? (i := 0) rfl))
  obtain ⟨fs, hr, hrun, hended, hW, hsame⟩ := X5.leave (v := none) (fun _ => rfl)
  refine ⟨_, _, pre0 _ ?_, hrun, hended, _, _, rfl, ?_, ⟨_, rfl⟩, hW, hsame.mono (by decide) (by decide)⟩
  · show Steps p.tables e below (s₁.setTop (mkF m 0 #[.val (.ref a0x), .val (.ref a1x), .val .null, .val (.ref a3x), .val (.int p1)] [])) _
    refine XS.aloadN X0.here hx rfl (hb hby d12_0) rfl rfl ?_
    show Steps p.tables e below (s₁.setTop (mkF m 1 #[.val (.ref a0x), .val (.ref a1x), .val .null, .val (.ref a3x), .val (.int p1)] [(.ref a0x)])) _
    refine st1 _ ?_
    show Steps p.tables e below (T1.setTop (mkF m 4 #[.val (.ref a0x), .val (.ref a1x), .val .null, .val (.ref a3x), .val (.int p1)] [])) _
    refine XS.aloadN X1.here hx rfl (hb hby d12_4) rfl rfl ?_
    show Steps p.tables e below (T1.setTop (mkF m 5 #[.val (.ref a0x), .val (.ref a1x), .val .null, .val (.ref a3x), .val (.int p1)] [(.ref a0x)])) _
    refine XS.aloadN X1.here hx rfl (hb hby d12_5) rfl rfl ?_
    show Steps p.tables e below (T1.setTop (mkF m 6 #[.val (.ref a0x), .val (.ref a1x), .val .null, .val (.ref a3x), .val (.int p1)] [(.ref a1x), (.ref a0x)])) _
    refine st2 _ ?_
    show Steps p.tables e below (T2.setTop (mkF m 9 #[.val (.ref a0x), .val (.ref a1x), .val .null, .val (.ref a3x), .val (.int p1)] [])) _
    refine XS.aloadN X2.here hx rfl (hb hby d12_9) rfl rfl ?_
    show Steps p.tables e below (T2.setTop (mkF m 10 #[.val (.ref a0x), .val (.ref a1x), .val .null, .val (.ref a3x), .val (.int p1)] [(.ref a0x)])) _
    refine XS.aloadN X2.here hx rfl (hb hby d12_10) rfl rfl ?_
    show Steps p.tables e below (T2.setTop (mkF m 11 #[.val (.ref a0x), .val (.ref a1x), .val .null, .val (.ref a3x), .val (.int p1)] [.null, (.ref a0x)])) _
    refine st3 _ ?_
    show Steps p.tables e below (T3.setTop (mkF m 14 #[.val (.ref a0x), .val (.ref a1x), .val .null, .val (.ref a3x), .val (.int p1)] [])) _
    refine XS.aloadN X3.here hx rfl (hb hby d12_14) rfl rfl ?_
    show Steps p.tables e below (T3.setTop (mkF m 15 #[.val (.ref a0x), .val (.ref a1x), .val .null, .val (.ref a3x), .val (.int p1)] [(.ref a0x)])) _
    refine XS.aloadN X3.here hx rfl (hb hby d12_15) rfl rfl ?_
    show Steps p.tables e below (T3.setTop (mkF m 16 #[.val (.ref a0x), .val (.ref a1x), .val .null, .val (.ref a3x), .val (.int p1)] [(.ref a3x), (.ref a0x)])) _
    refine st4 _ ?_
    show Steps p.tables e below (T4.setTop (mkF m 19 #[.val (.ref a0x), .val (.ref a1x), .val .null, .val (.ref a3x), .val (.int p1)] [])) _
    refine XS.aloadN X4.here hx rfl (hb hby d12_19) rfl rfl ?_
    show Steps p.tables e below (T4.setTop (mkF m 20 #[.val (.ref a0x), .val (.ref a1x), .val .null, .val (.ref a3x), .val (.int p1)] [(.ref a0x)])) _
    refine XS.iload X4.here hx rfl (hb hby d12_20) rfl ?_
    show Steps p.tables e below (T4.setTop (mkF m 22 #[.val (.ref a0x), .val (.ref a1x), .val .null, .val (.ref a3x), .val (.int p1)] [(.int p1), (.ref a0x)])) _
    refine st5 _ ?_
    show Steps p.tables e below (T5.setTop (mkF m 25 #[.val (.ref a0x), .val (.ref a1x), .val .null, .val (.ref a3x), .val (.int p1)] [])) _
    exact X5.returnOut hx Bd.returns (hb hby d12_25) hr
  · show Q_rm_opt01 Z a0x a1x a3x p1 h0 n0 _ T5.heap _
    rw [e5]
    exact ⟨rfl, N5, K5, Fw2_5, Fw3_5, Fw4_5, Fw5⟩
theorem ef_12_rm_opt10 (m : MethodId) (x0 : Addr) (x1 : Addr) (x2 : Addr) (x4 : Int32) : entryFrame m #[(.ref x0), (.ref x1), (.ref x2), .null, (.int x4)] 5 = mkF m 0 #[.val (.ref x0), .val (.ref x1), .val (.ref x2), .val .null, .val (.int x4)] [] := by first | (simp [entryFrame, mkF, argsToLocals, Value.category]; done) | rfl
def Q_rm_opt10 (Z : State) (a0x : Addr) (a1x : Addr) (a2x : Addr) (p1 : Int32) (h0 : Heap) (n0 : Nat) (v : Option Value) (h : Heap) (L : List Loc) : Prop := v = none ∧ Fr n0 L ∧ Keep h0 h [a0x] ∧ Fld Z h a0x "com/example/watchpost/watchpost/Option" "name" "Ljava/lang/String;" (.ref a1x) ∧ Fld Z h a0x "com/example/watchpost/watchpost/Option" "shortName" "Ljava/lang/String;" (.ref a2x) ∧ Fld Z h a0x "com/example/watchpost/watchpost/Option" "value" "Ljava/lang/String;" .null ∧ Fld Z h a0x "com/example/watchpost/watchpost/Option" "required" "Z" (.int (nar .boolean p1))
set_option maxRecDepth 65536 in
set_option maxHeartbeats 40000000 in
theorem rm_opt10 (l : Launch) (Z : State) (a0 : Array Value) (hw : ∀ d ∈ tables_1, d.before a0 Z = true) (ws : List Jvm.Cond) (a0x : Addr) (a1x : Addr) (a2x : Addr) (p1 : Int32) (h0 : Heap) (n0 : Nat) (Z0 : n0 ≤ h0.size) (E0x : Exa Z h0 a0x "com/example/watchpost/watchpost/Option") (F0x0 : Fld Z h0 a0x "com/example/watchpost/watchpost/Option" "name" "Ljava/lang/String;" .null) (F0x1 : Fld Z h0 a0x "com/example/watchpost/watchpost/Option" "shortName" "Ljava/lang/String;" .null) (F0x2 : Fld Z h0 a0x "com/example/watchpost/watchpost/Option" "value" "Ljava/lang/String;" .null) (F0x3 : Fld Z h0 a0x "com/example/watchpost/watchpost/Option" "required" "Z" (.int (0 : Int32))) (g0x : n0 ≤ a0x) :
    MetFree l (⟨"com/example/watchpost/watchpost/Option", "<init>", "(Ljava/lang/String;Ljava/lang/String;Ljava/lang/String;Z)V"⟩ : MethodName) (head1 (Jvm.Cond.code (⟨"com/example/watchpost/watchpost/Option", "<init>", "(Ljava/lang/String;Ljava/lang/String;Ljava/lang/String;Z)V"⟩ : MethodName) prog_5_method_2_code 5 none :: ws) ({ frames := 1, cells := 0, slots := 0, locals := 12 } : Room)) (fun a U => a = #[(.ref a0x), (.ref a1x), (.ref a2x), .null, (.int p1)] ∧ Z.Warmed39 U.vm ∧ U.heap = h0) (fun _ _ _ _ _ => True) (fun _ U o U' => ∃ v L, o = .returned v ∧ Q_rm_opt10 Z a0x a1x a2x p1 h0 n0 v U'.heap L ∧ FrameEnd U o U' L ({ frames := 1, cells := 0, slots := 0, locals := 12 } : Room).cells ({ frames := 1, cells := 0, slots := 0, locals := 12 } : Room).slots) := by
  refine MetFree.of_bodySF (plainFor_of_name pn_2) hisR ?_
  intro p e s m args below meth c s₁ Bd hml0 hP hK
  obtain ⟨rfl, hZ, hh⟩ := hP
  have hx := Bd.exec
  have hby := Bd.bytes
  have hml : c.maxLocals = 5 := hml0
  have hown : s.vm.findClass "com/example/watchpost/watchpost/Option" = some m.cls := findClass_of_methodNamed Bd.named
  have hnm := (name_of_methodNamed Bd.named Bd.method).1
  have X0 : Stand p l e ({ frames := 1, cells := 0, slots := 0, locals := 12 } : Room) s m #[(.ref a0x), (.ref a1x), (.ref a2x), .null, (.int p1)] below meth c s₁ [] 0 0 := Stand.of_body Bd
  have e0 : s₁.heap = h0 := by rw [← hh, Bd.state]; rfl
  have N0 := Fr.nil n0
  have K0 : Keep h0 h0 [a0x] := Keep.refl h0 [a0x]
  have pre0 : ∀ t, Steps p.tables e below (s₁.setTop (mkF m 0 #[.val (.ref a0x), .val (.ref a1x), .val (.ref a2x), .val .null, .val (.int p1)] [])) t → Steps p.tables e below (s₁.setTop (entryFrame m #[(.ref a0x), (.ref a1x), (.ref a2x), .null, (.int p1)] 5)) t := fun t k => castTop (ef_12_rm_opt10 m a0x a1x a2x p1) k
  obtain ⟨T1, X1, e1, st1⟩ := initO X0 hx hZ hown (hw _ (List.mem_of_getElem? (i := 57) rfl)) (hw _ (List.mem_of_getElem? (i := 12) rfl)) (hw _ (List.mem_of_getElem? (i := 13) rfl)) e0 (g := (mkF m 1 #[.val (.ref a0x), .val (.ref a1x), .val (.ref a2x), .val .null, .val (.int p1)] [(.ref a0x)])) rfl (by rw [hml]; rfl) rfl (hb hby d12_1) (by decide) (W := 0) (by show 2 * 0 + _ ≤ _; exact Nat.le_of_eq rfl) (by decide)
  obtain ⟨T2, h2, X2, e2, W2, st2⟩ := putF X1 hx hZ hown (host := "") (Or.inl (hw _ (List.mem_of_getElem? (i := 58) rfl))) Via.refl e1 F0x0 E0x (Or.inr ⟨(hw _ (List.mem_of_getElem? (i := 59) rfl)), rfl, hnm⟩) (hw _ (List.mem_of_getElem? (i := 49) rfl)) (ty := (.object "java/lang/String")) (by decide) rfl rfl (g := (mkF m 6 #[.val (.ref a0x), .val (.ref a1x), .val (.ref a2x), .val .null, .val (.int p1)] [(.ref a1x), (.ref a0x)])) rfl rfl (hb hby d12_6)
  have N2 := Fr.snoc X2 N0 g0x
  have Fw2 : Fld Z h2 a0x "com/example/watchpost/watchpost/Option" "name" "Ljava/lang/String;" (.ref a1x) := F0x0.same W2
  have E0x_2 : Exa Z h2 a0x "com/example/watchpost/watchpost/Option" := E0x.wr W2
  have F0x1_2 : Fld Z h2 a0x "com/example/watchpost/watchpost/Option" "shortName" "Ljava/lang/String;" .null := F0x1.other W2 (Or.inr (slot_ne (Or.inr (hw _ (List.mem_of_getElem? (i := 61) rfl))) (Or.inr (hw _ (List.mem_of_getElem? (i := 59) rfl))) (by decide) (t := (.object "java/lang/String")) (t' := (.object "java/lang/String")) (by decide) (by decide)))
  have F0x2_2 : Fld Z h2 a0x "com/example/watchpost/watchpost/Option" "value" "Ljava/lang/String;" .null := F0x2.other W2 (Or.inr (slot_ne (Or.inr (hw _ (List.mem_of_getElem? (i := 63) rfl))) (Or.inr (hw _ (List.mem_of_getElem? (i := 59) rfl))) (by decide) (t := (.object "java/lang/String")) (t' := (.object "java/lang/String")) (by decide) (by decide)))
  have F0x3_2 : Fld Z h2 a0x "com/example/watchpost/watchpost/Option" "required" "Z" (.int (0 : Int32)) := F0x3.other W2 (Or.inr (slot_ne (Or.inr (hw _ (List.mem_of_getElem? (i := 65) rfl))) (Or.inr (hw _ (List.mem_of_getElem? (i := 59) rfl))) (by decide) (t := .boolean) (t' := (.object "java/lang/String")) (by decide) (by decide)))
  have Z2 : n0 ≤ h2.size := Nat.le_trans Z0 (Keep.of_wr W2).1
  have K2 : Keep h0 h2 [a0x] := K0.wr W2 (Or.inl (List.mem_of_getElem? (i := 0) rfl))
  obtain ⟨T3, h3, X3, e3, W3, st3⟩ := putF X2 hx hZ hown (host := "") (Or.inl (hw _ (List.mem_of_getElem? (i := 60) rfl))) Via.refl e2 F0x1_2 E0x_2 (Or.inr ⟨(hw _ (List.mem_of_getElem? (i := 61) rfl)), rfl, hnm⟩) (hw _ (List.mem_of_getElem? (i := 49) rfl)) (ty := (.object "java/lang/String")) (by decide) rfl rfl (g := (mkF m 11 #[.val (.ref a0x), .val (.ref a1x), .val (.ref a2x), .val .null, .val (.int p1)] [(.ref a2x), (.ref a0x)])) rfl rfl (hb hby d12_11)
  have N3 := Fr.snoc X3 N2 g0x
  have Fw3 : Fld Z h3 a0x "com/example/watchpost/watchpost/Option" "shortName" "Ljava/lang/String;" (.ref a2x) := F0x1_2.same W3
  have E0x_3 : Exa Z h3 a0x "com/example/watchpost/watchpost/Option" := E0x_2.wr W3
  have F0x2_3 : Fld Z h3 a0x "com/example/watchpost/watchpost/Option" "value" "Ljava/lang/String;" .null := F0x2_2.other W3 (Or.inr (slot_ne (Or.inr (hw _ (List.mem_of_getElem? (i := 63) rfl))) (Or.inr (hw _ (List.mem_of_getElem? (i := 61) rfl))) (by decide) (t := (.object "java/lang/String")) (t' := (.object "java/lang/String")) (by decide) (by decide)))
  have F0x3_3 : Fld Z h3 a0x "com/example/watchpost/watchpost/Option" "required" "Z" (.int (0 : Int32)) := F0x3_2.other W3 (Or.inr (slot_ne (Or.inr (hw _ (List.mem_of_getElem? (i := 65) rfl))) (Or.inr (hw _ (List.mem_of_getElem? (i := 61) rfl))) (by decide) (t := .boolean) (t' := (.object "java/lang/String")) (by decide) (by decide)))
  have Fw2_3 : Fld Z h3 a0x "com/example/watchpost/watchpost/Option" "name" "Ljava/lang/String;" (.ref a1x) := Fw2.other W3 (Or.inr (slot_ne (Or.inr (hw _ (List.mem_of_getElem? (i := 59) rfl))) (Or.inr (hw _ (List.mem_of_getElem? (i := 61) rfl))) (by decide) (t := (.object "java/lang/String")) (t' := (.object "java/lang/String")) (by decide) (by decide)))
  have Z3 : n0 ≤ h3.size := Nat.le_trans Z2 (Keep.of_wr W3).1
  have K3 : Keep h0 h3 [a0x] := K2.wr W3 (Or.inl (List.mem_of_getElem? (i := 0) rfl))
  obtain ⟨T4, h4, X4, e4, W4, st4⟩ := putF X3 hx hZ hown (host := "") (Or.inl (hw _ (List.mem_of_getElem? (i := 62) rfl))) Via.refl e3 F0x2_3 E0x_3 (Or.inr ⟨(hw _ (List.mem_of_getElem? (i := 63) rfl)), rfl, hnm⟩) (hw _ (List.mem_of_getElem? (i := 49) rfl)) (ty := (.object "java/lang/String")) (by decide) rfl rfl (g := (mkF m 16 #[.val (.ref a0x), .val (.ref a1x), .val (.ref a2x), .val .null, .val (.int p1)] [.null, (.ref a0x)])) rfl rfl (hb hby d12_16)
  have N4 := Fr.snoc X4 N3 g0x
  have Fw4 : Fld Z h4 a0x "com/example/watchpost/watchpost/Option" "value" "Ljava/lang/String;" .null := F0x2_3.same W4
  have E0x_4 : Exa Z h4 a0x "com/example/watchpost/watchpost/Option" := E0x_3.wr W4
  have F0x3_4 : Fld Z h4 a0x "com/example/watchpost/watchpost/Option" "required" "Z" (.int (0 : Int32)) := F0x3_3.other W4 (Or.inr (slot_ne (Or.inr (hw _ (List.mem_of_getElem? (i := 65) rfl))) (Or.inr (hw _ (List.mem_of_getElem? (i := 63) rfl))) (by decide) (t := .boolean) (t' := (.object "java/lang/String")) (by decide) (by decide)))
  have Fw2_4 : Fld Z h4 a0x "com/example/watchpost/watchpost/Option" "name" "Ljava/lang/String;" (.ref a1x) := Fw2_3.other W4 (Or.inr (slot_ne (Or.inr (hw _ (List.mem_of_getElem? (i := 59) rfl))) (Or.inr (hw _ (List.mem_of_getElem? (i := 63) rfl))) (by decide) (t := (.object "java/lang/String")) (t' := (.object "java/lang/String")) (by decide) (by decide)))
  have Fw3_4 : Fld Z h4 a0x "com/example/watchpost/watchpost/Option" "shortName" "Ljava/lang/String;" (.ref a2x) := Fw3.other W4 (Or.inr (slot_ne (Or.inr (hw _ (List.mem_of_getElem? (i := 61) rfl))) (Or.inr (hw _ (List.mem_of_getElem? (i := 63) rfl))) (by decide) (t := (.object "java/lang/String")) (t' := (.object "java/lang/String")) (by decide) (by decide)))
  have Z4 : n0 ≤ h4.size := Nat.le_trans Z3 (Keep.of_wr W4).1
  have K4 : Keep h0 h4 [a0x] := K3.wr W4 (Or.inl (List.mem_of_getElem? (i := 0) rfl))
  obtain ⟨T5, h5, X5, e5, W5, st5⟩ := putFN X4 hx hZ hown (hw _ (List.mem_of_getElem? (i := 64) rfl)) Via.refl e4 F0x3_4 E0x_4 (Or.inr ⟨(hw _ (List.mem_of_getElem? (i := 65) rfl)), rfl, hnm⟩) (hw _ (List.mem_of_getElem? (i := 49) rfl)) (ty := .boolean) (v' := (.int (nar .boolean p1))) (by decide) rfl (fits_nar_bool _) (g := (mkF m 22 #[.val (.ref a0x), .val (.ref a1x), .val (.ref a2x), .val .null, .val (.int p1)] [(.int p1), (.ref a0x)])) rfl rfl (hb hby d12_22)
  have N5 := Fr.snoc X5 N4 g0x
  have Fw5 : Fld Z h5 a0x "com/example/watchpost/watchpost/Option" "required" "Z" (.int (nar .boolean p1)) := F0x3_4.same W5
  have E0x_5 : Exa Z h5 a0x "com/example/watchpost/watchpost/Option" := E0x_4.wr W5
  have Fw2_5 : Fld Z h5 a0x "com/example/watchpost/watchpost/Option" "name" "Ljava/lang/String;" (.ref a1x) := Fw2_4.other W5 (Or.inr (slot_ne (Or.inr (hw _ (List.mem_of_getElem? (i := 59) rfl))) (Or.inr (hw _ (List.mem_of_getElem? (i := 65) rfl))) (by decide) (t := (.object "java/lang/String")) (t' := .boolean) (by decide) (by decide)))
  have Fw3_5 : Fld Z h5 a0x "com/example/watchpost/watchpost/Option" "shortName" "Ljava/lang/String;" (.ref a2x) := Fw3_4.other W5 (Or.inr (slot_ne (Or.inr (hw _ (List.mem_of_getElem? (i := 61) rfl))) (Or.inr (hw _ (List.mem_of_getElem? (i := 65) rfl))) (by decide) (t := (.object "java/lang/String")) (t' := .boolean) (by decide) (by decide)))
  have Fw4_5 : Fld Z h5 a0x "com/example/watchpost/watchpost/Option" "value" "Ljava/lang/String;" .null := Fw4.other W5 (Or.inr (slot_ne (Or.inr (hw _ (List.mem_of_getElem? (i := 63) rfl))) (Or.inr (hw _ (List.mem_of_getElem? (i := 65) rfl))) (by decide) (t := (.object "java/lang/String")) (t' := .boolean) (by decide) (by decide)))
  have Z5 : n0 ≤ h5.size := Nat.le_trans Z4 (Keep.of_wr W5).1
  have K5 : Keep h0 h5 [a0x] := K4.wr W5 (Or.inl (List.mem_of_getElem? (i := 0) rfl))
  obtain ⟨fs, hr, hrun, hended, hW, hsame⟩ := X5.leave (v := none) (fun _ => rfl)
  refine ⟨_, _, pre0 _ ?_, hrun, hended, _, _, rfl, ?_, ⟨_, rfl⟩, hW, hsame.mono (by decide) (by decide)⟩
  · show Steps p.tables e below (s₁.setTop (mkF m 0 #[.val (.ref a0x), .val (.ref a1x), .val (.ref a2x), .val .null, .val (.int p1)] [])) _
    refine XS.aloadN X0.here hx rfl (hb hby d12_0) rfl rfl ?_
    show Steps p.tables e below (s₁.setTop (mkF m 1 #[.val (.ref a0x), .val (.ref a1x), .val (.ref a2x), .val .null, .val (.int p1)] [(.ref a0x)])) _
    refine st1 _ ?_
    show Steps p.tables e below (T1.setTop (mkF m 4 #[.val (.ref a0x), .val (.ref a1x), .val (.ref a2x), .val .null, .val (.int p1)] [])) _
    refine XS.aloadN X1.here hx rfl (hb hby d12_4) rfl rfl ?_
    show Steps p.tables e below (T1.setTop (mkF m 5 #[.val (.ref a0x), .val (.ref a1x), .val (.ref a2x), .val .null, .val (.int p1)] [(.ref a0x)])) _
    refine XS.aloadN X1.here hx rfl (hb hby d12_5) rfl rfl ?_
    show Steps p.tables e below (T1.setTop (mkF m 6 #[.val (.ref a0x), .val (.ref a1x), .val (.ref a2x), .val .null, .val (.int p1)] [(.ref a1x), (.ref a0x)])) _
    refine st2 _ ?_
    show Steps p.tables e below (T2.setTop (mkF m 9 #[.val (.ref a0x), .val (.ref a1x), .val (.ref a2x), .val .null, .val (.int p1)] [])) _
    refine XS.aloadN X2.here hx rfl (hb hby d12_9) rfl rfl ?_
    show Steps p.tables e below (T2.setTop (mkF m 10 #[.val (.ref a0x), .val (.ref a1x), .val (.ref a2x), .val .null, .val (.int p1)] [(.ref a0x)])) _
    refine XS.aloadN X2.here hx rfl (hb hby d12_10) rfl rfl ?_
    show Steps p.tables e below (T2.setTop (mkF m 11 #[.val (.ref a0x), .val (.ref a1x), .val (.ref a2x), .val .null, .val (.int p1)] [(.ref a2x), (.ref a0x)])) _
    refine st3 _ ?_
    show Steps p.tables e below (T3.setTop (mkF m 14 #[.val (.ref a0x), .val (.ref a1x), .val (.ref a2x), .val .null, .val (.int p1)] [])) _
    refine XS.aloadN X3.here hx rfl (hb hby d12_14) rfl rfl ?_
    show Steps p.tables e below (T3.setTop (mkF m 15 #[.val (.ref a0x), .val (.ref a1x), .val (.ref a2x), .val .null, .val (.int p1)] [(.ref a0x)])) _
    refine XS.aloadN X3.here hx rfl (hb hby d12_15) rfl rfl ?_
    show Steps p.tables e below (T3.setTop (mkF m 16 #[.val (.ref a0x), .val (.ref a1x), .val (.ref a2x), .val .null, .val (.int p1)] [.null, (.ref a0x)])) _
    refine st4 _ ?_
    show Steps p.tables e below (T4.setTop (mkF m 19 #[.val (.ref a0x), .val (.ref a1x), .val (.ref a2x), .val .null, .val (.int p1)] [])) _
    refine XS.aloadN X4.here hx rfl (hb hby d12_19) rfl rfl ?_
    show Steps p.tables e below (T4.setTop (mkF m 20 #[.val (.ref a0x), .val (.ref a1x), .val (.ref a2x), .val .null, .val (.int p1)] [(.ref a0x)])) _
    refine XS.iload X4.here hx rfl (hb hby d12_20) rfl ?_
    show Steps p.tables e below (T4.setTop (mkF m 22 #[.val (.ref a0x), .val (.ref a1x), .val (.ref a2x), .val .null, .val (.int p1)] [(.int p1), (.ref a0x)])) _
    refine st5 _ ?_
    show Steps p.tables e below (T5.setTop (mkF m 25 #[.val (.ref a0x), .val (.ref a1x), .val (.ref a2x), .val .null, .val (.int p1)] [])) _
    exact X5.returnOut hx Bd.returns (hb hby d12_25) hr
  · show Q_rm_opt10 Z a0x a1x a2x p1 h0 n0 _ T5.heap _
    rw [e5]
    exact ⟨rfl, N5, K5, Fw2_5, Fw3_5, Fw4_5, Fw5⟩
theorem d11_0 : decode prog_5_method_1_code 0 = .ok (.aload_n 0, 1) := by decide +kernel
theorem d11_1 : decode prog_5_method_1_code 1 = .ok (.aload_n 1, 1) := by decide +kernel
theorem d11_2 : decode prog_5_method_1_code 2 = .ok (.aconst_null, 1) := by decide +kernel
theorem d11_3 : decode prog_5_method_1_code 3 = .ok (.aload_n 2, 1) := by decide +kernel
theorem d11_4 : decode prog_5_method_1_code 4 = .ok (.iconst 0, 1) := by decide +kernel
theorem d11_5 : decode prog_5_method_1_code 5 = .ok (.invokespecial 1, 3) := by decide +kernel
theorem pd_4 : parseMethodDescriptor "(Ljava/lang/String;Ljava/lang/String;Ljava/lang/String;Z)V" = some ⟨[(.object "java/lang/String"), (.object "java/lang/String"), (.object "java/lang/String"), .boolean], none⟩ := by decide +kernel
theorem d11_8 : decode prog_5_method_1_code 8 = .ok (.return_, 1) := by decide +kernel
theorem ef_11_rm_two0 (m : MethodId) (x0 : Addr) (x1 : Addr) : entryFrame m #[(.ref x0), (.ref x1), .null] 3 = mkF m 0 #[.val (.ref x0), .val (.ref x1), .val .null] [] := by first | (simp [entryFrame, mkF, argsToLocals, Value.category]; done) | rfl
def Q_rm_two0 (Z : State) (a0x : Addr) (a1x : Addr) (h0 : Heap) (n0 : Nat) (v : Option Value) (h : Heap) (L : List Loc) : Prop := v = none ∧ Fr n0 L ∧ Keep h0 h [a0x] ∧ Fld Z h a0x "com/example/watchpost/watchpost/Option" "name" "Ljava/lang/String;" (.ref a1x) ∧ Fld Z h a0x "com/example/watchpost/watchpost/Option" "shortName" "Ljava/lang/String;" .null ∧ Fld Z h a0x "com/example/watchpost/watchpost/Option" "value" "Ljava/lang/String;" .null ∧ Fld Z h a0x "com/example/watchpost/watchpost/Option" "required" "Z" (.int (nar .boolean (0 : Int32)))
set_option maxRecDepth 65536 in
set_option maxHeartbeats 40000000 in
theorem rm_two0 (l : Launch) (Z : State) (a0 : Array Value) (hw : ∀ d ∈ tables_1, d.before a0 Z = true) (ws : List Jvm.Cond) (a0x : Addr) (a1x : Addr) (h0 : Heap) (n0 : Nat) (Z0 : n0 ≤ h0.size) (E0x : Exa Z h0 a0x "com/example/watchpost/watchpost/Option") (F0x0 : Fld Z h0 a0x "com/example/watchpost/watchpost/Option" "name" "Ljava/lang/String;" .null) (F0x1 : Fld Z h0 a0x "com/example/watchpost/watchpost/Option" "shortName" "Ljava/lang/String;" .null) (F0x2 : Fld Z h0 a0x "com/example/watchpost/watchpost/Option" "value" "Ljava/lang/String;" .null) (F0x3 : Fld Z h0 a0x "com/example/watchpost/watchpost/Option" "required" "Z" (.int (0 : Int32))) (g0x : n0 ≤ a0x) :
    MetFree l (⟨"com/example/watchpost/watchpost/Option", "<init>", "(Ljava/lang/String;Ljava/lang/String;)V"⟩ : MethodName) (head1 (Jvm.Cond.code (⟨"com/example/watchpost/watchpost/Option", "<init>", "(Ljava/lang/String;Ljava/lang/String;)V"⟩ : MethodName) prog_5_method_1_code 3 none :: ws) ({ frames := 2, cells := 0, slots := 0, locals := 28 } : Room)) (fun a U => a = #[(.ref a0x), (.ref a1x), .null] ∧ Z.Warmed39 U.vm ∧ U.heap = h0) (fun _ _ _ _ _ => True) (fun _ U o U' => ∃ v L, o = .returned v ∧ Q_rm_two0 Z a0x a1x h0 n0 v U'.heap L ∧ FrameEnd U o U' L ({ frames := 2, cells := 0, slots := 0, locals := 28 } : Room).cells ({ frames := 2, cells := 0, slots := 0, locals := 28 } : Room).slots) := by
  refine MetFree.of_bodySF (plainFor_of_name pn_2) hisR ?_
  intro p e s m args below meth c s₁ Bd hml0 hP hK
  obtain ⟨rfl, hZ, hh⟩ := hP
  have hx := Bd.exec
  have hby := Bd.bytes
  have hml : c.maxLocals = 3 := hml0
  have hown : s.vm.findClass "com/example/watchpost/watchpost/Option" = some m.cls := findClass_of_methodNamed Bd.named
  have hnm := (name_of_methodNamed Bd.named Bd.method).1
  have X0 : Stand p l e ({ frames := 2, cells := 0, slots := 0, locals := 28 } : Room) s m #[(.ref a0x), (.ref a1x), .null] below meth c s₁ [] 0 0 := Stand.of_body Bd
  have e0 : s₁.heap = h0 := by rw [← hh, Bd.state]; rfl
  have N0 := Fr.nil n0
  have K0 : Keep h0 h0 [a0x] := Keep.refl h0 [a0x]
  have pre0 : ∀ t, Steps p.tables e below (s₁.setTop (mkF m 0 #[.val (.ref a0x), .val (.ref a1x), .val .null] [])) t → Steps p.tables e below (s₁.setTop (entryFrame m #[(.ref a0x), (.ref a1x), .null] 3)) t := fun t k => castTop (ef_11_rm_two0 m a0x a1x) k
  obtain ⟨_, _, ⟨T1, L1, k1, n1⟩, -, X1, ⟨Lc1, hQ1, l1, y1, z1⟩, st1⟩ := X0.specialBack hx (y := (⟨"com/example/watchpost/watchpost/Option", "<init>", "(Ljava/lang/String;Ljava/lang/String;Ljava/lang/String;Z)V"⟩ : MethodName)) rfl hown (mvT hZ (hw _ (List.mem_of_getElem? (i := 54) rfl))) (mvT hZ (hw _ (List.mem_of_getElem? (i := 55) rfl))) (mvT hZ (hw _ (List.mem_of_getElem? (i := 56) rfl))) (by decide) (backOf (W := 0) (rm_opt00 l Z a0 hw [] a0x a1x (0 : Int32) h0 n0 Z0 E0x F0x0 F0x1 F0x2 F0x3 g0x) hZ (hw _ (List.mem_of_getElem? (i := 56) rfl)) (hw _ (List.mem_of_getElem? (i := 50) rfl)) (by decide) (by decide)) (g := (mkF m 5 #[.val (.ref a0x), .val (.ref a1x), .val .null] [(.int (0 : Int32)), .null, .null, (.ref a1x), (.ref a0x)])) rfl (by rw [hml]; rfl) (Steps.refl _) (a := a0x) (argsL := [(.ref a1x), .null, .null, (.int (0 : Int32))]) (rest := []) (lenOf pd_4 rfl) rfl (by show 2 * 0 + _ ≤ _; exact Nat.le_of_eq rfl) (hb hby d11_5) (fun _ _ => ⟨rfl, e0, (by decide : 0 + 0 ≤ _), (by decide : 0 + 0 ≤ _)⟩)
  dsimp only [Pt.U, Pt.locs, Pt.cells, Pt.slots] at X1 l1 y1 z1 st1 hQ1
  subst l1 y1 z1
  obtain ⟨rfl, N1q, x1c0, x1c1, x1c2, x1c3, x1c4⟩ := hQ1
  have N1 := Fr.app N0 N1q
  have E0x_1 : Exa Z T1.heap a0x "com/example/watchpost/watchpost/Option" := E0x.keep x1c0
  have Z1 : n0 ≤ T1.heap.size := Nat.le_trans Z0 x1c0.1
  have K1 : Keep h0 T1.heap [a0x] := K0.trans x1c0 (allS (P := fun x => x ∈ [a0x] ∨ h0.size ≤ x) (Or.inl (List.mem_of_getElem? (i := 0) rfl)) all0)
  obtain ⟨fs, hr, hrun, hended, hW, hsame⟩ := X1.leave (v := none) (fun _ => rfl)
  refine ⟨_, _, pre0 _ ?_, hrun, hended, _, _, rfl, ?_, ⟨_, rfl⟩, hW, hsame.mono (by decide) (by decide)⟩
  · show Steps p.tables e below (s₁.setTop (mkF m 0 #[.val (.ref a0x), .val (.ref a1x), .val .null] [])) _
    refine XS.aloadN X0.here hx rfl (hb hby d11_0) rfl rfl ?_
    show Steps p.tables e below (s₁.setTop (mkF m 1 #[.val (.ref a0x), .val (.ref a1x), .val .null] [(.ref a0x)])) _
    refine XS.aloadN X0.here hx rfl (hb hby d11_1) rfl rfl ?_
    show Steps p.tables e below (s₁.setTop (mkF m 2 #[.val (.ref a0x), .val (.ref a1x), .val .null] [(.ref a1x), (.ref a0x)])) _
    refine XS.aconstNull X0.here hx rfl (hb hby d11_2) ?_
    show Steps p.tables e below (s₁.setTop (mkF m 3 #[.val (.ref a0x), .val (.ref a1x), .val .null] [.null, (.ref a1x), (.ref a0x)])) _
    refine XS.aloadN X0.here hx rfl (hb hby d11_3) rfl rfl ?_
    show Steps p.tables e below (s₁.setTop (mkF m 4 #[.val (.ref a0x), .val (.ref a1x), .val .null] [.null, .null, (.ref a1x), (.ref a0x)])) _
    refine XS.iconst X0.here hx rfl (hb hby d11_4) ?_
    show Steps p.tables e below (s₁.setTop (mkF m 5 #[.val (.ref a0x), .val (.ref a1x), .val .null] [(.int (0 : Int32)), .null, .null, (.ref a1x), (.ref a0x)])) _
    refine st1.trans ?_
    show Steps p.tables e below (T1.setTop (mkF m 8 #[.val (.ref a0x), .val (.ref a1x), .val .null] [])) _
    exact X1.returnOut hx Bd.returns (hb hby d11_8) hr
  · show Q_rm_two0 Z a0x a1x h0 n0 _ T1.heap _
    exact ⟨rfl, N1, K1, x1c1, x1c2, x1c3, x1c4⟩
theorem ef_11 (m : MethodId) (x0 : Addr) (x1 : Addr) (x2 : Addr) : entryFrame m #[(.ref x0), (.ref x1), (.ref x2)] 3 = mkF m 0 #[.val (.ref x0), .val (.ref x1), .val (.ref x2)] [] := by first | (simp [entryFrame, mkF, argsToLocals, Value.category]; done) | rfl
def Q_rm_two1 (Z : State) (a0x : Addr) (a1x : Addr) (a2x : Addr) (h0 : Heap) (n0 : Nat) (v : Option Value) (h : Heap) (L : List Loc) : Prop := v = none ∧ Fr n0 L ∧ Keep h0 h [a0x] ∧ Fld Z h a0x "com/example/watchpost/watchpost/Option" "name" "Ljava/lang/String;" (.ref a1x) ∧ Fld Z h a0x "com/example/watchpost/watchpost/Option" "shortName" "Ljava/lang/String;" .null ∧ Fld Z h a0x "com/example/watchpost/watchpost/Option" "value" "Ljava/lang/String;" (.ref a2x) ∧ Fld Z h a0x "com/example/watchpost/watchpost/Option" "required" "Z" (.int (nar .boolean (0 : Int32)))
set_option maxRecDepth 65536 in
set_option maxHeartbeats 40000000 in
theorem rm_two1 (l : Launch) (Z : State) (a0 : Array Value) (hw : ∀ d ∈ tables_1, d.before a0 Z = true) (ws : List Jvm.Cond) (a0x : Addr) (a1x : Addr) (a2x : Addr) (h0 : Heap) (n0 : Nat) (Z0 : n0 ≤ h0.size) (E0x : Exa Z h0 a0x "com/example/watchpost/watchpost/Option") (F0x0 : Fld Z h0 a0x "com/example/watchpost/watchpost/Option" "name" "Ljava/lang/String;" .null) (F0x1 : Fld Z h0 a0x "com/example/watchpost/watchpost/Option" "shortName" "Ljava/lang/String;" .null) (F0x2 : Fld Z h0 a0x "com/example/watchpost/watchpost/Option" "value" "Ljava/lang/String;" .null) (F0x3 : Fld Z h0 a0x "com/example/watchpost/watchpost/Option" "required" "Z" (.int (0 : Int32))) (g0x : n0 ≤ a0x) :
    MetFree l (⟨"com/example/watchpost/watchpost/Option", "<init>", "(Ljava/lang/String;Ljava/lang/String;)V"⟩ : MethodName) (head1 (Jvm.Cond.code (⟨"com/example/watchpost/watchpost/Option", "<init>", "(Ljava/lang/String;Ljava/lang/String;)V"⟩ : MethodName) prog_5_method_1_code 3 none :: ws) ({ frames := 2, cells := 0, slots := 0, locals := 28 } : Room)) (fun a U => a = #[(.ref a0x), (.ref a1x), (.ref a2x)] ∧ Z.Warmed39 U.vm ∧ U.heap = h0) (fun _ _ _ _ _ => True) (fun _ U o U' => ∃ v L, o = .returned v ∧ Q_rm_two1 Z a0x a1x a2x h0 n0 v U'.heap L ∧ FrameEnd U o U' L ({ frames := 2, cells := 0, slots := 0, locals := 28 } : Room).cells ({ frames := 2, cells := 0, slots := 0, locals := 28 } : Room).slots) := by
  refine MetFree.of_bodySF (plainFor_of_name pn_2) hisR ?_
  intro p e s m args below meth c s₁ Bd hml0 hP hK
  obtain ⟨rfl, hZ, hh⟩ := hP
  have hx := Bd.exec
  have hby := Bd.bytes
  have hml : c.maxLocals = 3 := hml0
  have hown : s.vm.findClass "com/example/watchpost/watchpost/Option" = some m.cls := findClass_of_methodNamed Bd.named
  have hnm := (name_of_methodNamed Bd.named Bd.method).1
  have X0 : Stand p l e ({ frames := 2, cells := 0, slots := 0, locals := 28 } : Room) s m #[(.ref a0x), (.ref a1x), (.ref a2x)] below meth c s₁ [] 0 0 := Stand.of_body Bd
  have e0 : s₁.heap = h0 := by rw [← hh, Bd.state]; rfl
  have N0 := Fr.nil n0
  have K0 : Keep h0 h0 [a0x] := Keep.refl h0 [a0x]
  have pre0 : ∀ t, Steps p.tables e below (s₁.setTop (mkF m 0 #[.val (.ref a0x), .val (.ref a1x), .val (.ref a2x)] [])) t → Steps p.tables e below (s₁.setTop (entryFrame m #[(.ref a0x), (.ref a1x), (.ref a2x)] 3)) t := fun t k => castTop (ef_11 m a0x a1x a2x) k
  obtain ⟨_, _, ⟨T1, L1, k1, n1⟩, -, X1, ⟨Lc1, hQ1, l1, y1, z1⟩, st1⟩ := X0.specialBack hx (y := (⟨"com/example/watchpost/watchpost/Option", "<init>", "(Ljava/lang/String;Ljava/lang/String;Ljava/lang/String;Z)V"⟩ : MethodName)) rfl hown (mvT hZ (hw _ (List.mem_of_getElem? (i := 54) rfl))) (mvT hZ (hw _ (List.mem_of_getElem? (i := 55) rfl))) (mvT hZ (hw _ (List.mem_of_getElem? (i := 56) rfl))) (by decide) (backOf (W := 0) (rm_opt01 l Z a0 hw [] a0x a1x a2x (0 : Int32) h0 n0 Z0 E0x F0x0 F0x1 F0x2 F0x3 g0x) hZ (hw _ (List.mem_of_getElem? (i := 56) rfl)) (hw _ (List.mem_of_getElem? (i := 50) rfl)) (by decide) (by decide)) (g := (mkF m 5 #[.val (.ref a0x), .val (.ref a1x), .val (.ref a2x)] [(.int (0 : Int32)), (.ref a2x), .null, (.ref a1x), (.ref a0x)])) rfl (by rw [hml]; rfl) (Steps.refl _) (a := a0x) (argsL := [(.ref a1x), .null, (.ref a2x), (.int (0 : Int32))]) (rest := []) (lenOf pd_4 rfl) rfl (by show 2 * 0 + _ ≤ _; exact Nat.le_of_eq rfl) (hb hby d11_5) (fun _ _ => ⟨rfl, e0, (by decide : 0 + 0 ≤ _), (by decide : 0 + 0 ≤ _)⟩)
  dsimp only [Pt.U, Pt.locs, Pt.cells, Pt.slots] at X1 l1 y1 z1 st1 hQ1
  subst l1 y1 z1
  obtain ⟨rfl, N1q, x1c0, x1c1, x1c2, x1c3, x1c4⟩ := hQ1
  have N1 := Fr.app N0 N1q
  have E0x_1 : Exa Z T1.heap a0x "com/example/watchpost/watchpost/Option" := E0x.keep x1c0
  have Z1 : n0 ≤ T1.heap.size := Nat.le_trans Z0 x1c0.1
  have K1 : Keep h0 T1.heap [a0x] := K0.trans x1c0 (allS (P := fun x => x ∈ [a0x] ∨ h0.size ≤ x) (Or.inl (List.mem_of_getElem? (i := 0) rfl)) all0)
  obtain ⟨fs, hr, hrun, hended, hW, hsame⟩ := X1.leave (v := none) (fun _ => rfl)
  refine ⟨_, _, pre0 _ ?_, hrun, hended, _, _, rfl, ?_, ⟨_, rfl⟩, hW, hsame.mono (by decide) (by decide)⟩
  · show Steps p.tables e below (s₁.setTop (mkF m 0 #[.val (.ref a0x), .val (.ref a1x), .val (.ref a2x)] [])) _
    refine XS.aloadN X0.here hx rfl (hb hby d11_0) rfl rfl ?_
    show Steps p.tables e below (s₁.setTop (mkF m 1 #[.val (.ref a0x), .val (.ref a1x), .val (.ref a2x)] [(.ref a0x)])) _
    refine XS.aloadN X0.here hx rfl (hb hby d11_1) rfl rfl ?_
    show Steps p.tables e below (s₁.setTop (mkF m 2 #[.val (.ref a0x), .val (.ref a1x), .val (.ref a2x)] [(.ref a1x), (.ref a0x)])) _
    refine XS.aconstNull X0.here hx rfl (hb hby d11_2) ?_
    show Steps p.tables e below (s₁.setTop (mkF m 3 #[.val (.ref a0x), .val (.ref a1x), .val (.ref a2x)] [.null, (.ref a1x), (.ref a0x)])) _
    refine XS.aloadN X0.here hx rfl (hb hby d11_3) rfl rfl ?_
    show Steps p.tables e below (s₁.setTop (mkF m 4 #[.val (.ref a0x), .val (.ref a1x), .val (.ref a2x)] [(.ref a2x), .null, (.ref a1x), (.ref a0x)])) _
    refine XS.iconst X0.here hx rfl (hb hby d11_4) ?_
    show Steps p.tables e below (s₁.setTop (mkF m 5 #[.val (.ref a0x), .val (.ref a1x), .val (.ref a2x)] [(.int (0 : Int32)), (.ref a2x), .null, (.ref a1x), (.ref a0x)])) _
    refine st1.trans ?_
    show Steps p.tables e below (T1.setTop (mkF m 8 #[.val (.ref a0x), .val (.ref a1x), .val (.ref a2x)] [])) _
    exact X1.returnOut hx Bd.returns (hb hby d11_8) hr
  · show Q_rm_two1 Z a0x a1x a2x h0 n0 _ T1.heap _
    exact ⟨rfl, N1, K1, x1c1, x1c2, x1c3, x1c4⟩
theorem d13_0 : decode prog_5_method_8_code 0 = .ok (.aload_n 0, 1) := by decide +kernel
theorem d13_1 : decode prog_5_method_8_code 1 = .ok (.getfield 19, 3) := by decide +kernel
theorem d13_4 : decode prog_5_method_8_code 4 = .ok (.ifnonnull 7, 3) := by decide +kernel
theorem d13_7 : decode prog_5_method_8_code 7 = .ok (.iconst 1, 1) := by decide +kernel
theorem d13_8 : decode prog_5_method_8_code 8 = .ok (.goto 4, 3) := by decide +kernel
theorem d13_12 : decode prog_5_method_8_code 12 = .ok (.ireturn, 1) := by decide +kernel
theorem ef_13 (m : MethodId) (x0 : Addr) : entryFrame m #[(.ref x0)] 1 = mkF m 0 #[.val (.ref x0)] [] := by first | (simp [entryFrame, mkF, argsToLocals, Value.category]; done) | rfl
def Q_rm_flag0 (Z : State) (a0x : Addr) (h0 : Heap) (n0 : Nat) (v : Option Value) (h : Heap) (L : List Loc) : Prop := v = some (.int (1 : Int32)) ∧ Fr n0 L ∧ h = h0
set_option maxRecDepth 65536 in
set_option maxHeartbeats 40000000 in
theorem rm_flag0 (l : Launch) (Z : State) (a0 : Array Value) (hw : ∀ d ∈ tables_1, d.before a0 Z = true) (ws : List Jvm.Cond) (a0x : Addr) (h0 : Heap) (n0 : Nat) (Z0 : n0 ≤ h0.size) (F0x : Fld Z h0 a0x "com/example/watchpost/watchpost/Option" "value" "Ljava/lang/String;" .null) :
    MetFree l (⟨"com/example/watchpost/watchpost/Option", "isFlag", "()Z"⟩ : MethodName) (head1 (Jvm.Cond.code (⟨"com/example/watchpost/watchpost/Option", "isFlag", "()Z"⟩ : MethodName) prog_5_method_8_code 1 (some .boolean) :: ws) ({ frames := 0, cells := 0, slots := 0, locals := 0 } : Room)) (fun a U => a = #[(.ref a0x)] ∧ Z.Warmed39 U.vm ∧ U.heap = h0) (fun _ _ _ _ _ => True) (fun _ U o U' => ∃ v L, o = .returned v ∧ Q_rm_flag0 Z a0x h0 n0 v U'.heap L ∧ FrameEnd U o U' L ({ frames := 0, cells := 0, slots := 0, locals := 0 } : Room).cells ({ frames := 0, cells := 0, slots := 0, locals := 0 } : Room).slots) := by
  refine MetFree.of_bodySF (plainFor_of_name pn_2) hisR ?_
  intro p e s m args below meth c s₁ Bd hml0 hP hK
  obtain ⟨rfl, hZ, hh⟩ := hP
  have hx := Bd.exec
  have hby := Bd.bytes
  have hml : c.maxLocals = 1 := hml0
  have hown : s.vm.findClass "com/example/watchpost/watchpost/Option" = some m.cls := findClass_of_methodNamed Bd.named
  have hnm := (name_of_methodNamed Bd.named Bd.method).1
  have X0 : Stand p l e ({ frames := 0, cells := 0, slots := 0, locals := 0 } : Room) s m #[(.ref a0x)] below meth c s₁ [] 0 0 := Stand.of_body Bd
  have e0 : s₁.heap = h0 := by rw [← hh, Bd.state]; rfl
  have N0 := Fr.nil n0
  have pre0 : ∀ t, Steps p.tables e below (s₁.setTop (mkF m 0 #[.val (.ref a0x)] [])) t → Steps p.tables e below (s₁.setTop (entryFrame m #[(.ref a0x)] 1)) t := fun t k => castTop (ef_13 m a0x) k
  obtain ⟨T1, X1, e1, st1⟩ := getF X0 hx hZ hown (host := "") (Or.inl (hw _ (List.mem_of_getElem? (i := 62) rfl))) Via.refl e0 F0x (g := (mkF m 1 #[.val (.ref a0x)] [(.ref a0x)])) rfl rfl (hb hby d13_1)
  obtain ⟨fs, hr, hrun, hended, hW, hsame⟩ := X1.leave (v := some (.int (1 : Int32))) (fun h => by rw [Bd.returns] at h; cases h)
  refine ⟨_, _, pre0 _ ?_, hrun, hended, _, _, rfl, ?_, ⟨_, rfl⟩, hW, hsame.mono (by decide) (by decide)⟩
  · show Steps p.tables e below (s₁.setTop (mkF m 0 #[.val (.ref a0x)] [])) _
    refine XS.aloadN X0.here hx rfl (hb hby d13_0) rfl rfl ?_
    show Steps p.tables e below (s₁.setTop (mkF m 1 #[.val (.ref a0x)] [(.ref a0x)])) _
    refine st1 _ ?_
    show Steps p.tables e below (T1.setTop (mkF m 4 #[.val (.ref a0x)] [.null])) _
    refine XS.ifnonnullNo X1.here hx rfl (hb hby d13_4) rfl ?_
    show Steps p.tables e below (T1.setTop (mkF m 7 #[.val (.ref a0x)] [])) _
    refine XS.iconst X1.here hx rfl (hb hby d13_7) ?_
    show Steps p.tables e below (T1.setTop (mkF m 8 #[.val (.ref a0x)] [(.int (1 : Int32))])) _
    refine XS.goto X1.here hx rfl (pc0 := 8) (pc' := 12) rfl (hb hby d13_8) (by decide) (by decide) ?_
    show Steps p.tables e below (T1.setTop (mkF m 12 #[.val (.ref a0x)] [(.int (1 : Int32))])) _
    exact retN X1 hx (t := .boolean) Bd.returns (by simp) (hb hby d13_12) hr
  · show Q_rm_flag0 Z a0x h0 n0 _ T1.heap _
    rw [e1]
    exact ⟨rfl, N0, rfl⟩
theorem d14_0 : decode prog_5_method_9_code 0 = .ok (.aload_n 0, 1) := by decide +kernel
theorem d14_1 : decode prog_5_method_9_code 1 = .ok (.getfield 19, 3) := by decide +kernel
theorem d14_4 : decode prog_5_method_9_code 4 = .ok (.areturn, 1) := by decide +kernel
theorem ef_14 (m : MethodId) (x0 : Addr) : entryFrame m #[(.ref x0)] 1 = mkF m 0 #[.val (.ref x0)] [] := by first | (simp [entryFrame, mkF, argsToLocals, Value.category]; done) | rfl
def Q_rm_val0 (Z : State) (a0x : Addr) (h0 : Heap) (n0 : Nat) (v : Option Value) (h : Heap) (L : List Loc) : Prop := v = some .null ∧ Fr n0 L ∧ h = h0
set_option maxRecDepth 65536 in
set_option maxHeartbeats 40000000 in
theorem rm_val0 (l : Launch) (Z : State) (a0 : Array Value) (hw : ∀ d ∈ tables_1, d.before a0 Z = true) (ws : List Jvm.Cond) (a0x : Addr) (h0 : Heap) (n0 : Nat) (Z0 : n0 ≤ h0.size) (F0x : Fld Z h0 a0x "com/example/watchpost/watchpost/Option" "value" "Ljava/lang/String;" .null) :
    MetFree l (⟨"com/example/watchpost/watchpost/Option", "value", "()Ljava/lang/String;"⟩ : MethodName) (head1 (Jvm.Cond.code (⟨"com/example/watchpost/watchpost/Option", "value", "()Ljava/lang/String;"⟩ : MethodName) prog_5_method_9_code 1 (some (.object "java/lang/String")) :: ws) ({ frames := 0, cells := 0, slots := 0, locals := 0 } : Room)) (fun a U => a = #[(.ref a0x)] ∧ Z.Warmed39 U.vm ∧ U.heap = h0) (fun _ _ _ _ _ => True) (fun _ U o U' => ∃ v L, o = .returned v ∧ Q_rm_val0 Z a0x h0 n0 v U'.heap L ∧ FrameEnd U o U' L ({ frames := 0, cells := 0, slots := 0, locals := 0 } : Room).cells ({ frames := 0, cells := 0, slots := 0, locals := 0 } : Room).slots) := by
  refine MetFree.of_bodySF (plainFor_of_name pn_2) hisR ?_
  intro p e s m args below meth c s₁ Bd hml0 hP hK
  obtain ⟨rfl, hZ, hh⟩ := hP
  have hx := Bd.exec
  have hby := Bd.bytes
  have hml : c.maxLocals = 1 := hml0
  have hown : s.vm.findClass "com/example/watchpost/watchpost/Option" = some m.cls := findClass_of_methodNamed Bd.named
  have hnm := (name_of_methodNamed Bd.named Bd.method).1
  have X0 : Stand p l e ({ frames := 0, cells := 0, slots := 0, locals := 0 } : Room) s m #[(.ref a0x)] below meth c s₁ [] 0 0 := Stand.of_body Bd
  have e0 : s₁.heap = h0 := by rw [← hh, Bd.state]; rfl
  have N0 := Fr.nil n0
  have pre0 : ∀ t, Steps p.tables e below (s₁.setTop (mkF m 0 #[.val (.ref a0x)] [])) t → Steps p.tables e below (s₁.setTop (entryFrame m #[(.ref a0x)] 1)) t := fun t k => castTop (ef_14 m a0x) k
  obtain ⟨T1, X1, e1, st1⟩ := getF X0 hx hZ hown (host := "") (Or.inl (hw _ (List.mem_of_getElem? (i := 62) rfl))) Via.refl e0 F0x (g := (mkF m 1 #[.val (.ref a0x)] [(.ref a0x)])) rfl rfl (hb hby d14_1)
  obtain ⟨fs, hr, hrun, hended, hW, hsame⟩ := X1.leave (v := some .null) (fun h => by rw [Bd.returns] at h; cases h)
  refine ⟨_, _, pre0 _ ?_, hrun, hended, _, _, rfl, ?_, ⟨_, rfl⟩, hW, hsame.mono (by decide) (by decide)⟩
  · show Steps p.tables e below (s₁.setTop (mkF m 0 #[.val (.ref a0x)] [])) _
    refine XS.aloadN X0.here hx rfl (hb hby d14_0) rfl rfl ?_
    show Steps p.tables e below (s₁.setTop (mkF m 1 #[.val (.ref a0x)] [(.ref a0x)])) _
    refine st1 _ ?_
    show Steps p.tables e below (T1.setTop (mkF m 4 #[.val (.ref a0x)] [.null])) _
    exact retOut X1 hx Bd.returns (by rfl) (Or.inr (Or.inr (Or.inr (Or.inr ⟨rfl, rfl, rfl⟩)))) (hb hby d14_4) hr
  · show Q_rm_val0 Z a0x h0 n0 _ T1.heap _
    rw [e1]
    exact ⟨rfl, N0, rfl⟩
theorem d13_11 : decode prog_5_method_8_code 11 = .ok (.iconst 0, 1) := by decide +kernel
def Q_rm_flag1 (Z : State) (a0x : Addr) (v1x : Addr) (h0 : Heap) (n0 : Nat) (v : Option Value) (h : Heap) (L : List Loc) : Prop := v = some (.int (0 : Int32)) ∧ Fr n0 L ∧ h = h0
set_option maxRecDepth 65536 in
set_option maxHeartbeats 40000000 in
theorem rm_flag1 (l : Launch) (Z : State) (a0 : Array Value) (hw : ∀ d ∈ tables_1, d.before a0 Z = true) (ws : List Jvm.Cond) (a0x : Addr) (v1x : Addr) (h0 : Heap) (n0 : Nat) (Z0 : n0 ≤ h0.size) (F0x : Fld Z h0 a0x "com/example/watchpost/watchpost/Option" "value" "Ljava/lang/String;" (.ref v1x)) :
    MetFree l (⟨"com/example/watchpost/watchpost/Option", "isFlag", "()Z"⟩ : MethodName) (head1 (Jvm.Cond.code (⟨"com/example/watchpost/watchpost/Option", "isFlag", "()Z"⟩ : MethodName) prog_5_method_8_code 1 (some .boolean) :: ws) ({ frames := 0, cells := 0, slots := 0, locals := 0 } : Room)) (fun a U => a = #[(.ref a0x)] ∧ Z.Warmed39 U.vm ∧ U.heap = h0) (fun _ _ _ _ _ => True) (fun _ U o U' => ∃ v L, o = .returned v ∧ Q_rm_flag1 Z a0x v1x h0 n0 v U'.heap L ∧ FrameEnd U o U' L ({ frames := 0, cells := 0, slots := 0, locals := 0 } : Room).cells ({ frames := 0, cells := 0, slots := 0, locals := 0 } : Room).slots) := by
  refine MetFree.of_bodySF (plainFor_of_name pn_2) hisR ?_
  intro p e s m args below meth c s₁ Bd hml0 hP hK
  obtain ⟨rfl, hZ, hh⟩ := hP
  have hx := Bd.exec
  have hby := Bd.bytes
  have hml : c.maxLocals = 1 := hml0
  have hown : s.vm.findClass "com/example/watchpost/watchpost/Option" = some m.cls := findClass_of_methodNamed Bd.named
  have hnm := (name_of_methodNamed Bd.named Bd.method).1
  have X0 : Stand p l e ({ frames := 0, cells := 0, slots := 0, locals := 0 } : Room) s m #[(.ref a0x)] below meth c s₁ [] 0 0 := Stand.of_body Bd
  have e0 : s₁.heap = h0 := by rw [← hh, Bd.state]; rfl
  have N0 := Fr.nil n0
  have pre0 : ∀ t, Steps p.tables e below (s₁.setTop (mkF m 0 #[.val (.ref a0x)] [])) t → Steps p.tables e below (s₁.setTop (entryFrame m #[(.ref a0x)] 1)) t := fun t k => castTop (ef_13 m a0x) k
  obtain ⟨T1, X1, e1, st1⟩ := getF X0 hx hZ hown (host := "") (Or.inl (hw _ (List.mem_of_getElem? (i := 62) rfl))) Via.refl e0 F0x (g := (mkF m 1 #[.val (.ref a0x)] [(.ref a0x)])) rfl rfl (hb hby d13_1)
  obtain ⟨fs, hr, hrun, hended, hW, hsame⟩ := X1.leave (v := some (.int (0 : Int32))) (fun h => by rw [Bd.returns] at h; cases h)
  refine ⟨_, _, pre0 _ ?_, hrun, hended, _, _, rfl, ?_, ⟨_, rfl⟩, hW, hsame.mono (by decide) (by decide)⟩
  · show Steps p.tables e below (s₁.setTop (mkF m 0 #[.val (.ref a0x)] [])) _
    refine XS.aloadN X0.here hx rfl (hb hby d13_0) rfl rfl ?_
    show Steps p.tables e below (s₁.setTop (mkF m 1 #[.val (.ref a0x)] [(.ref a0x)])) _
    refine st1 _ ?_
    show Steps p.tables e below (T1.setTop (mkF m 4 #[.val (.ref a0x)] [(.ref v1x)])) _
    refine XS.ifnonnullYes X1.here hx rfl (pc0 := 4) (pc' := 11) rfl (hb hby d13_4) rfl (by decide) (by decide) ?_
    show Steps p.tables e below (T1.setTop (mkF m 11 #[.val (.ref a0x)] [])) _
    refine XS.iconst X1.here hx rfl (hb hby d13_11) ?_
    show Steps p.tables e below (T1.setTop (mkF m 12 #[.val (.ref a0x)] [(.int (0 : Int32))])) _
    exact retN X1 hx (t := .boolean) Bd.returns (by simp) (hb hby d13_12) hr
  · show Q_rm_flag1 Z a0x v1x h0 n0 _ T1.heap _
    rw [e1]
    exact ⟨rfl, N0, rfl⟩
def Q_rm_val1 (Z : State) (a0x : Addr) (v1x : Addr) (h0 : Heap) (n0 : Nat) (v : Option Value) (h : Heap) (L : List Loc) : Prop := v = some (.ref v1x) ∧ Fr n0 L ∧ h = h0
set_option maxRecDepth 65536 in
set_option maxHeartbeats 40000000 in
theorem rm_val1 (l : Launch) (Z : State) (a0 : Array Value) (hw : ∀ d ∈ tables_1, d.before a0 Z = true) (ws : List Jvm.Cond) (a0x : Addr) (v1x : Addr) (h0 : Heap) (n0 : Nat) (Z0 : n0 ≤ h0.size) (F0x : Fld Z h0 a0x "com/example/watchpost/watchpost/Option" "value" "Ljava/lang/String;" (.ref v1x)) :
    MetFree l (⟨"com/example/watchpost/watchpost/Option", "value", "()Ljava/lang/String;"⟩ : MethodName) (head1 (Jvm.Cond.code (⟨"com/example/watchpost/watchpost/Option", "value", "()Ljava/lang/String;"⟩ : MethodName) prog_5_method_9_code 1 (some (.object "java/lang/String")) :: ws) ({ frames := 0, cells := 0, slots := 0, locals := 0 } : Room)) (fun a U => a = #[(.ref a0x)] ∧ Z.Warmed39 U.vm ∧ U.heap = h0) (fun _ _ _ _ _ => True) (fun _ U o U' => ∃ v L, o = .returned v ∧ Q_rm_val1 Z a0x v1x h0 n0 v U'.heap L ∧ FrameEnd U o U' L ({ frames := 0, cells := 0, slots := 0, locals := 0 } : Room).cells ({ frames := 0, cells := 0, slots := 0, locals := 0 } : Room).slots) := by
  refine MetFree.of_bodySF (plainFor_of_name pn_2) hisR ?_
  intro p e s m args below meth c s₁ Bd hml0 hP hK
  obtain ⟨rfl, hZ, hh⟩ := hP
  have hx := Bd.exec
  have hby := Bd.bytes
  have hml : c.maxLocals = 1 := hml0
  have hown : s.vm.findClass "com/example/watchpost/watchpost/Option" = some m.cls := findClass_of_methodNamed Bd.named
  have hnm := (name_of_methodNamed Bd.named Bd.method).1
  have X0 : Stand p l e ({ frames := 0, cells := 0, slots := 0, locals := 0 } : Room) s m #[(.ref a0x)] below meth c s₁ [] 0 0 := Stand.of_body Bd
  have e0 : s₁.heap = h0 := by rw [← hh, Bd.state]; rfl
  have N0 := Fr.nil n0
  have pre0 : ∀ t, Steps p.tables e below (s₁.setTop (mkF m 0 #[.val (.ref a0x)] [])) t → Steps p.tables e below (s₁.setTop (entryFrame m #[(.ref a0x)] 1)) t := fun t k => castTop (ef_14 m a0x) k
  obtain ⟨T1, X1, e1, st1⟩ := getF X0 hx hZ hown (host := "") (Or.inl (hw _ (List.mem_of_getElem? (i := 62) rfl))) Via.refl e0 F0x (g := (mkF m 1 #[.val (.ref a0x)] [(.ref a0x)])) rfl rfl (hb hby d14_1)
  obtain ⟨fs, hr, hrun, hended, hW, hsame⟩ := X1.leave (v := some (.ref v1x)) (fun h => by rw [Bd.returns] at h; cases h)
  refine ⟨_, _, pre0 _ ?_, hrun, hended, _, _, rfl, ?_, ⟨_, rfl⟩, hW, hsame.mono (by decide) (by decide)⟩
  · show Steps p.tables e below (s₁.setTop (mkF m 0 #[.val (.ref a0x)] [])) _
    refine XS.aloadN X0.here hx rfl (hb hby d14_0) rfl rfl ?_
    show Steps p.tables e below (s₁.setTop (mkF m 1 #[.val (.ref a0x)] [(.ref a0x)])) _
    refine st1 _ ?_
    show Steps p.tables e below (T1.setTop (mkF m 4 #[.val (.ref a0x)] [(.ref v1x)])) _
    exact retOut X1 hx Bd.returns (by rfl) (Or.inr (Or.inr (Or.inr (Or.inr ⟨rfl, rfl, rfl⟩)))) (hb hby d14_4) hr
  · show Q_rm_val1 Z a0x v1x h0 n0 _ T1.heap _
    rw [e1]
    exact ⟨rfl, N0, rfl⟩
theorem d15_0 : decode prog_5_method_3_code 0 = .ok (.new 2, 3) := by decide +kernel
theorem d15_3 : decode prog_5_method_3_code 3 = .ok (.dup, 1) := by decide +kernel
theorem d15_4 : decode prog_5_method_3_code 4 = .ok (.aload_n 0, 1) := by decide +kernel
theorem d15_5 : decode prog_5_method_3_code 5 = .ok (.aconst_null, 1) := by decide +kernel
theorem d15_6 : decode prog_5_method_3_code 6 = .ok (.invokespecial 26, 3) := by decide +kernel
theorem pd_5 : parseMethodDescriptor "(Ljava/lang/String;Ljava/lang/String;)V" = some ⟨[(.object "java/lang/String"), (.object "java/lang/String")], none⟩ := by decide +kernel
theorem d15_9 : decode prog_5_method_3_code 9 = .ok (.areturn, 1) := by decide +kernel
theorem ef_15 (m : MethodId) (x0 : Addr) : entryFrame m #[(.ref x0)] 1 = mkF m 0 #[.val (.ref x0)] [] := by first | (simp [entryFrame, mkF, argsToLocals, Value.category]; done) | rfl
def Q_rm_f1 (Z : State) (a1x : Addr) (h0 : Heap) (n0 : Nat) (v : Option Value) (h : Heap) (L : List Loc) : Prop := ∃ bq : Addr, v = some (.ref bq) ∧ Fr n0 L ∧ Keep h0 h [] ∧ n0 ≤ bq ∧ h0.size ≤ bq ∧ Exa Z h bq "com/example/watchpost/watchpost/Option" ∧ Fld Z h bq "com/example/watchpost/watchpost/Option" "value" "Ljava/lang/String;" .null
set_option maxRecDepth 65536 in
set_option maxHeartbeats 40000000 in
theorem rm_f1 (l : Launch) (Z : State) (a0 : Array Value) (hw : ∀ d ∈ tables_1, d.before a0 Z = true) (ws : List Jvm.Cond) (a1x : Addr) (h0 : Heap) (n0 : Nat) (Z0 : n0 ≤ h0.size)  :
    MetFree l (⟨"com/example/watchpost/watchpost/Option", "flag", "(Ljava/lang/String;)Lcom/example/watchpost/watchpost/Option;"⟩ : MethodName) (head1 (Jvm.Cond.code (⟨"com/example/watchpost/watchpost/Option", "flag", "(Ljava/lang/String;)Lcom/example/watchpost/watchpost/Option;"⟩ : MethodName) prog_5_method_3_code 1 (some (.object "com/example/watchpost/watchpost/Option")) :: ws) ({ frames := 3, cells := 1, slots := 4, locals := 43 } : Room)) (fun a U => a = #[(.ref a1x)] ∧ Z.Warmed39 U.vm ∧ U.heap = h0) (fun _ _ _ _ _ => True) (fun _ U o U' => ∃ v L, o = .returned v ∧ Q_rm_f1 Z a1x h0 n0 v U'.heap L ∧ FrameEnd U o U' L ({ frames := 3, cells := 1, slots := 4, locals := 43 } : Room).cells ({ frames := 3, cells := 1, slots := 4, locals := 43 } : Room).slots) := by
  refine MetFree.of_bodySF (plainFor_of_name pn_2) hisR ?_
  intro p e s m args below meth c s₁ Bd hml0 hP hK
  obtain ⟨rfl, hZ, hh⟩ := hP
  have hx := Bd.exec
  have hby := Bd.bytes
  have hml : c.maxLocals = 1 := hml0
  have hown : s.vm.findClass "com/example/watchpost/watchpost/Option" = some m.cls := findClass_of_methodNamed Bd.named
  have hnm := (name_of_methodNamed Bd.named Bd.method).1
  have X0 : Stand p l e ({ frames := 3, cells := 1, slots := 4, locals := 43 } : Room) s m #[(.ref a1x)] below meth c s₁ [] 0 0 := Stand.of_body Bd
  have e0 : s₁.heap = h0 := by rw [← hh, Bd.state]; rfl
  have N0 := Fr.nil n0
  have K0 : Keep h0 h0 [] := Keep.refl h0 []
  have pre0 : ∀ t, Steps p.tables e below (s₁.setTop (mkF m 0 #[.val (.ref a1x)] [])) t → Steps p.tables e below (s₁.setTop (entryFrame m #[(.ref a1x)] 1)) t := fun t k => castTop (ef_15 m a1x) k
  obtain ⟨T1, h1, X1, e1, E1, A1, D1, -, st1⟩ := newO X0 hx hZ hown (hw _ (List.mem_of_getElem? (i := 79) rfl)) (hw _ (List.mem_of_getElem? (i := 49) rfl)) (hw _ (List.mem_of_getElem? (i := 50) rfl)) e0 (g := (mkF m 0 #[.val (.ref a1x)] [])) rfl (hb hby d15_0) (by decide) (by decide)
  obtain ⟨b1, g1⟩ : ∃ z, z = h0.size := ⟨_, rfl⟩
  rw [← g1] at A1 D1 st1
  have g_b1 : n0 ≤ b1 := Nat.le_trans Z0 (Nat.le_of_eq g1.symm)
  have sz_b1 : h0.size ≤ b1 := Nat.le_trans K0.1 (Nat.le_of_eq g1.symm)
  have Z1 : n0 ≤ h1.size := Nat.le_trans Z0 E1.1
  have K1 : Keep h0 h1 [] := K0.ext E1
  have F_name_b1 : Fld Z h1 b1 "com/example/watchpost/watchpost/Option" "name" "Ljava/lang/String;" .null := D1 (Or.inr (hw _ (List.mem_of_getElem? (i := 59) rfl))) (ty := (.object "java/lang/String")) (by decide)
  have F_shortName_b1 : Fld Z h1 b1 "com/example/watchpost/watchpost/Option" "shortName" "Ljava/lang/String;" .null := D1 (Or.inr (hw _ (List.mem_of_getElem? (i := 61) rfl))) (ty := (.object "java/lang/String")) (by decide)
  have F_value_b1 : Fld Z h1 b1 "com/example/watchpost/watchpost/Option" "value" "Ljava/lang/String;" .null := D1 (Or.inr (hw _ (List.mem_of_getElem? (i := 63) rfl))) (ty := (.object "java/lang/String")) (by decide)
  have F_required_b1 : Fld Z h1 b1 "com/example/watchpost/watchpost/Option" "required" "Z" (.int (0 : Int32)) := D1 (Or.inr (hw _ (List.mem_of_getElem? (i := 65) rfl))) (ty := .boolean) (by decide)
  obtain ⟨_, _, ⟨T2, L2, k2, n2⟩, -, X2, ⟨Lc2, hQ2, l2, y2, z2⟩, st2⟩ := X1.specialBack hx (y := (⟨"com/example/watchpost/watchpost/Option", "<init>", "(Ljava/lang/String;Ljava/lang/String;)V"⟩ : MethodName)) rfl hown (mvT hZ (hw _ (List.mem_of_getElem? (i := 80) rfl))) (mvT hZ (hw _ (List.mem_of_getElem? (i := 52) rfl))) (mvT hZ (hw _ (List.mem_of_getElem? (i := 53) rfl))) (by decide) (backOf (W := 1) (rm_two0 l Z a0 hw [] b1 a1x h1 n0 Z1 A1 F_name_b1 F_shortName_b1 F_value_b1 F_required_b1 g_b1) hZ (hw _ (List.mem_of_getElem? (i := 53) rfl)) (hw _ (List.mem_of_getElem? (i := 50) rfl)) (by decide) (by decide)) (g := (mkF m 6 #[.val (.ref a1x)] [.null, (.ref a1x), (.ref b1), (.ref b1)])) rfl (by rw [hml]; rfl) (Steps.refl _) (a := b1) (argsL := [(.ref a1x), .null]) (rest := [(.ref b1)]) (lenOf pd_5 rfl) rfl (by show 2 * 0 + _ ≤ _; exact Nat.le_of_eq rfl) (hb hby d15_6) (fun _ _ => ⟨rfl, e1, (by decide : 1 + 0 ≤ _), (by decide : 4 + 0 ≤ _)⟩)
  dsimp only [Pt.U, Pt.locs, Pt.cells, Pt.slots] at X2 l2 y2 z2 st2 hQ2
  subst l2 y2 z2
  obtain ⟨rfl, N2q, x2c0, x2c1, x2c2, x2c3, x2c4⟩ := hQ2
  have N2 := Fr.app N0 N2q
  have A1_2 : Exa Z T2.heap b1 "com/example/watchpost/watchpost/Option" := A1.keep x2c0
  have Z2 : n0 ≤ T2.heap.size := Nat.le_trans Z1 x2c0.1
  have K2 : Keep h0 T2.heap [] := K1.trans x2c0 (allS (P := fun x => x ∈ [] ∨ h0.size ≤ x) (Or.inr sz_b1) all0)
  obtain ⟨fs, hr, hrun, hended, hW, hsame⟩ := X2.leave (v := some (.ref b1)) (fun h => by rw [Bd.returns] at h; cases h)
  refine ⟨_, _, pre0 _ ?_, hrun, hended, _, _, rfl, ?_, ⟨_, rfl⟩, hW, hsame.mono (by decide) (by decide)⟩
  · show Steps p.tables e below (s₁.setTop (mkF m 0 #[.val (.ref a1x)] [])) _
    refine st1 _ ?_
    show Steps p.tables e below (T1.setTop (mkF m 3 #[.val (.ref a1x)] [(.ref b1)])) _
    refine XS.dup X1.here hx rfl (hb hby d15_3) rfl rfl ?_
    show Steps p.tables e below (T1.setTop (mkF m 4 #[.val (.ref a1x)] [(.ref b1), (.ref b1)])) _
    refine XS.aloadN X1.here hx rfl (hb hby d15_4) rfl rfl ?_
    show Steps p.tables e below (T1.setTop (mkF m 5 #[.val (.ref a1x)] [(.ref a1x), (.ref b1), (.ref b1)])) _
    refine XS.aconstNull X1.here hx rfl (hb hby d15_5) ?_
    show Steps p.tables e below (T1.setTop (mkF m 6 #[.val (.ref a1x)] [.null, (.ref a1x), (.ref b1), (.ref b1)])) _
    refine st2.trans ?_
    show Steps p.tables e below (T2.setTop (mkF m 9 #[.val (.ref a1x)] [(.ref b1)])) _
    exact retOut X2 hx Bd.returns (by rfl) (Or.inr (Or.inr (Or.inr (Or.inr ⟨rfl, rfl, rfl⟩)))) (hb hby d15_9) hr
  · show Q_rm_f1 Z a1x h0 n0 _ T2.heap _
    exact ⟨b1, rfl, N2, K2, g_b1, sz_b1, A1_2, x2c3⟩
theorem d16_0 : decode prog_5_method_4_code 0 = .ok (.new 2, 3) := by decide +kernel
theorem d16_3 : decode prog_5_method_4_code 3 = .ok (.dup, 1) := by decide +kernel
theorem d16_4 : decode prog_5_method_4_code 4 = .ok (.aload_n 0, 1) := by decide +kernel
theorem d16_5 : decode prog_5_method_4_code 5 = .ok (.aload_n 1, 1) := by decide +kernel
theorem d16_6 : decode prog_5_method_4_code 6 = .ok (.aconst_null, 1) := by decide +kernel
theorem d16_7 : decode prog_5_method_4_code 7 = .ok (.iconst 0, 1) := by decide +kernel
theorem d16_8 : decode prog_5_method_4_code 8 = .ok (.invokespecial 1, 3) := by decide +kernel
theorem d16_11 : decode prog_5_method_4_code 11 = .ok (.areturn, 1) := by decide +kernel
theorem ef_16 (m : MethodId) (x0 : Addr) (x1 : Addr) : entryFrame m #[(.ref x0), (.ref x1)] 2 = mkF m 0 #[.val (.ref x0), .val (.ref x1)] [] := by first | (simp [entryFrame, mkF, argsToLocals, Value.category]; done) | rfl
def Q_rm_f2 (Z : State) (a1x : Addr) (a2x : Addr) (h0 : Heap) (n0 : Nat) (v : Option Value) (h : Heap) (L : List Loc) : Prop := ∃ bq : Addr, v = some (.ref bq) ∧ Fr n0 L ∧ Keep h0 h [] ∧ n0 ≤ bq ∧ h0.size ≤ bq ∧ Exa Z h bq "com/example/watchpost/watchpost/Option" ∧ Fld Z h bq "com/example/watchpost/watchpost/Option" "value" "Ljava/lang/String;" .null
set_option maxRecDepth 65536 in
set_option maxHeartbeats 40000000 in
theorem rm_f2 (l : Launch) (Z : State) (a0 : Array Value) (hw : ∀ d ∈ tables_1, d.before a0 Z = true) (ws : List Jvm.Cond) (a1x : Addr) (a2x : Addr) (h0 : Heap) (n0 : Nat) (Z0 : n0 ≤ h0.size)  :
    MetFree l (⟨"com/example/watchpost/watchpost/Option", "flag", "(Ljava/lang/String;Ljava/lang/String;)Lcom/example/watchpost/watchpost/Option;"⟩ : MethodName) (head1 (Jvm.Cond.code (⟨"com/example/watchpost/watchpost/Option", "flag", "(Ljava/lang/String;Ljava/lang/String;)Lcom/example/watchpost/watchpost/Option;"⟩ : MethodName) prog_5_method_4_code 2 (some (.object "com/example/watchpost/watchpost/Option")) :: ws) ({ frames := 2, cells := 1, slots := 4, locals := 29 } : Room)) (fun a U => a = #[(.ref a1x), (.ref a2x)] ∧ Z.Warmed39 U.vm ∧ U.heap = h0) (fun _ _ _ _ _ => True) (fun _ U o U' => ∃ v L, o = .returned v ∧ Q_rm_f2 Z a1x a2x h0 n0 v U'.heap L ∧ FrameEnd U o U' L ({ frames := 2, cells := 1, slots := 4, locals := 29 } : Room).cells ({ frames := 2, cells := 1, slots := 4, locals := 29 } : Room).slots) := by
  refine MetFree.of_bodySF (plainFor_of_name pn_2) hisR ?_
  intro p e s m args below meth c s₁ Bd hml0 hP hK
  obtain ⟨rfl, hZ, hh⟩ := hP
  have hx := Bd.exec
  have hby := Bd.bytes
  have hml : c.maxLocals = 2 := hml0
  have hown : s.vm.findClass "com/example/watchpost/watchpost/Option" = some m.cls := findClass_of_methodNamed Bd.named
  have hnm := (name_of_methodNamed Bd.named Bd.method).1
  have X0 : Stand p l e ({ frames := 2, cells := 1, slots := 4, locals := 29 } : Room) s m #[(.ref a1x), (.ref a2x)] below meth c s₁ [] 0 0 := Stand.of_body Bd
  have e0 : s₁.heap = h0 := by rw [← hh, Bd.state]; rfl
  have N0 := Fr.nil n0
  have K0 : Keep h0 h0 [] := Keep.refl h0 []
  have pre0 : ∀ t, Steps p.tables e below (s₁.setTop (mkF m 0 #[.val (.ref a1x), .val (.ref a2x)] [])) t → Steps p.tables e below (s₁.setTop (entryFrame m #[(.ref a1x), (.ref a2x)] 2)) t := fun t k => castTop (ef_16 m a1x a2x) k
  obtain ⟨T1, h1, X1, e1, E1, A1, D1, -, st1⟩ := newO X0 hx hZ hown (hw _ (List.mem_of_getElem? (i := 79) rfl)) (hw _ (List.mem_of_getElem? (i := 49) rfl)) (hw _ (List.mem_of_getElem? (i := 50) rfl)) e0 (g := (mkF m 0 #[.val (.ref a1x), .val (.ref a2x)] [])) rfl (hb hby d16_0) (by decide) (by decide)
  obtain ⟨b1, g1⟩ : ∃ z, z = h0.size := ⟨_, rfl⟩
  rw [← g1] at A1 D1 st1
  have g_b1 : n0 ≤ b1 := Nat.le_trans Z0 (Nat.le_of_eq g1.symm)
  have sz_b1 : h0.size ≤ b1 := Nat.le_trans K0.1 (Nat.le_of_eq g1.symm)
  have Z1 : n0 ≤ h1.size := Nat.le_trans Z0 E1.1
  have K1 : Keep h0 h1 [] := K0.ext E1
  have F_name_b1 : Fld Z h1 b1 "com/example/watchpost/watchpost/Option" "name" "Ljava/lang/String;" .null := D1 (Or.inr (hw _ (List.mem_of_getElem? (i := 59) rfl))) (ty := (.object "java/lang/String")) (by decide)
  have F_shortName_b1 : Fld Z h1 b1 "com/example/watchpost/watchpost/Option" "shortName" "Ljava/lang/String;" .null := D1 (Or.inr (hw _ (List.mem_of_getElem? (i := 61) rfl))) (ty := (.object "java/lang/String")) (by decide)
  have F_value_b1 : Fld Z h1 b1 "com/example/watchpost/watchpost/Option" "value" "Ljava/lang/String;" .null := D1 (Or.inr (hw _ (List.mem_of_getElem? (i := 63) rfl))) (ty := (.object "java/lang/String")) (by decide)
  have F_required_b1 : Fld Z h1 b1 "com/example/watchpost/watchpost/Option" "required" "Z" (.int (0 : Int32)) := D1 (Or.inr (hw _ (List.mem_of_getElem? (i := 65) rfl))) (ty := .boolean) (by decide)
  obtain ⟨_, _, ⟨T2, L2, k2, n2⟩, -, X2, ⟨Lc2, hQ2, l2, y2, z2⟩, st2⟩ := X1.specialBack hx (y := (⟨"com/example/watchpost/watchpost/Option", "<init>", "(Ljava/lang/String;Ljava/lang/String;Ljava/lang/String;Z)V"⟩ : MethodName)) rfl hown (mvT hZ (hw _ (List.mem_of_getElem? (i := 54) rfl))) (mvT hZ (hw _ (List.mem_of_getElem? (i := 55) rfl))) (mvT hZ (hw _ (List.mem_of_getElem? (i := 56) rfl))) (by decide) (backOf (W := 1) (rm_opt10 l Z a0 hw [] b1 a1x a2x (0 : Int32) h1 n0 Z1 A1 F_name_b1 F_shortName_b1 F_value_b1 F_required_b1 g_b1) hZ (hw _ (List.mem_of_getElem? (i := 56) rfl)) (hw _ (List.mem_of_getElem? (i := 50) rfl)) (by decide) (by decide)) (g := (mkF m 8 #[.val (.ref a1x), .val (.ref a2x)] [(.int (0 : Int32)), .null, (.ref a2x), (.ref a1x), (.ref b1), (.ref b1)])) rfl (by rw [hml]; rfl) (Steps.refl _) (a := b1) (argsL := [(.ref a1x), (.ref a2x), .null, (.int (0 : Int32))]) (rest := [(.ref b1)]) (lenOf pd_4 rfl) rfl (by show 2 * 0 + _ ≤ _; exact Nat.le_of_eq rfl) (hb hby d16_8) (fun _ _ => ⟨rfl, e1, (by decide : 1 + 0 ≤ _), (by decide : 4 + 0 ≤ _)⟩)
  dsimp only [Pt.U, Pt.locs, Pt.cells, Pt.slots] at X2 l2 y2 z2 st2 hQ2
  subst l2 y2 z2
  obtain ⟨rfl, N2q, x2c0, x2c1, x2c2, x2c3, x2c4⟩ := hQ2
  have N2 := Fr.app N0 N2q
  have A1_2 : Exa Z T2.heap b1 "com/example/watchpost/watchpost/Option" := A1.keep x2c0
  have Z2 : n0 ≤ T2.heap.size := Nat.le_trans Z1 x2c0.1
  have K2 : Keep h0 T2.heap [] := K1.trans x2c0 (allS (P := fun x => x ∈ [] ∨ h0.size ≤ x) (Or.inr sz_b1) all0)
  obtain ⟨fs, hr, hrun, hended, hW, hsame⟩ := X2.leave (v := some (.ref b1)) (fun h => by rw [Bd.returns] at h; cases h)
  refine ⟨_, _, pre0 _ ?_, hrun, hended, _, _, rfl, ?_, ⟨_, rfl⟩, hW, hsame.mono (by decide) (by decide)⟩
  · show Steps p.tables e below (s₁.setTop (mkF m 0 #[.val (.ref a1x), .val (.ref a2x)] [])) _
    refine st1 _ ?_
    show Steps p.tables e below (T1.setTop (mkF m 3 #[.val (.ref a1x), .val (.ref a2x)] [(.ref b1)])) _
    refine XS.dup X1.here hx rfl (hb hby d16_3) rfl rfl ?_
    show Steps p.tables e below (T1.setTop (mkF m 4 #[.val (.ref a1x), .val (.ref a2x)] [(.ref b1), (.ref b1)])) _
    refine XS.aloadN X1.here hx rfl (hb hby d16_4) rfl rfl ?_
    show Steps p.tables e below (T1.setTop (mkF m 5 #[.val (.ref a1x), .val (.ref a2x)] [(.ref a1x), (.ref b1), (.ref b1)])) _
    refine XS.aloadN X1.here hx rfl (hb hby d16_5) rfl rfl ?_
    show Steps p.tables e below (T1.setTop (mkF m 6 #[.val (.ref a1x), .val (.ref a2x)] [(.ref a2x), (.ref a1x), (.ref b1), (.ref b1)])) _
    refine XS.aconstNull X1.here hx rfl (hb hby d16_6) ?_
    show Steps p.tables e below (T1.setTop (mkF m 7 #[.val (.ref a1x), .val (.ref a2x)] [.null, (.ref a2x), (.ref a1x), (.ref b1), (.ref b1)])) _
    refine XS.iconst X1.here hx rfl (hb hby d16_7) ?_
    show Steps p.tables e below (T1.setTop (mkF m 8 #[.val (.ref a1x), .val (.ref a2x)] [(.int (0 : Int32)), .null, (.ref a2x), (.ref a1x), (.ref b1), (.ref b1)])) _
    refine st2.trans ?_
    show Steps p.tables e below (T2.setTop (mkF m 11 #[.val (.ref a1x), .val (.ref a2x)] [(.ref b1)])) _
    exact retOut X2 hx Bd.returns (by rfl) (Or.inr (Or.inr (Or.inr (Or.inr ⟨rfl, rfl, rfl⟩)))) (hb hby d16_11) hr
  · show Q_rm_f2 Z a1x a2x h0 n0 _ T2.heap _
    exact ⟨b1, rfl, N2, K2, g_b1, sz_b1, A1_2, x2c3⟩
theorem d17_0 : decode prog_5_method_5_code 0 = .ok (.new 2, 3) := by decide +kernel
theorem d17_3 : decode prog_5_method_5_code 3 = .ok (.dup, 1) := by decide +kernel
theorem d17_4 : decode prog_5_method_5_code 4 = .ok (.aload_n 0, 1) := by decide +kernel
theorem d17_5 : decode prog_5_method_5_code 5 = .ok (.aconst_null, 1) := by decide +kernel
theorem d17_6 : decode prog_5_method_5_code 6 = .ok (.aload_n 1, 1) := by decide +kernel
theorem d17_7 : decode prog_5_method_5_code 7 = .ok (.iconst 1, 1) := by decide +kernel
theorem d17_8 : decode prog_5_method_5_code 8 = .ok (.invokespecial 1, 3) := by decide +kernel
theorem d17_11 : decode prog_5_method_5_code 11 = .ok (.areturn, 1) := by decide +kernel
theorem ef_17 (m : MethodId) (x0 : Addr) (x1 : Addr) : entryFrame m #[(.ref x0), (.ref x1)] 2 = mkF m 0 #[.val (.ref x0), .val (.ref x1)] [] := by first | (simp [entryFrame, mkF, argsToLocals, Value.category]; done) | rfl
def Q_rm_rq (Z : State) (a1x : Addr) (a2x : Addr) (h0 : Heap) (n0 : Nat) (v : Option Value) (h : Heap) (L : List Loc) : Prop := ∃ bq : Addr, v = some (.ref bq) ∧ Fr n0 L ∧ Keep h0 h [] ∧ n0 ≤ bq ∧ h0.size ≤ bq ∧ Exa Z h bq "com/example/watchpost/watchpost/Option" ∧ Fld Z h bq "com/example/watchpost/watchpost/Option" "value" "Ljava/lang/String;" (.ref a2x)
set_option maxRecDepth 65536 in
set_option maxHeartbeats 40000000 in
theorem rm_rq (l : Launch) (Z : State) (a0 : Array Value) (hw : ∀ d ∈ tables_1, d.before a0 Z = true) (ws : List Jvm.Cond) (a1x : Addr) (a2x : Addr) (h0 : Heap) (n0 : Nat) (Z0 : n0 ≤ h0.size)  :
    MetFree l (⟨"com/example/watchpost/watchpost/Option", "required", "(Ljava/lang/String;Ljava/lang/String;)Lcom/example/watchpost/watchpost/Option;"⟩ : MethodName) (head1 (Jvm.Cond.code (⟨"com/example/watchpost/watchpost/Option", "required", "(Ljava/lang/String;Ljava/lang/String;)Lcom/example/watchpost/watchpost/Option;"⟩ : MethodName) prog_5_method_5_code 2 (some (.object "com/example/watchpost/watchpost/Option")) :: ws) ({ frames := 2, cells := 1, slots := 4, locals := 29 } : Room)) (fun a U => a = #[(.ref a1x), (.ref a2x)] ∧ Z.Warmed39 U.vm ∧ U.heap = h0) (fun _ _ _ _ _ => True) (fun _ U o U' => ∃ v L, o = .returned v ∧ Q_rm_rq Z a1x a2x h0 n0 v U'.heap L ∧ FrameEnd U o U' L ({ frames := 2, cells := 1, slots := 4, locals := 29 } : Room).cells ({ frames := 2, cells := 1, slots := 4, locals := 29 } : Room).slots) := by
  refine MetFree.of_bodySF (plainFor_of_name pn_2) hisR ?_
  intro p e s m args below meth c s₁ Bd hml0 hP hK
  obtain ⟨rfl, hZ, hh⟩ := hP
  have hx := Bd.exec
  have hby := Bd.bytes
  have hml : c.maxLocals = 2 := hml0
  have hown : s.vm.findClass "com/example/watchpost/watchpost/Option" = some m.cls := findClass_of_methodNamed Bd.named
  have hnm := (name_of_methodNamed Bd.named Bd.method).1
  have X0 : Stand p l e ({ frames := 2, cells := 1, slots := 4, locals := 29 } : Room) s m #[(.ref a1x), (.ref a2x)] below meth c s₁ [] 0 0 := Stand.of_body Bd
  have e0 : s₁.heap = h0 := by rw [← hh, Bd.state]; rfl
  have N0 := Fr.nil n0
  have K0 : Keep h0 h0 [] := Keep.refl h0 []
  have pre0 : ∀ t, Steps p.tables e below (s₁.setTop (mkF m 0 #[.val (.ref a1x), .val (.ref a2x)] [])) t → Steps p.tables e below (s₁.setTop (entryFrame m #[(.ref a1x), (.ref a2x)] 2)) t := fun t k => castTop (ef_17 m a1x a2x) k
  obtain ⟨T1, h1, X1, e1, E1, A1, D1, -, st1⟩ := newO X0 hx hZ hown (hw _ (List.mem_of_getElem? (i := 79) rfl)) (hw _ (List.mem_of_getElem? (i := 49) rfl)) (hw _ (List.mem_of_getElem? (i := 50) rfl)) e0 (g := (mkF m 0 #[.val (.ref a1x), .val (.ref a2x)] [])) rfl (hb hby d17_0) (by decide) (by decide)
  obtain ⟨b1, g1⟩ : ∃ z, z = h0.size := ⟨_, rfl⟩
  rw [← g1] at A1 D1 st1
  have g_b1 : n0 ≤ b1 := Nat.le_trans Z0 (Nat.le_of_eq g1.symm)
  have sz_b1 : h0.size ≤ b1 := Nat.le_trans K0.1 (Nat.le_of_eq g1.symm)
  have Z1 : n0 ≤ h1.size := Nat.le_trans Z0 E1.1
  have K1 : Keep h0 h1 [] := K0.ext E1
  have F_name_b1 : Fld Z h1 b1 "com/example/watchpost/watchpost/Option" "name" "Ljava/lang/String;" .null := D1 (Or.inr (hw _ (List.mem_of_getElem? (i := 59) rfl))) (ty := (.object "java/lang/String")) (by decide)
  have F_shortName_b1 : Fld Z h1 b1 "com/example/watchpost/watchpost/Option" "shortName" "Ljava/lang/String;" .null := D1 (Or.inr (hw _ (List.mem_of_getElem? (i := 61) rfl))) (ty := (.object "java/lang/String")) (by decide)
  have F_value_b1 : Fld Z h1 b1 "com/example/watchpost/watchpost/Option" "value" "Ljava/lang/String;" .null := D1 (Or.inr (hw _ (List.mem_of_getElem? (i := 63) rfl))) (ty := (.object "java/lang/String")) (by decide)
  have F_required_b1 : Fld Z h1 b1 "com/example/watchpost/watchpost/Option" "required" "Z" (.int (0 : Int32)) := D1 (Or.inr (hw _ (List.mem_of_getElem? (i := 65) rfl))) (ty := .boolean) (by decide)
  obtain ⟨_, _, ⟨T2, L2, k2, n2⟩, -, X2, ⟨Lc2, hQ2, l2, y2, z2⟩, st2⟩ := X1.specialBack hx (y := (⟨"com/example/watchpost/watchpost/Option", "<init>", "(Ljava/lang/String;Ljava/lang/String;Ljava/lang/String;Z)V"⟩ : MethodName)) rfl hown (mvT hZ (hw _ (List.mem_of_getElem? (i := 54) rfl))) (mvT hZ (hw _ (List.mem_of_getElem? (i := 55) rfl))) (mvT hZ (hw _ (List.mem_of_getElem? (i := 56) rfl))) (by decide) (backOf (W := 1) (rm_opt01 l Z a0 hw [] b1 a1x a2x (1 : Int32) h1 n0 Z1 A1 F_name_b1 F_shortName_b1 F_value_b1 F_required_b1 g_b1) hZ (hw _ (List.mem_of_getElem? (i := 56) rfl)) (hw _ (List.mem_of_getElem? (i := 50) rfl)) (by decide) (by decide)) (g := (mkF m 8 #[.val (.ref a1x), .val (.ref a2x)] [(.int (1 : Int32)), (.ref a2x), .null, (.ref a1x), (.ref b1), (.ref b1)])) rfl (by rw [hml]; rfl) (Steps.refl _) (a := b1) (argsL := [(.ref a1x), .null, (.ref a2x), (.int (1 : Int32))]) (rest := [(.ref b1)]) (lenOf pd_4 rfl) rfl (by show 2 * 0 + _ ≤ _; exact Nat.le_of_eq rfl) (hb hby d17_8) (fun _ _ => ⟨rfl, e1, (by decide : 1 + 0 ≤ _), (by decide : 4 + 0 ≤ _)⟩)
  dsimp only [Pt.U, Pt.locs, Pt.cells, Pt.slots] at X2 l2 y2 z2 st2 hQ2
  subst l2 y2 z2
  obtain ⟨rfl, N2q, x2c0, x2c1, x2c2, x2c3, x2c4⟩ := hQ2
  have N2 := Fr.app N0 N2q
  have A1_2 : Exa Z T2.heap b1 "com/example/watchpost/watchpost/Option" := A1.keep x2c0
  have Z2 : n0 ≤ T2.heap.size := Nat.le_trans Z1 x2c0.1
  have K2 : Keep h0 T2.heap [] := K1.trans x2c0 (allS (P := fun x => x ∈ [] ∨ h0.size ≤ x) (Or.inr sz_b1) all0)
  obtain ⟨fs, hr, hrun, hended, hW, hsame⟩ := X2.leave (v := some (.ref b1)) (fun h => by rw [Bd.returns] at h; cases h)
  refine ⟨_, _, pre0 _ ?_, hrun, hended, _, _, rfl, ?_, ⟨_, rfl⟩, hW, hsame.mono (by decide) (by decide)⟩
  · show Steps p.tables e below (s₁.setTop (mkF m 0 #[.val (.ref a1x), .val (.ref a2x)] [])) _
    refine st1 _ ?_
    show Steps p.tables e below (T1.setTop (mkF m 3 #[.val (.ref a1x), .val (.ref a2x)] [(.ref b1)])) _
    refine XS.dup X1.here hx rfl (hb hby d17_3) rfl rfl ?_
    show Steps p.tables e below (T1.setTop (mkF m 4 #[.val (.ref a1x), .val (.ref a2x)] [(.ref b1), (.ref b1)])) _
    refine XS.aloadN X1.here hx rfl (hb hby d17_4) rfl rfl ?_
    show Steps p.tables e below (T1.setTop (mkF m 5 #[.val (.ref a1x), .val (.ref a2x)] [(.ref a1x), (.ref b1), (.ref b1)])) _
    refine XS.aconstNull X1.here hx rfl (hb hby d17_5) ?_
    show Steps p.tables e below (T1.setTop (mkF m 6 #[.val (.ref a1x), .val (.ref a2x)] [.null, (.ref a1x), (.ref b1), (.ref b1)])) _
    refine XS.aloadN X1.here hx rfl (hb hby d17_6) rfl rfl ?_
    show Steps p.tables e below (T1.setTop (mkF m 7 #[.val (.ref a1x), .val (.ref a2x)] [(.ref a2x), .null, (.ref a1x), (.ref b1), (.ref b1)])) _
    refine XS.iconst X1.here hx rfl (hb hby d17_7) ?_
    show Steps p.tables e below (T1.setTop (mkF m 8 #[.val (.ref a1x), .val (.ref a2x)] [(.int (1 : Int32)), (.ref a2x), .null, (.ref a1x), (.ref b1), (.ref b1)])) _
    refine st2.trans ?_
    show Steps p.tables e below (T2.setTop (mkF m 11 #[.val (.ref a1x), .val (.ref a2x)] [(.ref b1)])) _
    exact retOut X2 hx Bd.returns (by rfl) (Or.inr (Or.inr (Or.inr (Or.inr ⟨rfl, rfl, rfl⟩)))) (hb hby d17_11) hr
  · show Q_rm_rq Z a1x a2x h0 n0 _ T2.heap _
    exact ⟨b1, rfl, N2, K2, g_b1, sz_b1, A1_2, x2c3⟩
theorem pd_6 : parseMethodDescriptor "([C)V" = some ⟨[(.array .char)], none⟩ := by decide +kernel
theorem pd_7 : parseMethodDescriptor "(C)Ljava/lang/String;" = some ⟨[.char], some (.object "java/lang/String")⟩ := by decide +kernel
theorem pd_8 : parseMethodDescriptor "()Z" = some ⟨[], some .boolean⟩ := by decide +kernel
theorem pd_9 : parseMethodDescriptor "()Ljava/lang/String;" = some ⟨[], some (.object "java/lang/String")⟩ := by decide +kernel
theorem pd_10 : parseMethodDescriptor "(Ljava/lang/String;)Lcom/example/watchpost/watchpost/Option;" = some ⟨[(.object "java/lang/String")], some (.object "com/example/watchpost/watchpost/Option")⟩ := by decide +kernel
theorem pd_11 : parseMethodDescriptor "(Ljava/lang/String;Ljava/lang/String;)Lcom/example/watchpost/watchpost/Option;" = some ⟨[(.object "java/lang/String"), (.object "java/lang/String")], some (.object "com/example/watchpost/watchpost/Option")⟩ := by decide +kernel
theorem pn_3 : plainName "com/example/watchpost/watchpost/OptionIsFlagPinLaw" = true := by first | (simp [plainName, overriddenIn]; done) | decide +kernel
theorem ef_0 (m : MethodId) (x0 : Int32) (x1 : Int32) (x2 : Int32) (x3 : Int32) : entryFrame m #[(.int x0), (.int x1), (.int x2), (.int x3)] maxLocals = mkF m 0 #[.val (.int x0), .val (.int x1), .val (.int x2), .val (.int x3), .unset, .unset, .unset, .unset, .unset, .unset, .unset, .unset, .unset, .unset, .unset] [] := by first | (simp [entryFrame, mkF, argsToLocals, Value.category, maxLocals]; done) | rfl
def Q_rm_law (Z : State) (p0 : Int32) (p1 : Int32) (p2 : Int32) (p3 : Int32) (zc : Int32) (h0 : Heap) (n0 : Nat) (v : Option Value) (h : Heap) (L : List Loc) : Prop := v = some (.int (1 : Int32)) ∧ Fr n0 L ∧ True
set_option maxRecDepth 65536 in
set_option maxHeartbeats 40000000 in
theorem rm_law (l : Launch) (Z : State) (a0 : Array Value) (hw : ∀ d ∈ tables_1, d.before a0 Z = true) (ws : List Jvm.Cond) (p0 : Int32) (p1 : Int32) (p2 : Int32) (p3 : Int32) (zc : Int32) (h0 : Heap) (n0 : Nat) (Z0 : n0 ≤ h0.size) (X00 : Old Z n0 h0) (S_CS : Sta Z Z.heap "java/lang/String" "COMPACT_STRINGS" "Z" (.int zc)) (P5 : ¬ (zc = (0 : Int32))) (Hc7 : Jvm.Lit.constHeld Z "java/lang/String" 7) (hcw : Jvm.Lit.compactW.before a0 Z = true) :
    MetFree l x (head1 (Jvm.Cond.code x code maxLocals ret :: ws) room_1) (fun a U => a = #[(.int p0), (.int p1), (.int p2), (.int p3)] ∧ Z.Warmed39 U.vm ∧ U.heap = h0 ∧ IB Z U.vm []) (fun _ _ _ _ _ => True) (fun _ U o U' => ∃ v L, o = .returned v ∧ Q_rm_law Z p0 p1 p2 p3 zc h0 n0 v U'.heap L ∧ ReturnedEndW U o U' L room_1.cells room_1.slots) := by
  refine MetFree.of_bodySF (plainFor_of_name pn_3) hisR ?_
  intro p e s m args below meth c s₁ Bd hml0 hP hK
  obtain ⟨rfl, hZ, hh, hI0⟩ := hP
  have hx := Bd.exec
  have hby := Bd.bytes
  have hml : c.maxLocals = 15 := hml0
  have hown : s.vm.findClass "com/example/watchpost/watchpost/OptionIsFlagPinLaw" = some m.cls := findClass_of_methodNamed Bd.named
  have hnm := (name_of_methodNamed Bd.named Bd.method).1
  have X0 : Stand p l e room_1 (s.setVm s.vm) m #[(.int p0), (.int p1), (.int p2), (.int p3)] below meth c s₁ [] 0 0 := Stand.of_body Bd
  have e0 : s₁.heap = h0 := by rw [← hh, Bd.state]; rfl
  have N0 := Fr.nil n0
  have hS0 : s.Since s.vm s.heap.size := (State.WarmedH.refl s).since _
  have hk0 : s.heap.size ≤ h0.size := Nat.le_of_eq (congrArg Array.size hh)
  have wS : ∀ a ∈ Bundle.stringAtoms, a.before a0 Z = true := by
    intro a ha
    simp only [Bundle.stringAtoms, List.mem_cons, List.not_mem_nil, or_false] at ha
    rcases ha with rfl | rfl | rfl | rfl | rfl | rfl | rfl <;> first | exact hw _ (List.mem_of_getElem? (i := 3) rfl) | exact hw _ (List.mem_of_getElem? (i := 2) rfl) | exact hw _ (List.mem_of_getElem? (i := 19) rfl) | exact hw _ (List.mem_of_getElem? (i := 29) rfl) | exact hw _ (List.mem_of_getElem? (i := 27) rfl) | exact hw _ (List.mem_of_getElem? (i := 32) rfl) | exact hw _ (List.mem_of_getElem? (i := 33) rfl)
  have pre0 : ∀ t, Steps p.tables e below (s₁.setTop (mkF m 0 #[.val (.int p0), .val (.int p1), .val (.int p2), .val (.int p3), .unset, .unset, .unset, .unset, .unset, .unset, .unset, .unset, .unset, .unset, .unset] [])) t → Steps p.tables e below (s₁.setTop (entryFrame m #[(.int p0), (.int p1), (.int p2), (.int p3)] maxLocals)) t := fun t k => castTop (ef_0 m p0 p1 p2 p3) k
  have Sh_CS : Sta Z h0 "java/lang/String" "COMPACT_STRINGS" "Z" (.int zc) := S_CS.ext X00.2
  have hws : ∀ d ∈ StrChars.Road.words, d.before a0 Z = true := fun d hd => hw d ((by decide +kernel : ∀ d ∈ StrChars.Road.words, d ∈ tables_1) d hd)
  obtain ⟨T1, h1, k1, X1, e1, E1, A1, st1⟩ := newP X0 hx hZ (hw _ (List.mem_of_getElem? (i := 0) rfl)) e0 (g := (mkF m 1 #[.val (.int p0), .val (.int p1), .val (.int p2), .val (.int p3), .unset, .unset, .unset, .unset, .unset, .unset, .unset, .unset, .unset, .unset, .unset] [(.int (2 : Int32))])) rfl (hb hby at_1) rfl (by decide) (cap := 2) (by decide) (by decide) (by decide) (by decide)
  obtain ⟨b1, g1⟩ : ∃ z, z = h0.size := ⟨_, rfl⟩
  rw [← g1] at A1 st1
  have g_b1 : n0 ≤ b1 := Nat.le_trans Z0 (Nat.le_of_eq g1.symm)
  have X00_1 : Old Z n0 h1 := Old.ext X00 E1
  have Sh_CS_1 : Sta Z h1 "java/lang/String" "COMPACT_STRINGS" "Z" (.int zc) := Sh_CS.ext E1
  have hk1' : _ ≤ h1.size := Nat.le_trans hk0 E1.1
  have Z1 : n0 ≤ h1.size := Nat.le_trans Z0 E1.1
  have V_b1 : Arv Z h1 b1 k1 .char (2 : Int32) [(.int (0 : Int32)), (.int (0 : Int32))] (.int (0 : Int32)) := (Arv.new A1 (by decide)).pad (pad_rep [] (.int (0 : Int32)) 2)
  obtain ⟨cl2, Ar2, qk2, S2, N2', H2, G2⟩ := (id V_b1)
  have hin2 : ¬ ((0 : Int32) < 0 ∨ cl2.slots.size ≤ ((0 : Int32)).toNatClampNeg) := inb_of S2 ⟨by decide, by decide⟩
  obtain ⟨T3, h3, X3, e3, W3, st3⟩ := stC X1 hx hZ e1 Ar2 (j := (0 : Int32)) hin2 (g := (mkF m 11 #[.val (.int p0), .val (.int p1), .val (.int p2), .val (.int p3), .unset, .unset, .unset, .unset, .unset, .unset, .unset, .unset, .unset, .unset, .unset] [(.int (p0 &&& (255 : Int32)).toUInt32.toUInt16.toUInt32.toInt32), (.int (0 : Int32)), (.ref b1), (.ref b1)])) rfl rfl (hb hby at_11)
  have V3 : Arv Z h3 b1 k1 .char (2 : Int32) [(.int (nar .char (p0 &&& (255 : Int32)).toUInt32.toUInt16.toUInt32.toInt32)), (.int (0 : Int32))] (.int (0 : Int32)) := Arv.set Ar2 qk2 S2 N2' H2 G2 (fits_nar_char _) W3 0 rfl (Nat.le_of_ble_eq_true rfl)
  have N3 := Fr.snoc X3 N0 g_b1
  have X00_3 : Old Z n0 h3 := X00_1.wr W3 g_b1
  have Sh_CS_3 : Sta Z h3 "java/lang/String" "COMPACT_STRINGS" "Z" (.int zc) := Sh_CS_1.wr W3
  have hk3' : _ ≤ h3.size := Nat.le_trans hk1' (Keep.of_wr W3).1
  have Z3 : n0 ≤ h3.size := Nat.le_trans Z1 (Keep.of_wr W3).1
  obtain ⟨cl4, Ar4, qk4, S4, N4', H4, G4⟩ := (id V3)
  have hin4 : ¬ ((1 : Int32) < 0 ∨ cl4.slots.size ≤ ((1 : Int32)).toNatClampNeg) := inb_of S4 ⟨by decide, by decide⟩
  obtain ⟨T5, h5, X5, e5, W5, st5⟩ := stC X3 hx hZ e3 Ar4 (j := (1 : Int32)) hin4 (g := (mkF m 20 #[.val (.int p0), .val (.int p1), .val (.int p2), .val (.int p3), .unset, .unset, .unset, .unset, .unset, .unset, .unset, .unset, .unset, .unset, .unset] [(.int (p1 &&& (255 : Int32)).toUInt32.toUInt16.toUInt32.toInt32), (.int (1 : Int32)), (.ref b1), (.ref b1)])) rfl rfl (hb hby at_20)
  have V5 : Arv Z h5 b1 k1 .char (2 : Int32) [(.int (nar .char (p0 &&& (255 : Int32)).toUInt32.toUInt16.toUInt32.toInt32)), (.int (nar .char (p1 &&& (255 : Int32)).toUInt32.toUInt16.toUInt32.toInt32))] (.int (0 : Int32)) := Arv.set Ar4 qk4 S4 N4' H4 G4 (fits_nar_char _) W5 1 rfl (Nat.le_of_ble_eq_true rfl)
  have N5 := Fr.snoc X5 N3 g_b1
  have X00_5 : Old Z n0 h5 := X00_3.wr W5 g_b1
  have Sh_CS_5 : Sta Z h5 "java/lang/String" "COMPACT_STRINGS" "Z" (.int zc) := Sh_CS_3.wr W5
  have hk5' : _ ≤ h5.size := Nat.le_trans hk3' (Keep.of_wr W5).1
  have Z5 : n0 ≤ h5.size := Nat.le_trans Z3 (Keep.of_wr W5).1
  obtain ⟨T6, h6, X6, e6, E6, A6, D6, -, st6⟩ := newO X5 hx hZ hown (hw _ (List.mem_of_getElem? (i := 1) rfl)) (hw _ (List.mem_of_getElem? (i := 2) rfl)) (hw _ (List.mem_of_getElem? (i := 3) rfl)) e5 (g := (mkF m 23 #[.val (.int p0), .val (.int p1), .val (.int p2), .val (.int p3), .val (.ref b1), .unset, .unset, .unset, .unset, .unset, .unset, .unset, .unset, .unset, .unset] [])) rfl (hb hby at_23) (by decide) (by decide)
  obtain ⟨b6, g6⟩ : ∃ z, z = h5.size := ⟨_, rfl⟩
  rw [← g6] at A6 D6 st6
  have ne_b1_b6 : b1 ≠ b6 := Nat.ne_of_lt (Nat.lt_of_lt_of_le V5.lt (Nat.le_of_eq g6.symm))
  have g_b6 : n0 ≤ b6 := Nat.le_trans Z5 (Nat.le_of_eq g6.symm)
  have X00_6 : Old Z n0 h6 := Old.ext X00_5 E6
  have Sh_CS_6 : Sta Z h6 "java/lang/String" "COMPACT_STRINGS" "Z" (.int zc) := Sh_CS_5.ext E6
  have V5_6 : Arv Z h6 b1 k1 .char (2 : Int32) [(.int (nar .char (p0 &&& (255 : Int32)).toUInt32.toUInt16.toUInt32.toInt32)), (.int (nar .char (p1 &&& (255 : Int32)).toUInt32.toUInt16.toUInt32.toInt32))] (.int (0 : Int32)) := V5.ext E6
  have hk6' : _ ≤ h6.size := Nat.le_trans hk5' E6.1
  have Z6 : n0 ≤ h6.size := Nat.le_trans Z5 E6.1
  have F_coder_b6 : Fld Z h6 b6 "java/lang/String" "coder" "B" (.int (0 : Int32)) := D6 (Or.inr (hw _ (List.mem_of_getElem? (i := 27) rfl))) (ty := .byte) (by decide)
  have F_value_b6 : Fld Z h6 b6 "java/lang/String" "value" "[B" .null := D6 (Or.inr (hw _ (List.mem_of_getElem? (i := 29) rfl))) (ty := (.array .byte)) (by decide)
  obtain ⟨_, _, ⟨T7, L7, k7, n7⟩, -, X7, ⟨Lc7, hQ7, l7, y7, z7⟩, st7⟩ := X6.specialBack hx (y := (⟨"java/lang/String", "<init>", "([C)V"⟩ : MethodName)) rfl hown (mvT hZ (hw _ (List.mem_of_getElem? (i := 4) rfl))) (mvT hZ (hw _ (List.mem_of_getElem? (i := 5) rfl))) (mvT hZ (hw _ (List.mem_of_getElem? (i := 6) rfl))) (by decide) (StrChars.Road.backV (W := 1) hZ hws (kI := 4) (hw _ (List.mem_of_getElem? (i := 2) rfl)) (cs := ([(nar .char (p0 &&& (255 : Int32)).toUInt32.toUInt16.toUInt32.toInt32), (nar .char (p1 &&& (255 : Int32)).toUInt32.toUInt16.toUInt32.toInt32)] : List Int32)) (bs := (([(nar .char (p0 &&& (255 : Int32)).toUInt32.toUInt16.toUInt32.toInt32), (nar .char (p1 &&& (255 : Int32)).toUInt32.toUInt16.toUInt32.toInt32)] : List Int32)).map (fun c => c.toInt8.toInt32)) (n := 2) g_b6 Z6 A6 F_value_b6 F_coder_b6 V5_6 Sh_CS_6 P5 rfl rfl (by decide) (by decide) (List.forall_mem_cons.mpr ⟨own_ch _, List.forall_mem_cons.mpr ⟨own_ch _, fun _ q => nomatch q⟩⟩) rfl (by decide) (by decide)) (g := (mkF m 29 #[.val (.int p0), .val (.int p1), .val (.int p2), .val (.int p3), .val (.ref b1), .unset, .unset, .unset, .unset, .unset, .unset, .unset, .unset, .unset, .unset] [(.ref b1), (.ref b6), (.ref b6)])) rfl (by rw [hml]; rfl) (Steps.refl _) (a := b6) (argsL := [(.ref b1)]) (rest := [(.ref b6)]) (lenOf pd_6 rfl) rfl (by show 2 * 0 + _ ≤ _; exact Nat.le_of_eq rfl) (hb hby at_29) (fun _ _ => ⟨rfl, e6, (by decide : 2 + 1 ≤ _), (by decide : 6 + 2 ≤ _)⟩)
  dsimp only [Pt.U, Pt.locs, Pt.cells, Pt.slots] at X7 l7 y7 z7 st7 hQ7
  subst l7 y7 z7
  obtain ⟨rfl, N7q, x7c0, x7c1, x7c2, x7c3, x7c4, x7c5, x7c6, x7c7, x7c8, x7c9⟩ := hQ7
  have N7 := Fr.app N5 N7q
  have X00_7 : Old Z n0 T7.heap := X00_6.keep x7c0 (allS g_b6 all0)
  have V5_7 : Arv Z T7.heap b1 k1 .char (2 : Int32) [(.int (nar .char (p0 &&& (255 : Int32)).toUInt32.toUInt16.toUInt32.toInt32)), (.int (nar .char (p1 &&& (255 : Int32)).toUInt32.toUInt16.toUInt32.toInt32))] (.int (0 : Int32)) := V5_6.keep x7c0 (ninS ne_b1_b6 nin0)
  have A6_7 : Exa Z T7.heap b6 "java/lang/String" := A6.keep x7c0
  have Sh_CS_7 : Sta Z T7.heap "java/lang/String" "COMPACT_STRINGS" "Z" (.int zc) := S_CS.ext X00_7.2
  have hk7' : _ ≤ T7.heap.size := Nat.le_trans hk6' x7c0.1
  have Z7 : n0 ≤ T7.heap.size := Nat.le_trans Z6 x7c0.1
  obtain ⟨T8, h8, k8, X8, e8, E8, A8, st8⟩ := newP X7 hx hZ (hw _ (List.mem_of_getElem? (i := 0) rfl)) rfl (g := (mkF m 35 #[.val (.int p0), .val (.int p1), .val (.int p2), .val (.int p3), .val (.ref b1), .val (.ref b6), .unset, .unset, .unset, .unset, .unset, .unset, .unset, .unset, .unset] [(.int (2 : Int32))])) rfl (hb hby at_35) rfl (by decide) (cap := 2) (by decide) (by decide) (by decide) (by decide)
  obtain ⟨b8, g8⟩ : ∃ z, z = T7.heap.size := ⟨_, rfl⟩
  rw [← g8] at A8 st8
  have ne_b1_b8 : b1 ≠ b8 := Nat.ne_of_lt (Nat.lt_of_lt_of_le V5_7.lt (Nat.le_of_eq g8.symm))
  have ne_b6_b8 : b6 ≠ b8 := Nat.ne_of_lt (Nat.lt_of_lt_of_le A6_7.lt (Nat.le_of_eq g8.symm))
  have g_b8 : n0 ≤ b8 := Nat.le_trans Z7 (Nat.le_of_eq g8.symm)
  have X00_8 : Old Z n0 h8 := Old.ext X00_7 E8
  have V5_8 : Arv Z h8 b1 k1 .char (2 : Int32) [(.int (nar .char (p0 &&& (255 : Int32)).toUInt32.toUInt16.toUInt32.toInt32)), (.int (nar .char (p1 &&& (255 : Int32)).toUInt32.toUInt16.toUInt32.toInt32))] (.int (0 : Int32)) := V5_7.ext E8
  have A6_8 : Exa Z h8 b6 "java/lang/String" := A6_7.ext E8
  have Sh_CS_8 : Sta Z h8 "java/lang/String" "COMPACT_STRINGS" "Z" (.int zc) := Sh_CS_7.ext E8
  have hk8' : _ ≤ h8.size := Nat.le_trans hk7' E8.1
  have Z8 : n0 ≤ h8.size := Nat.le_trans Z7 E8.1
  have V_b8 : Arv Z h8 b8 k8 .char (2 : Int32) [(.int (0 : Int32)), (.int (0 : Int32))] (.int (0 : Int32)) := (Arv.new A8 (by decide)).pad (pad_rep [] (.int (0 : Int32)) 2)
  obtain ⟨cl9, Ar9, qk9, S9, N9', H9, G9⟩ := (id V_b8)
  have hin9 : ¬ ((0 : Int32) < 0 ∨ cl9.slots.size ≤ ((0 : Int32)).toNatClampNeg) := inb_of S9 ⟨by decide, by decide⟩
  obtain ⟨T10, h10, X10, e10, W10, st10⟩ := stC X8 hx hZ e8 Ar9 (j := (0 : Int32)) hin9 (g := (mkF m 45 #[.val (.int p0), .val (.int p1), .val (.int p2), .val (.int p3), .val (.ref b1), .val (.ref b6), .unset, .unset, .unset, .unset, .unset, .unset, .unset, .unset, .unset] [(.int (p2 &&& (255 : Int32)).toUInt32.toUInt16.toUInt32.toInt32), (.int (0 : Int32)), (.ref b8), (.ref b8)])) rfl rfl (hb hby at_45)
  have V10 : Arv Z h10 b8 k8 .char (2 : Int32) [(.int (nar .char (p2 &&& (255 : Int32)).toUInt32.toUInt16.toUInt32.toInt32)), (.int (0 : Int32))] (.int (0 : Int32)) := Arv.set Ar9 qk9 S9 N9' H9 G9 (fits_nar_char _) W10 0 rfl (Nat.le_of_ble_eq_true rfl)
  have N10 := Fr.snoc X10 N7 g_b8
  have X00_10 : Old Z n0 h10 := X00_8.wr W10 g_b8
  have V5_10 : Arv Z h10 b1 k1 .char (2 : Int32) [(.int (nar .char (p0 &&& (255 : Int32)).toUInt32.toUInt16.toUInt32.toInt32)), (.int (nar .char (p1 &&& (255 : Int32)).toUInt32.toUInt16.toUInt32.toInt32))] (.int (0 : Int32)) := V5_8.other W10 ne_b1_b8
  have A6_10 : Exa Z h10 b6 "java/lang/String" := A6_8.wr W10
  have Sh_CS_10 : Sta Z h10 "java/lang/String" "COMPACT_STRINGS" "Z" (.int zc) := Sh_CS_8.wr W10
  have hk10' : _ ≤ h10.size := Nat.le_trans hk8' (Keep.of_wr W10).1
  have Z10 : n0 ≤ h10.size := Nat.le_trans Z8 (Keep.of_wr W10).1
  obtain ⟨cl11, Ar11, qk11, S11, N11', H11, G11⟩ := (id V10)
  have hin11 : ¬ ((1 : Int32) < 0 ∨ cl11.slots.size ≤ ((1 : Int32)).toNatClampNeg) := inb_of S11 ⟨by decide, by decide⟩
  obtain ⟨T12, h12, X12, e12, W12, st12⟩ := stC X10 hx hZ e10 Ar11 (j := (1 : Int32)) hin11 (g := (mkF m 57 #[.val (.int p0), .val (.int p1), .val (.int p2), .val (.int p3), .val (.ref b1), .val (.ref b6), .unset, .unset, .unset, .unset, .unset, .unset, .unset, .unset, .unset] [(.int (((p2.toUInt32 >>> ((8 : Int32) &&& 31).toUInt32).toInt32) &&& (255 : Int32)).toUInt32.toUInt16.toUInt32.toInt32), (.int (1 : Int32)), (.ref b8), (.ref b8)])) rfl rfl (hb hby at_57)
  have V12 : Arv Z h12 b8 k8 .char (2 : Int32) [(.int (nar .char (p2 &&& (255 : Int32)).toUInt32.toUInt16.toUInt32.toInt32)), (.int (nar .char (((p2.toUInt32 >>> ((8 : Int32) &&& 31).toUInt32).toInt32) &&& (255 : Int32)).toUInt32.toUInt16.toUInt32.toInt32))] (.int (0 : Int32)) := Arv.set Ar11 qk11 S11 N11' H11 G11 (fits_nar_char _) W12 1 rfl (Nat.le_of_ble_eq_true rfl)
  have N12 := Fr.snoc X12 N10 g_b8
  have X00_12 : Old Z n0 h12 := X00_10.wr W12 g_b8
  have V5_12 : Arv Z h12 b1 k1 .char (2 : Int32) [(.int (nar .char (p0 &&& (255 : Int32)).toUInt32.toUInt16.toUInt32.toInt32)), (.int (nar .char (p1 &&& (255 : Int32)).toUInt32.toUInt16.toUInt32.toInt32))] (.int (0 : Int32)) := V5_10.other W12 ne_b1_b8
  have A6_12 : Exa Z h12 b6 "java/lang/String" := A6_10.wr W12
  have Sh_CS_12 : Sta Z h12 "java/lang/String" "COMPACT_STRINGS" "Z" (.int zc) := Sh_CS_10.wr W12
  have hk12' : _ ≤ h12.size := Nat.le_trans hk10' (Keep.of_wr W12).1
  have Z12 : n0 ≤ h12.size := Nat.le_trans Z10 (Keep.of_wr W12).1
  obtain ⟨T13, h13, k13, X13, e13, E13, A13, st13⟩ := newP X12 hx hZ (hw _ (List.mem_of_getElem? (i := 0) rfl)) e12 (g := (mkF m 61 #[.val (.int p0), .val (.int p1), .val (.int p2), .val (.int p3), .val (.ref b1), .val (.ref b6), .val (.ref b8), .unset, .unset, .unset, .unset, .unset, .unset, .unset, .unset] [(.int (0 : Int32))])) rfl (hb hby at_61) rfl (by decide) (cap := 0) (by decide) (by decide) (by decide) (by decide)
  obtain ⟨b13, g13⟩ : ∃ z, z = h12.size := ⟨_, rfl⟩
  rw [← g13] at A13 st13
  have ne_b1_b13 : b1 ≠ b13 := Nat.ne_of_lt (Nat.lt_of_lt_of_le V5_12.lt (Nat.le_of_eq g13.symm))
  have ne_b6_b13 : b6 ≠ b13 := Nat.ne_of_lt (Nat.lt_of_lt_of_le A6_12.lt (Nat.le_of_eq g13.symm))
  have ne_b8_b13 : b8 ≠ b13 := Nat.ne_of_lt (Nat.lt_of_lt_of_le V12.lt (Nat.le_of_eq g13.symm))
  have g_b13 : n0 ≤ b13 := Nat.le_trans Z12 (Nat.le_of_eq g13.symm)
  have X00_13 : Old Z n0 h13 := Old.ext X00_12 E13
  have V5_13 : Arv Z h13 b1 k1 .char (2 : Int32) [(.int (nar .char (p0 &&& (255 : Int32)).toUInt32.toUInt16.toUInt32.toInt32)), (.int (nar .char (p1 &&& (255 : Int32)).toUInt32.toUInt16.toUInt32.toInt32))] (.int (0 : Int32)) := V5_12.ext E13
  have A6_13 : Exa Z h13 b6 "java/lang/String" := A6_12.ext E13
  have Sh_CS_13 : Sta Z h13 "java/lang/String" "COMPACT_STRINGS" "Z" (.int zc) := Sh_CS_12.ext E13
  have V12_13 : Arv Z h13 b8 k8 .char (2 : Int32) [(.int (nar .char (p2 &&& (255 : Int32)).toUInt32.toUInt16.toUInt32.toInt32)), (.int (nar .char (((p2.toUInt32 >>> ((8 : Int32) &&& 31).toUInt32).toInt32) &&& (255 : Int32)).toUInt32.toUInt16.toUInt32.toInt32))] (.int (0 : Int32)) := V12.ext E13
  have hk13' : _ ≤ h13.size := Nat.le_trans hk12' E13.1
  have Z13 : n0 ≤ h13.size := Nat.le_trans Z12 E13.1
  have V_b13 : Arv Z h13 b13 k13 .char (0 : Int32) [] (.int (0 : Int32)) := (Arv.new A13 (by decide)).pad (pad_rep [] (.int (0 : Int32)) 0)
  have k14 : ∀ target, Steps p.tables e below (T13.setTop (mkF m 75 #[.val (.int p0), .val (.int p1), .val (.int p2), .val (.int p3), .val (.ref b1), .val (.ref b6), .val (.ref b8), .val (.ref b13), .val (.int ((p3 &&& (2147483647 : Int32)) % (3 : Int32))), .unset, .unset, .unset, .unset, .unset, .unset] [(.int ((p3 &&& (2147483647 : Int32)) % (3 : Int32)))])) target → Steps p.tables e below (s₁.setTop (mkF m 0 #[.val (.int p0), .val (.int p1), .val (.int p2), .val (.int p3), .unset, .unset, .unset, .unset, .unset, .unset, .unset, .unset, .unset, .unset, .unset] [])) target := by
    intro target kt
    show Steps p.tables e below (s₁.setTop (mkF m 0 #[.val (.int p0), .val (.int p1), .val (.int p2), .val (.int p3), .unset, .unset, .unset, .unset, .unset, .unset, .unset, .unset, .unset, .unset, .unset] [])) _
    refine XS.iconst X0.here hx rfl (hb hby at_0) ?_
    show Steps p.tables e below (s₁.setTop (mkF m 1 #[.val (.int p0), .val (.int p1), .val (.int p2), .val (.int p3), .unset, .unset, .unset, .unset, .unset, .unset, .unset, .unset, .unset, .unset, .unset] [(.int (2 : Int32))])) _
    refine st1 _ ?_
    show Steps p.tables e below (T1.setTop (mkF m 3 #[.val (.int p0), .val (.int p1), .val (.int p2), .val (.int p3), .unset, .unset, .unset, .unset, .unset, .unset, .unset, .unset, .unset, .unset, .unset] [(.ref b1)])) _
    refine XS.dup X1.here hx rfl (hb hby at_3) rfl rfl ?_
    show Steps p.tables e below (T1.setTop (mkF m 4 #[.val (.int p0), .val (.int p1), .val (.int p2), .val (.int p3), .unset, .unset, .unset, .unset, .unset, .unset, .unset, .unset, .unset, .unset, .unset] [(.ref b1), (.ref b1)])) _
    refine XS.iconst X1.here hx rfl (hb hby at_4) ?_
    show Steps p.tables e below (T1.setTop (mkF m 5 #[.val (.int p0), .val (.int p1), .val (.int p2), .val (.int p3), .unset, .unset, .unset, .unset, .unset, .unset, .unset, .unset, .unset, .unset, .unset] [(.int (0 : Int32)), (.ref b1), (.ref b1)])) _
    refine XS.iloadN X1.here hx rfl (hb hby at_5) rfl ?_
    show Steps p.tables e below (T1.setTop (mkF m 6 #[.val (.int p0), .val (.int p1), .val (.int p2), .val (.int p3), .unset, .unset, .unset, .unset, .unset, .unset, .unset, .unset, .unset, .unset, .unset] [(.int p0), (.int (0 : Int32)), (.ref b1), (.ref b1)])) _
    refine XS.sipush X1.here hx rfl (hb hby at_6) ?_
    show Steps p.tables e below (T1.setTop (mkF m 9 #[.val (.int p0), .val (.int p1), .val (.int p2), .val (.int p3), .unset, .unset, .unset, .unset, .unset, .unset, .unset, .unset, .unset, .unset, .unset] [(.int (255 : Int32)), (.int p0), (.int (0 : Int32)), (.ref b1), (.ref b1)])) _
    refine XS.iand X1.here hx rfl (hb hby at_9) rfl ?_
    show Steps p.tables e below (T1.setTop (mkF m 10 #[.val (.int p0), .val (.int p1), .val (.int p2), .val (.int p3), .unset, .unset, .unset, .unset, .unset, .unset, .unset, .unset, .unset, .unset, .unset] [(.int (p0 &&& (255 : Int32))), (.int (0 : Int32)), (.ref b1), (.ref b1)])) _
    refine XS.i2c X1.here hx rfl (hb hby at_10) rfl ?_
    show Steps p.tables e below (T1.setTop (mkF m 11 #[.val (.int p0), .val (.int p1), .val (.int p2), .val (.int p3), .unset, .unset, .unset, .unset, .unset, .unset, .unset, .unset, .unset, .unset, .unset] [(.int (p0 &&& (255 : Int32)).toUInt32.toUInt16.toUInt32.toInt32), (.int (0 : Int32)), (.ref b1), (.ref b1)])) _
    refine st3 _ ?_
    show Steps p.tables e below (T3.setTop (mkF m 12 #[.val (.int p0), .val (.int p1), .val (.int p2), .val (.int p3), .unset, .unset, .unset, .unset, .unset, .unset, .unset, .unset, .unset, .unset, .unset] [(.ref b1)])) _
    refine XS.dup X3.here hx rfl (hb hby at_12) rfl rfl ?_
    show Steps p.tables e below (T3.setTop (mkF m 13 #[.val (.int p0), .val (.int p1), .val (.int p2), .val (.int p3), .unset, .unset, .unset, .unset, .unset, .unset, .unset, .unset, .unset, .unset, .unset] [(.ref b1), (.ref b1)])) _
    refine XS.iconst X3.here hx rfl (hb hby at_13) ?_
    show Steps p.tables e below (T3.setTop (mkF m 14 #[.val (.int p0), .val (.int p1), .val (.int p2), .val (.int p3), .unset, .unset, .unset, .unset, .unset, .unset, .unset, .unset, .unset, .unset, .unset] [(.int (1 : Int32)), (.ref b1), (.ref b1)])) _
    refine XS.iloadN X3.here hx rfl (hb hby at_14) rfl ?_
    show Steps p.tables e below (T3.setTop (mkF m 15 #[.val (.int p0), .val (.int p1), .val (.int p2), .val (.int p3), .unset, .unset, .unset, .unset, .unset, .unset, .unset, .unset, .unset, .unset, .unset] [(.int p1), (.int (1 : Int32)), (.ref b1), (.ref b1)])) _
    refine XS.sipush X3.here hx rfl (hb hby at_15) ?_
    show Steps p.tables e below (T3.setTop (mkF m 18 #[.val (.int p0), .val (.int p1), .val (.int p2), .val (.int p3), .unset, .unset, .unset, .unset, .unset, .unset, .unset, .unset, .unset, .unset, .unset] [(.int (255 : Int32)), (.int p1), (.int (1 : Int32)), (.ref b1), (.ref b1)])) _
    refine XS.iand X3.here hx rfl (hb hby at_18) rfl ?_
    show Steps p.tables e below (T3.setTop (mkF m 19 #[.val (.int p0), .val (.int p1), .val (.int p2), .val (.int p3), .unset, .unset, .unset, .unset, .unset, .unset, .unset, .unset, .unset, .unset, .unset] [(.int (p1 &&& (255 : Int32))), (.int (1 : Int32)), (.ref b1), (.ref b1)])) _
    refine XS.i2c X3.here hx rfl (hb hby at_19) rfl ?_
    show Steps p.tables e below (T3.setTop (mkF m 20 #[.val (.int p0), .val (.int p1), .val (.int p2), .val (.int p3), .unset, .unset, .unset, .unset, .unset, .unset, .unset, .unset, .unset, .unset, .unset] [(.int (p1 &&& (255 : Int32)).toUInt32.toUInt16.toUInt32.toInt32), (.int (1 : Int32)), (.ref b1), (.ref b1)])) _
    refine st5 _ ?_
    show Steps p.tables e below (T5.setTop (mkF m 21 #[.val (.int p0), .val (.int p1), .val (.int p2), .val (.int p3), .unset, .unset, .unset, .unset, .unset, .unset, .unset, .unset, .unset, .unset, .unset] [(.ref b1)])) _
    refine XS.astore X5.here hx rfl (hb hby at_21) rfl rfl (l' := #[.val (.int p0), .val (.int p1), .val (.int p2), .val (.int p3), .val (.ref b1), .unset, .unset, .unset, .unset, .unset, .unset, .unset, .unset, .unset, .unset]) rfl ?_
    show Steps p.tables e below (T5.setTop (mkF m 23 #[.val (.int p0), .val (.int p1), .val (.int p2), .val (.int p3), .val (.ref b1), .unset, .unset, .unset, .unset, .unset, .unset, .unset, .unset, .unset, .unset] [])) _
    refine st6 _ ?_
    show Steps p.tables e below (T6.setTop (mkF m 26 #[.val (.int p0), .val (.int p1), .val (.int p2), .val (.int p3), .val (.ref b1), .unset, .unset, .unset, .unset, .unset, .unset, .unset, .unset, .unset, .unset] [(.ref b6)])) _
    refine XS.dup X6.here hx rfl (hb hby at_26) rfl rfl ?_
    show Steps p.tables e below (T6.setTop (mkF m 27 #[.val (.int p0), .val (.int p1), .val (.int p2), .val (.int p3), .val (.ref b1), .unset, .unset, .unset, .unset, .unset, .unset, .unset, .unset, .unset, .unset] [(.ref b6), (.ref b6)])) _
    refine XS.aload X6.here hx rfl (hb hby at_27) rfl rfl ?_
    show Steps p.tables e below (T6.setTop (mkF m 29 #[.val (.int p0), .val (.int p1), .val (.int p2), .val (.int p3), .val (.ref b1), .unset, .unset, .unset, .unset, .unset, .unset, .unset, .unset, .unset, .unset] [(.ref b1), (.ref b6), (.ref b6)])) _
    refine st7.trans ?_
    show Steps p.tables e below (T7.setTop (mkF m 32 #[.val (.int p0), .val (.int p1), .val (.int p2), .val (.int p3), .val (.ref b1), .unset, .unset, .unset, .unset, .unset, .unset, .unset, .unset, .unset, .unset] [(.ref b6)])) _
    refine XS.astore X7.here hx rfl (hb hby at_32) rfl rfl (l' := #[.val (.int p0), .val (.int p1), .val (.int p2), .val (.int p3), .val (.ref b1), .val (.ref b6), .unset, .unset, .unset, .unset, .unset, .unset, .unset, .unset, .unset]) rfl ?_
    show Steps p.tables e below (T7.setTop (mkF m 34 #[.val (.int p0), .val (.int p1), .val (.int p2), .val (.int p3), .val (.ref b1), .val (.ref b6), .unset, .unset, .unset, .unset, .unset, .unset, .unset, .unset, .unset] [])) _
    refine XS.iconst X7.here hx rfl (hb hby at_34) ?_
    show Steps p.tables e below (T7.setTop (mkF m 35 #[.val (.int p0), .val (.int p1), .val (.int p2), .val (.int p3), .val (.ref b1), .val (.ref b6), .unset, .unset, .unset, .unset, .unset, .unset, .unset, .unset, .unset] [(.int (2 : Int32))])) _
    refine st8 _ ?_
    show Steps p.tables e below (T8.setTop (mkF m 37 #[.val (.int p0), .val (.int p1), .val (.int p2), .val (.int p3), .val (.ref b1), .val (.ref b6), .unset, .unset, .unset, .unset, .unset, .unset, .unset, .unset, .unset] [(.ref b8)])) _
    refine XS.dup X8.here hx rfl (hb hby at_37) rfl rfl ?_
    show Steps p.tables e below (T8.setTop (mkF m 38 #[.val (.int p0), .val (.int p1), .val (.int p2), .val (.int p3), .val (.ref b1), .val (.ref b6), .unset, .unset, .unset, .unset, .unset, .unset, .unset, .unset, .unset] [(.ref b8), (.ref b8)])) _
    refine XS.iconst X8.here hx rfl (hb hby at_38) ?_
    show Steps p.tables e below (T8.setTop (mkF m 39 #[.val (.int p0), .val (.int p1), .val (.int p2), .val (.int p3), .val (.ref b1), .val (.ref b6), .unset, .unset, .unset, .unset, .unset, .unset, .unset, .unset, .unset] [(.int (0 : Int32)), (.ref b8), (.ref b8)])) _
    refine XS.iloadN X8.here hx rfl (hb hby at_39) rfl ?_
    show Steps p.tables e below (T8.setTop (mkF m 40 #[.val (.int p0), .val (.int p1), .val (.int p2), .val (.int p3), .val (.ref b1), .val (.ref b6), .unset, .unset, .unset, .unset, .unset, .unset, .unset, .unset, .unset] [(.int p2), (.int (0 : Int32)), (.ref b8), (.ref b8)])) _
    refine XS.sipush X8.here hx rfl (hb hby at_40) ?_
    show Steps p.tables e below (T8.setTop (mkF m 43 #[.val (.int p0), .val (.int p1), .val (.int p2), .val (.int p3), .val (.ref b1), .val (.ref b6), .unset, .unset, .unset, .unset, .unset, .unset, .unset, .unset, .unset] [(.int (255 : Int32)), (.int p2), (.int (0 : Int32)), (.ref b8), (.ref b8)])) _
    refine XS.iand X8.here hx rfl (hb hby at_43) rfl ?_
    show Steps p.tables e below (T8.setTop (mkF m 44 #[.val (.int p0), .val (.int p1), .val (.int p2), .val (.int p3), .val (.ref b1), .val (.ref b6), .unset, .unset, .unset, .unset, .unset, .unset, .unset, .unset, .unset] [(.int (p2 &&& (255 : Int32))), (.int (0 : Int32)), (.ref b8), (.ref b8)])) _
    refine XS.i2c X8.here hx rfl (hb hby at_44) rfl ?_
    show Steps p.tables e below (T8.setTop (mkF m 45 #[.val (.int p0), .val (.int p1), .val (.int p2), .val (.int p3), .val (.ref b1), .val (.ref b6), .unset, .unset, .unset, .unset, .unset, .unset, .unset, .unset, .unset] [(.int (p2 &&& (255 : Int32)).toUInt32.toUInt16.toUInt32.toInt32), (.int (0 : Int32)), (.ref b8), (.ref b8)])) _
    refine st10 _ ?_
    show Steps p.tables e below (T10.setTop (mkF m 46 #[.val (.int p0), .val (.int p1), .val (.int p2), .val (.int p3), .val (.ref b1), .val (.ref b6), .unset, .unset, .unset, .unset, .unset, .unset, .unset, .unset, .unset] [(.ref b8)])) _
    refine XS.dup X10.here hx rfl (hb hby at_46) rfl rfl ?_
    show Steps p.tables e below (T10.setTop (mkF m 47 #[.val (.int p0), .val (.int p1), .val (.int p2), .val (.int p3), .val (.ref b1), .val (.ref b6), .unset, .unset, .unset, .unset, .unset, .unset, .unset, .unset, .unset] [(.ref b8), (.ref b8)])) _
    refine XS.iconst X10.here hx rfl (hb hby at_47) ?_
    show Steps p.tables e below (T10.setTop (mkF m 48 #[.val (.int p0), .val (.int p1), .val (.int p2), .val (.int p3), .val (.ref b1), .val (.ref b6), .unset, .unset, .unset, .unset, .unset, .unset, .unset, .unset, .unset] [(.int (1 : Int32)), (.ref b8), (.ref b8)])) _
    refine XS.iloadN X10.here hx rfl (hb hby at_48) rfl ?_
    show Steps p.tables e below (T10.setTop (mkF m 49 #[.val (.int p0), .val (.int p1), .val (.int p2), .val (.int p3), .val (.ref b1), .val (.ref b6), .unset, .unset, .unset, .unset, .unset, .unset, .unset, .unset, .unset] [(.int p2), (.int (1 : Int32)), (.ref b8), (.ref b8)])) _
    refine XS.bipush X10.here hx rfl (hb hby at_49) ?_
    show Steps p.tables e below (T10.setTop (mkF m 51 #[.val (.int p0), .val (.int p1), .val (.int p2), .val (.int p3), .val (.ref b1), .val (.ref b6), .unset, .unset, .unset, .unset, .unset, .unset, .unset, .unset, .unset] [(.int (8 : Int32)), (.int p2), (.int (1 : Int32)), (.ref b8), (.ref b8)])) _
    refine XS.iushr X10.here hx rfl (hb hby at_51) rfl ?_
    show Steps p.tables e below (T10.setTop (mkF m 52 #[.val (.int p0), .val (.int p1), .val (.int p2), .val (.int p3), .val (.ref b1), .val (.ref b6), .unset, .unset, .unset, .unset, .unset, .unset, .unset, .unset, .unset] [(.int ((p2.toUInt32 >>> ((8 : Int32) &&& 31).toUInt32).toInt32)), (.int (1 : Int32)), (.ref b8), (.ref b8)])) _
    refine XS.sipush X10.here hx rfl (hb hby at_52) ?_
    show Steps p.tables e below (T10.setTop (mkF m 55 #[.val (.int p0), .val (.int p1), .val (.int p2), .val (.int p3), .val (.ref b1), .val (.ref b6), .unset, .unset, .unset, .unset, .unset, .unset, .unset, .unset, .unset] [(.int (255 : Int32)), (.int ((p2.toUInt32 >>> ((8 : Int32) &&& 31).toUInt32).toInt32)), (.int (1 : Int32)), (.ref b8), (.ref b8)])) _
    refine XS.iand X10.here hx rfl (hb hby at_55) rfl ?_
    show Steps p.tables e below (T10.setTop (mkF m 56 #[.val (.int p0), .val (.int p1), .val (.int p2), .val (.int p3), .val (.ref b1), .val (.ref b6), .unset, .unset, .unset, .unset, .unset, .unset, .unset, .unset, .unset] [(.int (((p2.toUInt32 >>> ((8 : Int32) &&& 31).toUInt32).toInt32) &&& (255 : Int32))), (.int (1 : Int32)), (.ref b8), (.ref b8)])) _
    refine XS.i2c X10.here hx rfl (hb hby at_56) rfl ?_
    show Steps p.tables e below (T10.setTop (mkF m 57 #[.val (.int p0), .val (.int p1), .val (.int p2), .val (.int p3), .val (.ref b1), .val (.ref b6), .unset, .unset, .unset, .unset, .unset, .unset, .unset, .unset, .unset] [(.int (((p2.toUInt32 >>> ((8 : Int32) &&& 31).toUInt32).toInt32) &&& (255 : Int32)).toUInt32.toUInt16.toUInt32.toInt32), (.int (1 : Int32)), (.ref b8), (.ref b8)])) _
    refine st12 _ ?_
    show Steps p.tables e below (T12.setTop (mkF m 58 #[.val (.int p0), .val (.int p1), .val (.int p2), .val (.int p3), .val (.ref b1), .val (.ref b6), .unset, .unset, .unset, .unset, .unset, .unset, .unset, .unset, .unset] [(.ref b8)])) _
    refine XS.astore X12.here hx rfl (hb hby at_58) rfl rfl (l' := #[.val (.int p0), .val (.int p1), .val (.int p2), .val (.int p3), .val (.ref b1), .val (.ref b6), .val (.ref b8), .unset, .unset, .unset, .unset, .unset, .unset, .unset, .unset]) rfl ?_
    show Steps p.tables e below (T12.setTop (mkF m 60 #[.val (.int p0), .val (.int p1), .val (.int p2), .val (.int p3), .val (.ref b1), .val (.ref b6), .val (.ref b8), .unset, .unset, .unset, .unset, .unset, .unset, .unset, .unset] [])) _
    refine XS.iconst X12.here hx rfl (hb hby at_60) ?_
    show Steps p.tables e below (T12.setTop (mkF m 61 #[.val (.int p0), .val (.int p1), .val (.int p2), .val (.int p3), .val (.ref b1), .val (.ref b6), .val (.ref b8), .unset, .unset, .unset, .unset, .unset, .unset, .unset, .unset] [(.int (0 : Int32))])) _
    refine st13 _ ?_
    show Steps p.tables e below (T13.setTop (mkF m 63 #[.val (.int p0), .val (.int p1), .val (.int p2), .val (.int p3), .val (.ref b1), .val (.ref b6), .val (.ref b8), .unset, .unset, .unset, .unset, .unset, .unset, .unset, .unset] [(.ref b13)])) _
    refine XS.astore X13.here hx rfl (hb hby at_63) rfl rfl (l' := #[.val (.int p0), .val (.int p1), .val (.int p2), .val (.int p3), .val (.ref b1), .val (.ref b6), .val (.ref b8), .val (.ref b13), .unset, .unset, .unset, .unset, .unset, .unset, .unset]) rfl ?_
    show Steps p.tables e below (T13.setTop (mkF m 65 #[.val (.int p0), .val (.int p1), .val (.int p2), .val (.int p3), .val (.ref b1), .val (.ref b6), .val (.ref b8), .val (.ref b13), .unset, .unset, .unset, .unset, .unset, .unset, .unset] [])) _
    refine XS.iloadN X13.here hx rfl (hb hby at_65) rfl ?_
    show Steps p.tables e below (T13.setTop (mkF m 66 #[.val (.int p0), .val (.int p1), .val (.int p2), .val (.int p3), .val (.ref b1), .val (.ref b6), .val (.ref b8), .val (.ref b13), .unset, .unset, .unset, .unset, .unset, .unset, .unset] [(.int p3)])) _
    refine X13.ldcInt hx hown (mvT hZ (hw _ (List.mem_of_getElem? (i := 30) rfl))) (g := (mkF m 66 #[.val (.int p0), .val (.int p1), .val (.int p2), .val (.int p3), .val (.ref b1), .val (.ref b6), .val (.ref b8), .val (.ref b13), .unset, .unset, .unset, .unset, .unset, .unset, .unset] [(.int p3)])) rfl (hb hby at_66) _ ?_
    show Steps p.tables e below (T13.setTop (mkF m 68 #[.val (.int p0), .val (.int p1), .val (.int p2), .val (.int p3), .val (.ref b1), .val (.ref b6), .val (.ref b8), .val (.ref b13), .unset, .unset, .unset, .unset, .unset, .unset, .unset] [(.int (2147483647 : Int32)), (.int p3)])) _
    refine XS.iand X13.here hx rfl (hb hby at_68) rfl ?_
    show Steps p.tables e below (T13.setTop (mkF m 69 #[.val (.int p0), .val (.int p1), .val (.int p2), .val (.int p3), .val (.ref b1), .val (.ref b6), .val (.ref b8), .val (.ref b13), .unset, .unset, .unset, .unset, .unset, .unset, .unset] [(.int (p3 &&& (2147483647 : Int32)))])) _
    refine XS.iconst X13.here hx rfl (hb hby at_69) ?_
    show Steps p.tables e below (T13.setTop (mkF m 70 #[.val (.int p0), .val (.int p1), .val (.int p2), .val (.int p3), .val (.ref b1), .val (.ref b6), .val (.ref b8), .val (.ref b13), .unset, .unset, .unset, .unset, .unset, .unset, .unset] [(.int (3 : Int32)), (.int (p3 &&& (2147483647 : Int32)))])) _
    refine iremM X13 hx rfl (hb hby at_70) rfl (by decide) ?_
    show Steps p.tables e below (T13.setTop (mkF m 71 #[.val (.int p0), .val (.int p1), .val (.int p2), .val (.int p3), .val (.ref b1), .val (.ref b6), .val (.ref b8), .val (.ref b13), .unset, .unset, .unset, .unset, .unset, .unset, .unset] [(.int ((p3 &&& (2147483647 : Int32)) % (3 : Int32)))])) _
    refine XS.istore X13.here hx rfl (hb hby at_71) rfl (l' := #[.val (.int p0), .val (.int p1), .val (.int p2), .val (.int p3), .val (.ref b1), .val (.ref b6), .val (.ref b8), .val (.ref b13), .val (.int ((p3 &&& (2147483647 : Int32)) % (3 : Int32))), .unset, .unset, .unset, .unset, .unset, .unset]) rfl ?_
    show Steps p.tables e below (T13.setTop (mkF m 73 #[.val (.int p0), .val (.int p1), .val (.int p2), .val (.int p3), .val (.ref b1), .val (.ref b6), .val (.ref b8), .val (.ref b13), .val (.int ((p3 &&& (2147483647 : Int32)) % (3 : Int32))), .unset, .unset, .unset, .unset, .unset, .unset] [])) _
    refine XS.iload X13.here hx rfl (hb hby at_73) rfl ?_
    exact kt
  by_cases hc75 : ((p3 &&& (2147483647 : Int32)) % (3 : Int32)) = (0 : Int32)
  · obtain ⟨cl15, Ar15, qk15, S15, N15', H15, G15⟩ := (id V12_13)
    have hin15 : ¬ ((0 : Int32) < 0 ∨ cl15.slots.size ≤ ((0 : Int32)).toNatClampNeg) := inb_of S15 ⟨by decide, by decide⟩
    have hat15 : cl15.slots[((0 : Int32)).toNatClampNeg]? = some (.int (nar .char (p2 &&& (255 : Int32)).toUInt32.toUInt16.toUInt32.toInt32)) := Has.at H15 hin15 rfl
    obtain ⟨_, _, ⟨T16, L16, k16, n16⟩, -, X16, ⟨Lc16, hQ16, l16, y16, z16⟩, st16⟩ := Jvm.LawKit.callS X13 hx (y := (⟨"java/lang/String", "valueOf", "(C)Ljava/lang/String;"⟩ : MethodName)) hown (mvT hZ (hw _ (List.mem_of_getElem? (i := 34) rfl))) (mvT hZ (hw _ (List.mem_of_getElem? (i := 35) rfl))) (mvT hZ (hw _ (List.mem_of_getElem? (i := 3) rfl))) (mvT hZ (hw _ (List.mem_of_getElem? (i := 36) rfl))) (by decide) (backOf (W := 0) (rm_vof l Z a0 hw [] (nar .char (p2 &&& (255 : Int32)).toUInt32.toUInt16.toUInt32.toInt32) zc h13 n0 Z13 Sh_CS_13 P5 (own_ch _).2) hZ (hw _ (List.mem_of_getElem? (i := 36) rfl)) (hw _ (List.mem_of_getElem? (i := 3) rfl)) (by decide) (by decide)) (g := (mkF m 119 #[.val (.int p0), .val (.int p1), .val (.int p2), .val (.int p3), .val (.ref b1), .val (.ref b6), .val (.ref b8), .val (.ref b13), .val (.int ((p3 &&& (2147483647 : Int32)) % (3 : Int32))), .val .null, .unset, .unset, .unset, .unset, .unset] [(.int (nar .char (p2 &&& (255 : Int32)).toUInt32.toUInt16.toUInt32.toInt32))])) rfl (by rw [hml]; rfl) (argsL := [(.int (nar .char (p2 &&& (255 : Int32)).toUInt32.toUInt16.toUInt32.toInt32))]) (rest := []) (lenOf pd_7 rfl) rfl (by show 2 * 0 + _ ≤ _; exact Nat.le_of_eq rfl) (hb hby at_119) (fun _ _ => ⟨rfl, e13, (by decide : 5 + 2 ≤ _), (by decide : 10 + 5 ≤ _)⟩)
    dsimp only [Pt.U, Pt.locs, Pt.cells, Pt.slots] at X16 l16 y16 z16 st16 hQ16
    subst l16 y16 z16
    obtain ⟨bx16, rfl, N16q, x16c0, x16c1, x16c2, x16c3⟩ := hQ16
    have N16 := Fr.app N12 N16q
    have ne_b1_bx16 : b1 ≠ bx16 := Nat.ne_of_lt (Nat.lt_of_lt_of_le V5_13.lt x16c2)
    have ne_b6_bx16 : b6 ≠ bx16 := Nat.ne_of_lt (Nat.lt_of_lt_of_le A6_13.lt x16c2)
    have ne_b8_bx16 : b8 ≠ bx16 := Nat.ne_of_lt (Nat.lt_of_lt_of_le V12_13.lt x16c2)
    have ne_b13_bx16 : b13 ≠ bx16 := Nat.ne_of_lt (Nat.lt_of_lt_of_le V_b13.lt x16c2)
    have X00_16 : Old Z n0 T16.heap := X00_13.keep x16c0 all0
    have V5_16 : Arv Z T16.heap b1 k1 .char (2 : Int32) [(.int (nar .char (p0 &&& (255 : Int32)).toUInt32.toUInt16.toUInt32.toInt32)), (.int (nar .char (p1 &&& (255 : Int32)).toUInt32.toUInt16.toUInt32.toInt32))] (.int (0 : Int32)) := V5_13.keep x16c0 nin0
    have A6_16 : Exa Z T16.heap b6 "java/lang/String" := A6_13.keep x16c0
    have V12_16 : Arv Z T16.heap b8 k8 .char (2 : Int32) [(.int (nar .char (p2 &&& (255 : Int32)).toUInt32.toUInt16.toUInt32.toInt32)), (.int (nar .char (((p2.toUInt32 >>> ((8 : Int32) &&& 31).toUInt32).toInt32) &&& (255 : Int32)).toUInt32.toUInt16.toUInt32.toInt32))] (.int (0 : Int32)) := V12_13.keep x16c0 nin0
    have V_b13_16 : Arv Z T16.heap b13 k13 .char (0 : Int32) [] (.int (0 : Int32)) := V_b13.keep x16c0 nin0
    have Sh_CS_16 : Sta Z T16.heap "java/lang/String" "COMPACT_STRINGS" "Z" (.int zc) := S_CS.ext X00_16.2
    have hk16' : _ ≤ T16.heap.size := Nat.le_trans hk13' x16c0.1
    have Z16 : n0 ≤ T16.heap.size := Nat.le_trans Z13 x16c0.1
    obtain ⟨T17, h17, X17, e17, E17, A17, D17, -, st17⟩ := newO X16 hx hZ hown (hw _ (List.mem_of_getElem? (i := 48) rfl)) (hw _ (List.mem_of_getElem? (i := 49) rfl)) (hw _ (List.mem_of_getElem? (i := 50) rfl)) rfl (g := (mkF m 124 #[.val (.int p0), .val (.int p1), .val (.int p2), .val (.int p3), .val (.ref b1), .val (.ref b6), .val (.ref b8), .val (.ref b13), .val (.int ((p3 &&& (2147483647 : Int32)) % (3 : Int32))), .val .null, .val (.ref bx16), .unset, .unset, .unset, .unset] [])) rfl (hb hby at_124) (by decide) (by decide)
    obtain ⟨b17, g17⟩ : ∃ z, z = T16.heap.size := ⟨_, rfl⟩
    rw [← g17] at A17 D17 st17
    have ne_b1_b17 : b1 ≠ b17 := Nat.ne_of_lt (Nat.lt_of_lt_of_le V5_16.lt (Nat.le_of_eq g17.symm))
    have ne_b6_b17 : b6 ≠ b17 := Nat.ne_of_lt (Nat.lt_of_lt_of_le A6_16.lt (Nat.le_of_eq g17.symm))
    have ne_b8_b17 : b8 ≠ b17 := Nat.ne_of_lt (Nat.lt_of_lt_of_le V12_16.lt (Nat.le_of_eq g17.symm))
    have ne_b13_b17 : b13 ≠ b17 := Nat.ne_of_lt (Nat.lt_of_lt_of_le V_b13_16.lt (Nat.le_of_eq g17.symm))
    have ne_bx16_b17 : bx16 ≠ b17 := Nat.ne_of_lt (Nat.lt_of_lt_of_le x16c3.lt (Nat.le_of_eq g17.symm))
    have g_b17 : n0 ≤ b17 := Nat.le_trans Z16 (Nat.le_of_eq g17.symm)
    have X00_17 : Old Z n0 h17 := Old.ext X00_16 E17
    have V5_17 : Arv Z h17 b1 k1 .char (2 : Int32) [(.int (nar .char (p0 &&& (255 : Int32)).toUInt32.toUInt16.toUInt32.toInt32)), (.int (nar .char (p1 &&& (255 : Int32)).toUInt32.toUInt16.toUInt32.toInt32))] (.int (0 : Int32)) := V5_16.ext E17
    have A6_17 : Exa Z h17 b6 "java/lang/String" := A6_16.ext E17
    have V12_17 : Arv Z h17 b8 k8 .char (2 : Int32) [(.int (nar .char (p2 &&& (255 : Int32)).toUInt32.toUInt16.toUInt32.toInt32)), (.int (nar .char (((p2.toUInt32 >>> ((8 : Int32) &&& 31).toUInt32).toInt32) &&& (255 : Int32)).toUInt32.toUInt16.toUInt32.toInt32))] (.int (0 : Int32)) := V12_16.ext E17
    have V_b13_17 : Arv Z h17 b13 k13 .char (0 : Int32) [] (.int (0 : Int32)) := V_b13_16.ext E17
    have Sh_CS_17 : Sta Z h17 "java/lang/String" "COMPACT_STRINGS" "Z" (.int zc) := Sh_CS_16.ext E17
    have x16c3_17 : Exa Z h17 bx16 "java/lang/String" := x16c3.ext E17
    have hk17' : _ ≤ h17.size := Nat.le_trans hk16' E17.1
    have Z17 : n0 ≤ h17.size := Nat.le_trans Z16 E17.1
    have F_name_b17 : Fld Z h17 b17 "com/example/watchpost/watchpost/Option" "name" "Ljava/lang/String;" .null := D17 (Or.inr (hw _ (List.mem_of_getElem? (i := 59) rfl))) (ty := (.object "java/lang/String")) (by decide)
    have F_shortName_b17 : Fld Z h17 b17 "com/example/watchpost/watchpost/Option" "shortName" "Ljava/lang/String;" .null := D17 (Or.inr (hw _ (List.mem_of_getElem? (i := 61) rfl))) (ty := (.object "java/lang/String")) (by decide)
    have F_value_b17 : Fld Z h17 b17 "com/example/watchpost/watchpost/Option" "value" "Ljava/lang/String;" .null := D17 (Or.inr (hw _ (List.mem_of_getElem? (i := 63) rfl))) (ty := (.object "java/lang/String")) (by decide)
    have F_required_b17 : Fld Z h17 b17 "com/example/watchpost/watchpost/Option" "required" "Z" (.int (0 : Int32)) := D17 (Or.inr (hw _ (List.mem_of_getElem? (i := 65) rfl))) (ty := .boolean) (by decide)
    obtain ⟨_, _, ⟨T18, L18, k18, n18⟩, -, X18, ⟨Lc18, hQ18, l18, y18, z18⟩, st18⟩ := X17.specialBack hx (y := (⟨"com/example/watchpost/watchpost/Option", "<init>", "(Ljava/lang/String;Ljava/lang/String;)V"⟩ : MethodName)) rfl hown (mvT hZ (hw _ (List.mem_of_getElem? (i := 51) rfl))) (mvT hZ (hw _ (List.mem_of_getElem? (i := 52) rfl))) (mvT hZ (hw _ (List.mem_of_getElem? (i := 53) rfl))) (by decide) (backOf (W := 1) (rm_two0 l Z a0 hw [] b17 b6 h17 n0 Z17 A17 F_name_b17 F_shortName_b17 F_value_b17 F_required_b17 g_b17) hZ (hw _ (List.mem_of_getElem? (i := 53) rfl)) (hw _ (List.mem_of_getElem? (i := 50) rfl)) (by decide) (by decide)) (g := (mkF m 132 #[.val (.int p0), .val (.int p1), .val (.int p2), .val (.int p3), .val (.ref b1), .val (.ref b6), .val (.ref b8), .val (.ref b13), .val (.int ((p3 &&& (2147483647 : Int32)) % (3 : Int32))), .val .null, .val (.ref bx16), .unset, .unset, .unset, .unset] [.null, (.ref b6), (.ref b17), (.ref b17)])) rfl (by rw [hml]; rfl) (Steps.refl _) (a := b17) (argsL := [(.ref b6), .null]) (rest := [(.ref b17)]) (lenOf pd_5 rfl) rfl (by show 2 * 0 + _ ≤ _; exact Nat.le_of_eq rfl) (hb hby at_132) (fun _ _ => ⟨rfl, e17, (by decide : 8 + 0 ≤ _), (by decide : 19 + 0 ≤ _)⟩)
    dsimp only [Pt.U, Pt.locs, Pt.cells, Pt.slots] at X18 l18 y18 z18 st18 hQ18
    subst l18 y18 z18
    obtain ⟨rfl, N18q, x18c0, x18c1, x18c2, x18c3, x18c4⟩ := hQ18
    have N18 := Fr.app N16 N18q
    have X00_18 : Old Z n0 T18.heap := X00_17.keep x18c0 (allS g_b17 all0)
    have V5_18 : Arv Z T18.heap b1 k1 .char (2 : Int32) [(.int (nar .char (p0 &&& (255 : Int32)).toUInt32.toUInt16.toUInt32.toInt32)), (.int (nar .char (p1 &&& (255 : Int32)).toUInt32.toUInt16.toUInt32.toInt32))] (.int (0 : Int32)) := V5_17.keep x18c0 (ninS ne_b1_b17 nin0)
    have A6_18 : Exa Z T18.heap b6 "java/lang/String" := A6_17.keep x18c0
    have V12_18 : Arv Z T18.heap b8 k8 .char (2 : Int32) [(.int (nar .char (p2 &&& (255 : Int32)).toUInt32.toUInt16.toUInt32.toInt32)), (.int (nar .char (((p2.toUInt32 >>> ((8 : Int32) &&& 31).toUInt32).toInt32) &&& (255 : Int32)).toUInt32.toUInt16.toUInt32.toInt32))] (.int (0 : Int32)) := V12_17.keep x18c0 (ninS ne_b8_b17 nin0)
    have V_b13_18 : Arv Z T18.heap b13 k13 .char (0 : Int32) [] (.int (0 : Int32)) := V_b13_17.keep x18c0 (ninS ne_b13_b17 nin0)
    have x16c3_18 : Exa Z T18.heap bx16 "java/lang/String" := x16c3_17.keep x18c0
    have A17_18 : Exa Z T18.heap b17 "com/example/watchpost/watchpost/Option" := A17.keep x18c0
    have Sh_CS_18 : Sta Z T18.heap "java/lang/String" "COMPACT_STRINGS" "Z" (.int zc) := S_CS.ext X00_18.2
    have hk18' : _ ≤ T18.heap.size := Nat.le_trans hk17' x18c0.1
    have Z18 : n0 ≤ T18.heap.size := Nat.le_trans Z17 x18c0.1
    obtain ⟨cq19, kq19, q19a, q19b, q19c⟩ := isOf hZ rfl A17_18
    obtain ⟨_, _, ⟨T19, L19, k19, n19⟩, -, X19, ⟨Lc19, hQ19, l19, y19, z19⟩, st19⟩ := X18.virtualBack hx (y := (⟨"com/example/watchpost/watchpost/Option", "isFlag", "()Z"⟩ : MethodName)) (z := (⟨"com/example/watchpost/watchpost/Option", "isFlag", "()Z"⟩ : MethodName)) hown (mvT hZ (hw _ (List.mem_of_getElem? (i := 66) rfl))) (mvT hZ (hw _ (List.mem_of_getElem? (i := 67) rfl))) (notFace_of_selects (args := #[]) (mvT hZ (hw _ (List.mem_of_getElem? (i := 69) rfl)))) (mvT hZ (hw _ (List.mem_of_getElem? (i := 69) rfl))) (mvT hZ (hw _ (List.mem_of_getElem? (i := 68) rfl))) (by decide) (backOf (W := 0) (rm_flag0 l Z a0 hw [] b17 T18.heap n0 Z18 x18c3) hZ (hw _ (List.mem_of_getElem? (i := 70) rfl)) (hw _ (List.mem_of_getElem? (i := 50) rfl)) (by decide) (by decide)) q19a q19c (g := (mkF m 139 #[.val (.int p0), .val (.int p1), .val (.int p2), .val (.int p3), .val (.ref b1), .val (.ref b6), .val (.ref b8), .val (.ref b13), .val (.int ((p3 &&& (2147483647 : Int32)) % (3 : Int32))), .val .null, .val (.ref bx16), .val (.ref b17), .unset, .unset, .unset] [(.ref b17)])) rfl (by rw [hml]; rfl) (Steps.refl _) (argsL := []) (rest := []) (lenOf pd_8 rfl) rfl (by show 2 * 0 + _ ≤ _; exact Nat.le_of_eq rfl) (hb hby at_139) (fun _ _ => ⟨rfl, rfl, (by decide : 8 + 0 ≤ _), (by decide : 19 + 0 ≤ _)⟩)
    dsimp only [Pt.U, Pt.locs, Pt.cells, Pt.slots] at X19 l19 y19 z19 st19 hQ19
    subst l19 y19 z19
    obtain ⟨rfl, N19q, e19⟩ := hQ19
    have N19 := Fr.app N18 N19q
    obtain ⟨cq20, kq20, q20a, q20b, q20c⟩ := isOf hZ e19 A17_18
    obtain ⟨_, _, ⟨T20, L20, k20, n20⟩, -, X20, ⟨Lc20, hQ20, l20, y20, z20⟩, st20⟩ := X19.virtualBack hx (y := (⟨"com/example/watchpost/watchpost/Option", "value", "()Ljava/lang/String;"⟩ : MethodName)) (z := (⟨"com/example/watchpost/watchpost/Option", "value", "()Ljava/lang/String;"⟩ : MethodName)) hown (mvT hZ (hw _ (List.mem_of_getElem? (i := 71) rfl))) (mvT hZ (hw _ (List.mem_of_getElem? (i := 72) rfl))) (notFace_of_selects (args := #[]) (mvT hZ (hw _ (List.mem_of_getElem? (i := 74) rfl)))) (mvT hZ (hw _ (List.mem_of_getElem? (i := 74) rfl))) (mvT hZ (hw _ (List.mem_of_getElem? (i := 73) rfl))) (by decide) (backOf (W := 0) (rm_val0 l Z a0 hw [] b17 T18.heap n0 Z18 x18c3) hZ (hw _ (List.mem_of_getElem? (i := 75) rfl)) (hw _ (List.mem_of_getElem? (i := 50) rfl)) (by decide) (by decide)) q20a q20c (g := (mkF m 157 #[.val (.int p0), .val (.int p1), .val (.int p2), .val (.int p3), .val (.ref b1), .val (.ref b6), .val (.ref b8), .val (.ref b13), .val (.int ((p3 &&& (2147483647 : Int32)) % (3 : Int32))), .val .null, .val (.ref bx16), .val (.ref b17), .unset, .unset, .unset] [(.ref b17)])) rfl (by rw [hml]; rfl) (Steps.refl _) (argsL := []) (rest := []) (lenOf pd_9 rfl) rfl (by show 2 * 0 + _ ≤ _; exact Nat.le_of_eq rfl) (hb hby at_157) (fun _ _ => ⟨rfl, e19, (by decide : 8 + 0 ≤ _), (by decide : 19 + 0 ≤ _)⟩)
    dsimp only [Pt.U, Pt.locs, Pt.cells, Pt.slots] at X20 l20 y20 z20 st20 hQ20
    subst l20 y20 z20
    obtain ⟨rfl, N20q, e20⟩ := hQ20
    have N20 := Fr.app N19 N20q
    have k21 : ∀ target, Steps p.tables e below (T20.setTop (mkF m 182 #[.val (.int p0), .val (.int p1), .val (.int p2), .val (.int p3), .val (.ref b1), .val (.ref b6), .val (.ref b8), .val (.ref b13), .val (.int ((p3 &&& (2147483647 : Int32)) % (3 : Int32))), .val .null, .val (.ref bx16), .val (.ref b17), .val (.int (1 : Int32)), .val (.int (((p3.toUInt32 >>> ((8 : Int32) &&& 31).toUInt32).toInt32) &&& (3 : Int32))), .unset] [(.int (((p3.toUInt32 >>> ((8 : Int32) &&& 31).toUInt32).toInt32) &&& (3 : Int32)))])) target → Steps p.tables e below (s₁.setTop (mkF m 0 #[.val (.int p0), .val (.int p1), .val (.int p2), .val (.int p3), .unset, .unset, .unset, .unset, .unset, .unset, .unset, .unset, .unset, .unset, .unset] [])) target := by
      intro target kt
      refine k14 _ ?_
      show Steps p.tables e below (T13.setTop (mkF m 75 #[.val (.int p0), .val (.int p1), .val (.int p2), .val (.int p3), .val (.ref b1), .val (.ref b6), .val (.ref b8), .val (.ref b13), .val (.int ((p3 &&& (2147483647 : Int32)) % (3 : Int32))), .unset, .unset, .unset, .unset, .unset, .unset] [(.int ((p3 &&& (2147483647 : Int32)) % (3 : Int32)))])) _
      refine XS.ifNo X13.here hx rfl (hb hby at_75) rfl ((if0 _ _).trans (teq hc75).2) ?_
      show Steps p.tables e below (T13.setTop (mkF m 78 #[.val (.int p0), .val (.int p1), .val (.int p2), .val (.int p3), .val (.ref b1), .val (.ref b6), .val (.ref b8), .val (.ref b13), .val (.int ((p3 &&& (2147483647 : Int32)) % (3 : Int32))), .unset, .unset, .unset, .unset, .unset, .unset] [])) _
      refine XS.aconstNull X13.here hx rfl (hb hby at_78) ?_
      show Steps p.tables e below (T13.setTop (mkF m 79 #[.val (.int p0), .val (.int p1), .val (.int p2), .val (.int p3), .val (.ref b1), .val (.ref b6), .val (.ref b8), .val (.ref b13), .val (.int ((p3 &&& (2147483647 : Int32)) % (3 : Int32))), .unset, .unset, .unset, .unset, .unset, .unset] [.null])) _
      refine XS.astore X13.here hx rfl (hb hby at_79) rfl rfl (l' := #[.val (.int p0), .val (.int p1), .val (.int p2), .val (.int p3), .val (.ref b1), .val (.ref b6), .val (.ref b8), .val (.ref b13), .val (.int ((p3 &&& (2147483647 : Int32)) % (3 : Int32))), .val .null, .unset, .unset, .unset, .unset, .unset]) rfl ?_
      show Steps p.tables e below (T13.setTop (mkF m 81 #[.val (.int p0), .val (.int p1), .val (.int p2), .val (.int p3), .val (.ref b1), .val (.ref b6), .val (.ref b8), .val (.ref b13), .val (.int ((p3 &&& (2147483647 : Int32)) % (3 : Int32))), .val .null, .unset, .unset, .unset, .unset, .unset] [])) _
      refine XS.goto X13.here hx rfl (pc0 := 81) (pc' := 115) rfl (hb hby at_81) (by decide) (by decide) ?_
      show Steps p.tables e below (T13.setTop (mkF m 115 #[.val (.int p0), .val (.int p1), .val (.int p2), .val (.int p3), .val (.ref b1), .val (.ref b6), .val (.ref b8), .val (.ref b13), .val (.int ((p3 &&& (2147483647 : Int32)) % (3 : Int32))), .val .null, .unset, .unset, .unset, .unset, .unset] [])) _
      refine XS.aload X13.here hx rfl (hb hby at_115) rfl rfl ?_
      show Steps p.tables e below (T13.setTop (mkF m 117 #[.val (.int p0), .val (.int p1), .val (.int p2), .val (.int p3), .val (.ref b1), .val (.ref b6), .val (.ref b8), .val (.ref b13), .val (.int ((p3 &&& (2147483647 : Int32)) % (3 : Int32))), .val .null, .unset, .unset, .unset, .unset, .unset] [(.ref b8)])) _
      refine XS.iconst X13.here hx rfl (hb hby at_117) ?_
      show Steps p.tables e below (T13.setTop (mkF m 118 #[.val (.int p0), .val (.int p1), .val (.int p2), .val (.int p3), .val (.ref b1), .val (.ref b6), .val (.ref b8), .val (.ref b13), .val (.int ((p3 &&& (2147483647 : Int32)) % (3 : Int32))), .val .null, .unset, .unset, .unset, .unset, .unset] [(.int (0 : Int32)), (.ref b8)])) _
      refine X13.caload hx (j := (0 : Int32)) (v := (.int (nar .char (p2 &&& (255 : Int32)).toUInt32.toUInt16.toUInt32.toInt32))) (by rw [e13]; exact Ar15.1) (State.isArrayOf_alike hZ.alike Ar15.2.1) Ar15.2.2 hin15 hat15 (g := (mkF m 118 #[.val (.int p0), .val (.int p1), .val (.int p2), .val (.int p3), .val (.ref b1), .val (.ref b6), .val (.ref b8), .val (.ref b13), .val (.int ((p3 &&& (2147483647 : Int32)) % (3 : Int32))), .val .null, .unset, .unset, .unset, .unset, .unset] [(.int (0 : Int32)), (.ref b8)])) rfl rfl (hb hby at_118) _ ?_
      show Steps p.tables e below (T13.setTop (mkF m 119 #[.val (.int p0), .val (.int p1), .val (.int p2), .val (.int p3), .val (.ref b1), .val (.ref b6), .val (.ref b8), .val (.ref b13), .val (.int ((p3 &&& (2147483647 : Int32)) % (3 : Int32))), .val .null, .unset, .unset, .unset, .unset, .unset] [(.int (nar .char (p2 &&& (255 : Int32)).toUInt32.toUInt16.toUInt32.toInt32))])) _
      refine st16 _ ?_
      show Steps p.tables e below (T16.setTop (mkF m 122 #[.val (.int p0), .val (.int p1), .val (.int p2), .val (.int p3), .val (.ref b1), .val (.ref b6), .val (.ref b8), .val (.ref b13), .val (.int ((p3 &&& (2147483647 : Int32)) % (3 : Int32))), .val .null, .unset, .unset, .unset, .unset, .unset] [(.ref bx16)])) _
      refine XS.astore X16.here hx rfl (hb hby at_122) rfl rfl (l' := #[.val (.int p0), .val (.int p1), .val (.int p2), .val (.int p3), .val (.ref b1), .val (.ref b6), .val (.ref b8), .val (.ref b13), .val (.int ((p3 &&& (2147483647 : Int32)) % (3 : Int32))), .val .null, .val (.ref bx16), .unset, .unset, .unset, .unset]) rfl ?_
      show Steps p.tables e below (T16.setTop (mkF m 124 #[.val (.int p0), .val (.int p1), .val (.int p2), .val (.int p3), .val (.ref b1), .val (.ref b6), .val (.ref b8), .val (.ref b13), .val (.int ((p3 &&& (2147483647 : Int32)) % (3 : Int32))), .val .null, .val (.ref bx16), .unset, .unset, .unset, .unset] [])) _
      refine st17 _ ?_
      show Steps p.tables e below (T17.setTop (mkF m 127 #[.val (.int p0), .val (.int p1), .val (.int p2), .val (.int p3), .val (.ref b1), .val (.ref b6), .val (.ref b8), .val (.ref b13), .val (.int ((p3 &&& (2147483647 : Int32)) % (3 : Int32))), .val .null, .val (.ref bx16), .unset, .unset, .unset, .unset] [(.ref b17)])) _
      refine XS.dup X17.here hx rfl (hb hby at_127) rfl rfl ?_
      show Steps p.tables e below (T17.setTop (mkF m 128 #[.val (.int p0), .val (.int p1), .val (.int p2), .val (.int p3), .val (.ref b1), .val (.ref b6), .val (.ref b8), .val (.ref b13), .val (.int ((p3 &&& (2147483647 : Int32)) % (3 : Int32))), .val .null, .val (.ref bx16), .unset, .unset, .unset, .unset] [(.ref b17), (.ref b17)])) _
      refine XS.aload X17.here hx rfl (hb hby at_128) rfl rfl ?_
      show Steps p.tables e below (T17.setTop (mkF m 130 #[.val (.int p0), .val (.int p1), .val (.int p2), .val (.int p3), .val (.ref b1), .val (.ref b6), .val (.ref b8), .val (.ref b13), .val (.int ((p3 &&& (2147483647 : Int32)) % (3 : Int32))), .val .null, .val (.ref bx16), .unset, .unset, .unset, .unset] [(.ref b6), (.ref b17), (.ref b17)])) _
      refine XS.aload X17.here hx rfl (hb hby at_130) rfl rfl ?_
      show Steps p.tables e below (T17.setTop (mkF m 132 #[.val (.int p0), .val (.int p1), .val (.int p2), .val (.int p3), .val (.ref b1), .val (.ref b6), .val (.ref b8), .val (.ref b13), .val (.int ((p3 &&& (2147483647 : Int32)) % (3 : Int32))), .val .null, .val (.ref bx16), .unset, .unset, .unset, .unset] [.null, (.ref b6), (.ref b17), (.ref b17)])) _
      refine st18.trans ?_
      show Steps p.tables e below (T18.setTop (mkF m 135 #[.val (.int p0), .val (.int p1), .val (.int p2), .val (.int p3), .val (.ref b1), .val (.ref b6), .val (.ref b8), .val (.ref b13), .val (.int ((p3 &&& (2147483647 : Int32)) % (3 : Int32))), .val .null, .val (.ref bx16), .unset, .unset, .unset, .unset] [(.ref b17)])) _
      refine XS.astore X18.here hx rfl (hb hby at_135) rfl rfl (l' := #[.val (.int p0), .val (.int p1), .val (.int p2), .val (.int p3), .val (.ref b1), .val (.ref b6), .val (.ref b8), .val (.ref b13), .val (.int ((p3 &&& (2147483647 : Int32)) % (3 : Int32))), .val .null, .val (.ref bx16), .val (.ref b17), .unset, .unset, .unset]) rfl ?_
      show Steps p.tables e below (T18.setTop (mkF m 137 #[.val (.int p0), .val (.int p1), .val (.int p2), .val (.int p3), .val (.ref b1), .val (.ref b6), .val (.ref b8), .val (.ref b13), .val (.int ((p3 &&& (2147483647 : Int32)) % (3 : Int32))), .val .null, .val (.ref bx16), .val (.ref b17), .unset, .unset, .unset] [])) _
      refine XS.aload X18.here hx rfl (hb hby at_137) rfl rfl ?_
      show Steps p.tables e below (T18.setTop (mkF m 139 #[.val (.int p0), .val (.int p1), .val (.int p2), .val (.int p3), .val (.ref b1), .val (.ref b6), .val (.ref b8), .val (.ref b13), .val (.int ((p3 &&& (2147483647 : Int32)) % (3 : Int32))), .val .null, .val (.ref bx16), .val (.ref b17), .unset, .unset, .unset] [(.ref b17)])) _
      refine st19.trans ?_
      show Steps p.tables e below (T19.setTop (mkF m 142 #[.val (.int p0), .val (.int p1), .val (.int p2), .val (.int p3), .val (.ref b1), .val (.ref b6), .val (.ref b8), .val (.ref b13), .val (.int ((p3 &&& (2147483647 : Int32)) % (3 : Int32))), .val .null, .val (.ref bx16), .val (.ref b17), .unset, .unset, .unset] [(.int (1 : Int32))])) _
      refine XS.aload X19.here hx rfl (hb hby at_142) rfl rfl ?_
      show Steps p.tables e below (T19.setTop (mkF m 144 #[.val (.int p0), .val (.int p1), .val (.int p2), .val (.int p3), .val (.ref b1), .val (.ref b6), .val (.ref b8), .val (.ref b13), .val (.int ((p3 &&& (2147483647 : Int32)) % (3 : Int32))), .val .null, .val (.ref bx16), .val (.ref b17), .unset, .unset, .unset] [.null, (.int (1 : Int32))])) _
      refine XS.ifnonnullNo X19.here hx rfl (hb hby at_144) rfl ?_
      show Steps p.tables e below (T19.setTop (mkF m 147 #[.val (.int p0), .val (.int p1), .val (.int p2), .val (.int p3), .val (.ref b1), .val (.ref b6), .val (.ref b8), .val (.ref b13), .val (.int ((p3 &&& (2147483647 : Int32)) % (3 : Int32))), .val .null, .val (.ref bx16), .val (.ref b17), .unset, .unset, .unset] [(.int (1 : Int32))])) _
      refine XS.iconst X19.here hx rfl (hb hby at_147) ?_
      show Steps p.tables e below (T19.setTop (mkF m 148 #[.val (.int p0), .val (.int p1), .val (.int p2), .val (.int p3), .val (.ref b1), .val (.ref b6), .val (.ref b8), .val (.ref b13), .val (.int ((p3 &&& (2147483647 : Int32)) % (3 : Int32))), .val .null, .val (.ref bx16), .val (.ref b17), .unset, .unset, .unset] [(.int (1 : Int32)), (.int (1 : Int32))])) _
      refine XS.goto X19.here hx rfl (pc0 := 148) (pc' := 152) rfl (hb hby at_148) (by decide) (by decide) ?_
      show Steps p.tables e below (T19.setTop (mkF m 152 #[.val (.int p0), .val (.int p1), .val (.int p2), .val (.int p3), .val (.ref b1), .val (.ref b6), .val (.ref b8), .val (.ref b13), .val (.int ((p3 &&& (2147483647 : Int32)) % (3 : Int32))), .val .null, .val (.ref bx16), .val (.ref b17), .unset, .unset, .unset] [(.int (1 : Int32)), (.int (1 : Int32))])) _
      refine XS.icmpNo X19.here hx rfl (hb hby at_152) rfl (teq (by decide : (1 : Int32) = (1 : Int32))).2 ?_
      show Steps p.tables e below (T19.setTop (mkF m 155 #[.val (.int p0), .val (.int p1), .val (.int p2), .val (.int p3), .val (.ref b1), .val (.ref b6), .val (.ref b8), .val (.ref b13), .val (.int ((p3 &&& (2147483647 : Int32)) % (3 : Int32))), .val .null, .val (.ref bx16), .val (.ref b17), .unset, .unset, .unset] [])) _
      refine XS.aload X19.here hx rfl (hb hby at_155) rfl rfl ?_
      show Steps p.tables e below (T19.setTop (mkF m 157 #[.val (.int p0), .val (.int p1), .val (.int p2), .val (.int p3), .val (.ref b1), .val (.ref b6), .val (.ref b8), .val (.ref b13), .val (.int ((p3 &&& (2147483647 : Int32)) % (3 : Int32))), .val .null, .val (.ref bx16), .val (.ref b17), .unset, .unset, .unset] [(.ref b17)])) _
      refine st20.trans ?_
      show Steps p.tables e below (T20.setTop (mkF m 160 #[.val (.int p0), .val (.int p1), .val (.int p2), .val (.int p3), .val (.ref b1), .val (.ref b6), .val (.ref b8), .val (.ref b13), .val (.int ((p3 &&& (2147483647 : Int32)) % (3 : Int32))), .val .null, .val (.ref bx16), .val (.ref b17), .unset, .unset, .unset] [.null])) _
      refine XS.aload X20.here hx rfl (hb hby at_160) rfl rfl ?_
      show Steps p.tables e below (T20.setTop (mkF m 162 #[.val (.int p0), .val (.int p1), .val (.int p2), .val (.int p3), .val (.ref b1), .val (.ref b6), .val (.ref b8), .val (.ref b13), .val (.int ((p3 &&& (2147483647 : Int32)) % (3 : Int32))), .val .null, .val (.ref bx16), .val (.ref b17), .unset, .unset, .unset] [.null, .null])) _
      refine Jvm.RoadKit.acmp (g := (mkF m 162 #[.val (.int p0), .val (.int p1), .val (.int p2), .val (.int p3), .val (.ref b1), .val (.ref b6), .val (.ref b8), .val (.ref b13), .val (.int ((p3 &&& (2147483647 : Int32)) % (3 : Int32))), .val .null, .val (.ref bx16), .val (.ref b17), .unset, .unset, .unset] [.null, .null])) X20 hx rfl rfl rfl (pc0 := 162) (pc' := 165) (same := true) rfl (hb hby at_162) rfl (decide_eq_true rfl) (by decide) (by decide) ?_
      show Steps p.tables e below (T20.setTop (mkF m 165 #[.val (.int p0), .val (.int p1), .val (.int p2), .val (.int p3), .val (.ref b1), .val (.ref b6), .val (.ref b8), .val (.ref b13), .val (.int ((p3 &&& (2147483647 : Int32)) % (3 : Int32))), .val .null, .val (.ref bx16), .val (.ref b17), .unset, .unset, .unset] [])) _
      refine XS.iconst X20.here hx rfl (hb hby at_165) ?_
      show Steps p.tables e below (T20.setTop (mkF m 166 #[.val (.int p0), .val (.int p1), .val (.int p2), .val (.int p3), .val (.ref b1), .val (.ref b6), .val (.ref b8), .val (.ref b13), .val (.int ((p3 &&& (2147483647 : Int32)) % (3 : Int32))), .val .null, .val (.ref bx16), .val (.ref b17), .unset, .unset, .unset] [(.int (1 : Int32))])) _
      refine XS.goto X20.here hx rfl (pc0 := 166) (pc' := 170) rfl (hb hby at_166) (by decide) (by decide) ?_
      show Steps p.tables e below (T20.setTop (mkF m 170 #[.val (.int p0), .val (.int p1), .val (.int p2), .val (.int p3), .val (.ref b1), .val (.ref b6), .val (.ref b8), .val (.ref b13), .val (.int ((p3 &&& (2147483647 : Int32)) % (3 : Int32))), .val .null, .val (.ref bx16), .val (.ref b17), .unset, .unset, .unset] [(.int (1 : Int32))])) _
      refine XS.istore X20.here hx rfl (hb hby at_170) rfl (l' := #[.val (.int p0), .val (.int p1), .val (.int p2), .val (.int p3), .val (.ref b1), .val (.ref b6), .val (.ref b8), .val (.ref b13), .val (.int ((p3 &&& (2147483647 : Int32)) % (3 : Int32))), .val .null, .val (.ref bx16), .val (.ref b17), .val (.int (1 : Int32)), .unset, .unset]) rfl ?_
      show Steps p.tables e below (T20.setTop (mkF m 172 #[.val (.int p0), .val (.int p1), .val (.int p2), .val (.int p3), .val (.ref b1), .val (.ref b6), .val (.ref b8), .val (.ref b13), .val (.int ((p3 &&& (2147483647 : Int32)) % (3 : Int32))), .val .null, .val (.ref bx16), .val (.ref b17), .val (.int (1 : Int32)), .unset, .unset] [])) _
      refine XS.iloadN X20.here hx rfl (hb hby at_172) rfl ?_
      show Steps p.tables e below (T20.setTop (mkF m 173 #[.val (.int p0), .val (.int p1), .val (.int p2), .val (.int p3), .val (.ref b1), .val (.ref b6), .val (.ref b8), .val (.ref b13), .val (.int ((p3 &&& (2147483647 : Int32)) % (3 : Int32))), .val .null, .val (.ref bx16), .val (.ref b17), .val (.int (1 : Int32)), .unset, .unset] [(.int p3)])) _
      refine XS.bipush X20.here hx rfl (hb hby at_173) ?_
      show Steps p.tables e below (T20.setTop (mkF m 175 #[.val (.int p0), .val (.int p1), .val (.int p2), .val (.int p3), .val (.ref b1), .val (.ref b6), .val (.ref b8), .val (.ref b13), .val (.int ((p3 &&& (2147483647 : Int32)) % (3 : Int32))), .val .null, .val (.ref bx16), .val (.ref b17), .val (.int (1 : Int32)), .unset, .unset] [(.int (8 : Int32)), (.int p3)])) _
      refine XS.iushr X20.here hx rfl (hb hby at_175) rfl ?_
      show Steps p.tables e below (T20.setTop (mkF m 176 #[.val (.int p0), .val (.int p1), .val (.int p2), .val (.int p3), .val (.ref b1), .val (.ref b6), .val (.ref b8), .val (.ref b13), .val (.int ((p3 &&& (2147483647 : Int32)) % (3 : Int32))), .val .null, .val (.ref bx16), .val (.ref b17), .val (.int (1 : Int32)), .unset, .unset] [(.int ((p3.toUInt32 >>> ((8 : Int32) &&& 31).toUInt32).toInt32))])) _
      refine XS.iconst X20.here hx rfl (hb hby at_176) ?_
      show Steps p.tables e below (T20.setTop (mkF m 177 #[.val (.int p0), .val (.int p1), .val (.int p2), .val (.int p3), .val (.ref b1), .val (.ref b6), .val (.ref b8), .val (.ref b13), .val (.int ((p3 &&& (2147483647 : Int32)) % (3 : Int32))), .val .null, .val (.ref bx16), .val (.ref b17), .val (.int (1 : Int32)), .unset, .unset] [(.int (3 : Int32)), (.int ((p3.toUInt32 >>> ((8 : Int32) &&& 31).toUInt32).toInt32))])) _
      refine XS.iand X20.here hx rfl (hb hby at_177) rfl ?_
      show Steps p.tables e below (T20.setTop (mkF m 178 #[.val (.int p0), .val (.int p1), .val (.int p2), .val (.int p3), .val (.ref b1), .val (.ref b6), .val (.ref b8), .val (.ref b13), .val (.int ((p3 &&& (2147483647 : Int32)) % (3 : Int32))), .val .null, .val (.ref bx16), .val (.ref b17), .val (.int (1 : Int32)), .unset, .unset] [(.int (((p3.toUInt32 >>> ((8 : Int32) &&& 31).toUInt32).toInt32) &&& (3 : Int32)))])) _
      refine XS.istore X20.here hx rfl (hb hby at_178) rfl (l' := #[.val (.int p0), .val (.int p1), .val (.int p2), .val (.int p3), .val (.ref b1), .val (.ref b6), .val (.ref b8), .val (.ref b13), .val (.int ((p3 &&& (2147483647 : Int32)) % (3 : Int32))), .val .null, .val (.ref bx16), .val (.ref b17), .val (.int (1 : Int32)), .val (.int (((p3.toUInt32 >>> ((8 : Int32) &&& 31).toUInt32).toInt32) &&& (3 : Int32))), .unset]) rfl ?_
      show Steps p.tables e below (T20.setTop (mkF m 180 #[.val (.int p0), .val (.int p1), .val (.int p2), .val (.int p3), .val (.ref b1), .val (.ref b6), .val (.ref b8), .val (.ref b13), .val (.int ((p3 &&& (2147483647 : Int32)) % (3 : Int32))), .val .null, .val (.ref bx16), .val (.ref b17), .val (.int (1 : Int32)), .val (.int (((p3.toUInt32 >>> ((8 : Int32) &&& 31).toUInt32).toInt32) &&& (3 : Int32))), .unset] [])) _
      refine XS.iload X20.here hx rfl (hb hby at_180) rfl ?_
      exact kt
    by_cases hc182 : (((p3.toUInt32 >>> ((8 : Int32) &&& 31).toUInt32).toInt32) &&& (3 : Int32)) = (0 : Int32)
    · obtain ⟨_, _, ⟨T22, L22, k22, n22⟩, -, X22, ⟨Lc22, hQ22, l22, y22, z22⟩, st22⟩ := Jvm.LawKit.callS X20 hx (y := (⟨"com/example/watchpost/watchpost/Option", "flag", "(Ljava/lang/String;)Lcom/example/watchpost/watchpost/Option;"⟩ : MethodName)) hown (mvT hZ (hw _ (List.mem_of_getElem? (i := 76) rfl))) (mvT hZ (hw _ (List.mem_of_getElem? (i := 77) rfl))) (mvT hZ (hw _ (List.mem_of_getElem? (i := 50) rfl))) (mvT hZ (hw _ (List.mem_of_getElem? (i := 78) rfl))) (by decide) (backOf (W := 0) (rm_f1 l Z a0 hw [] b6 T18.heap n0 Z18) hZ (hw _ (List.mem_of_getElem? (i := 78) rfl)) (hw _ (List.mem_of_getElem? (i := 50) rfl)) (by decide) (by decide)) (g := (mkF m 187 #[.val (.int p0), .val (.int p1), .val (.int p2), .val (.int p3), .val (.ref b1), .val (.ref b6), .val (.ref b8), .val (.ref b13), .val (.int ((p3 &&& (2147483647 : Int32)) % (3 : Int32))), .val .null, .val (.ref bx16), .val (.ref b17), .val (.int (1 : Int32)), .val (.int (((p3.toUInt32 >>> ((8 : Int32) &&& 31).toUInt32).toInt32) &&& (3 : Int32))), .unset] [(.ref b6)])) rfl (by rw [hml]; rfl) (argsL := [(.ref b6)]) (rest := []) (lenOf pd_10 rfl) rfl (by show 2 * 0 + _ ≤ _; exact Nat.le_of_eq rfl) (hb hby at_187) (fun _ _ => ⟨rfl, e20, (by decide : 8 + 1 ≤ _), (by decide : 19 + 4 ≤ _)⟩)
      dsimp only [Pt.U, Pt.locs, Pt.cells, Pt.slots] at X22 l22 y22 z22 st22 hQ22
      subst l22 y22 z22
      obtain ⟨bx22, rfl, N22q, x22c0, x22c1, x22c2, x22c3, x22c4⟩ := hQ22
      have N22 := Fr.app N20 N22q
      have ne_b1_bx22 : b1 ≠ bx22 := Nat.ne_of_lt (Nat.lt_of_lt_of_le V5_18.lt x22c2)
      have ne_b6_bx22 : b6 ≠ bx22 := Nat.ne_of_lt (Nat.lt_of_lt_of_le A6_18.lt x22c2)
      have ne_b8_bx22 : b8 ≠ bx22 := Nat.ne_of_lt (Nat.lt_of_lt_of_le V12_18.lt x22c2)
      have ne_b13_bx22 : b13 ≠ bx22 := Nat.ne_of_lt (Nat.lt_of_lt_of_le V_b13_18.lt x22c2)
      have ne_bx16_bx22 : bx16 ≠ bx22 := Nat.ne_of_lt (Nat.lt_of_lt_of_le x16c3_18.lt x22c2)
      have ne_b17_bx22 : b17 ≠ bx22 := Nat.ne_of_lt (Nat.lt_of_lt_of_le A17_18.lt x22c2)
      have X00_22 : Old Z n0 T22.heap := X00_18.keep x22c0 all0
      have V5_22 : Arv Z T22.heap b1 k1 .char (2 : Int32) [(.int (nar .char (p0 &&& (255 : Int32)).toUInt32.toUInt16.toUInt32.toInt32)), (.int (nar .char (p1 &&& (255 : Int32)).toUInt32.toUInt16.toUInt32.toInt32))] (.int (0 : Int32)) := V5_18.keep x22c0 nin0
      have A6_22 : Exa Z T22.heap b6 "java/lang/String" := A6_18.keep x22c0
      have V12_22 : Arv Z T22.heap b8 k8 .char (2 : Int32) [(.int (nar .char (p2 &&& (255 : Int32)).toUInt32.toUInt16.toUInt32.toInt32)), (.int (nar .char (((p2.toUInt32 >>> ((8 : Int32) &&& 31).toUInt32).toInt32) &&& (255 : Int32)).toUInt32.toUInt16.toUInt32.toInt32))] (.int (0 : Int32)) := V12_18.keep x22c0 nin0
      have V_b13_22 : Arv Z T22.heap b13 k13 .char (0 : Int32) [] (.int (0 : Int32)) := V_b13_18.keep x22c0 nin0
      have x16c3_22 : Exa Z T22.heap bx16 "java/lang/String" := x16c3_18.keep x22c0
      have A17_22 : Exa Z T22.heap b17 "com/example/watchpost/watchpost/Option" := A17_18.keep x22c0
      have x18c1_22 : Fld Z T22.heap b17 "com/example/watchpost/watchpost/Option" "name" "Ljava/lang/String;" (.ref b6) := x18c1.keep x22c0 nin0
      have x18c2_22 : Fld Z T22.heap b17 "com/example/watchpost/watchpost/Option" "shortName" "Ljava/lang/String;" .null := x18c2.keep x22c0 nin0
      have x18c3_22 : Fld Z T22.heap b17 "com/example/watchpost/watchpost/Option" "value" "Ljava/lang/String;" .null := x18c3.keep x22c0 nin0
      have x18c4_22 : Fld Z T22.heap b17 "com/example/watchpost/watchpost/Option" "required" "Z" (.int (nar .boolean (0 : Int32))) := x18c4.keep x22c0 nin0
      have Sh_CS_22 : Sta Z T22.heap "java/lang/String" "COMPACT_STRINGS" "Z" (.int zc) := S_CS.ext X00_22.2
      have hk22' : _ ≤ T22.heap.size := Nat.le_trans hk18' x22c0.1
      have Z22 : n0 ≤ T22.heap.size := Nat.le_trans Z18 x22c0.1
      obtain ⟨cq23, kq23, q23a, q23b, q23c⟩ := isOf hZ rfl x22c3
      obtain ⟨_, _, ⟨T23, L23, k23, n23⟩, -, X23, ⟨Lc23, hQ23, l23, y23, z23⟩, st23⟩ := X22.virtualBack hx (y := (⟨"com/example/watchpost/watchpost/Option", "isFlag", "()Z"⟩ : MethodName)) (z := (⟨"com/example/watchpost/watchpost/Option", "isFlag", "()Z"⟩ : MethodName)) hown (mvT hZ (hw _ (List.mem_of_getElem? (i := 66) rfl))) (mvT hZ (hw _ (List.mem_of_getElem? (i := 67) rfl))) (notFace_of_selects (args := #[]) (mvT hZ (hw _ (List.mem_of_getElem? (i := 69) rfl)))) (mvT hZ (hw _ (List.mem_of_getElem? (i := 69) rfl))) (mvT hZ (hw _ (List.mem_of_getElem? (i := 68) rfl))) (by decide) (backOf (W := 0) (rm_flag0 l Z a0 hw [] bx22 T22.heap n0 Z22 x22c4) hZ (hw _ (List.mem_of_getElem? (i := 70) rfl)) (hw _ (List.mem_of_getElem? (i := 50) rfl)) (by decide) (by decide)) q23a q23c (g := (mkF m 190 #[.val (.int p0), .val (.int p1), .val (.int p2), .val (.int p3), .val (.ref b1), .val (.ref b6), .val (.ref b8), .val (.ref b13), .val (.int ((p3 &&& (2147483647 : Int32)) % (3 : Int32))), .val .null, .val (.ref bx16), .val (.ref b17), .val (.int (1 : Int32)), .val (.int (((p3.toUInt32 >>> ((8 : Int32) &&& 31).toUInt32).toInt32) &&& (3 : Int32))), .unset] [(.ref bx22)])) rfl (by rw [hml]; rfl) (Steps.refl _) (argsL := []) (rest := []) (lenOf pd_8 rfl) rfl (by show 2 * 0 + _ ≤ _; exact Nat.le_of_eq rfl) (hb hby at_190) (fun _ _ => ⟨rfl, rfl, (by decide : 9 + 0 ≤ _), (by decide : 23 + 0 ≤ _)⟩)
      dsimp only [Pt.U, Pt.locs, Pt.cells, Pt.slots] at X23 l23 y23 z23 st23 hQ23
      subst l23 y23 z23
      obtain ⟨rfl, N23q, e23⟩ := hQ23
      have N23 := Fr.app N22 N23q
      obtain ⟨fs, hr, hrun, hended, hREW⟩ := X23.leaveW hS0 (by first | exact hk22' | (rw [e23]; exact hk22')) (v := some (.int (1 : Int32))) (fun h => by rw [Bd.returns] at h; cases h)
      refine ⟨_, _, pre0 _ ?_, hrun, hended, _, _, rfl, ?_, hREW.1, hREW.2.1, hREW.2.2.1, hREW.2.2.2.mono (by decide) (by decide)⟩
      · refine k21 _ ?_
        show Steps p.tables e below (T20.setTop (mkF m 182 #[.val (.int p0), .val (.int p1), .val (.int p2), .val (.int p3), .val (.ref b1), .val (.ref b6), .val (.ref b8), .val (.ref b13), .val (.int ((p3 &&& (2147483647 : Int32)) % (3 : Int32))), .val .null, .val (.ref bx16), .val (.ref b17), .val (.int (1 : Int32)), .val (.int (((p3.toUInt32 >>> ((8 : Int32) &&& 31).toUInt32).toInt32) &&& (3 : Int32))), .unset] [(.int (((p3.toUInt32 >>> ((8 : Int32) &&& 31).toUInt32).toInt32) &&& (3 : Int32)))])) _
        refine XS.ifNo X20.here hx rfl (hb hby at_182) rfl ((if0 _ _).trans (teq hc182).2) ?_
        show Steps p.tables e below (T20.setTop (mkF m 185 #[.val (.int p0), .val (.int p1), .val (.int p2), .val (.int p3), .val (.ref b1), .val (.ref b6), .val (.ref b8), .val (.ref b13), .val (.int ((p3 &&& (2147483647 : Int32)) % (3 : Int32))), .val .null, .val (.ref bx16), .val (.ref b17), .val (.int (1 : Int32)), .val (.int (((p3.toUInt32 >>> ((8 : Int32) &&& 31).toUInt32).toInt32) &&& (3 : Int32))), .unset] [])) _
        refine XS.aload X20.here hx rfl (hb hby at_185) rfl rfl ?_
        show Steps p.tables e below (T20.setTop (mkF m 187 #[.val (.int p0), .val (.int p1), .val (.int p2), .val (.int p3), .val (.ref b1), .val (.ref b6), .val (.ref b8), .val (.ref b13), .val (.int ((p3 &&& (2147483647 : Int32)) % (3 : Int32))), .val .null, .val (.ref bx16), .val (.ref b17), .val (.int (1 : Int32)), .val (.int (((p3.toUInt32 >>> ((8 : Int32) &&& 31).toUInt32).toInt32) &&& (3 : Int32))), .unset] [(.ref b6)])) _
        refine st22 _ ?_
        show Steps p.tables e below (T22.setTop (mkF m 190 #[.val (.int p0), .val (.int p1), .val (.int p2), .val (.int p3), .val (.ref b1), .val (.ref b6), .val (.ref b8), .val (.ref b13), .val (.int ((p3 &&& (2147483647 : Int32)) % (3 : Int32))), .val .null, .val (.ref bx16), .val (.ref b17), .val (.int (1 : Int32)), .val (.int (((p3.toUInt32 >>> ((8 : Int32) &&& 31).toUInt32).toInt32) &&& (3 : Int32))), .unset] [(.ref bx22)])) _
        refine st23.trans ?_
        show Steps p.tables e below (T23.setTop (mkF m 193 #[.val (.int p0), .val (.int p1), .val (.int p2), .val (.int p3), .val (.ref b1), .val (.ref b6), .val (.ref b8), .val (.ref b13), .val (.int ((p3 &&& (2147483647 : Int32)) % (3 : Int32))), .val .null, .val (.ref bx16), .val (.ref b17), .val (.int (1 : Int32)), .val (.int (((p3.toUInt32 >>> ((8 : Int32) &&& 31).toUInt32).toInt32) &&& (3 : Int32))), .unset] [(.int (1 : Int32))])) _
        refine XS.istore X23.here hx rfl (hb hby at_193) rfl (l' := #[.val (.int p0), .val (.int p1), .val (.int p2), .val (.int p3), .val (.ref b1), .val (.ref b6), .val (.ref b8), .val (.ref b13), .val (.int ((p3 &&& (2147483647 : Int32)) % (3 : Int32))), .val .null, .val (.ref bx16), .val (.ref b17), .val (.int (1 : Int32)), .val (.int (((p3.toUInt32 >>> ((8 : Int32) &&& 31).toUInt32).toInt32) &&& (3 : Int32))), .val (.int (1 : Int32))]) rfl ?_
        show Steps p.tables e below (T23.setTop (mkF m 195 #[.val (.int p0), .val (.int p1), .val (.int p2), .val (.int p3), .val (.ref b1), .val (.ref b6), .val (.ref b8), .val (.ref b13), .val (.int ((p3 &&& (2147483647 : Int32)) % (3 : Int32))), .val .null, .val (.ref bx16), .val (.ref b17), .val (.int (1 : Int32)), .val (.int (((p3.toUInt32 >>> ((8 : Int32) &&& 31).toUInt32).toInt32) &&& (3 : Int32))), .val (.int (1 : Int32))] [])) _
        refine XS.goto X23.here hx rfl (pc0 := 195) (pc' := 250) rfl (hb hby at_195) (by decide) (by decide) ?_
        show Steps p.tables e below (T23.setTop (mkF m 250 #[.val (.int p0), .val (.int p1), .val (.int p2), .val (.int p3), .val (.ref b1), .val (.ref b6), .val (.ref b8), .val (.ref b13), .val (.int ((p3 &&& (2147483647 : Int32)) % (3 : Int32))), .val .null, .val (.ref bx16), .val (.ref b17), .val (.int (1 : Int32)), .val (.int (((p3.toUInt32 >>> ((8 : Int32) &&& 31).toUInt32).toInt32) &&& (3 : Int32))), .val (.int (1 : Int32))] [])) _
        refine XS.iload X23.here hx rfl (hb hby at_250) rfl ?_
        show Steps p.tables e below (T23.setTop (mkF m 252 #[.val (.int p0), .val (.int p1), .val (.int p2), .val (.int p3), .val (.ref b1), .val (.ref b6), .val (.ref b8), .val (.ref b13), .val (.int ((p3 &&& (2147483647 : Int32)) % (3 : Int32))), .val .null, .val (.ref bx16), .val (.ref b17), .val (.int (1 : Int32)), .val (.int (((p3.toUInt32 >>> ((8 : Int32) &&& 31).toUInt32).toInt32) &&& (3 : Int32))), .val (.int (1 : Int32))] [(.int (1 : Int32))])) _
        refine XS.ifNo X23.here hx rfl (hb hby at_252) rfl ((if0 _ _).trans (feq (by decide : ¬ ((1 : Int32) = (0 : Int32)))).1) ?_
        show Steps p.tables e below (T23.setTop (mkF m 255 #[.val (.int p0), .val (.int p1), .val (.int p2), .val (.int p3), .val (.ref b1), .val (.ref b6), .val (.ref b8), .val (.ref b13), .val (.int ((p3 &&& (2147483647 : Int32)) % (3 : Int32))), .val .null, .val (.ref bx16), .val (.ref b17), .val (.int (1 : Int32)), .val (.int (((p3.toUInt32 >>> ((8 : Int32) &&& 31).toUInt32).toInt32) &&& (3 : Int32))), .val (.int (1 : Int32))] [])) _
        refine XS.iload X23.here hx rfl (hb hby at_255) rfl ?_
        show Steps p.tables e below (T23.setTop (mkF m 257 #[.val (.int p0), .val (.int p1), .val (.int p2), .val (.int p3), .val (.ref b1), .val (.ref b6), .val (.ref b8), .val (.ref b13), .val (.int ((p3 &&& (2147483647 : Int32)) % (3 : Int32))), .val .null, .val (.ref bx16), .val (.ref b17), .val (.int (1 : Int32)), .val (.int (((p3.toUInt32 >>> ((8 : Int32) &&& 31).toUInt32).toInt32) &&& (3 : Int32))), .val (.int (1 : Int32))] [(.int (1 : Int32))])) _
        refine XS.ifNo X23.here hx rfl (hb hby at_257) rfl ((if0 _ _).trans (feq (by decide : ¬ ((1 : Int32) = (0 : Int32)))).1) ?_
        show Steps p.tables e below (T23.setTop (mkF m 260 #[.val (.int p0), .val (.int p1), .val (.int p2), .val (.int p3), .val (.ref b1), .val (.ref b6), .val (.ref b8), .val (.ref b13), .val (.int ((p3 &&& (2147483647 : Int32)) % (3 : Int32))), .val .null, .val (.ref bx16), .val (.ref b17), .val (.int (1 : Int32)), .val (.int (((p3.toUInt32 >>> ((8 : Int32) &&& 31).toUInt32).toInt32) &&& (3 : Int32))), .val (.int (1 : Int32))] [])) _
        refine XS.iconst X23.here hx rfl (hb hby at_260) ?_
        show Steps p.tables e below (T23.setTop (mkF m 261 #[.val (.int p0), .val (.int p1), .val (.int p2), .val (.int p3), .val (.ref b1), .val (.ref b6), .val (.ref b8), .val (.ref b13), .val (.int ((p3 &&& (2147483647 : Int32)) % (3 : Int32))), .val .null, .val (.ref bx16), .val (.ref b17), .val (.int (1 : Int32)), .val (.int (((p3.toUInt32 >>> ((8 : Int32) &&& 31).toUInt32).toInt32) &&& (3 : Int32))), .val (.int (1 : Int32))] [(.int (1 : Int32))])) _
        refine XS.goto X23.here hx rfl (pc0 := 261) (pc' := 265) rfl (hb hby at_261) (by decide) (by decide) ?_
        show Steps p.tables e below (T23.setTop (mkF m 265 #[.val (.int p0), .val (.int p1), .val (.int p2), .val (.int p3), .val (.ref b1), .val (.ref b6), .val (.ref b8), .val (.ref b13), .val (.int ((p3 &&& (2147483647 : Int32)) % (3 : Int32))), .val .null, .val (.ref bx16), .val (.ref b17), .val (.int (1 : Int32)), .val (.int (((p3.toUInt32 >>> ((8 : Int32) &&& 31).toUInt32).toInt32) &&& (3 : Int32))), .val (.int (1 : Int32))] [(.int (1 : Int32))])) _
        exact retN X23 hx (t := .boolean) Bd.returns (by simp) (hb hby at_265) hr
      · show Q_rm_law Z p0 p1 p2 p3 zc h0 n0 _ T23.heap _
        rw [e23]
        exact ⟨rfl, N23, trivial⟩
    · have k24 : ∀ target, Steps p.tables e below (T20.setTop (mkF m 201 #[.val (.int p0), .val (.int p1), .val (.int p2), .val (.int p3), .val (.ref b1), .val (.ref b6), .val (.ref b8), .val (.ref b13), .val (.int ((p3 &&& (2147483647 : Int32)) % (3 : Int32))), .val .null, .val (.ref bx16), .val (.ref b17), .val (.int (1 : Int32)), .val (.int (((p3.toUInt32 >>> ((8 : Int32) &&& 31).toUInt32).toInt32) &&& (3 : Int32))), .unset] [(.int (1 : Int32)), (.int (((p3.toUInt32 >>> ((8 : Int32) &&& 31).toUInt32).toInt32) &&& (3 : Int32)))])) target → Steps p.tables e below (s₁.setTop (mkF m 0 #[.val (.int p0), .val (.int p1), .val (.int p2), .val (.int p3), .unset, .unset, .unset, .unset, .unset, .unset, .unset, .unset, .unset, .unset, .unset] [])) target := by
        intro target kt
        refine k21 _ ?_
        show Steps p.tables e below (T20.setTop (mkF m 182 #[.val (.int p0), .val (.int p1), .val (.int p2), .val (.int p3), .val (.ref b1), .val (.ref b6), .val (.ref b8), .val (.ref b13), .val (.int ((p3 &&& (2147483647 : Int32)) % (3 : Int32))), .val .null, .val (.ref bx16), .val (.ref b17), .val (.int (1 : Int32)), .val (.int (((p3.toUInt32 >>> ((8 : Int32) &&& 31).toUInt32).toInt32) &&& (3 : Int32))), .unset] [(.int (((p3.toUInt32 >>> ((8 : Int32) &&& 31).toUInt32).toInt32) &&& (3 : Int32)))])) _
        refine XS.ifYes X20.here hx rfl (pc0 := 182) (pc' := 198) rfl (hb hby at_182) rfl ((if0 _ _).trans (feq hc182).2) (by decide) (by decide) ?_
        show Steps p.tables e below (T20.setTop (mkF m 198 #[.val (.int p0), .val (.int p1), .val (.int p2), .val (.int p3), .val (.ref b1), .val (.ref b6), .val (.ref b8), .val (.ref b13), .val (.int ((p3 &&& (2147483647 : Int32)) % (3 : Int32))), .val .null, .val (.ref bx16), .val (.ref b17), .val (.int (1 : Int32)), .val (.int (((p3.toUInt32 >>> ((8 : Int32) &&& 31).toUInt32).toInt32) &&& (3 : Int32))), .unset] [])) _
        refine XS.iload X20.here hx rfl (hb hby at_198) rfl ?_
        show Steps p.tables e below (T20.setTop (mkF m 200 #[.val (.int p0), .val (.int p1), .val (.int p2), .val (.int p3), .val (.ref b1), .val (.ref b6), .val (.ref b8), .val (.ref b13), .val (.int ((p3 &&& (2147483647 : Int32)) % (3 : Int32))), .val .null, .val (.ref bx16), .val (.ref b17), .val (.int (1 : Int32)), .val (.int (((p3.toUInt32 >>> ((8 : Int32) &&& 31).toUInt32).toInt32) &&& (3 : Int32))), .unset] [(.int (((p3.toUInt32 >>> ((8 : Int32) &&& 31).toUInt32).toInt32) &&& (3 : Int32)))])) _
        refine XS.iconst X20.here hx rfl (hb hby at_200) ?_
        exact kt
      by_cases hc201 : (((p3.toUInt32 >>> ((8 : Int32) &&& 31).toUInt32).toInt32) &&& (3 : Int32)) = (1 : Int32)
      · obtain ⟨_, _, ⟨T25, L25, k25, n25⟩, -, X25, ⟨Lc25, hQ25, l25, y25, z25⟩, st25⟩ := Jvm.LawKit.callS X20 hx (y := (⟨"com/example/watchpost/watchpost/Option", "flag", "(Ljava/lang/String;Ljava/lang/String;)Lcom/example/watchpost/watchpost/Option;"⟩ : MethodName)) hown (mvT hZ (hw _ (List.mem_of_getElem? (i := 81) rfl))) (mvT hZ (hw _ (List.mem_of_getElem? (i := 82) rfl))) (mvT hZ (hw _ (List.mem_of_getElem? (i := 50) rfl))) (mvT hZ (hw _ (List.mem_of_getElem? (i := 83) rfl))) (by decide) (backOf (W := 0) (rm_f2 l Z a0 hw [] b6 bx16 T18.heap n0 Z18) hZ (hw _ (List.mem_of_getElem? (i := 83) rfl)) (hw _ (List.mem_of_getElem? (i := 50) rfl)) (by decide) (by decide)) (g := (mkF m 208 #[.val (.int p0), .val (.int p1), .val (.int p2), .val (.int p3), .val (.ref b1), .val (.ref b6), .val (.ref b8), .val (.ref b13), .val (.int ((p3 &&& (2147483647 : Int32)) % (3 : Int32))), .val .null, .val (.ref bx16), .val (.ref b17), .val (.int (1 : Int32)), .val (.int (((p3.toUInt32 >>> ((8 : Int32) &&& 31).toUInt32).toInt32) &&& (3 : Int32))), .unset] [(.ref bx16), (.ref b6)])) rfl (by rw [hml]; rfl) (argsL := [(.ref b6), (.ref bx16)]) (rest := []) (lenOf pd_11 rfl) rfl (by show 2 * 0 + _ ≤ _; exact Nat.le_of_eq rfl) (hb hby at_208) (fun _ _ => ⟨rfl, e20, (by decide : 8 + 1 ≤ _), (by decide : 19 + 4 ≤ _)⟩)
        dsimp only [Pt.U, Pt.locs, Pt.cells, Pt.slots] at X25 l25 y25 z25 st25 hQ25
        subst l25 y25 z25
        obtain ⟨bx25, rfl, N25q, x25c0, x25c1, x25c2, x25c3, x25c4⟩ := hQ25
        have N25 := Fr.app N20 N25q
        have ne_b1_bx25 : b1 ≠ bx25 := Nat.ne_of_lt (Nat.lt_of_lt_of_le V5_18.lt x25c2)
        have ne_b6_bx25 : b6 ≠ bx25 := Nat.ne_of_lt (Nat.lt_of_lt_of_le A6_18.lt x25c2)
        have ne_b8_bx25 : b8 ≠ bx25 := Nat.ne_of_lt (Nat.lt_of_lt_of_le V12_18.lt x25c2)
        have ne_b13_bx25 : b13 ≠ bx25 := Nat.ne_of_lt (Nat.lt_of_lt_of_le V_b13_18.lt x25c2)
        have ne_bx16_bx25 : bx16 ≠ bx25 := Nat.ne_of_lt (Nat.lt_of_lt_of_le x16c3_18.lt x25c2)
        have ne_b17_bx25 : b17 ≠ bx25 := Nat.ne_of_lt (Nat.lt_of_lt_of_le A17_18.lt x25c2)
        have X00_25 : Old Z n0 T25.heap := X00_18.keep x25c0 all0
        have V5_25 : Arv Z T25.heap b1 k1 .char (2 : Int32) [(.int (nar .char (p0 &&& (255 : Int32)).toUInt32.toUInt16.toUInt32.toInt32)), (.int (nar .char (p1 &&& (255 : Int32)).toUInt32.toUInt16.toUInt32.toInt32))] (.int (0 : Int32)) := V5_18.keep x25c0 nin0
        have A6_25 : Exa Z T25.heap b6 "java/lang/String" := A6_18.keep x25c0
        have V12_25 : Arv Z T25.heap b8 k8 .char (2 : Int32) [(.int (nar .char (p2 &&& (255 : Int32)).toUInt32.toUInt16.toUInt32.toInt32)), (.int (nar .char (((p2.toUInt32 >>> ((8 : Int32) &&& 31).toUInt32).toInt32) &&& (255 : Int32)).toUInt32.toUInt16.toUInt32.toInt32))] (.int (0 : Int32)) := V12_18.keep x25c0 nin0
        have V_b13_25 : Arv Z T25.heap b13 k13 .char (0 : Int32) [] (.int (0 : Int32)) := V_b13_18.keep x25c0 nin0
        have x16c3_25 : Exa Z T25.heap bx16 "java/lang/String" := x16c3_18.keep x25c0
        have A17_25 : Exa Z T25.heap b17 "com/example/watchpost/watchpost/Option" := A17_18.keep x25c0
        have x18c1_25 : Fld Z T25.heap b17 "com/example/watchpost/watchpost/Option" "name" "Ljava/lang/String;" (.ref b6) := x18c1.keep x25c0 nin0
        have x18c2_25 : Fld Z T25.heap b17 "com/example/watchpost/watchpost/Option" "shortName" "Ljava/lang/String;" .null := x18c2.keep x25c0 nin0
        have x18c3_25 : Fld Z T25.heap b17 "com/example/watchpost/watchpost/Option" "value" "Ljava/lang/String;" .null := x18c3.keep x25c0 nin0
        have x18c4_25 : Fld Z T25.heap b17 "com/example/watchpost/watchpost/Option" "required" "Z" (.int (nar .boolean (0 : Int32))) := x18c4.keep x25c0 nin0
        have Sh_CS_25 : Sta Z T25.heap "java/lang/String" "COMPACT_STRINGS" "Z" (.int zc) := S_CS.ext X00_25.2
        have hk25' : _ ≤ T25.heap.size := Nat.le_trans hk18' x25c0.1
        have Z25 : n0 ≤ T25.heap.size := Nat.le_trans Z18 x25c0.1
        obtain ⟨cq26, kq26, q26a, q26b, q26c⟩ := isOf hZ rfl x25c3
        obtain ⟨_, _, ⟨T26, L26, k26, n26⟩, -, X26, ⟨Lc26, hQ26, l26, y26, z26⟩, st26⟩ := X25.virtualBack hx (y := (⟨"com/example/watchpost/watchpost/Option", "isFlag", "()Z"⟩ : MethodName)) (z := (⟨"com/example/watchpost/watchpost/Option", "isFlag", "()Z"⟩ : MethodName)) hown (mvT hZ (hw _ (List.mem_of_getElem? (i := 66) rfl))) (mvT hZ (hw _ (List.mem_of_getElem? (i := 67) rfl))) (notFace_of_selects (args := #[]) (mvT hZ (hw _ (List.mem_of_getElem? (i := 69) rfl)))) (mvT hZ (hw _ (List.mem_of_getElem? (i := 69) rfl))) (mvT hZ (hw _ (List.mem_of_getElem? (i := 68) rfl))) (by decide) (backOf (W := 0) (rm_flag0 l Z a0 hw [] bx25 T25.heap n0 Z25 x25c4) hZ (hw _ (List.mem_of_getElem? (i := 70) rfl)) (hw _ (List.mem_of_getElem? (i := 50) rfl)) (by decide) (by decide)) q26a q26c (g := (mkF m 211 #[.val (.int p0), .val (.int p1), .val (.int p2), .val (.int p3), .val (.ref b1), .val (.ref b6), .val (.ref b8), .val (.ref b13), .val (.int ((p3 &&& (2147483647 : Int32)) % (3 : Int32))), .val .null, .val (.ref bx16), .val (.ref b17), .val (.int (1 : Int32)), .val (.int (((p3.toUInt32 >>> ((8 : Int32) &&& 31).toUInt32).toInt32) &&& (3 : Int32))), .unset] [(.ref bx25)])) rfl (by rw [hml]; rfl) (Steps.refl _) (argsL := []) (rest := []) (lenOf pd_8 rfl) rfl (by show 2 * 0 + _ ≤ _; exact Nat.le_of_eq rfl) (hb hby at_211) (fun _ _ => ⟨rfl, rfl, (by decide : 9 + 0 ≤ _), (by decide : 23 + 0 ≤ _)⟩)
        dsimp only [Pt.U, Pt.locs, Pt.cells, Pt.slots] at X26 l26 y26 z26 st26 hQ26
        subst l26 y26 z26
        obtain ⟨rfl, N26q, e26⟩ := hQ26
        have N26 := Fr.app N25 N26q
        obtain ⟨fs, hr, hrun, hended, hREW⟩ := X26.leaveW hS0 (by first | exact hk25' | (rw [e26]; exact hk25')) (v := some (.int (1 : Int32))) (fun h => by rw [Bd.returns] at h; cases h)
        refine ⟨_, _, pre0 _ ?_, hrun, hended, _, _, rfl, ?_, hREW.1, hREW.2.1, hREW.2.2.1, hREW.2.2.2.mono (by decide) (by decide)⟩
        · refine k24 _ ?_
          show Steps p.tables e below (T20.setTop (mkF m 201 #[.val (.int p0), .val (.int p1), .val (.int p2), .val (.int p3), .val (.ref b1), .val (.ref b6), .val (.ref b8), .val (.ref b13), .val (.int ((p3 &&& (2147483647 : Int32)) % (3 : Int32))), .val .null, .val (.ref bx16), .val (.ref b17), .val (.int (1 : Int32)), .val (.int (((p3.toUInt32 >>> ((8 : Int32) &&& 31).toUInt32).toInt32) &&& (3 : Int32))), .unset] [(.int (1 : Int32)), (.int (((p3.toUInt32 >>> ((8 : Int32) &&& 31).toUInt32).toInt32) &&& (3 : Int32)))])) _
          refine XS.icmpNo X20.here hx rfl (hb hby at_201) rfl (teq hc201).2 ?_
          show Steps p.tables e below (T20.setTop (mkF m 204 #[.val (.int p0), .val (.int p1), .val (.int p2), .val (.int p3), .val (.ref b1), .val (.ref b6), .val (.ref b8), .val (.ref b13), .val (.int ((p3 &&& (2147483647 : Int32)) % (3 : Int32))), .val .null, .val (.ref bx16), .val (.ref b17), .val (.int (1 : Int32)), .val (.int (((p3.toUInt32 >>> ((8 : Int32) &&& 31).toUInt32).toInt32) &&& (3 : Int32))), .unset] [])) _
          refine XS.aload X20.here hx rfl (hb hby at_204) rfl rfl ?_
          show Steps p.tables e below (T20.setTop (mkF m 206 #[.val (.int p0), .val (.int p1), .val (.int p2), .val (.int p3), .val (.ref b1), .val (.ref b6), .val (.ref b8), .val (.ref b13), .val (.int ((p3 &&& (2147483647 : Int32)) % (3 : Int32))), .val .null, .val (.ref bx16), .val (.ref b17), .val (.int (1 : Int32)), .val (.int (((p3.toUInt32 >>> ((8 : Int32) &&& 31).toUInt32).toInt32) &&& (3 : Int32))), .unset] [(.ref b6)])) _
          refine XS.aload X20.here hx rfl (hb hby at_206) rfl rfl ?_
          show Steps p.tables e below (T20.setTop (mkF m 208 #[.val (.int p0), .val (.int p1), .val (.int p2), .val (.int p3), .val (.ref b1), .val (.ref b6), .val (.ref b8), .val (.ref b13), .val (.int ((p3 &&& (2147483647 : Int32)) % (3 : Int32))), .val .null, .val (.ref bx16), .val (.ref b17), .val (.int (1 : Int32)), .val (.int (((p3.toUInt32 >>> ((8 : Int32) &&& 31).toUInt32).toInt32) &&& (3 : Int32))), .unset] [(.ref bx16), (.ref b6)])) _
          refine st25 _ ?_
          show Steps p.tables e below (T25.setTop (mkF m 211 #[.val (.int p0), .val (.int p1), .val (.int p2), .val (.int p3), .val (.ref b1), .val (.ref b6), .val (.ref b8), .val (.ref b13), .val (.int ((p3 &&& (2147483647 : Int32)) % (3 : Int32))), .val .null, .val (.ref bx16), .val (.ref b17), .val (.int (1 : Int32)), .val (.int (((p3.toUInt32 >>> ((8 : Int32) &&& 31).toUInt32).toInt32) &&& (3 : Int32))), .unset] [(.ref bx25)])) _
          refine st26.trans ?_
          show Steps p.tables e below (T26.setTop (mkF m 214 #[.val (.int p0), .val (.int p1), .val (.int p2), .val (.int p3), .val (.ref b1), .val (.ref b6), .val (.ref b8), .val (.ref b13), .val (.int ((p3 &&& (2147483647 : Int32)) % (3 : Int32))), .val .null, .val (.ref bx16), .val (.ref b17), .val (.int (1 : Int32)), .val (.int (((p3.toUInt32 >>> ((8 : Int32) &&& 31).toUInt32).toInt32) &&& (3 : Int32))), .unset] [(.int (1 : Int32))])) _
          refine XS.istore X26.here hx rfl (hb hby at_214) rfl (l' := #[.val (.int p0), .val (.int p1), .val (.int p2), .val (.int p3), .val (.ref b1), .val (.ref b6), .val (.ref b8), .val (.ref b13), .val (.int ((p3 &&& (2147483647 : Int32)) % (3 : Int32))), .val .null, .val (.ref bx16), .val (.ref b17), .val (.int (1 : Int32)), .val (.int (((p3.toUInt32 >>> ((8 : Int32) &&& 31).toUInt32).toInt32) &&& (3 : Int32))), .val (.int (1 : Int32))]) rfl ?_
          show Steps p.tables e below (T26.setTop (mkF m 216 #[.val (.int p0), .val (.int p1), .val (.int p2), .val (.int p3), .val (.ref b1), .val (.ref b6), .val (.ref b8), .val (.ref b13), .val (.int ((p3 &&& (2147483647 : Int32)) % (3 : Int32))), .val .null, .val (.ref bx16), .val (.ref b17), .val (.int (1 : Int32)), .val (.int (((p3.toUInt32 >>> ((8 : Int32) &&& 31).toUInt32).toInt32) &&& (3 : Int32))), .val (.int (1 : Int32))] [])) _
          refine XS.goto X26.here hx rfl (pc0 := 216) (pc' := 250) rfl (hb hby at_216) (by decide) (by decide) ?_
          show Steps p.tables e below (T26.setTop (mkF m 250 #[.val (.int p0), .val (.int p1), .val (.int p2), .val (.int p3), .val (.ref b1), .val (.ref b6), .val (.ref b8), .val (.ref b13), .val (.int ((p3 &&& (2147483647 : Int32)) % (3 : Int32))), .val .null, .val (.ref bx16), .val (.ref b17), .val (.int (1 : Int32)), .val (.int (((p3.toUInt32 >>> ((8 : Int32) &&& 31).toUInt32).toInt32) &&& (3 : Int32))), .val (.int (1 : Int32))] [])) _
          refine XS.iload X26.here hx rfl (hb hby at_250) rfl ?_
          show Steps p.tables e below (T26.setTop (mkF m 252 #[.val (.int p0), .val (.int p1), .val (.int p2), .val (.int p3), .val (.ref b1), .val (.ref b6), .val (.ref b8), .val (.ref b13), .val (.int ((p3 &&& (2147483647 : Int32)) % (3 : Int32))), .val .null, .val (.ref bx16), .val (.ref b17), .val (.int (1 : Int32)), .val (.int (((p3.toUInt32 >>> ((8 : Int32) &&& 31).toUInt32).toInt32) &&& (3 : Int32))), .val (.int (1 : Int32))] [(.int (1 : Int32))])) _
          refine XS.ifNo X26.here hx rfl (hb hby at_252) rfl ((if0 _ _).trans (feq (by decide : ¬ ((1 : Int32) = (0 : Int32)))).1) ?_
          show Steps p.tables e below (T26.setTop (mkF m 255 #[.val (.int p0), .val (.int p1), .val (.int p2), .val (.int p3), .val (.ref b1), .val (.ref b6), .val (.ref b8), .val (.ref b13), .val (.int ((p3 &&& (2147483647 : Int32)) % (3 : Int32))), .val .null, .val (.ref bx16), .val (.ref b17), .val (.int (1 : Int32)), .val (.int (((p3.toUInt32 >>> ((8 : Int32) &&& 31).toUInt32).toInt32) &&& (3 : Int32))), .val (.int (1 : Int32))] [])) _
          refine XS.iload X26.here hx rfl (hb hby at_255) rfl ?_
          show Steps p.tables e below (T26.setTop (mkF m 257 #[.val (.int p0), .val (.int p1), .val (.int p2), .val (.int p3), .val (.ref b1), .val (.ref b6), .val (.ref b8), .val (.ref b13), .val (.int ((p3 &&& (2147483647 : Int32)) % (3 : Int32))), .val .null, .val (.ref bx16), .val (.ref b17), .val (.int (1 : Int32)), .val (.int (((p3.toUInt32 >>> ((8 : Int32) &&& 31).toUInt32).toInt32) &&& (3 : Int32))), .val (.int (1 : Int32))] [(.int (1 : Int32))])) _
          refine XS.ifNo X26.here hx rfl (hb hby at_257) rfl ((if0 _ _).trans (feq (by decide : ¬ ((1 : Int32) = (0 : Int32)))).1) ?_
          show Steps p.tables e below (T26.setTop (mkF m 260 #[.val (.int p0), .val (.int p1), .val (.int p2), .val (.int p3), .val (.ref b1), .val (.ref b6), .val (.ref b8), .val (.ref b13), .val (.int ((p3 &&& (2147483647 : Int32)) % (3 : Int32))), .val .null, .val (.ref bx16), .val (.ref b17), .val (.int (1 : Int32)), .val (.int (((p3.toUInt32 >>> ((8 : Int32) &&& 31).toUInt32).toInt32) &&& (3 : Int32))), .val (.int (1 : Int32))] [])) _
          refine XS.iconst X26.here hx rfl (hb hby at_260) ?_
          show Steps p.tables e below (T26.setTop (mkF m 261 #[.val (.int p0), .val (.int p1), .val (.int p2), .val (.int p3), .val (.ref b1), .val (.ref b6), .val (.ref b8), .val (.ref b13), .val (.int ((p3 &&& (2147483647 : Int32)) % (3 : Int32))), .val .null, .val (.ref bx16), .val (.ref b17), .val (.int (1 : Int32)), .val (.int (((p3.toUInt32 >>> ((8 : Int32) &&& 31).toUInt32).toInt32) &&& (3 : Int32))), .val (.int (1 : Int32))] [(.int (1 : Int32))])) _
          refine XS.goto X26.here hx rfl (pc0 := 261) (pc' := 265) rfl (hb hby at_261) (by decide) (by decide) ?_
          show Steps p.tables e below (T26.setTop (mkF m 265 #[.val (.int p0), .val (.int p1), .val (.int p2), .val (.int p3), .val (.ref b1), .val (.ref b6), .val (.ref b8), .val (.ref b13), .val (.int ((p3 &&& (2147483647 : Int32)) % (3 : Int32))), .val .null, .val (.ref bx16), .val (.ref b17), .val (.int (1 : Int32)), .val (.int (((p3.toUInt32 >>> ((8 : Int32) &&& 31).toUInt32).toInt32) &&& (3 : Int32))), .val (.int (1 : Int32))] [(.int (1 : Int32))])) _
          exact retN X26 hx (t := .boolean) Bd.returns (by simp) (hb hby at_265) hr
        · show Q_rm_law Z p0 p1 p2 p3 zc h0 n0 _ T26.heap _
          rw [e26]
          exact ⟨rfl, N26, trivial⟩
      · obtain ⟨fs, hr, hrun, hended, hREW⟩ := X20.leaveW hS0 (by first | exact hk18' | (rw [e20]; exact hk18')) (v := some (.int (1 : Int32))) (fun h => by rw [Bd.returns] at h; cases h)
        refine ⟨_, _, pre0 _ ?_, hrun, hended, _, _, rfl, ?_, hREW.1, hREW.2.1, hREW.2.2.1, hREW.2.2.2.mono (by decide) (by decide)⟩
        · refine k24 _ ?_
          show Steps p.tables e below (T20.setTop (mkF m 201 #[.val (.int p0), .val (.int p1), .val (.int p2), .val (.int p3), .val (.ref b1), .val (.ref b6), .val (.ref b8), .val (.ref b13), .val (.int ((p3 &&& (2147483647 : Int32)) % (3 : Int32))), .val .null, .val (.ref bx16), .val (.ref b17), .val (.int (1 : Int32)), .val (.int (((p3.toUInt32 >>> ((8 : Int32) &&& 31).toUInt32).toInt32) &&& (3 : Int32))), .unset] [(.int (1 : Int32)), (.int (((p3.toUInt32 >>> ((8 : Int32) &&& 31).toUInt32).toInt32) &&& (3 : Int32)))])) _
          refine XS.icmpYes X20.here hx rfl (pc0 := 201) (pc' := 219) rfl (hb hby at_201) rfl (feq hc201).2 (by decide) (by decide) ?_
          show Steps p.tables e below (T20.setTop (mkF m 219 #[.val (.int p0), .val (.int p1), .val (.int p2), .val (.int p3), .val (.ref b1), .val (.ref b6), .val (.ref b8), .val (.ref b13), .val (.int ((p3 &&& (2147483647 : Int32)) % (3 : Int32))), .val .null, .val (.ref bx16), .val (.ref b17), .val (.int (1 : Int32)), .val (.int (((p3.toUInt32 >>> ((8 : Int32) &&& 31).toUInt32).toInt32) &&& (3 : Int32))), .unset] [])) _
          refine XS.aload X20.here hx rfl (hb hby at_219) rfl rfl ?_
          show Steps p.tables e below (T20.setTop (mkF m 221 #[.val (.int p0), .val (.int p1), .val (.int p2), .val (.int p3), .val (.ref b1), .val (.ref b6), .val (.ref b8), .val (.ref b13), .val (.int ((p3 &&& (2147483647 : Int32)) % (3 : Int32))), .val .null, .val (.ref bx16), .val (.ref b17), .val (.int (1 : Int32)), .val (.int (((p3.toUInt32 >>> ((8 : Int32) &&& 31).toUInt32).toInt32) &&& (3 : Int32))), .unset] [.null])) _
          refine XS.ifnullYes X20.here hx rfl (pc0 := 221) (pc' := 247) rfl (hb hby at_221) rfl (by decide) (by decide) ?_
          show Steps p.tables e below (T20.setTop (mkF m 247 #[.val (.int p0), .val (.int p1), .val (.int p2), .val (.int p3), .val (.ref b1), .val (.ref b6), .val (.ref b8), .val (.ref b13), .val (.int ((p3 &&& (2147483647 : Int32)) % (3 : Int32))), .val .null, .val (.ref bx16), .val (.ref b17), .val (.int (1 : Int32)), .val (.int (((p3.toUInt32 >>> ((8 : Int32) &&& 31).toUInt32).toInt32) &&& (3 : Int32))), .unset] [])) _
          refine XS.iconst X20.here hx rfl (hb hby at_247) ?_
          show Steps p.tables e below (T20.setTop (mkF m 248 #[.val (.int p0), .val (.int p1), .val (.int p2), .val (.int p3), .val (.ref b1), .val (.ref b6), .val (.ref b8), .val (.ref b13), .val (.int ((p3 &&& (2147483647 : Int32)) % (3 : Int32))), .val .null, .val (.ref bx16), .val (.ref b17), .val (.int (1 : Int32)), .val (.int (((p3.toUInt32 >>> ((8 : Int32) &&& 31).toUInt32).toInt32) &&& (3 : Int32))), .unset] [(.int (1 : Int32))])) _
          refine XS.istore X20.here hx rfl (hb hby at_248) rfl (l' := #[.val (.int p0), .val (.int p1), .val (.int p2), .val (.int p3), .val (.ref b1), .val (.ref b6), .val (.ref b8), .val (.ref b13), .val (.int ((p3 &&& (2147483647 : Int32)) % (3 : Int32))), .val .null, .val (.ref bx16), .val (.ref b17), .val (.int (1 : Int32)), .val (.int (((p3.toUInt32 >>> ((8 : Int32) &&& 31).toUInt32).toInt32) &&& (3 : Int32))), .val (.int (1 : Int32))]) rfl ?_
          show Steps p.tables e below (T20.setTop (mkF m 250 #[.val (.int p0), .val (.int p1), .val (.int p2), .val (.int p3), .val (.ref b1), .val (.ref b6), .val (.ref b8), .val (.ref b13), .val (.int ((p3 &&& (2147483647 : Int32)) % (3 : Int32))), .val .null, .val (.ref bx16), .val (.ref b17), .val (.int (1 : Int32)), .val (.int (((p3.toUInt32 >>> ((8 : Int32) &&& 31).toUInt32).toInt32) &&& (3 : Int32))), .val (.int (1 : Int32))] [])) _
          refine XS.iload X20.here hx rfl (hb hby at_250) rfl ?_
          show Steps p.tables e below (T20.setTop (mkF m 252 #[.val (.int p0), .val (.int p1), .val (.int p2), .val (.int p3), .val (.ref b1), .val (.ref b6), .val (.ref b8), .val (.ref b13), .val (.int ((p3 &&& (2147483647 : Int32)) % (3 : Int32))), .val .null, .val (.ref bx16), .val (.ref b17), .val (.int (1 : Int32)), .val (.int (((p3.toUInt32 >>> ((8 : Int32) &&& 31).toUInt32).toInt32) &&& (3 : Int32))), .val (.int (1 : Int32))] [(.int (1 : Int32))])) _
          refine XS.ifNo X20.here hx rfl (hb hby at_252) rfl ((if0 _ _).trans (feq (by decide : ¬ ((1 : Int32) = (0 : Int32)))).1) ?_
          show Steps p.tables e below (T20.setTop (mkF m 255 #[.val (.int p0), .val (.int p1), .val (.int p2), .val (.int p3), .val (.ref b1), .val (.ref b6), .val (.ref b8), .val (.ref b13), .val (.int ((p3 &&& (2147483647 : Int32)) % (3 : Int32))), .val .null, .val (.ref bx16), .val (.ref b17), .val (.int (1 : Int32)), .val (.int (((p3.toUInt32 >>> ((8 : Int32) &&& 31).toUInt32).toInt32) &&& (3 : Int32))), .val (.int (1 : Int32))] [])) _
          refine XS.iload X20.here hx rfl (hb hby at_255) rfl ?_
          show Steps p.tables e below (T20.setTop (mkF m 257 #[.val (.int p0), .val (.int p1), .val (.int p2), .val (.int p3), .val (.ref b1), .val (.ref b6), .val (.ref b8), .val (.ref b13), .val (.int ((p3 &&& (2147483647 : Int32)) % (3 : Int32))), .val .null, .val (.ref bx16), .val (.ref b17), .val (.int (1 : Int32)), .val (.int (((p3.toUInt32 >>> ((8 : Int32) &&& 31).toUInt32).toInt32) &&& (3 : Int32))), .val (.int (1 : Int32))] [(.int (1 : Int32))])) _
          refine XS.ifNo X20.here hx rfl (hb hby at_257) rfl ((if0 _ _).trans (feq (by decide : ¬ ((1 : Int32) = (0 : Int32)))).1) ?_
          show Steps p.tables e below (T20.setTop (mkF m 260 #[.val (.int p0), .val (.int p1), .val (.int p2), .val (.int p3), .val (.ref b1), .val (.ref b6), .val (.ref b8), .val (.ref b13), .val (.int ((p3 &&& (2147483647 : Int32)) % (3 : Int32))), .val .null, .val (.ref bx16), .val (.ref b17), .val (.int (1 : Int32)), .val (.int (((p3.toUInt32 >>> ((8 : Int32) &&& 31).toUInt32).toInt32) &&& (3 : Int32))), .val (.int (1 : Int32))] [])) _
          refine XS.iconst X20.here hx rfl (hb hby at_260) ?_
          show Steps p.tables e below (T20.setTop (mkF m 261 #[.val (.int p0), .val (.int p1), .val (.int p2), .val (.int p3), .val (.ref b1), .val (.ref b6), .val (.ref b8), .val (.ref b13), .val (.int ((p3 &&& (2147483647 : Int32)) % (3 : Int32))), .val .null, .val (.ref bx16), .val (.ref b17), .val (.int (1 : Int32)), .val (.int (((p3.toUInt32 >>> ((8 : Int32) &&& 31).toUInt32).toInt32) &&& (3 : Int32))), .val (.int (1 : Int32))] [(.int (1 : Int32))])) _
          refine XS.goto X20.here hx rfl (pc0 := 261) (pc' := 265) rfl (hb hby at_261) (by decide) (by decide) ?_
          show Steps p.tables e below (T20.setTop (mkF m 265 #[.val (.int p0), .val (.int p1), .val (.int p2), .val (.int p3), .val (.ref b1), .val (.ref b6), .val (.ref b8), .val (.ref b13), .val (.int ((p3 &&& (2147483647 : Int32)) % (3 : Int32))), .val .null, .val (.ref bx16), .val (.ref b17), .val (.int (1 : Int32)), .val (.int (((p3.toUInt32 >>> ((8 : Int32) &&& 31).toUInt32).toInt32) &&& (3 : Int32))), .val (.int (1 : Int32))] [(.int (1 : Int32))])) _
          exact retN X20 hx (t := .boolean) Bd.returns (by simp) (hb hby at_265) hr
        · show Q_rm_law Z p0 p1 p2 p3 zc h0 n0 _ T20.heap _
          rw [e20]
          exact ⟨rfl, N20, trivial⟩
  · have k27 : ∀ target, Steps p.tables e below (T13.setTop (mkF m 87 #[.val (.int p0), .val (.int p1), .val (.int p2), .val (.int p3), .val (.ref b1), .val (.ref b6), .val (.ref b8), .val (.ref b13), .val (.int ((p3 &&& (2147483647 : Int32)) % (3 : Int32))), .unset, .unset, .unset, .unset, .unset, .unset] [(.int (1 : Int32)), (.int ((p3 &&& (2147483647 : Int32)) % (3 : Int32)))])) target → Steps p.tables e below (s₁.setTop (mkF m 0 #[.val (.int p0), .val (.int p1), .val (.int p2), .val (.int p3), .unset, .unset, .unset, .unset, .unset, .unset, .unset, .unset, .unset, .unset, .unset] [])) target := by
      intro target kt
      refine k14 _ ?_
      show Steps p.tables e below (T13.setTop (mkF m 75 #[.val (.int p0), .val (.int p1), .val (.int p2), .val (.int p3), .val (.ref b1), .val (.ref b6), .val (.ref b8), .val (.ref b13), .val (.int ((p3 &&& (2147483647 : Int32)) % (3 : Int32))), .unset, .unset, .unset, .unset, .unset, .unset] [(.int ((p3 &&& (2147483647 : Int32)) % (3 : Int32)))])) _
      refine XS.ifYes X13.here hx rfl (pc0 := 75) (pc' := 84) rfl (hb hby at_75) rfl ((if0 _ _).trans (feq hc75).2) (by decide) (by decide) ?_
      show Steps p.tables e below (T13.setTop (mkF m 84 #[.val (.int p0), .val (.int p1), .val (.int p2), .val (.int p3), .val (.ref b1), .val (.ref b6), .val (.ref b8), .val (.ref b13), .val (.int ((p3 &&& (2147483647 : Int32)) % (3 : Int32))), .unset, .unset, .unset, .unset, .unset, .unset] [])) _
      refine XS.iload X13.here hx rfl (hb hby at_84) rfl ?_
      show Steps p.tables e below (T13.setTop (mkF m 86 #[.val (.int p0), .val (.int p1), .val (.int p2), .val (.int p3), .val (.ref b1), .val (.ref b6), .val (.ref b8), .val (.ref b13), .val (.int ((p3 &&& (2147483647 : Int32)) % (3 : Int32))), .unset, .unset, .unset, .unset, .unset, .unset] [(.int ((p3 &&& (2147483647 : Int32)) % (3 : Int32)))])) _
      refine XS.iconst X13.here hx rfl (hb hby at_86) ?_
      exact kt
    by_cases hc87 : ((p3 &&& (2147483647 : Int32)) % (3 : Int32)) = (1 : Int32)
    · obtain ⟨T28, h28, X28, e28, E28, A28, D28, -, st28⟩ := newO X13 hx hZ hown (hw _ (List.mem_of_getElem? (i := 1) rfl)) (hw _ (List.mem_of_getElem? (i := 2) rfl)) (hw _ (List.mem_of_getElem? (i := 3) rfl)) e13 (g := (mkF m 90 #[.val (.int p0), .val (.int p1), .val (.int p2), .val (.int p3), .val (.ref b1), .val (.ref b6), .val (.ref b8), .val (.ref b13), .val (.int ((p3 &&& (2147483647 : Int32)) % (3 : Int32))), .unset, .unset, .unset, .unset, .unset, .unset] [])) rfl (hb hby at_90) (by decide) (by decide)
      obtain ⟨b28, g28⟩ : ∃ z, z = h13.size := ⟨_, rfl⟩
      rw [← g28] at A28 D28 st28
      have ne_b1_b28 : b1 ≠ b28 := Nat.ne_of_lt (Nat.lt_of_lt_of_le V5_13.lt (Nat.le_of_eq g28.symm))
      have ne_b6_b28 : b6 ≠ b28 := Nat.ne_of_lt (Nat.lt_of_lt_of_le A6_13.lt (Nat.le_of_eq g28.symm))
      have ne_b8_b28 : b8 ≠ b28 := Nat.ne_of_lt (Nat.lt_of_lt_of_le V12_13.lt (Nat.le_of_eq g28.symm))
      have ne_b13_b28 : b13 ≠ b28 := Nat.ne_of_lt (Nat.lt_of_lt_of_le V_b13.lt (Nat.le_of_eq g28.symm))
      have g_b28 : n0 ≤ b28 := Nat.le_trans Z13 (Nat.le_of_eq g28.symm)
      have X00_28 : Old Z n0 h28 := Old.ext X00_13 E28
      have V5_28 : Arv Z h28 b1 k1 .char (2 : Int32) [(.int (nar .char (p0 &&& (255 : Int32)).toUInt32.toUInt16.toUInt32.toInt32)), (.int (nar .char (p1 &&& (255 : Int32)).toUInt32.toUInt16.toUInt32.toInt32))] (.int (0 : Int32)) := V5_13.ext E28
      have A6_28 : Exa Z h28 b6 "java/lang/String" := A6_13.ext E28
      have Sh_CS_28 : Sta Z h28 "java/lang/String" "COMPACT_STRINGS" "Z" (.int zc) := Sh_CS_13.ext E28
      have V12_28 : Arv Z h28 b8 k8 .char (2 : Int32) [(.int (nar .char (p2 &&& (255 : Int32)).toUInt32.toUInt16.toUInt32.toInt32)), (.int (nar .char (((p2.toUInt32 >>> ((8 : Int32) &&& 31).toUInt32).toInt32) &&& (255 : Int32)).toUInt32.toUInt16.toUInt32.toInt32))] (.int (0 : Int32)) := V12_13.ext E28
      have V_b13_28 : Arv Z h28 b13 k13 .char (0 : Int32) [] (.int (0 : Int32)) := V_b13.ext E28
      have hk28' : _ ≤ h28.size := Nat.le_trans hk13' E28.1
      have Z28 : n0 ≤ h28.size := Nat.le_trans Z13 E28.1
      have F_coder_b28 : Fld Z h28 b28 "java/lang/String" "coder" "B" (.int (0 : Int32)) := D28 (Or.inr (hw _ (List.mem_of_getElem? (i := 27) rfl))) (ty := .byte) (by decide)
      have F_value_b28 : Fld Z h28 b28 "java/lang/String" "value" "[B" .null := D28 (Or.inr (hw _ (List.mem_of_getElem? (i := 29) rfl))) (ty := (.array .byte)) (by decide)
      obtain ⟨_, _, ⟨T29, L29, k29, n29⟩, -, X29, hSq29, gr29, ⟨Lc29, hQ29, l29, y29, z29⟩, st29⟩ := X28.specialBackS hx (y := (⟨"java/lang/String", "<init>", "([C)V"⟩ : MethodName)) rfl hown (mvT hZ (hw _ (List.mem_of_getElem? (i := 4) rfl))) (mvT hZ (hw _ (List.mem_of_getElem? (i := 5) rfl))) (mvT hZ (hw _ (List.mem_of_getElem? (i := 6) rfl))) (by decide) (own_backOfI (W := 1) (rm_emp l Z a0 hw [] b28 b13 k13 [] (.int (0 : Int32)) h28 n0 Z28 X00_28 A28 g_b28 F_value_b28 F_coder_b28 Hc7 hcw V_b13_28 (Ne.symm ne_b13_b28)) hZ hI0 (hw _ (List.mem_of_getElem? (i := 6) rfl)) (hw _ (List.mem_of_getElem? (i := 3) rfl)) (by decide) (by decide)) (g := (mkF m 96 #[.val (.int p0), .val (.int p1), .val (.int p2), .val (.int p3), .val (.ref b1), .val (.ref b6), .val (.ref b8), .val (.ref b13), .val (.int ((p3 &&& (2147483647 : Int32)) % (3 : Int32))), .unset, .unset, .unset, .unset, .unset, .unset] [(.ref b13), (.ref b28), (.ref b28)])) rfl (by rw [hml]; rfl) (Steps.refl _) (a := b28) (argsL := [(.ref b13)]) (rest := [(.ref b28)]) (lenOf pd_6 rfl) rfl (by show 2 * 0 + _ ≤ _; exact Nat.le_of_eq rfl) (hb hby at_96) (fun _ _ => ⟨rfl, e28, (by decide : 6 + 2 ≤ _), (by decide : 14 + 4 ≤ _)⟩)
      dsimp only [Pt.U, Pt.locs, Pt.cells, Pt.slots] at X29 l29 y29 z29 st29 hQ29 hSq29 gr29
      subst l29 y29 z29
      obtain ⟨rfl, N29q, x29c0⟩ := hQ29
      have N29 := Fr.app N12 N29q
      have X00_29 : Old Z n0 T29.heap := X00_28.keep x29c0 (allS g_b28 all0)
      have V5_29 : Arv Z T29.heap b1 k1 .char (2 : Int32) [(.int (nar .char (p0 &&& (255 : Int32)).toUInt32.toUInt16.toUInt32.toInt32)), (.int (nar .char (p1 &&& (255 : Int32)).toUInt32.toUInt16.toUInt32.toInt32))] (.int (0 : Int32)) := V5_28.keep x29c0 (ninS ne_b1_b28 nin0)
      have A6_29 : Exa Z T29.heap b6 "java/lang/String" := A6_28.keep x29c0
      have V12_29 : Arv Z T29.heap b8 k8 .char (2 : Int32) [(.int (nar .char (p2 &&& (255 : Int32)).toUInt32.toUInt16.toUInt32.toInt32)), (.int (nar .char (((p2.toUInt32 >>> ((8 : Int32) &&& 31).toUInt32).toInt32) &&& (255 : Int32)).toUInt32.toUInt16.toUInt32.toInt32))] (.int (0 : Int32)) := V12_28.keep x29c0 (ninS ne_b8_b28 nin0)
      have V_b13_29 : Arv Z T29.heap b13 k13 .char (0 : Int32) [] (.int (0 : Int32)) := V_b13_28.keep x29c0 (ninS ne_b13_b28 nin0)
      have A28_29 : Exa Z T29.heap b28 "java/lang/String" := A28.keep x29c0
      have Sh_CS_29 : Sta Z T29.heap "java/lang/String" "COMPACT_STRINGS" "Z" (.int zc) := S_CS.ext X00_29.2
      have hk29' : _ ≤ T29.heap.size := Nat.le_trans hk28' x29c0.1
      have Z29 : n0 ≤ T29.heap.size := Nat.le_trans Z28 x29c0.1
      have X29b : Stand p l e room_1 (s.setVm T29.vm) m #[(.int p0), (.int p1), (.int p2), (.int p3)] below meth c T29 _ _ _ := X29
      have hS29 : s.Since T29.vm T29.heap.size := foldS hS0 (T := T28) (by first | exact hk28' | (rw [e28]; exact hk28')) hSq29 gr29
      have hZ29 : Z.Warmed39 (s.setVm T29.vm).vm := State.Warmed39.trans (t := s.setVm s.vm) hZ hSq29.1
      have hown29 : (s.setVm T29.vm).vm.findClass "com/example/watchpost/watchpost/OptionIsFlagPinLaw" = some m.cls := by rw [show (s.setVm T29.vm).vm = T29.vm from rfl, hSq29.1.alike.findClass]; exact hown
      have hk29 := Nat.le_refl T29.heap.size
      obtain ⟨cl30, Ar30, qk30, S30, N30', H30, G30⟩ := (id V12_29)
      have hin30 : ¬ ((0 : Int32) < 0 ∨ cl30.slots.size ≤ ((0 : Int32)).toNatClampNeg) := inb_of S30 ⟨by decide, by decide⟩
      have hat30 : cl30.slots[((0 : Int32)).toNatClampNeg]? = some (.int (nar .char (p2 &&& (255 : Int32)).toUInt32.toUInt16.toUInt32.toInt32)) := Has.at H30 hin30 rfl
      obtain ⟨_, _, ⟨T31, L31, k31, n31⟩, -, X31, ⟨Lc31, hQ31, l31, y31, z31⟩, st31⟩ := Jvm.LawKit.callS X29b hx (y := (⟨"java/lang/String", "valueOf", "(C)Ljava/lang/String;"⟩ : MethodName)) hown29 (mvT hZ29 (hw _ (List.mem_of_getElem? (i := 34) rfl))) (mvT hZ29 (hw _ (List.mem_of_getElem? (i := 35) rfl))) (mvT hZ29 (hw _ (List.mem_of_getElem? (i := 3) rfl))) (mvT hZ29 (hw _ (List.mem_of_getElem? (i := 36) rfl))) (by decide) (backOf (W := 0) (rm_vof l Z a0 hw [] (nar .char (p2 &&& (255 : Int32)).toUInt32.toUInt16.toUInt32.toInt32) zc T29.heap n0 Z29 Sh_CS_29 P5 (own_ch _).2) hZ29 (hw _ (List.mem_of_getElem? (i := 36) rfl)) (hw _ (List.mem_of_getElem? (i := 3) rfl)) (by decide) (by decide)) (g := (mkF m 119 #[.val (.int p0), .val (.int p1), .val (.int p2), .val (.int p3), .val (.ref b1), .val (.ref b6), .val (.ref b8), .val (.ref b13), .val (.int ((p3 &&& (2147483647 : Int32)) % (3 : Int32))), .val (.ref b28), .unset, .unset, .unset, .unset, .unset] [(.int (nar .char (p2 &&& (255 : Int32)).toUInt32.toUInt16.toUInt32.toInt32))])) rfl (by rw [hml]; rfl) (argsL := [(.int (nar .char (p2 &&& (255 : Int32)).toUInt32.toUInt16.toUInt32.toInt32))]) (rest := []) (lenOf pd_7 rfl) rfl (by show 2 * 0 + _ ≤ _; exact Nat.le_of_eq rfl) (hb hby at_119) (fun _ _ => ⟨rfl, rfl, (by decide : 8 + 2 ≤ _), (by decide : 18 + 5 ≤ _)⟩)
      dsimp only [Pt.U, Pt.locs, Pt.cells, Pt.slots] at X31 l31 y31 z31 st31 hQ31
      subst l31 y31 z31
      obtain ⟨bx31, rfl, N31q, x31c0, x31c1, x31c2, x31c3⟩ := hQ31
      have N31 := Fr.app N29 N31q
      have ne_b1_bx31 : b1 ≠ bx31 := Nat.ne_of_lt (Nat.lt_of_lt_of_le V5_29.lt x31c2)
      have ne_b6_bx31 : b6 ≠ bx31 := Nat.ne_of_lt (Nat.lt_of_lt_of_le A6_29.lt x31c2)
      have ne_b8_bx31 : b8 ≠ bx31 := Nat.ne_of_lt (Nat.lt_of_lt_of_le V12_29.lt x31c2)
      have ne_b13_bx31 : b13 ≠ bx31 := Nat.ne_of_lt (Nat.lt_of_lt_of_le V_b13_29.lt x31c2)
      have ne_b28_bx31 : b28 ≠ bx31 := Nat.ne_of_lt (Nat.lt_of_lt_of_le A28_29.lt x31c2)
      have X00_31 : Old Z n0 T31.heap := X00_29.keep x31c0 all0
      have V5_31 : Arv Z T31.heap b1 k1 .char (2 : Int32) [(.int (nar .char (p0 &&& (255 : Int32)).toUInt32.toUInt16.toUInt32.toInt32)), (.int (nar .char (p1 &&& (255 : Int32)).toUInt32.toUInt16.toUInt32.toInt32))] (.int (0 : Int32)) := V5_29.keep x31c0 nin0
      have A6_31 : Exa Z T31.heap b6 "java/lang/String" := A6_29.keep x31c0
      have V12_31 : Arv Z T31.heap b8 k8 .char (2 : Int32) [(.int (nar .char (p2 &&& (255 : Int32)).toUInt32.toUInt16.toUInt32.toInt32)), (.int (nar .char (((p2.toUInt32 >>> ((8 : Int32) &&& 31).toUInt32).toInt32) &&& (255 : Int32)).toUInt32.toUInt16.toUInt32.toInt32))] (.int (0 : Int32)) := V12_29.keep x31c0 nin0
      have V_b13_31 : Arv Z T31.heap b13 k13 .char (0 : Int32) [] (.int (0 : Int32)) := V_b13_29.keep x31c0 nin0
      have A28_31 : Exa Z T31.heap b28 "java/lang/String" := A28_29.keep x31c0
      have Sh_CS_31 : Sta Z T31.heap "java/lang/String" "COMPACT_STRINGS" "Z" (.int zc) := S_CS.ext X00_31.2
      have hk31' : _ ≤ T31.heap.size := Nat.le_trans hk29 x31c0.1
      have Z31 : n0 ≤ T31.heap.size := Nat.le_trans Z29 x31c0.1
      obtain ⟨T32, h32, X32, e32, E32, A32, D32, -, st32⟩ := newO X31 hx hZ29 hown29 (hw _ (List.mem_of_getElem? (i := 48) rfl)) (hw _ (List.mem_of_getElem? (i := 49) rfl)) (hw _ (List.mem_of_getElem? (i := 50) rfl)) rfl (g := (mkF m 124 #[.val (.int p0), .val (.int p1), .val (.int p2), .val (.int p3), .val (.ref b1), .val (.ref b6), .val (.ref b8), .val (.ref b13), .val (.int ((p3 &&& (2147483647 : Int32)) % (3 : Int32))), .val (.ref b28), .val (.ref bx31), .unset, .unset, .unset, .unset] [])) rfl (hb hby at_124) (by decide) (by decide)
      obtain ⟨b32, g32⟩ : ∃ z, z = T31.heap.size := ⟨_, rfl⟩
      rw [← g32] at A32 D32 st32
      have ne_b1_b32 : b1 ≠ b32 := Nat.ne_of_lt (Nat.lt_of_lt_of_le V5_31.lt (Nat.le_of_eq g32.symm))
      have ne_b6_b32 : b6 ≠ b32 := Nat.ne_of_lt (Nat.lt_of_lt_of_le A6_31.lt (Nat.le_of_eq g32.symm))
      have ne_b8_b32 : b8 ≠ b32 := Nat.ne_of_lt (Nat.lt_of_lt_of_le V12_31.lt (Nat.le_of_eq g32.symm))
      have ne_b13_b32 : b13 ≠ b32 := Nat.ne_of_lt (Nat.lt_of_lt_of_le V_b13_31.lt (Nat.le_of_eq g32.symm))
      have ne_b28_b32 : b28 ≠ b32 := Nat.ne_of_lt (Nat.lt_of_lt_of_le A28_31.lt (Nat.le_of_eq g32.symm))
      have ne_bx31_b32 : bx31 ≠ b32 := Nat.ne_of_lt (Nat.lt_of_lt_of_le x31c3.lt (Nat.le_of_eq g32.symm))
      have g_b32 : n0 ≤ b32 := Nat.le_trans Z31 (Nat.le_of_eq g32.symm)
      have X00_32 : Old Z n0 h32 := Old.ext X00_31 E32
      have V5_32 : Arv Z h32 b1 k1 .char (2 : Int32) [(.int (nar .char (p0 &&& (255 : Int32)).toUInt32.toUInt16.toUInt32.toInt32)), (.int (nar .char (p1 &&& (255 : Int32)).toUInt32.toUInt16.toUInt32.toInt32))] (.int (0 : Int32)) := V5_31.ext E32
      have A6_32 : Exa Z h32 b6 "java/lang/String" := A6_31.ext E32
      have V12_32 : Arv Z h32 b8 k8 .char (2 : Int32) [(.int (nar .char (p2 &&& (255 : Int32)).toUInt32.toUInt16.toUInt32.toInt32)), (.int (nar .char (((p2.toUInt32 >>> ((8 : Int32) &&& 31).toUInt32).toInt32) &&& (255 : Int32)).toUInt32.toUInt16.toUInt32.toInt32))] (.int (0 : Int32)) := V12_31.ext E32
      have V_b13_32 : Arv Z h32 b13 k13 .char (0 : Int32) [] (.int (0 : Int32)) := V_b13_31.ext E32
      have A28_32 : Exa Z h32 b28 "java/lang/String" := A28_31.ext E32
      have Sh_CS_32 : Sta Z h32 "java/lang/String" "COMPACT_STRINGS" "Z" (.int zc) := Sh_CS_31.ext E32
      have x31c3_32 : Exa Z h32 bx31 "java/lang/String" := x31c3.ext E32
      have hk32' : _ ≤ h32.size := Nat.le_trans hk31' E32.1
      have Z32 : n0 ≤ h32.size := Nat.le_trans Z31 E32.1
      have F_name_b32 : Fld Z h32 b32 "com/example/watchpost/watchpost/Option" "name" "Ljava/lang/String;" .null := D32 (Or.inr (hw _ (List.mem_of_getElem? (i := 59) rfl))) (ty := (.object "java/lang/String")) (by decide)
      have F_shortName_b32 : Fld Z h32 b32 "com/example/watchpost/watchpost/Option" "shortName" "Ljava/lang/String;" .null := D32 (Or.inr (hw _ (List.mem_of_getElem? (i := 61) rfl))) (ty := (.object "java/lang/String")) (by decide)
      have F_value_b32 : Fld Z h32 b32 "com/example/watchpost/watchpost/Option" "value" "Ljava/lang/String;" .null := D32 (Or.inr (hw _ (List.mem_of_getElem? (i := 63) rfl))) (ty := (.object "java/lang/String")) (by decide)
      have F_required_b32 : Fld Z h32 b32 "com/example/watchpost/watchpost/Option" "required" "Z" (.int (0 : Int32)) := D32 (Or.inr (hw _ (List.mem_of_getElem? (i := 65) rfl))) (ty := .boolean) (by decide)
      obtain ⟨_, _, ⟨T33, L33, k33, n33⟩, -, X33, ⟨Lc33, hQ33, l33, y33, z33⟩, st33⟩ := X32.specialBack hx (y := (⟨"com/example/watchpost/watchpost/Option", "<init>", "(Ljava/lang/String;Ljava/lang/String;)V"⟩ : MethodName)) rfl hown29 (mvT hZ29 (hw _ (List.mem_of_getElem? (i := 51) rfl))) (mvT hZ29 (hw _ (List.mem_of_getElem? (i := 52) rfl))) (mvT hZ29 (hw _ (List.mem_of_getElem? (i := 53) rfl))) (by decide) (backOf (W := 1) (rm_two1 l Z a0 hw [] b32 b6 b28 h32 n0 Z32 A32 F_name_b32 F_shortName_b32 F_value_b32 F_required_b32 g_b32) hZ29 (hw _ (List.mem_of_getElem? (i := 53) rfl)) (hw _ (List.mem_of_getElem? (i := 50) rfl)) (by decide) (by decide)) (g := (mkF m 132 #[.val (.int p0), .val (.int p1), .val (.int p2), .val (.int p3), .val (.ref b1), .val (.ref b6), .val (.ref b8), .val (.ref b13), .val (.int ((p3 &&& (2147483647 : Int32)) % (3 : Int32))), .val (.ref b28), .val (.ref bx31), .unset, .unset, .unset, .unset] [(.ref b28), (.ref b6), (.ref b32), (.ref b32)])) rfl (by rw [hml]; rfl) (Steps.refl _) (a := b32) (argsL := [(.ref b6), (.ref b28)]) (rest := [(.ref b32)]) (lenOf pd_5 rfl) rfl (by show 2 * 0 + _ ≤ _; exact Nat.le_of_eq rfl) (hb hby at_132) (fun _ _ => ⟨rfl, e32, (by decide : 11 + 0 ≤ _), (by decide : 27 + 0 ≤ _)⟩)
      dsimp only [Pt.U, Pt.locs, Pt.cells, Pt.slots] at X33 l33 y33 z33 st33 hQ33
      subst l33 y33 z33
      obtain ⟨rfl, N33q, x33c0, x33c1, x33c2, x33c3, x33c4⟩ := hQ33
      have N33 := Fr.app N31 N33q
      have X00_33 : Old Z n0 T33.heap := X00_32.keep x33c0 (allS g_b32 all0)
      have V5_33 : Arv Z T33.heap b1 k1 .char (2 : Int32) [(.int (nar .char (p0 &&& (255 : Int32)).toUInt32.toUInt16.toUInt32.toInt32)), (.int (nar .char (p1 &&& (255 : Int32)).toUInt32.toUInt16.toUInt32.toInt32))] (.int (0 : Int32)) := V5_32.keep x33c0 (ninS ne_b1_b32 nin0)
      have A6_33 : Exa Z T33.heap b6 "java/lang/String" := A6_32.keep x33c0
      have V12_33 : Arv Z T33.heap b8 k8 .char (2 : Int32) [(.int (nar .char (p2 &&& (255 : Int32)).toUInt32.toUInt16.toUInt32.toInt32)), (.int (nar .char (((p2.toUInt32 >>> ((8 : Int32) &&& 31).toUInt32).toInt32) &&& (255 : Int32)).toUInt32.toUInt16.toUInt32.toInt32))] (.int (0 : Int32)) := V12_32.keep x33c0 (ninS ne_b8_b32 nin0)
      have V_b13_33 : Arv Z T33.heap b13 k13 .char (0 : Int32) [] (.int (0 : Int32)) := V_b13_32.keep x33c0 (ninS ne_b13_b32 nin0)
      have A28_33 : Exa Z T33.heap b28 "java/lang/String" := A28_32.keep x33c0
      have x31c3_33 : Exa Z T33.heap bx31 "java/lang/String" := x31c3_32.keep x33c0
      have A32_33 : Exa Z T33.heap b32 "com/example/watchpost/watchpost/Option" := A32.keep x33c0
      have Sh_CS_33 : Sta Z T33.heap "java/lang/String" "COMPACT_STRINGS" "Z" (.int zc) := S_CS.ext X00_33.2
      have hk33' : _ ≤ T33.heap.size := Nat.le_trans hk32' x33c0.1
      have Z33 : n0 ≤ T33.heap.size := Nat.le_trans Z32 x33c0.1
      obtain ⟨cq34, kq34, q34a, q34b, q34c⟩ := isOf hZ29 rfl A32_33
      obtain ⟨_, _, ⟨T34, L34, k34, n34⟩, -, X34, ⟨Lc34, hQ34, l34, y34, z34⟩, st34⟩ := X33.virtualBack hx (y := (⟨"com/example/watchpost/watchpost/Option", "isFlag", "()Z"⟩ : MethodName)) (z := (⟨"com/example/watchpost/watchpost/Option", "isFlag", "()Z"⟩ : MethodName)) hown29 (mvT hZ29 (hw _ (List.mem_of_getElem? (i := 66) rfl))) (mvT hZ29 (hw _ (List.mem_of_getElem? (i := 67) rfl))) (notFace_of_selects (args := #[]) (mvT hZ29 (hw _ (List.mem_of_getElem? (i := 69) rfl)))) (mvT hZ29 (hw _ (List.mem_of_getElem? (i := 69) rfl))) (mvT hZ29 (hw _ (List.mem_of_getElem? (i := 68) rfl))) (by decide) (backOf (W := 0) (rm_flag1 l Z a0 hw [] b32 b28 T33.heap n0 Z33 x33c3) hZ29 (hw _ (List.mem_of_getElem? (i := 70) rfl)) (hw _ (List.mem_of_getElem? (i := 50) rfl)) (by decide) (by decide)) q34a q34c (g := (mkF m 139 #[.val (.int p0), .val (.int p1), .val (.int p2), .val (.int p3), .val (.ref b1), .val (.ref b6), .val (.ref b8), .val (.ref b13), .val (.int ((p3 &&& (2147483647 : Int32)) % (3 : Int32))), .val (.ref b28), .val (.ref bx31), .val (.ref b32), .unset, .unset, .unset] [(.ref b32)])) rfl (by rw [hml]; rfl) (Steps.refl _) (argsL := []) (rest := []) (lenOf pd_8 rfl) rfl (by show 2 * 0 + _ ≤ _; exact Nat.le_of_eq rfl) (hb hby at_139) (fun _ _ => ⟨rfl, rfl, (by decide : 11 + 0 ≤ _), (by decide : 27 + 0 ≤ _)⟩)
      dsimp only [Pt.U, Pt.locs, Pt.cells, Pt.slots] at X34 l34 y34 z34 st34 hQ34
      subst l34 y34 z34
      obtain ⟨rfl, N34q, e34⟩ := hQ34
      have N34 := Fr.app N33 N34q
      obtain ⟨cq35, kq35, q35a, q35b, q35c⟩ := isOf hZ29 e34 A32_33
      obtain ⟨_, _, ⟨T35, L35, k35, n35⟩, -, X35, ⟨Lc35, hQ35, l35, y35, z35⟩, st35⟩ := X34.virtualBack hx (y := (⟨"com/example/watchpost/watchpost/Option", "value", "()Ljava/lang/String;"⟩ : MethodName)) (z := (⟨"com/example/watchpost/watchpost/Option", "value", "()Ljava/lang/String;"⟩ : MethodName)) hown29 (mvT hZ29 (hw _ (List.mem_of_getElem? (i := 71) rfl))) (mvT hZ29 (hw _ (List.mem_of_getElem? (i := 72) rfl))) (notFace_of_selects (args := #[]) (mvT hZ29 (hw _ (List.mem_of_getElem? (i := 74) rfl)))) (mvT hZ29 (hw _ (List.mem_of_getElem? (i := 74) rfl))) (mvT hZ29 (hw _ (List.mem_of_getElem? (i := 73) rfl))) (by decide) (backOf (W := 0) (rm_val1 l Z a0 hw [] b32 b28 T33.heap n0 Z33 x33c3) hZ29 (hw _ (List.mem_of_getElem? (i := 75) rfl)) (hw _ (List.mem_of_getElem? (i := 50) rfl)) (by decide) (by decide)) q35a q35c (g := (mkF m 157 #[.val (.int p0), .val (.int p1), .val (.int p2), .val (.int p3), .val (.ref b1), .val (.ref b6), .val (.ref b8), .val (.ref b13), .val (.int ((p3 &&& (2147483647 : Int32)) % (3 : Int32))), .val (.ref b28), .val (.ref bx31), .val (.ref b32), .unset, .unset, .unset] [(.ref b32)])) rfl (by rw [hml]; rfl) (Steps.refl _) (argsL := []) (rest := []) (lenOf pd_9 rfl) rfl (by show 2 * 0 + _ ≤ _; exact Nat.le_of_eq rfl) (hb hby at_157) (fun _ _ => ⟨rfl, e34, (by decide : 11 + 0 ≤ _), (by decide : 27 + 0 ≤ _)⟩)
      dsimp only [Pt.U, Pt.locs, Pt.cells, Pt.slots] at X35 l35 y35 z35 st35 hQ35
      subst l35 y35 z35
      obtain ⟨rfl, N35q, e35⟩ := hQ35
      have N35 := Fr.app N34 N35q
      have k36 : ∀ target, Steps p.tables e below (T35.setTop (mkF m 182 #[.val (.int p0), .val (.int p1), .val (.int p2), .val (.int p3), .val (.ref b1), .val (.ref b6), .val (.ref b8), .val (.ref b13), .val (.int ((p3 &&& (2147483647 : Int32)) % (3 : Int32))), .val (.ref b28), .val (.ref bx31), .val (.ref b32), .val (.int (1 : Int32)), .val (.int (((p3.toUInt32 >>> ((8 : Int32) &&& 31).toUInt32).toInt32) &&& (3 : Int32))), .unset] [(.int (((p3.toUInt32 >>> ((8 : Int32) &&& 31).toUInt32).toInt32) &&& (3 : Int32)))])) target → Steps p.tables e below (s₁.setTop (mkF m 0 #[.val (.int p0), .val (.int p1), .val (.int p2), .val (.int p3), .unset, .unset, .unset, .unset, .unset, .unset, .unset, .unset, .unset, .unset, .unset] [])) target := by
        intro target kt
        refine k27 _ ?_
        show Steps p.tables e below (T13.setTop (mkF m 87 #[.val (.int p0), .val (.int p1), .val (.int p2), .val (.int p3), .val (.ref b1), .val (.ref b6), .val (.ref b8), .val (.ref b13), .val (.int ((p3 &&& (2147483647 : Int32)) % (3 : Int32))), .unset, .unset, .unset, .unset, .unset, .unset] [(.int (1 : Int32)), (.int ((p3 &&& (2147483647 : Int32)) % (3 : Int32)))])) _
        refine XS.icmpNo X13.here hx rfl (hb hby at_87) rfl (teq hc87).2 ?_
        show Steps p.tables e below (T13.setTop (mkF m 90 #[.val (.int p0), .val (.int p1), .val (.int p2), .val (.int p3), .val (.ref b1), .val (.ref b6), .val (.ref b8), .val (.ref b13), .val (.int ((p3 &&& (2147483647 : Int32)) % (3 : Int32))), .unset, .unset, .unset, .unset, .unset, .unset] [])) _
        refine st28 _ ?_
        show Steps p.tables e below (T28.setTop (mkF m 93 #[.val (.int p0), .val (.int p1), .val (.int p2), .val (.int p3), .val (.ref b1), .val (.ref b6), .val (.ref b8), .val (.ref b13), .val (.int ((p3 &&& (2147483647 : Int32)) % (3 : Int32))), .unset, .unset, .unset, .unset, .unset, .unset] [(.ref b28)])) _
        refine XS.dup X28.here hx rfl (hb hby at_93) rfl rfl ?_
        show Steps p.tables e below (T28.setTop (mkF m 94 #[.val (.int p0), .val (.int p1), .val (.int p2), .val (.int p3), .val (.ref b1), .val (.ref b6), .val (.ref b8), .val (.ref b13), .val (.int ((p3 &&& (2147483647 : Int32)) % (3 : Int32))), .unset, .unset, .unset, .unset, .unset, .unset] [(.ref b28), (.ref b28)])) _
        refine XS.aload X28.here hx rfl (hb hby at_94) rfl rfl ?_
        show Steps p.tables e below (T28.setTop (mkF m 96 #[.val (.int p0), .val (.int p1), .val (.int p2), .val (.int p3), .val (.ref b1), .val (.ref b6), .val (.ref b8), .val (.ref b13), .val (.int ((p3 &&& (2147483647 : Int32)) % (3 : Int32))), .unset, .unset, .unset, .unset, .unset, .unset] [(.ref b13), (.ref b28), (.ref b28)])) _
        refine st29.trans ?_
        show Steps p.tables e below (T29.setTop (mkF m 99 #[.val (.int p0), .val (.int p1), .val (.int p2), .val (.int p3), .val (.ref b1), .val (.ref b6), .val (.ref b8), .val (.ref b13), .val (.int ((p3 &&& (2147483647 : Int32)) % (3 : Int32))), .unset, .unset, .unset, .unset, .unset, .unset] [(.ref b28)])) _
        refine XS.astore X29b.here hx rfl (hb hby at_99) rfl rfl (l' := #[.val (.int p0), .val (.int p1), .val (.int p2), .val (.int p3), .val (.ref b1), .val (.ref b6), .val (.ref b8), .val (.ref b13), .val (.int ((p3 &&& (2147483647 : Int32)) % (3 : Int32))), .val (.ref b28), .unset, .unset, .unset, .unset, .unset]) rfl ?_
        show Steps p.tables e below (T29.setTop (mkF m 101 #[.val (.int p0), .val (.int p1), .val (.int p2), .val (.int p3), .val (.ref b1), .val (.ref b6), .val (.ref b8), .val (.ref b13), .val (.int ((p3 &&& (2147483647 : Int32)) % (3 : Int32))), .val (.ref b28), .unset, .unset, .unset, .unset, .unset] [])) _
        refine XS.goto X29b.here hx rfl (pc0 := 101) (pc' := 115) rfl (hb hby at_101) (by decide) (by decide) ?_
        show Steps p.tables e below (T29.setTop (mkF m 115 #[.val (.int p0), .val (.int p1), .val (.int p2), .val (.int p3), .val (.ref b1), .val (.ref b6), .val (.ref b8), .val (.ref b13), .val (.int ((p3 &&& (2147483647 : Int32)) % (3 : Int32))), .val (.ref b28), .unset, .unset, .unset, .unset, .unset] [])) _
        refine XS.aload X29b.here hx rfl (hb hby at_115) rfl rfl ?_
        show Steps p.tables e below (T29.setTop (mkF m 117 #[.val (.int p0), .val (.int p1), .val (.int p2), .val (.int p3), .val (.ref b1), .val (.ref b6), .val (.ref b8), .val (.ref b13), .val (.int ((p3 &&& (2147483647 : Int32)) % (3 : Int32))), .val (.ref b28), .unset, .unset, .unset, .unset, .unset] [(.ref b8)])) _
        refine XS.iconst X29b.here hx rfl (hb hby at_117) ?_
        show Steps p.tables e below (T29.setTop (mkF m 118 #[.val (.int p0), .val (.int p1), .val (.int p2), .val (.int p3), .val (.ref b1), .val (.ref b6), .val (.ref b8), .val (.ref b13), .val (.int ((p3 &&& (2147483647 : Int32)) % (3 : Int32))), .val (.ref b28), .unset, .unset, .unset, .unset, .unset] [(.int (0 : Int32)), (.ref b8)])) _
        refine X29b.caload hx (j := (0 : Int32)) (v := (.int (nar .char (p2 &&& (255 : Int32)).toUInt32.toUInt16.toUInt32.toInt32))) Ar30.1 (State.isArrayOf_alike hZ29.alike Ar30.2.1) Ar30.2.2 hin30 hat30 (g := (mkF m 118 #[.val (.int p0), .val (.int p1), .val (.int p2), .val (.int p3), .val (.ref b1), .val (.ref b6), .val (.ref b8), .val (.ref b13), .val (.int ((p3 &&& (2147483647 : Int32)) % (3 : Int32))), .val (.ref b28), .unset, .unset, .unset, .unset, .unset] [(.int (0 : Int32)), (.ref b8)])) rfl rfl (hb hby at_118) _ ?_
        show Steps p.tables e below (T29.setTop (mkF m 119 #[.val (.int p0), .val (.int p1), .val (.int p2), .val (.int p3), .val (.ref b1), .val (.ref b6), .val (.ref b8), .val (.ref b13), .val (.int ((p3 &&& (2147483647 : Int32)) % (3 : Int32))), .val (.ref b28), .unset, .unset, .unset, .unset, .unset] [(.int (nar .char (p2 &&& (255 : Int32)).toUInt32.toUInt16.toUInt32.toInt32))])) _
        refine st31 _ ?_
        show Steps p.tables e below (T31.setTop (mkF m 122 #[.val (.int p0), .val (.int p1), .val (.int p2), .val (.int p3), .val (.ref b1), .val (.ref b6), .val (.ref b8), .val (.ref b13), .val (.int ((p3 &&& (2147483647 : Int32)) % (3 : Int32))), .val (.ref b28), .unset, .unset, .unset, .unset, .unset] [(.ref bx31)])) _
        refine XS.astore X31.here hx rfl (hb hby at_122) rfl rfl (l' := #[.val (.int p0), .val (.int p1), .val (.int p2), .val (.int p3), .val (.ref b1), .val (.ref b6), .val (.ref b8), .val (.ref b13), .val (.int ((p3 &&& (2147483647 : Int32)) % (3 : Int32))), .val (.ref b28), .val (.ref bx31), .unset, .unset, .unset, .unset]) rfl ?_
        show Steps p.tables e below (T31.setTop (mkF m 124 #[.val (.int p0), .val (.int p1), .val (.int p2), .val (.int p3), .val (.ref b1), .val (.ref b6), .val (.ref b8), .val (.ref b13), .val (.int ((p3 &&& (2147483647 : Int32)) % (3 : Int32))), .val (.ref b28), .val (.ref bx31), .unset, .unset, .unset, .unset] [])) _
        refine st32 _ ?_
        show Steps p.tables e below (T32.setTop (mkF m 127 #[.val (.int p0), .val (.int p1), .val (.int p2), .val (.int p3), .val (.ref b1), .val (.ref b6), .val (.ref b8), .val (.ref b13), .val (.int ((p3 &&& (2147483647 : Int32)) % (3 : Int32))), .val (.ref b28), .val (.ref bx31), .unset, .unset, .unset, .unset] [(.ref b32)])) _
        refine XS.dup X32.here hx rfl (hb hby at_127) rfl rfl ?_
        show Steps p.tables e below (T32.setTop (mkF m 128 #[.val (.int p0), .val (.int p1), .val (.int p2), .val (.int p3), .val (.ref b1), .val (.ref b6), .val (.ref b8), .val (.ref b13), .val (.int ((p3 &&& (2147483647 : Int32)) % (3 : Int32))), .val (.ref b28), .val (.ref bx31), .unset, .unset, .unset, .unset] [(.ref b32), (.ref b32)])) _
        refine XS.aload X32.here hx rfl (hb hby at_128) rfl rfl ?_
        show Steps p.tables e below (T32.setTop (mkF m 130 #[.val (.int p0), .val (.int p1), .val (.int p2), .val (.int p3), .val (.ref b1), .val (.ref b6), .val (.ref b8), .val (.ref b13), .val (.int ((p3 &&& (2147483647 : Int32)) % (3 : Int32))), .val (.ref b28), .val (.ref bx31), .unset, .unset, .unset, .unset] [(.ref b6), (.ref b32), (.ref b32)])) _
        refine XS.aload X32.here hx rfl (hb hby at_130) rfl rfl ?_
        show Steps p.tables e below (T32.setTop (mkF m 132 #[.val (.int p0), .val (.int p1), .val (.int p2), .val (.int p3), .val (.ref b1), .val (.ref b6), .val (.ref b8), .val (.ref b13), .val (.int ((p3 &&& (2147483647 : Int32)) % (3 : Int32))), .val (.ref b28), .val (.ref bx31), .unset, .unset, .unset, .unset] [(.ref b28), (.ref b6), (.ref b32), (.ref b32)])) _
        refine st33.trans ?_
        show Steps p.tables e below (T33.setTop (mkF m 135 #[.val (.int p0), .val (.int p1), .val (.int p2), .val (.int p3), .val (.ref b1), .val (.ref b6), .val (.ref b8), .val (.ref b13), .val (.int ((p3 &&& (2147483647 : Int32)) % (3 : Int32))), .val (.ref b28), .val (.ref bx31), .unset, .unset, .unset, .unset] [(.ref b32)])) _
        refine XS.astore X33.here hx rfl (hb hby at_135) rfl rfl (l' := #[.val (.int p0), .val (.int p1), .val (.int p2), .val (.int p3), .val (.ref b1), .val (.ref b6), .val (.ref b8), .val (.ref b13), .val (.int ((p3 &&& (2147483647 : Int32)) % (3 : Int32))), .val (.ref b28), .val (.ref bx31), .val (.ref b32), .unset, .unset, .unset]) rfl ?_
        show Steps p.tables e below (T33.setTop (mkF m 137 #[.val (.int p0), .val (.int p1), .val (.int p2), .val (.int p3), .val (.ref b1), .val (.ref b6), .val (.ref b8), .val (.ref b13), .val (.int ((p3 &&& (2147483647 : Int32)) % (3 : Int32))), .val (.ref b28), .val (.ref bx31), .val (.ref b32), .unset, .unset, .unset] [])) _
        refine XS.aload X33.here hx rfl (hb hby at_137) rfl rfl ?_
        show Steps p.tables e below (T33.setTop (mkF m 139 #[.val (.int p0), .val (.int p1), .val (.int p2), .val (.int p3), .val (.ref b1), .val (.ref b6), .val (.ref b8), .val (.ref b13), .val (.int ((p3 &&& (2147483647 : Int32)) % (3 : Int32))), .val (.ref b28), .val (.ref bx31), .val (.ref b32), .unset, .unset, .unset] [(.ref b32)])) _
        refine st34.trans ?_
        show Steps p.tables e below (T34.setTop (mkF m 142 #[.val (.int p0), .val (.int p1), .val (.int p2), .val (.int p3), .val (.ref b1), .val (.ref b6), .val (.ref b8), .val (.ref b13), .val (.int ((p3 &&& (2147483647 : Int32)) % (3 : Int32))), .val (.ref b28), .val (.ref bx31), .val (.ref b32), .unset, .unset, .unset] [(.int (0 : Int32))])) _
        refine XS.aload X34.here hx rfl (hb hby at_142) rfl rfl ?_
        show Steps p.tables e below (T34.setTop (mkF m 144 #[.val (.int p0), .val (.int p1), .val (.int p2), .val (.int p3), .val (.ref b1), .val (.ref b6), .val (.ref b8), .val (.ref b13), .val (.int ((p3 &&& (2147483647 : Int32)) % (3 : Int32))), .val (.ref b28), .val (.ref bx31), .val (.ref b32), .unset, .unset, .unset] [(.ref b28), (.int (0 : Int32))])) _
        refine XS.ifnonnullYes X34.here hx rfl (pc0 := 144) (pc' := 151) rfl (hb hby at_144) rfl (by decide) (by decide) ?_
        show Steps p.tables e below (T34.setTop (mkF m 151 #[.val (.int p0), .val (.int p1), .val (.int p2), .val (.int p3), .val (.ref b1), .val (.ref b6), .val (.ref b8), .val (.ref b13), .val (.int ((p3 &&& (2147483647 : Int32)) % (3 : Int32))), .val (.ref b28), .val (.ref bx31), .val (.ref b32), .unset, .unset, .unset] [(.int (0 : Int32))])) _
        refine XS.iconst X34.here hx rfl (hb hby at_151) ?_
        show Steps p.tables e below (T34.setTop (mkF m 152 #[.val (.int p0), .val (.int p1), .val (.int p2), .val (.int p3), .val (.ref b1), .val (.ref b6), .val (.ref b8), .val (.ref b13), .val (.int ((p3 &&& (2147483647 : Int32)) % (3 : Int32))), .val (.ref b28), .val (.ref bx31), .val (.ref b32), .unset, .unset, .unset] [(.int (0 : Int32)), (.int (0 : Int32))])) _
        refine XS.icmpNo X34.here hx rfl (hb hby at_152) rfl (teq (by decide : (0 : Int32) = (0 : Int32))).2 ?_
        show Steps p.tables e below (T34.setTop (mkF m 155 #[.val (.int p0), .val (.int p1), .val (.int p2), .val (.int p3), .val (.ref b1), .val (.ref b6), .val (.ref b8), .val (.ref b13), .val (.int ((p3 &&& (2147483647 : Int32)) % (3 : Int32))), .val (.ref b28), .val (.ref bx31), .val (.ref b32), .unset, .unset, .unset] [])) _
        refine XS.aload X34.here hx rfl (hb hby at_155) rfl rfl ?_
        show Steps p.tables e below (T34.setTop (mkF m 157 #[.val (.int p0), .val (.int p1), .val (.int p2), .val (.int p3), .val (.ref b1), .val (.ref b6), .val (.ref b8), .val (.ref b13), .val (.int ((p3 &&& (2147483647 : Int32)) % (3 : Int32))), .val (.ref b28), .val (.ref bx31), .val (.ref b32), .unset, .unset, .unset] [(.ref b32)])) _
        refine st35.trans ?_
        show Steps p.tables e below (T35.setTop (mkF m 160 #[.val (.int p0), .val (.int p1), .val (.int p2), .val (.int p3), .val (.ref b1), .val (.ref b6), .val (.ref b8), .val (.ref b13), .val (.int ((p3 &&& (2147483647 : Int32)) % (3 : Int32))), .val (.ref b28), .val (.ref bx31), .val (.ref b32), .unset, .unset, .unset] [(.ref b28)])) _
        refine XS.aload X35.here hx rfl (hb hby at_160) rfl rfl ?_
        show Steps p.tables e below (T35.setTop (mkF m 162 #[.val (.int p0), .val (.int p1), .val (.int p2), .val (.int p3), .val (.ref b1), .val (.ref b6), .val (.ref b8), .val (.ref b13), .val (.int ((p3 &&& (2147483647 : Int32)) % (3 : Int32))), .val (.ref b28), .val (.ref bx31), .val (.ref b32), .unset, .unset, .unset] [(.ref b28), (.ref b28)])) _
        refine Jvm.RoadKit.acmp (g := (mkF m 162 #[.val (.int p0), .val (.int p1), .val (.int p2), .val (.int p3), .val (.ref b1), .val (.ref b6), .val (.ref b8), .val (.ref b13), .val (.int ((p3 &&& (2147483647 : Int32)) % (3 : Int32))), .val (.ref b28), .val (.ref bx31), .val (.ref b32), .unset, .unset, .unset] [(.ref b28), (.ref b28)])) X35 hx rfl rfl rfl (pc0 := 162) (pc' := 165) (same := true) rfl (hb hby at_162) rfl (decide_eq_true rfl) (by decide) (by decide) ?_
        show Steps p.tables e below (T35.setTop (mkF m 165 #[.val (.int p0), .val (.int p1), .val (.int p2), .val (.int p3), .val (.ref b1), .val (.ref b6), .val (.ref b8), .val (.ref b13), .val (.int ((p3 &&& (2147483647 : Int32)) % (3 : Int32))), .val (.ref b28), .val (.ref bx31), .val (.ref b32), .unset, .unset, .unset] [])) _
        refine XS.iconst X35.here hx rfl (hb hby at_165) ?_
        show Steps p.tables e below (T35.setTop (mkF m 166 #[.val (.int p0), .val (.int p1), .val (.int p2), .val (.int p3), .val (.ref b1), .val (.ref b6), .val (.ref b8), .val (.ref b13), .val (.int ((p3 &&& (2147483647 : Int32)) % (3 : Int32))), .val (.ref b28), .val (.ref bx31), .val (.ref b32), .unset, .unset, .unset] [(.int (1 : Int32))])) _
        refine XS.goto X35.here hx rfl (pc0 := 166) (pc' := 170) rfl (hb hby at_166) (by decide) (by decide) ?_
        show Steps p.tables e below (T35.setTop (mkF m 170 #[.val (.int p0), .val (.int p1), .val (.int p2), .val (.int p3), .val (.ref b1), .val (.ref b6), .val (.ref b8), .val (.ref b13), .val (.int ((p3 &&& (2147483647 : Int32)) % (3 : Int32))), .val (.ref b28), .val (.ref bx31), .val (.ref b32), .unset, .unset, .unset] [(.int (1 : Int32))])) _
        refine XS.istore X35.here hx rfl (hb hby at_170) rfl (l' := #[.val (.int p0), .val (.int p1), .val (.int p2), .val (.int p3), .val (.ref b1), .val (.ref b6), .val (.ref b8), .val (.ref b13), .val (.int ((p3 &&& (2147483647 : Int32)) % (3 : Int32))), .val (.ref b28), .val (.ref bx31), .val (.ref b32), .val (.int (1 : Int32)), .unset, .unset]) rfl ?_
        show Steps p.tables e below (T35.setTop (mkF m 172 #[.val (.int p0), .val (.int p1), .val (.int p2), .val (.int p3), .val (.ref b1), .val (.ref b6), .val (.ref b8), .val (.ref b13), .val (.int ((p3 &&& (2147483647 : Int32)) % (3 : Int32))), .val (.ref b28), .val (.ref bx31), .val (.ref b32), .val (.int (1 : Int32)), .unset, .unset] [])) _
        refine XS.iloadN X35.here hx rfl (hb hby at_172) rfl ?_
        show Steps p.tables e below (T35.setTop (mkF m 173 #[.val (.int p0), .val (.int p1), .val (.int p2), .val (.int p3), .val (.ref b1), .val (.ref b6), .val (.ref b8), .val (.ref b13), .val (.int ((p3 &&& (2147483647 : Int32)) % (3 : Int32))), .val (.ref b28), .val (.ref bx31), .val (.ref b32), .val (.int (1 : Int32)), .unset, .unset] [(.int p3)])) _
        refine XS.bipush X35.here hx rfl (hb hby at_173) ?_
        show Steps p.tables e below (T35.setTop (mkF m 175 #[.val (.int p0), .val (.int p1), .val (.int p2), .val (.int p3), .val (.ref b1), .val (.ref b6), .val (.ref b8), .val (.ref b13), .val (.int ((p3 &&& (2147483647 : Int32)) % (3 : Int32))), .val (.ref b28), .val (.ref bx31), .val (.ref b32), .val (.int (1 : Int32)), .unset, .unset] [(.int (8 : Int32)), (.int p3)])) _
        refine XS.iushr X35.here hx rfl (hb hby at_175) rfl ?_
        show Steps p.tables e below (T35.setTop (mkF m 176 #[.val (.int p0), .val (.int p1), .val (.int p2), .val (.int p3), .val (.ref b1), .val (.ref b6), .val (.ref b8), .val (.ref b13), .val (.int ((p3 &&& (2147483647 : Int32)) % (3 : Int32))), .val (.ref b28), .val (.ref bx31), .val (.ref b32), .val (.int (1 : Int32)), .unset, .unset] [(.int ((p3.toUInt32 >>> ((8 : Int32) &&& 31).toUInt32).toInt32))])) _
        refine XS.iconst X35.here hx rfl (hb hby at_176) ?_
        show Steps p.tables e below (T35.setTop (mkF m 177 #[.val (.int p0), .val (.int p1), .val (.int p2), .val (.int p3), .val (.ref b1), .val (.ref b6), .val (.ref b8), .val (.ref b13), .val (.int ((p3 &&& (2147483647 : Int32)) % (3 : Int32))), .val (.ref b28), .val (.ref bx31), .val (.ref b32), .val (.int (1 : Int32)), .unset, .unset] [(.int (3 : Int32)), (.int ((p3.toUInt32 >>> ((8 : Int32) &&& 31).toUInt32).toInt32))])) _
        refine XS.iand X35.here hx rfl (hb hby at_177) rfl ?_
        show Steps p.tables e below (T35.setTop (mkF m 178 #[.val (.int p0), .val (.int p1), .val (.int p2), .val (.int p3), .val (.ref b1), .val (.ref b6), .val (.ref b8), .val (.ref b13), .val (.int ((p3 &&& (2147483647 : Int32)) % (3 : Int32))), .val (.ref b28), .val (.ref bx31), .val (.ref b32), .val (.int (1 : Int32)), .unset, .unset] [(.int (((p3.toUInt32 >>> ((8 : Int32) &&& 31).toUInt32).toInt32) &&& (3 : Int32)))])) _
        refine XS.istore X35.here hx rfl (hb hby at_178) rfl (l' := #[.val (.int p0), .val (.int p1), .val (.int p2), .val (.int p3), .val (.ref b1), .val (.ref b6), .val (.ref b8), .val (.ref b13), .val (.int ((p3 &&& (2147483647 : Int32)) % (3 : Int32))), .val (.ref b28), .val (.ref bx31), .val (.ref b32), .val (.int (1 : Int32)), .val (.int (((p3.toUInt32 >>> ((8 : Int32) &&& 31).toUInt32).toInt32) &&& (3 : Int32))), .unset]) rfl ?_
        show Steps p.tables e below (T35.setTop (mkF m 180 #[.val (.int p0), .val (.int p1), .val (.int p2), .val (.int p3), .val (.ref b1), .val (.ref b6), .val (.ref b8), .val (.ref b13), .val (.int ((p3 &&& (2147483647 : Int32)) % (3 : Int32))), .val (.ref b28), .val (.ref bx31), .val (.ref b32), .val (.int (1 : Int32)), .val (.int (((p3.toUInt32 >>> ((8 : Int32) &&& 31).toUInt32).toInt32) &&& (3 : Int32))), .unset] [])) _
        refine XS.iload X35.here hx rfl (hb hby at_180) rfl ?_
        exact kt
      by_cases hc182 : (((p3.toUInt32 >>> ((8 : Int32) &&& 31).toUInt32).toInt32) &&& (3 : Int32)) = (0 : Int32)
      · obtain ⟨_, _, ⟨T37, L37, k37, n37⟩, -, X37, ⟨Lc37, hQ37, l37, y37, z37⟩, st37⟩ := Jvm.LawKit.callS X35 hx (y := (⟨"com/example/watchpost/watchpost/Option", "flag", "(Ljava/lang/String;)Lcom/example/watchpost/watchpost/Option;"⟩ : MethodName)) hown29 (mvT hZ29 (hw _ (List.mem_of_getElem? (i := 76) rfl))) (mvT hZ29 (hw _ (List.mem_of_getElem? (i := 77) rfl))) (mvT hZ29 (hw _ (List.mem_of_getElem? (i := 50) rfl))) (mvT hZ29 (hw _ (List.mem_of_getElem? (i := 78) rfl))) (by decide) (backOf (W := 0) (rm_f1 l Z a0 hw [] b6 T33.heap n0 Z33) hZ29 (hw _ (List.mem_of_getElem? (i := 78) rfl)) (hw _ (List.mem_of_getElem? (i := 50) rfl)) (by decide) (by decide)) (g := (mkF m 187 #[.val (.int p0), .val (.int p1), .val (.int p2), .val (.int p3), .val (.ref b1), .val (.ref b6), .val (.ref b8), .val (.ref b13), .val (.int ((p3 &&& (2147483647 : Int32)) % (3 : Int32))), .val (.ref b28), .val (.ref bx31), .val (.ref b32), .val (.int (1 : Int32)), .val (.int (((p3.toUInt32 >>> ((8 : Int32) &&& 31).toUInt32).toInt32) &&& (3 : Int32))), .unset] [(.ref b6)])) rfl (by rw [hml]; rfl) (argsL := [(.ref b6)]) (rest := []) (lenOf pd_10 rfl) rfl (by show 2 * 0 + _ ≤ _; exact Nat.le_of_eq rfl) (hb hby at_187) (fun _ _ => ⟨rfl, e35, (by decide : 11 + 1 ≤ _), (by decide : 27 + 4 ≤ _)⟩)
        dsimp only [Pt.U, Pt.locs, Pt.cells, Pt.slots] at X37 l37 y37 z37 st37 hQ37
        subst l37 y37 z37
        obtain ⟨bx37, rfl, N37q, x37c0, x37c1, x37c2, x37c3, x37c4⟩ := hQ37
        have N37 := Fr.app N35 N37q
        have ne_b1_bx37 : b1 ≠ bx37 := Nat.ne_of_lt (Nat.lt_of_lt_of_le V5_33.lt x37c2)
        have ne_b6_bx37 : b6 ≠ bx37 := Nat.ne_of_lt (Nat.lt_of_lt_of_le A6_33.lt x37c2)
        have ne_b8_bx37 : b8 ≠ bx37 := Nat.ne_of_lt (Nat.lt_of_lt_of_le V12_33.lt x37c2)
        have ne_b13_bx37 : b13 ≠ bx37 := Nat.ne_of_lt (Nat.lt_of_lt_of_le V_b13_33.lt x37c2)
        have ne_b28_bx37 : b28 ≠ bx37 := Nat.ne_of_lt (Nat.lt_of_lt_of_le A28_33.lt x37c2)
        have ne_bx31_bx37 : bx31 ≠ bx37 := Nat.ne_of_lt (Nat.lt_of_lt_of_le x31c3_33.lt x37c2)
        have ne_b32_bx37 : b32 ≠ bx37 := Nat.ne_of_lt (Nat.lt_of_lt_of_le A32_33.lt x37c2)
        have X00_37 : Old Z n0 T37.heap := X00_33.keep x37c0 all0
        have V5_37 : Arv Z T37.heap b1 k1 .char (2 : Int32) [(.int (nar .char (p0 &&& (255 : Int32)).toUInt32.toUInt16.toUInt32.toInt32)), (.int (nar .char (p1 &&& (255 : Int32)).toUInt32.toUInt16.toUInt32.toInt32))] (.int (0 : Int32)) := V5_33.keep x37c0 nin0
        have A6_37 : Exa Z T37.heap b6 "java/lang/String" := A6_33.keep x37c0
        have V12_37 : Arv Z T37.heap b8 k8 .char (2 : Int32) [(.int (nar .char (p2 &&& (255 : Int32)).toUInt32.toUInt16.toUInt32.toInt32)), (.int (nar .char (((p2.toUInt32 >>> ((8 : Int32) &&& 31).toUInt32).toInt32) &&& (255 : Int32)).toUInt32.toUInt16.toUInt32.toInt32))] (.int (0 : Int32)) := V12_33.keep x37c0 nin0
        have V_b13_37 : Arv Z T37.heap b13 k13 .char (0 : Int32) [] (.int (0 : Int32)) := V_b13_33.keep x37c0 nin0
        have A28_37 : Exa Z T37.heap b28 "java/lang/String" := A28_33.keep x37c0
        have x31c3_37 : Exa Z T37.heap bx31 "java/lang/String" := x31c3_33.keep x37c0
        have A32_37 : Exa Z T37.heap b32 "com/example/watchpost/watchpost/Option" := A32_33.keep x37c0
        have x33c1_37 : Fld Z T37.heap b32 "com/example/watchpost/watchpost/Option" "name" "Ljava/lang/String;" (.ref b6) := x33c1.keep x37c0 nin0
        have x33c2_37 : Fld Z T37.heap b32 "com/example/watchpost/watchpost/Option" "shortName" "Ljava/lang/String;" .null := x33c2.keep x37c0 nin0
        have x33c3_37 : Fld Z T37.heap b32 "com/example/watchpost/watchpost/Option" "value" "Ljava/lang/String;" (.ref b28) := x33c3.keep x37c0 nin0
        have x33c4_37 : Fld Z T37.heap b32 "com/example/watchpost/watchpost/Option" "required" "Z" (.int (nar .boolean (0 : Int32))) := x33c4.keep x37c0 nin0
        have Sh_CS_37 : Sta Z T37.heap "java/lang/String" "COMPACT_STRINGS" "Z" (.int zc) := S_CS.ext X00_37.2
        have hk37' : _ ≤ T37.heap.size := Nat.le_trans hk33' x37c0.1
        have Z37 : n0 ≤ T37.heap.size := Nat.le_trans Z33 x37c0.1
        obtain ⟨cq38, kq38, q38a, q38b, q38c⟩ := isOf hZ29 rfl x37c3
        obtain ⟨_, _, ⟨T38, L38, k38, n38⟩, -, X38, ⟨Lc38, hQ38, l38, y38, z38⟩, st38⟩ := X37.virtualBack hx (y := (⟨"com/example/watchpost/watchpost/Option", "isFlag", "()Z"⟩ : MethodName)) (z := (⟨"com/example/watchpost/watchpost/Option", "isFlag", "()Z"⟩ : MethodName)) hown29 (mvT hZ29 (hw _ (List.mem_of_getElem? (i := 66) rfl))) (mvT hZ29 (hw _ (List.mem_of_getElem? (i := 67) rfl))) (notFace_of_selects (args := #[]) (mvT hZ29 (hw _ (List.mem_of_getElem? (i := 69) rfl)))) (mvT hZ29 (hw _ (List.mem_of_getElem? (i := 69) rfl))) (mvT hZ29 (hw _ (List.mem_of_getElem? (i := 68) rfl))) (by decide) (backOf (W := 0) (rm_flag0 l Z a0 hw [] bx37 T37.heap n0 Z37 x37c4) hZ29 (hw _ (List.mem_of_getElem? (i := 70) rfl)) (hw _ (List.mem_of_getElem? (i := 50) rfl)) (by decide) (by decide)) q38a q38c (g := (mkF m 190 #[.val (.int p0), .val (.int p1), .val (.int p2), .val (.int p3), .val (.ref b1), .val (.ref b6), .val (.ref b8), .val (.ref b13), .val (.int ((p3 &&& (2147483647 : Int32)) % (3 : Int32))), .val (.ref b28), .val (.ref bx31), .val (.ref b32), .val (.int (1 : Int32)), .val (.int (((p3.toUInt32 >>> ((8 : Int32) &&& 31).toUInt32).toInt32) &&& (3 : Int32))), .unset] [(.ref bx37)])) rfl (by rw [hml]; rfl) (Steps.refl _) (argsL := []) (rest := []) (lenOf pd_8 rfl) rfl (by show 2 * 0 + _ ≤ _; exact Nat.le_of_eq rfl) (hb hby at_190) (fun _ _ => ⟨rfl, rfl, (by decide : 12 + 0 ≤ _), (by decide : 31 + 0 ≤ _)⟩)
        dsimp only [Pt.U, Pt.locs, Pt.cells, Pt.slots] at X38 l38 y38 z38 st38 hQ38
        subst l38 y38 z38
        obtain ⟨rfl, N38q, e38⟩ := hQ38
        have N38 := Fr.app N37 N38q
        obtain ⟨fs, hr, hrun, hended, hREW⟩ := X38.leaveW hS29 (by first | exact hk37' | (rw [e38]; exact hk37')) (v := some (.int (1 : Int32))) (fun h => by rw [Bd.returns] at h; cases h)
        refine ⟨_, _, pre0 _ ?_, hrun, hended, _, _, rfl, ?_, hREW.1, hREW.2.1, hREW.2.2.1, hREW.2.2.2.mono (by decide) (by decide)⟩
        · refine k36 _ ?_
          show Steps p.tables e below (T35.setTop (mkF m 182 #[.val (.int p0), .val (.int p1), .val (.int p2), .val (.int p3), .val (.ref b1), .val (.ref b6), .val (.ref b8), .val (.ref b13), .val (.int ((p3 &&& (2147483647 : Int32)) % (3 : Int32))), .val (.ref b28), .val (.ref bx31), .val (.ref b32), .val (.int (1 : Int32)), .val (.int (((p3.toUInt32 >>> ((8 : Int32) &&& 31).toUInt32).toInt32) &&& (3 : Int32))), .unset] [(.int (((p3.toUInt32 >>> ((8 : Int32) &&& 31).toUInt32).toInt32) &&& (3 : Int32)))])) _
          refine XS.ifNo X35.here hx rfl (hb hby at_182) rfl ((if0 _ _).trans (teq hc182).2) ?_
          show Steps p.tables e below (T35.setTop (mkF m 185 #[.val (.int p0), .val (.int p1), .val (.int p2), .val (.int p3), .val (.ref b1), .val (.ref b6), .val (.ref b8), .val (.ref b13), .val (.int ((p3 &&& (2147483647 : Int32)) % (3 : Int32))), .val (.ref b28), .val (.ref bx31), .val (.ref b32), .val (.int (1 : Int32)), .val (.int (((p3.toUInt32 >>> ((8 : Int32) &&& 31).toUInt32).toInt32) &&& (3 : Int32))), .unset] [])) _
          refine XS.aload X35.here hx rfl (hb hby at_185) rfl rfl ?_
          show Steps p.tables e below (T35.setTop (mkF m 187 #[.val (.int p0), .val (.int p1), .val (.int p2), .val (.int p3), .val (.ref b1), .val (.ref b6), .val (.ref b8), .val (.ref b13), .val (.int ((p3 &&& (2147483647 : Int32)) % (3 : Int32))), .val (.ref b28), .val (.ref bx31), .val (.ref b32), .val (.int (1 : Int32)), .val (.int (((p3.toUInt32 >>> ((8 : Int32) &&& 31).toUInt32).toInt32) &&& (3 : Int32))), .unset] [(.ref b6)])) _
          refine st37 _ ?_
          show Steps p.tables e below (T37.setTop (mkF m 190 #[.val (.int p0), .val (.int p1), .val (.int p2), .val (.int p3), .val (.ref b1), .val (.ref b6), .val (.ref b8), .val (.ref b13), .val (.int ((p3 &&& (2147483647 : Int32)) % (3 : Int32))), .val (.ref b28), .val (.ref bx31), .val (.ref b32), .val (.int (1 : Int32)), .val (.int (((p3.toUInt32 >>> ((8 : Int32) &&& 31).toUInt32).toInt32) &&& (3 : Int32))), .unset] [(.ref bx37)])) _
          refine st38.trans ?_
          show Steps p.tables e below (T38.setTop (mkF m 193 #[.val (.int p0), .val (.int p1), .val (.int p2), .val (.int p3), .val (.ref b1), .val (.ref b6), .val (.ref b8), .val (.ref b13), .val (.int ((p3 &&& (2147483647 : Int32)) % (3 : Int32))), .val (.ref b28), .val (.ref bx31), .val (.ref b32), .val (.int (1 : Int32)), .val (.int (((p3.toUInt32 >>> ((8 : Int32) &&& 31).toUInt32).toInt32) &&& (3 : Int32))), .unset] [(.int (1 : Int32))])) _
          refine XS.istore X38.here hx rfl (hb hby at_193) rfl (l' := #[.val (.int p0), .val (.int p1), .val (.int p2), .val (.int p3), .val (.ref b1), .val (.ref b6), .val (.ref b8), .val (.ref b13), .val (.int ((p3 &&& (2147483647 : Int32)) % (3 : Int32))), .val (.ref b28), .val (.ref bx31), .val (.ref b32), .val (.int (1 : Int32)), .val (.int (((p3.toUInt32 >>> ((8 : Int32) &&& 31).toUInt32).toInt32) &&& (3 : Int32))), .val (.int (1 : Int32))]) rfl ?_
          show Steps p.tables e below (T38.setTop (mkF m 195 #[.val (.int p0), .val (.int p1), .val (.int p2), .val (.int p3), .val (.ref b1), .val (.ref b6), .val (.ref b8), .val (.ref b13), .val (.int ((p3 &&& (2147483647 : Int32)) % (3 : Int32))), .val (.ref b28), .val (.ref bx31), .val (.ref b32), .val (.int (1 : Int32)), .val (.int (((p3.toUInt32 >>> ((8 : Int32) &&& 31).toUInt32).toInt32) &&& (3 : Int32))), .val (.int (1 : Int32))] [])) _
          refine XS.goto X38.here hx rfl (pc0 := 195) (pc' := 250) rfl (hb hby at_195) (by decide) (by decide) ?_
          show Steps p.tables e below (T38.setTop (mkF m 250 #[.val (.int p0), .val (.int p1), .val (.int p2), .val (.int p3), .val (.ref b1), .val (.ref b6), .val (.ref b8), .val (.ref b13), .val (.int ((p3 &&& (2147483647 : Int32)) % (3 : Int32))), .val (.ref b28), .val (.ref bx31), .val (.ref b32), .val (.int (1 : Int32)), .val (.int (((p3.toUInt32 >>> ((8 : Int32) &&& 31).toUInt32).toInt32) &&& (3 : Int32))), .val (.int (1 : Int32))] [])) _
          refine XS.iload X38.here hx rfl (hb hby at_250) rfl ?_
          show Steps p.tables e below (T38.setTop (mkF m 252 #[.val (.int p0), .val (.int p1), .val (.int p2), .val (.int p3), .val (.ref b1), .val (.ref b6), .val (.ref b8), .val (.ref b13), .val (.int ((p3 &&& (2147483647 : Int32)) % (3 : Int32))), .val (.ref b28), .val (.ref bx31), .val (.ref b32), .val (.int (1 : Int32)), .val (.int (((p3.toUInt32 >>> ((8 : Int32) &&& 31).toUInt32).toInt32) &&& (3 : Int32))), .val (.int (1 : Int32))] [(.int (1 : Int32))])) _
          refine XS.ifNo X38.here hx rfl (hb hby at_252) rfl ((if0 _ _).trans (feq (by decide : ¬ ((1 : Int32) = (0 : Int32)))).1) ?_
          show Steps p.tables e below (T38.setTop (mkF m 255 #[.val (.int p0), .val (.int p1), .val (.int p2), .val (.int p3), .val (.ref b1), .val (.ref b6), .val (.ref b8), .val (.ref b13), .val (.int ((p3 &&& (2147483647 : Int32)) % (3 : Int32))), .val (.ref b28), .val (.ref bx31), .val (.ref b32), .val (.int (1 : Int32)), .val (.int (((p3.toUInt32 >>> ((8 : Int32) &&& 31).toUInt32).toInt32) &&& (3 : Int32))), .val (.int (1 : Int32))] [])) _
          refine XS.iload X38.here hx rfl (hb hby at_255) rfl ?_
          show Steps p.tables e below (T38.setTop (mkF m 257 #[.val (.int p0), .val (.int p1), .val (.int p2), .val (.int p3), .val (.ref b1), .val (.ref b6), .val (.ref b8), .val (.ref b13), .val (.int ((p3 &&& (2147483647 : Int32)) % (3 : Int32))), .val (.ref b28), .val (.ref bx31), .val (.ref b32), .val (.int (1 : Int32)), .val (.int (((p3.toUInt32 >>> ((8 : Int32) &&& 31).toUInt32).toInt32) &&& (3 : Int32))), .val (.int (1 : Int32))] [(.int (1 : Int32))])) _
          refine XS.ifNo X38.here hx rfl (hb hby at_257) rfl ((if0 _ _).trans (feq (by decide : ¬ ((1 : Int32) = (0 : Int32)))).1) ?_
          show Steps p.tables e below (T38.setTop (mkF m 260 #[.val (.int p0), .val (.int p1), .val (.int p2), .val (.int p3), .val (.ref b1), .val (.ref b6), .val (.ref b8), .val (.ref b13), .val (.int ((p3 &&& (2147483647 : Int32)) % (3 : Int32))), .val (.ref b28), .val (.ref bx31), .val (.ref b32), .val (.int (1 : Int32)), .val (.int (((p3.toUInt32 >>> ((8 : Int32) &&& 31).toUInt32).toInt32) &&& (3 : Int32))), .val (.int (1 : Int32))] [])) _
          refine XS.iconst X38.here hx rfl (hb hby at_260) ?_
          show Steps p.tables e below (T38.setTop (mkF m 261 #[.val (.int p0), .val (.int p1), .val (.int p2), .val (.int p3), .val (.ref b1), .val (.ref b6), .val (.ref b8), .val (.ref b13), .val (.int ((p3 &&& (2147483647 : Int32)) % (3 : Int32))), .val (.ref b28), .val (.ref bx31), .val (.ref b32), .val (.int (1 : Int32)), .val (.int (((p3.toUInt32 >>> ((8 : Int32) &&& 31).toUInt32).toInt32) &&& (3 : Int32))), .val (.int (1 : Int32))] [(.int (1 : Int32))])) _
          refine XS.goto X38.here hx rfl (pc0 := 261) (pc' := 265) rfl (hb hby at_261) (by decide) (by decide) ?_
          show Steps p.tables e below (T38.setTop (mkF m 265 #[.val (.int p0), .val (.int p1), .val (.int p2), .val (.int p3), .val (.ref b1), .val (.ref b6), .val (.ref b8), .val (.ref b13), .val (.int ((p3 &&& (2147483647 : Int32)) % (3 : Int32))), .val (.ref b28), .val (.ref bx31), .val (.ref b32), .val (.int (1 : Int32)), .val (.int (((p3.toUInt32 >>> ((8 : Int32) &&& 31).toUInt32).toInt32) &&& (3 : Int32))), .val (.int (1 : Int32))] [(.int (1 : Int32))])) _
          exact retN X38 hx (t := .boolean) Bd.returns (by simp) (hb hby at_265) hr
        · show Q_rm_law Z p0 p1 p2 p3 zc h0 n0 _ T38.heap _
          rw [e38]
          exact ⟨rfl, N38, trivial⟩
      · have k39 : ∀ target, Steps p.tables e below (T35.setTop (mkF m 201 #[.val (.int p0), .val (.int p1), .val (.int p2), .val (.int p3), .val (.ref b1), .val (.ref b6), .val (.ref b8), .val (.ref b13), .val (.int ((p3 &&& (2147483647 : Int32)) % (3 : Int32))), .val (.ref b28), .val (.ref bx31), .val (.ref b32), .val (.int (1 : Int32)), .val (.int (((p3.toUInt32 >>> ((8 : Int32) &&& 31).toUInt32).toInt32) &&& (3 : Int32))), .unset] [(.int (1 : Int32)), (.int (((p3.toUInt32 >>> ((8 : Int32) &&& 31).toUInt32).toInt32) &&& (3 : Int32)))])) target → Steps p.tables e below (s₁.setTop (mkF m 0 #[.val (.int p0), .val (.int p1), .val (.int p2), .val (.int p3), .unset, .unset, .unset, .unset, .unset, .unset, .unset, .unset, .unset, .unset, .unset] [])) target := by
          intro target kt
          refine k36 _ ?_
          show Steps p.tables e below (T35.setTop (mkF m 182 #[.val (.int p0), .val (.int p1), .val (.int p2), .val (.int p3), .val (.ref b1), .val (.ref b6), .val (.ref b8), .val (.ref b13), .val (.int ((p3 &&& (2147483647 : Int32)) % (3 : Int32))), .val (.ref b28), .val (.ref bx31), .val (.ref b32), .val (.int (1 : Int32)), .val (.int (((p3.toUInt32 >>> ((8 : Int32) &&& 31).toUInt32).toInt32) &&& (3 : Int32))), .unset] [(.int (((p3.toUInt32 >>> ((8 : Int32) &&& 31).toUInt32).toInt32) &&& (3 : Int32)))])) _
          refine XS.ifYes X35.here hx rfl (pc0 := 182) (pc' := 198) rfl (hb hby at_182) rfl ((if0 _ _).trans (feq hc182).2) (by decide) (by decide) ?_
          show Steps p.tables e below (T35.setTop (mkF m 198 #[.val (.int p0), .val (.int p1), .val (.int p2), .val (.int p3), .val (.ref b1), .val (.ref b6), .val (.ref b8), .val (.ref b13), .val (.int ((p3 &&& (2147483647 : Int32)) % (3 : Int32))), .val (.ref b28), .val (.ref bx31), .val (.ref b32), .val (.int (1 : Int32)), .val (.int (((p3.toUInt32 >>> ((8 : Int32) &&& 31).toUInt32).toInt32) &&& (3 : Int32))), .unset] [])) _
          refine XS.iload X35.here hx rfl (hb hby at_198) rfl ?_
          show Steps p.tables e below (T35.setTop (mkF m 200 #[.val (.int p0), .val (.int p1), .val (.int p2), .val (.int p3), .val (.ref b1), .val (.ref b6), .val (.ref b8), .val (.ref b13), .val (.int ((p3 &&& (2147483647 : Int32)) % (3 : Int32))), .val (.ref b28), .val (.ref bx31), .val (.ref b32), .val (.int (1 : Int32)), .val (.int (((p3.toUInt32 >>> ((8 : Int32) &&& 31).toUInt32).toInt32) &&& (3 : Int32))), .unset] [(.int (((p3.toUInt32 >>> ((8 : Int32) &&& 31).toUInt32).toInt32) &&& (3 : Int32)))])) _
          refine XS.iconst X35.here hx rfl (hb hby at_200) ?_
          exact kt
        by_cases hc201 : (((p3.toUInt32 >>> ((8 : Int32) &&& 31).toUInt32).toInt32) &&& (3 : Int32)) = (1 : Int32)
        · obtain ⟨_, _, ⟨T40, L40, k40, n40⟩, -, X40, ⟨Lc40, hQ40, l40, y40, z40⟩, st40⟩ := Jvm.LawKit.callS X35 hx (y := (⟨"com/example/watchpost/watchpost/Option", "flag", "(Ljava/lang/String;Ljava/lang/String;)Lcom/example/watchpost/watchpost/Option;"⟩ : MethodName)) hown29 (mvT hZ29 (hw _ (List.mem_of_getElem? (i := 81) rfl))) (mvT hZ29 (hw _ (List.mem_of_getElem? (i := 82) rfl))) (mvT hZ29 (hw _ (List.mem_of_getElem? (i := 50) rfl))) (mvT hZ29 (hw _ (List.mem_of_getElem? (i := 83) rfl))) (by decide) (backOf (W := 0) (rm_f2 l Z a0 hw [] b6 bx31 T33.heap n0 Z33) hZ29 (hw _ (List.mem_of_getElem? (i := 83) rfl)) (hw _ (List.mem_of_getElem? (i := 50) rfl)) (by decide) (by decide)) (g := (mkF m 208 #[.val (.int p0), .val (.int p1), .val (.int p2), .val (.int p3), .val (.ref b1), .val (.ref b6), .val (.ref b8), .val (.ref b13), .val (.int ((p3 &&& (2147483647 : Int32)) % (3 : Int32))), .val (.ref b28), .val (.ref bx31), .val (.ref b32), .val (.int (1 : Int32)), .val (.int (((p3.toUInt32 >>> ((8 : Int32) &&& 31).toUInt32).toInt32) &&& (3 : Int32))), .unset] [(.ref bx31), (.ref b6)])) rfl (by rw [hml]; rfl) (argsL := [(.ref b6), (.ref bx31)]) (rest := []) (lenOf pd_11 rfl) rfl (by show 2 * 0 + _ ≤ _; exact Nat.le_of_eq rfl) (hb hby at_208) (fun _ _ => ⟨rfl, e35, (by decide : 11 + 1 ≤ _), (by decide : 27 + 4 ≤ _)⟩)
          dsimp only [Pt.U, Pt.locs, Pt.cells, Pt.slots] at X40 l40 y40 z40 st40 hQ40
          subst l40 y40 z40
          obtain ⟨bx40, rfl, N40q, x40c0, x40c1, x40c2, x40c3, x40c4⟩ := hQ40
          have N40 := Fr.app N35 N40q
          have ne_b1_bx40 : b1 ≠ bx40 := Nat.ne_of_lt (Nat.lt_of_lt_of_le V5_33.lt x40c2)
          have ne_b6_bx40 : b6 ≠ bx40 := Nat.ne_of_lt (Nat.lt_of_lt_of_le A6_33.lt x40c2)
          have ne_b8_bx40 : b8 ≠ bx40 := Nat.ne_of_lt (Nat.lt_of_lt_of_le V12_33.lt x40c2)
          have ne_b13_bx40 : b13 ≠ bx40 := Nat.ne_of_lt (Nat.lt_of_lt_of_le V_b13_33.lt x40c2)
          have ne_b28_bx40 : b28 ≠ bx40 := Nat.ne_of_lt (Nat.lt_of_lt_of_le A28_33.lt x40c2)
          have ne_bx31_bx40 : bx31 ≠ bx40 := Nat.ne_of_lt (Nat.lt_of_lt_of_le x31c3_33.lt x40c2)
          have ne_b32_bx40 : b32 ≠ bx40 := Nat.ne_of_lt (Nat.lt_of_lt_of_le A32_33.lt x40c2)
          have X00_40 : Old Z n0 T40.heap := X00_33.keep x40c0 all0
          have V5_40 : Arv Z T40.heap b1 k1 .char (2 : Int32) [(.int (nar .char (p0 &&& (255 : Int32)).toUInt32.toUInt16.toUInt32.toInt32)), (.int (nar .char (p1 &&& (255 : Int32)).toUInt32.toUInt16.toUInt32.toInt32))] (.int (0 : Int32)) := V5_33.keep x40c0 nin0
          have A6_40 : Exa Z T40.heap b6 "java/lang/String" := A6_33.keep x40c0
          have V12_40 : Arv Z T40.heap b8 k8 .char (2 : Int32) [(.int (nar .char (p2 &&& (255 : Int32)).toUInt32.toUInt16.toUInt32.toInt32)), (.int (nar .char (((p2.toUInt32 >>> ((8 : Int32) &&& 31).toUInt32).toInt32) &&& (255 : Int32)).toUInt32.toUInt16.toUInt32.toInt32))] (.int (0 : Int32)) := V12_33.keep x40c0 nin0
          have V_b13_40 : Arv Z T40.heap b13 k13 .char (0 : Int32) [] (.int (0 : Int32)) := V_b13_33.keep x40c0 nin0
          have A28_40 : Exa Z T40.heap b28 "java/lang/String" := A28_33.keep x40c0
          have x31c3_40 : Exa Z T40.heap bx31 "java/lang/String" := x31c3_33.keep x40c0
          have A32_40 : Exa Z T40.heap b32 "com/example/watchpost/watchpost/Option" := A32_33.keep x40c0
          have x33c1_40 : Fld Z T40.heap b32 "com/example/watchpost/watchpost/Option" "name" "Ljava/lang/String;" (.ref b6) := x33c1.keep x40c0 nin0
          have x33c2_40 : Fld Z T40.heap b32 "com/example/watchpost/watchpost/Option" "shortName" "Ljava/lang/String;" .null := x33c2.keep x40c0 nin0
          have x33c3_40 : Fld Z T40.heap b32 "com/example/watchpost/watchpost/Option" "value" "Ljava/lang/String;" (.ref b28) := x33c3.keep x40c0 nin0
          have x33c4_40 : Fld Z T40.heap b32 "com/example/watchpost/watchpost/Option" "required" "Z" (.int (nar .boolean (0 : Int32))) := x33c4.keep x40c0 nin0
          have Sh_CS_40 : Sta Z T40.heap "java/lang/String" "COMPACT_STRINGS" "Z" (.int zc) := S_CS.ext X00_40.2
          have hk40' : _ ≤ T40.heap.size := Nat.le_trans hk33' x40c0.1
          have Z40 : n0 ≤ T40.heap.size := Nat.le_trans Z33 x40c0.1
          obtain ⟨cq41, kq41, q41a, q41b, q41c⟩ := isOf hZ29 rfl x40c3
          obtain ⟨_, _, ⟨T41, L41, k41, n41⟩, -, X41, ⟨Lc41, hQ41, l41, y41, z41⟩, st41⟩ := X40.virtualBack hx (y := (⟨"com/example/watchpost/watchpost/Option", "isFlag", "()Z"⟩ : MethodName)) (z := (⟨"com/example/watchpost/watchpost/Option", "isFlag", "()Z"⟩ : MethodName)) hown29 (mvT hZ29 (hw _ (List.mem_of_getElem? (i := 66) rfl))) (mvT hZ29 (hw _ (List.mem_of_getElem? (i := 67) rfl))) (notFace_of_selects (args := #[]) (mvT hZ29 (hw _ (List.mem_of_getElem? (i := 69) rfl)))) (mvT hZ29 (hw _ (List.mem_of_getElem? (i := 69) rfl))) (mvT hZ29 (hw _ (List.mem_of_getElem? (i := 68) rfl))) (by decide) (backOf (W := 0) (rm_flag0 l Z a0 hw [] bx40 T40.heap n0 Z40 x40c4) hZ29 (hw _ (List.mem_of_getElem? (i := 70) rfl)) (hw _ (List.mem_of_getElem? (i := 50) rfl)) (by decide) (by decide)) q41a q41c (g := (mkF m 211 #[.val (.int p0), .val (.int p1), .val (.int p2), .val (.int p3), .val (.ref b1), .val (.ref b6), .val (.ref b8), .val (.ref b13), .val (.int ((p3 &&& (2147483647 : Int32)) % (3 : Int32))), .val (.ref b28), .val (.ref bx31), .val (.ref b32), .val (.int (1 : Int32)), .val (.int (((p3.toUInt32 >>> ((8 : Int32) &&& 31).toUInt32).toInt32) &&& (3 : Int32))), .unset] [(.ref bx40)])) rfl (by rw [hml]; rfl) (Steps.refl _) (argsL := []) (rest := []) (lenOf pd_8 rfl) rfl (by show 2 * 0 + _ ≤ _; exact Nat.le_of_eq rfl) (hb hby at_211) (fun _ _ => ⟨rfl, rfl, (by decide : 12 + 0 ≤ _), (by decide : 31 + 0 ≤ _)⟩)
          dsimp only [Pt.U, Pt.locs, Pt.cells, Pt.slots] at X41 l41 y41 z41 st41 hQ41
          subst l41 y41 z41
          obtain ⟨rfl, N41q, e41⟩ := hQ41
          have N41 := Fr.app N40 N41q
          obtain ⟨fs, hr, hrun, hended, hREW⟩ := X41.leaveW hS29 (by first | exact hk40' | (rw [e41]; exact hk40')) (v := some (.int (1 : Int32))) (fun h => by rw [Bd.returns] at h; cases h)
          refine ⟨_, _, pre0 _ ?_, hrun, hended, _, _, rfl, ?_, hREW.1, hREW.2.1, hREW.2.2.1, hREW.2.2.2.mono (by decide) (by decide)⟩
          · refine k39 _ ?_
            show Steps p.tables e below (T35.setTop (mkF m 201 #[.val (.int p0), .val (.int p1), .val (.int p2), .val (.int p3), .val (.ref b1), .val (.ref b6), .val (.ref b8), .val (.ref b13), .val (.int ((p3 &&& (2147483647 : Int32)) % (3 : Int32))), .val (.ref b28), .val (.ref bx31), .val (.ref b32), .val (.int (1 : Int32)), .val (.int (((p3.toUInt32 >>> ((8 : Int32) &&& 31).toUInt32).toInt32) &&& (3 : Int32))), .unset] [(.int (1 : Int32)), (.int (((p3.toUInt32 >>> ((8 : Int32) &&& 31).toUInt32).toInt32) &&& (3 : Int32)))])) _
            refine XS.icmpNo X35.here hx rfl (hb hby at_201) rfl (teq hc201).2 ?_
            show Steps p.tables e below (T35.setTop (mkF m 204 #[.val (.int p0), .val (.int p1), .val (.int p2), .val (.int p3), .val (.ref b1), .val (.ref b6), .val (.ref b8), .val (.ref b13), .val (.int ((p3 &&& (2147483647 : Int32)) % (3 : Int32))), .val (.ref b28), .val (.ref bx31), .val (.ref b32), .val (.int (1 : Int32)), .val (.int (((p3.toUInt32 >>> ((8 : Int32) &&& 31).toUInt32).toInt32) &&& (3 : Int32))), .unset] [])) _
            refine XS.aload X35.here hx rfl (hb hby at_204) rfl rfl ?_
            show Steps p.tables e below (T35.setTop (mkF m 206 #[.val (.int p0), .val (.int p1), .val (.int p2), .val (.int p3), .val (.ref b1), .val (.ref b6), .val (.ref b8), .val (.ref b13), .val (.int ((p3 &&& (2147483647 : Int32)) % (3 : Int32))), .val (.ref b28), .val (.ref bx31), .val (.ref b32), .val (.int (1 : Int32)), .val (.int (((p3.toUInt32 >>> ((8 : Int32) &&& 31).toUInt32).toInt32) &&& (3 : Int32))), .unset] [(.ref b6)])) _
            refine XS.aload X35.here hx rfl (hb hby at_206) rfl rfl ?_
            show Steps p.tables e below (T35.setTop (mkF m 208 #[.val (.int p0), .val (.int p1), .val (.int p2), .val (.int p3), .val (.ref b1), .val (.ref b6), .val (.ref b8), .val (.ref b13), .val (.int ((p3 &&& (2147483647 : Int32)) % (3 : Int32))), .val (.ref b28), .val (.ref bx31), .val (.ref b32), .val (.int (1 : Int32)), .val (.int (((p3.toUInt32 >>> ((8 : Int32) &&& 31).toUInt32).toInt32) &&& (3 : Int32))), .unset] [(.ref bx31), (.ref b6)])) _
            refine st40 _ ?_
            show Steps p.tables e below (T40.setTop (mkF m 211 #[.val (.int p0), .val (.int p1), .val (.int p2), .val (.int p3), .val (.ref b1), .val (.ref b6), .val (.ref b8), .val (.ref b13), .val (.int ((p3 &&& (2147483647 : Int32)) % (3 : Int32))), .val (.ref b28), .val (.ref bx31), .val (.ref b32), .val (.int (1 : Int32)), .val (.int (((p3.toUInt32 >>> ((8 : Int32) &&& 31).toUInt32).toInt32) &&& (3 : Int32))), .unset] [(.ref bx40)])) _
            refine st41.trans ?_
            show Steps p.tables e below (T41.setTop (mkF m 214 #[.val (.int p0), .val (.int p1), .val (.int p2), .val (.int p3), .val (.ref b1), .val (.ref b6), .val (.ref b8), .val (.ref b13), .val (.int ((p3 &&& (2147483647 : Int32)) % (3 : Int32))), .val (.ref b28), .val (.ref bx31), .val (.ref b32), .val (.int (1 : Int32)), .val (.int (((p3.toUInt32 >>> ((8 : Int32) &&& 31).toUInt32).toInt32) &&& (3 : Int32))), .unset] [(.int (1 : Int32))])) _
            refine XS.istore X41.here hx rfl (hb hby at_214) rfl (l' := #[.val (.int p0), .val (.int p1), .val (.int p2), .val (.int p3), .val (.ref b1), .val (.ref b6), .val (.ref b8), .val (.ref b13), .val (.int ((p3 &&& (2147483647 : Int32)) % (3 : Int32))), .val (.ref b28), .val (.ref bx31), .val (.ref b32), .val (.int (1 : Int32)), .val (.int (((p3.toUInt32 >>> ((8 : Int32) &&& 31).toUInt32).toInt32) &&& (3 : Int32))), .val (.int (1 : Int32))]) rfl ?_
            show Steps p.tables e below (T41.setTop (mkF m 216 #[.val (.int p0), .val (.int p1), .val (.int p2), .val (.int p3), .val (.ref b1), .val (.ref b6), .val (.ref b8), .val (.ref b13), .val (.int ((p3 &&& (2147483647 : Int32)) % (3 : Int32))), .val (.ref b28), .val (.ref bx31), .val (.ref b32), .val (.int (1 : Int32)), .val (.int (((p3.toUInt32 >>> ((8 : Int32) &&& 31).toUInt32).toInt32) &&& (3 : Int32))), .val (.int (1 : Int32))] [])) _
            refine XS.goto X41.here hx rfl (pc0 := 216) (pc' := 250) rfl (hb hby at_216) (by decide) (by decide) ?_
            show Steps p.tables e below (T41.setTop (mkF m 250 #[.val (.int p0), .val (.int p1), .val (.int p2), .val (.int p3), .val (.ref b1), .val (.ref b6), .val (.ref b8), .val (.ref b13), .val (.int ((p3 &&& (2147483647 : Int32)) % (3 : Int32))), .val (.ref b28), .val (.ref bx31), .val (.ref b32), .val (.int (1 : Int32)), .val (.int (((p3.toUInt32 >>> ((8 : Int32) &&& 31).toUInt32).toInt32) &&& (3 : Int32))), .val (.int (1 : Int32))] [])) _
            refine XS.iload X41.here hx rfl (hb hby at_250) rfl ?_
            show Steps p.tables e below (T41.setTop (mkF m 252 #[.val (.int p0), .val (.int p1), .val (.int p2), .val (.int p3), .val (.ref b1), .val (.ref b6), .val (.ref b8), .val (.ref b13), .val (.int ((p3 &&& (2147483647 : Int32)) % (3 : Int32))), .val (.ref b28), .val (.ref bx31), .val (.ref b32), .val (.int (1 : Int32)), .val (.int (((p3.toUInt32 >>> ((8 : Int32) &&& 31).toUInt32).toInt32) &&& (3 : Int32))), .val (.int (1 : Int32))] [(.int (1 : Int32))])) _
            refine XS.ifNo X41.here hx rfl (hb hby at_252) rfl ((if0 _ _).trans (feq (by decide : ¬ ((1 : Int32) = (0 : Int32)))).1) ?_
            show Steps p.tables e below (T41.setTop (mkF m 255 #[.val (.int p0), .val (.int p1), .val (.int p2), .val (.int p3), .val (.ref b1), .val (.ref b6), .val (.ref b8), .val (.ref b13), .val (.int ((p3 &&& (2147483647 : Int32)) % (3 : Int32))), .val (.ref b28), .val (.ref bx31), .val (.ref b32), .val (.int (1 : Int32)), .val (.int (((p3.toUInt32 >>> ((8 : Int32) &&& 31).toUInt32).toInt32) &&& (3 : Int32))), .val (.int (1 : Int32))] [])) _
            refine XS.iload X41.here hx rfl (hb hby at_255) rfl ?_
            show Steps p.tables e below (T41.setTop (mkF m 257 #[.val (.int p0), .val (.int p1), .val (.int p2), .val (.int p3), .val (.ref b1), .val (.ref b6), .val (.ref b8), .val (.ref b13), .val (.int ((p3 &&& (2147483647 : Int32)) % (3 : Int32))), .val (.ref b28), .val (.ref bx31), .val (.ref b32), .val (.int (1 : Int32)), .val (.int (((p3.toUInt32 >>> ((8 : Int32) &&& 31).toUInt32).toInt32) &&& (3 : Int32))), .val (.int (1 : Int32))] [(.int (1 : Int32))])) _
            refine XS.ifNo X41.here hx rfl (hb hby at_257) rfl ((if0 _ _).trans (feq (by decide : ¬ ((1 : Int32) = (0 : Int32)))).1) ?_
            show Steps p.tables e below (T41.setTop (mkF m 260 #[.val (.int p0), .val (.int p1), .val (.int p2), .val (.int p3), .val (.ref b1), .val (.ref b6), .val (.ref b8), .val (.ref b13), .val (.int ((p3 &&& (2147483647 : Int32)) % (3 : Int32))), .val (.ref b28), .val (.ref bx31), .val (.ref b32), .val (.int (1 : Int32)), .val (.int (((p3.toUInt32 >>> ((8 : Int32) &&& 31).toUInt32).toInt32) &&& (3 : Int32))), .val (.int (1 : Int32))] [])) _
            refine XS.iconst X41.here hx rfl (hb hby at_260) ?_
            show Steps p.tables e below (T41.setTop (mkF m 261 #[.val (.int p0), .val (.int p1), .val (.int p2), .val (.int p3), .val (.ref b1), .val (.ref b6), .val (.ref b8), .val (.ref b13), .val (.int ((p3 &&& (2147483647 : Int32)) % (3 : Int32))), .val (.ref b28), .val (.ref bx31), .val (.ref b32), .val (.int (1 : Int32)), .val (.int (((p3.toUInt32 >>> ((8 : Int32) &&& 31).toUInt32).toInt32) &&& (3 : Int32))), .val (.int (1 : Int32))] [(.int (1 : Int32))])) _
            refine XS.goto X41.here hx rfl (pc0 := 261) (pc' := 265) rfl (hb hby at_261) (by decide) (by decide) ?_
            show Steps p.tables e below (T41.setTop (mkF m 265 #[.val (.int p0), .val (.int p1), .val (.int p2), .val (.int p3), .val (.ref b1), .val (.ref b6), .val (.ref b8), .val (.ref b13), .val (.int ((p3 &&& (2147483647 : Int32)) % (3 : Int32))), .val (.ref b28), .val (.ref bx31), .val (.ref b32), .val (.int (1 : Int32)), .val (.int (((p3.toUInt32 >>> ((8 : Int32) &&& 31).toUInt32).toInt32) &&& (3 : Int32))), .val (.int (1 : Int32))] [(.int (1 : Int32))])) _
            exact retN X41 hx (t := .boolean) Bd.returns (by simp) (hb hby at_265) hr
          · show Q_rm_law Z p0 p1 p2 p3 zc h0 n0 _ T41.heap _
            rw [e41]
            exact ⟨rfl, N41, trivial⟩
        · obtain ⟨_, _, ⟨T42, L42, k42, n42⟩, -, X42, ⟨Lc42, hQ42, l42, y42, z42⟩, st42⟩ := Jvm.LawKit.callS X35 hx (y := (⟨"com/example/watchpost/watchpost/Option", "required", "(Ljava/lang/String;Ljava/lang/String;)Lcom/example/watchpost/watchpost/Option;"⟩ : MethodName)) hown29 (mvT hZ29 (hw _ (List.mem_of_getElem? (i := 84) rfl))) (mvT hZ29 (hw _ (List.mem_of_getElem? (i := 85) rfl))) (mvT hZ29 (hw _ (List.mem_of_getElem? (i := 50) rfl))) (mvT hZ29 (hw _ (List.mem_of_getElem? (i := 86) rfl))) (by decide) (backOf (W := 0) (rm_rq l Z a0 hw [] b6 b28 T33.heap n0 Z33) hZ29 (hw _ (List.mem_of_getElem? (i := 86) rfl)) (hw _ (List.mem_of_getElem? (i := 50) rfl)) (by decide) (by decide)) (g := (mkF m 228 #[.val (.int p0), .val (.int p1), .val (.int p2), .val (.int p3), .val (.ref b1), .val (.ref b6), .val (.ref b8), .val (.ref b13), .val (.int ((p3 &&& (2147483647 : Int32)) % (3 : Int32))), .val (.ref b28), .val (.ref bx31), .val (.ref b32), .val (.int (1 : Int32)), .val (.int (((p3.toUInt32 >>> ((8 : Int32) &&& 31).toUInt32).toInt32) &&& (3 : Int32))), .unset] [(.ref b28), (.ref b6)])) rfl (by rw [hml]; rfl) (argsL := [(.ref b6), (.ref b28)]) (rest := []) (lenOf pd_11 rfl) rfl (by show 2 * 0 + _ ≤ _; exact Nat.le_of_eq rfl) (hb hby at_228) (fun _ _ => ⟨rfl, e35, (by decide : 11 + 1 ≤ _), (by decide : 27 + 4 ≤ _)⟩)
          dsimp only [Pt.U, Pt.locs, Pt.cells, Pt.slots] at X42 l42 y42 z42 st42 hQ42
          subst l42 y42 z42
          obtain ⟨bx42, rfl, N42q, x42c0, x42c1, x42c2, x42c3, x42c4⟩ := hQ42
          have N42 := Fr.app N35 N42q
          have ne_b1_bx42 : b1 ≠ bx42 := Nat.ne_of_lt (Nat.lt_of_lt_of_le V5_33.lt x42c2)
          have ne_b6_bx42 : b6 ≠ bx42 := Nat.ne_of_lt (Nat.lt_of_lt_of_le A6_33.lt x42c2)
          have ne_b8_bx42 : b8 ≠ bx42 := Nat.ne_of_lt (Nat.lt_of_lt_of_le V12_33.lt x42c2)
          have ne_b13_bx42 : b13 ≠ bx42 := Nat.ne_of_lt (Nat.lt_of_lt_of_le V_b13_33.lt x42c2)
          have ne_b28_bx42 : b28 ≠ bx42 := Nat.ne_of_lt (Nat.lt_of_lt_of_le A28_33.lt x42c2)
          have ne_bx31_bx42 : bx31 ≠ bx42 := Nat.ne_of_lt (Nat.lt_of_lt_of_le x31c3_33.lt x42c2)
          have ne_b32_bx42 : b32 ≠ bx42 := Nat.ne_of_lt (Nat.lt_of_lt_of_le A32_33.lt x42c2)
          have X00_42 : Old Z n0 T42.heap := X00_33.keep x42c0 all0
          have V5_42 : Arv Z T42.heap b1 k1 .char (2 : Int32) [(.int (nar .char (p0 &&& (255 : Int32)).toUInt32.toUInt16.toUInt32.toInt32)), (.int (nar .char (p1 &&& (255 : Int32)).toUInt32.toUInt16.toUInt32.toInt32))] (.int (0 : Int32)) := V5_33.keep x42c0 nin0
          have A6_42 : Exa Z T42.heap b6 "java/lang/String" := A6_33.keep x42c0
          have V12_42 : Arv Z T42.heap b8 k8 .char (2 : Int32) [(.int (nar .char (p2 &&& (255 : Int32)).toUInt32.toUInt16.toUInt32.toInt32)), (.int (nar .char (((p2.toUInt32 >>> ((8 : Int32) &&& 31).toUInt32).toInt32) &&& (255 : Int32)).toUInt32.toUInt16.toUInt32.toInt32))] (.int (0 : Int32)) := V12_33.keep x42c0 nin0
          have V_b13_42 : Arv Z T42.heap b13 k13 .char (0 : Int32) [] (.int (0 : Int32)) := V_b13_33.keep x42c0 nin0
          have A28_42 : Exa Z T42.heap b28 "java/lang/String" := A28_33.keep x42c0
          have x31c3_42 : Exa Z T42.heap bx31 "java/lang/String" := x31c3_33.keep x42c0
          have A32_42 : Exa Z T42.heap b32 "com/example/watchpost/watchpost/Option" := A32_33.keep x42c0
          have x33c1_42 : Fld Z T42.heap b32 "com/example/watchpost/watchpost/Option" "name" "Ljava/lang/String;" (.ref b6) := x33c1.keep x42c0 nin0
          have x33c2_42 : Fld Z T42.heap b32 "com/example/watchpost/watchpost/Option" "shortName" "Ljava/lang/String;" .null := x33c2.keep x42c0 nin0
          have x33c3_42 : Fld Z T42.heap b32 "com/example/watchpost/watchpost/Option" "value" "Ljava/lang/String;" (.ref b28) := x33c3.keep x42c0 nin0
          have x33c4_42 : Fld Z T42.heap b32 "com/example/watchpost/watchpost/Option" "required" "Z" (.int (nar .boolean (0 : Int32))) := x33c4.keep x42c0 nin0
          have Sh_CS_42 : Sta Z T42.heap "java/lang/String" "COMPACT_STRINGS" "Z" (.int zc) := S_CS.ext X00_42.2
          have hk42' : _ ≤ T42.heap.size := Nat.le_trans hk33' x42c0.1
          have Z42 : n0 ≤ T42.heap.size := Nat.le_trans Z33 x42c0.1
          obtain ⟨cq43, kq43, q43a, q43b, q43c⟩ := isOf hZ29 rfl x42c3
          obtain ⟨_, _, ⟨T43, L43, k43, n43⟩, -, X43, ⟨Lc43, hQ43, l43, y43, z43⟩, st43⟩ := X42.virtualBack hx (y := (⟨"com/example/watchpost/watchpost/Option", "isFlag", "()Z"⟩ : MethodName)) (z := (⟨"com/example/watchpost/watchpost/Option", "isFlag", "()Z"⟩ : MethodName)) hown29 (mvT hZ29 (hw _ (List.mem_of_getElem? (i := 66) rfl))) (mvT hZ29 (hw _ (List.mem_of_getElem? (i := 67) rfl))) (notFace_of_selects (args := #[]) (mvT hZ29 (hw _ (List.mem_of_getElem? (i := 69) rfl)))) (mvT hZ29 (hw _ (List.mem_of_getElem? (i := 69) rfl))) (mvT hZ29 (hw _ (List.mem_of_getElem? (i := 68) rfl))) (by decide) (backOf (W := 0) (rm_flag1 l Z a0 hw [] bx42 b28 T42.heap n0 Z42 x42c4) hZ29 (hw _ (List.mem_of_getElem? (i := 70) rfl)) (hw _ (List.mem_of_getElem? (i := 50) rfl)) (by decide) (by decide)) q43a q43c (g := (mkF m 231 #[.val (.int p0), .val (.int p1), .val (.int p2), .val (.int p3), .val (.ref b1), .val (.ref b6), .val (.ref b8), .val (.ref b13), .val (.int ((p3 &&& (2147483647 : Int32)) % (3 : Int32))), .val (.ref b28), .val (.ref bx31), .val (.ref b32), .val (.int (1 : Int32)), .val (.int (((p3.toUInt32 >>> ((8 : Int32) &&& 31).toUInt32).toInt32) &&& (3 : Int32))), .unset] [(.ref bx42)])) rfl (by rw [hml]; rfl) (Steps.refl _) (argsL := []) (rest := []) (lenOf pd_8 rfl) rfl (by show 2 * 0 + _ ≤ _; exact Nat.le_of_eq rfl) (hb hby at_231) (fun _ _ => ⟨rfl, rfl, (by decide : 12 + 0 ≤ _), (by decide : 31 + 0 ≤ _)⟩)
          dsimp only [Pt.U, Pt.locs, Pt.cells, Pt.slots] at X43 l43 y43 z43 st43 hQ43
          subst l43 y43 z43
          obtain ⟨rfl, N43q, e43⟩ := hQ43
          have N43 := Fr.app N42 N43q
          obtain ⟨fs, hr, hrun, hended, hREW⟩ := X43.leaveW hS29 (by first | exact hk42' | (rw [e43]; exact hk42')) (v := some (.int (1 : Int32))) (fun h => by rw [Bd.returns] at h; cases h)
          refine ⟨_, _, pre0 _ ?_, hrun, hended, _, _, rfl, ?_, hREW.1, hREW.2.1, hREW.2.2.1, hREW.2.2.2.mono (by decide) (by decide)⟩
          · refine k39 _ ?_
            show Steps p.tables e below (T35.setTop (mkF m 201 #[.val (.int p0), .val (.int p1), .val (.int p2), .val (.int p3), .val (.ref b1), .val (.ref b6), .val (.ref b8), .val (.ref b13), .val (.int ((p3 &&& (2147483647 : Int32)) % (3 : Int32))), .val (.ref b28), .val (.ref bx31), .val (.ref b32), .val (.int (1 : Int32)), .val (.int (((p3.toUInt32 >>> ((8 : Int32) &&& 31).toUInt32).toInt32) &&& (3 : Int32))), .unset] [(.int (1 : Int32)), (.int (((p3.toUInt32 >>> ((8 : Int32) &&& 31).toUInt32).toInt32) &&& (3 : Int32)))])) _
            refine XS.icmpYes X35.here hx rfl (pc0 := 201) (pc' := 219) rfl (hb hby at_201) rfl (feq hc201).2 (by decide) (by decide) ?_
            show Steps p.tables e below (T35.setTop (mkF m 219 #[.val (.int p0), .val (.int p1), .val (.int p2), .val (.int p3), .val (.ref b1), .val (.ref b6), .val (.ref b8), .val (.ref b13), .val (.int ((p3 &&& (2147483647 : Int32)) % (3 : Int32))), .val (.ref b28), .val (.ref bx31), .val (.ref b32), .val (.int (1 : Int32)), .val (.int (((p3.toUInt32 >>> ((8 : Int32) &&& 31).toUInt32).toInt32) &&& (3 : Int32))), .unset] [])) _
            refine XS.aload X35.here hx rfl (hb hby at_219) rfl rfl ?_
            show Steps p.tables e below (T35.setTop (mkF m 221 #[.val (.int p0), .val (.int p1), .val (.int p2), .val (.int p3), .val (.ref b1), .val (.ref b6), .val (.ref b8), .val (.ref b13), .val (.int ((p3 &&& (2147483647 : Int32)) % (3 : Int32))), .val (.ref b28), .val (.ref bx31), .val (.ref b32), .val (.int (1 : Int32)), .val (.int (((p3.toUInt32 >>> ((8 : Int32) &&& 31).toUInt32).toInt32) &&& (3 : Int32))), .unset] [(.ref b28)])) _
            refine XS.ifnullNo X35.here hx rfl (hb hby at_221) rfl ?_
            show Steps p.tables e below (T35.setTop (mkF m 224 #[.val (.int p0), .val (.int p1), .val (.int p2), .val (.int p3), .val (.ref b1), .val (.ref b6), .val (.ref b8), .val (.ref b13), .val (.int ((p3 &&& (2147483647 : Int32)) % (3 : Int32))), .val (.ref b28), .val (.ref bx31), .val (.ref b32), .val (.int (1 : Int32)), .val (.int (((p3.toUInt32 >>> ((8 : Int32) &&& 31).toUInt32).toInt32) &&& (3 : Int32))), .unset] [])) _
            refine XS.aload X35.here hx rfl (hb hby at_224) rfl rfl ?_
            show Steps p.tables e below (T35.setTop (mkF m 226 #[.val (.int p0), .val (.int p1), .val (.int p2), .val (.int p3), .val (.ref b1), .val (.ref b6), .val (.ref b8), .val (.ref b13), .val (.int ((p3 &&& (2147483647 : Int32)) % (3 : Int32))), .val (.ref b28), .val (.ref bx31), .val (.ref b32), .val (.int (1 : Int32)), .val (.int (((p3.toUInt32 >>> ((8 : Int32) &&& 31).toUInt32).toInt32) &&& (3 : Int32))), .unset] [(.ref b6)])) _
            refine XS.aload X35.here hx rfl (hb hby at_226) rfl rfl ?_
            show Steps p.tables e below (T35.setTop (mkF m 228 #[.val (.int p0), .val (.int p1), .val (.int p2), .val (.int p3), .val (.ref b1), .val (.ref b6), .val (.ref b8), .val (.ref b13), .val (.int ((p3 &&& (2147483647 : Int32)) % (3 : Int32))), .val (.ref b28), .val (.ref bx31), .val (.ref b32), .val (.int (1 : Int32)), .val (.int (((p3.toUInt32 >>> ((8 : Int32) &&& 31).toUInt32).toInt32) &&& (3 : Int32))), .unset] [(.ref b28), (.ref b6)])) _
            refine st42 _ ?_
            show Steps p.tables e below (T42.setTop (mkF m 231 #[.val (.int p0), .val (.int p1), .val (.int p2), .val (.int p3), .val (.ref b1), .val (.ref b6), .val (.ref b8), .val (.ref b13), .val (.int ((p3 &&& (2147483647 : Int32)) % (3 : Int32))), .val (.ref b28), .val (.ref bx31), .val (.ref b32), .val (.int (1 : Int32)), .val (.int (((p3.toUInt32 >>> ((8 : Int32) &&& 31).toUInt32).toInt32) &&& (3 : Int32))), .unset] [(.ref bx42)])) _
            refine st43.trans ?_
            show Steps p.tables e below (T43.setTop (mkF m 234 #[.val (.int p0), .val (.int p1), .val (.int p2), .val (.int p3), .val (.ref b1), .val (.ref b6), .val (.ref b8), .val (.ref b13), .val (.int ((p3 &&& (2147483647 : Int32)) % (3 : Int32))), .val (.ref b28), .val (.ref bx31), .val (.ref b32), .val (.int (1 : Int32)), .val (.int (((p3.toUInt32 >>> ((8 : Int32) &&& 31).toUInt32).toInt32) &&& (3 : Int32))), .unset] [(.int (0 : Int32))])) _
            refine XS.ifNo X43.here hx rfl (hb hby at_234) rfl ((if0 _ _).trans (teq (by decide : (0 : Int32) = (0 : Int32))).2) ?_
            show Steps p.tables e below (T43.setTop (mkF m 237 #[.val (.int p0), .val (.int p1), .val (.int p2), .val (.int p3), .val (.ref b1), .val (.ref b6), .val (.ref b8), .val (.ref b13), .val (.int ((p3 &&& (2147483647 : Int32)) % (3 : Int32))), .val (.ref b28), .val (.ref bx31), .val (.ref b32), .val (.int (1 : Int32)), .val (.int (((p3.toUInt32 >>> ((8 : Int32) &&& 31).toUInt32).toInt32) &&& (3 : Int32))), .unset] [])) _
            refine XS.iconst X43.here hx rfl (hb hby at_237) ?_
            show Steps p.tables e below (T43.setTop (mkF m 238 #[.val (.int p0), .val (.int p1), .val (.int p2), .val (.int p3), .val (.ref b1), .val (.ref b6), .val (.ref b8), .val (.ref b13), .val (.int ((p3 &&& (2147483647 : Int32)) % (3 : Int32))), .val (.ref b28), .val (.ref bx31), .val (.ref b32), .val (.int (1 : Int32)), .val (.int (((p3.toUInt32 >>> ((8 : Int32) &&& 31).toUInt32).toInt32) &&& (3 : Int32))), .unset] [(.int (1 : Int32))])) _
            refine XS.goto X43.here hx rfl (pc0 := 238) (pc' := 242) rfl (hb hby at_238) (by decide) (by decide) ?_
            show Steps p.tables e below (T43.setTop (mkF m 242 #[.val (.int p0), .val (.int p1), .val (.int p2), .val (.int p3), .val (.ref b1), .val (.ref b6), .val (.ref b8), .val (.ref b13), .val (.int ((p3 &&& (2147483647 : Int32)) % (3 : Int32))), .val (.ref b28), .val (.ref bx31), .val (.ref b32), .val (.int (1 : Int32)), .val (.int (((p3.toUInt32 >>> ((8 : Int32) &&& 31).toUInt32).toInt32) &&& (3 : Int32))), .unset] [(.int (1 : Int32))])) _
            refine XS.istore X43.here hx rfl (hb hby at_242) rfl (l' := #[.val (.int p0), .val (.int p1), .val (.int p2), .val (.int p3), .val (.ref b1), .val (.ref b6), .val (.ref b8), .val (.ref b13), .val (.int ((p3 &&& (2147483647 : Int32)) % (3 : Int32))), .val (.ref b28), .val (.ref bx31), .val (.ref b32), .val (.int (1 : Int32)), .val (.int (((p3.toUInt32 >>> ((8 : Int32) &&& 31).toUInt32).toInt32) &&& (3 : Int32))), .val (.int (1 : Int32))]) rfl ?_
            show Steps p.tables e below (T43.setTop (mkF m 244 #[.val (.int p0), .val (.int p1), .val (.int p2), .val (.int p3), .val (.ref b1), .val (.ref b6), .val (.ref b8), .val (.ref b13), .val (.int ((p3 &&& (2147483647 : Int32)) % (3 : Int32))), .val (.ref b28), .val (.ref bx31), .val (.ref b32), .val (.int (1 : Int32)), .val (.int (((p3.toUInt32 >>> ((8 : Int32) &&& 31).toUInt32).toInt32) &&& (3 : Int32))), .val (.int (1 : Int32))] [])) _
            refine XS.goto X43.here hx rfl (pc0 := 244) (pc' := 250) rfl (hb hby at_244) (by decide) (by decide) ?_
            show Steps p.tables e below (T43.setTop (mkF m 250 #[.val (.int p0), .val (.int p1), .val (.int p2), .val (.int p3), .val (.ref b1), .val (.ref b6), .val (.ref b8), .val (.ref b13), .val (.int ((p3 &&& (2147483647 : Int32)) % (3 : Int32))), .val (.ref b28), .val (.ref bx31), .val (.ref b32), .val (.int (1 : Int32)), .val (.int (((p3.toUInt32 >>> ((8 : Int32) &&& 31).toUInt32).toInt32) &&& (3 : Int32))), .val (.int (1 : Int32))] [])) _
            refine XS.iload X43.here hx rfl (hb hby at_250) rfl ?_
            show Steps p.tables e below (T43.setTop (mkF m 252 #[.val (.int p0), .val (.int p1), .val (.int p2), .val (.int p3), .val (.ref b1), .val (.ref b6), .val (.ref b8), .val (.ref b13), .val (.int ((p3 &&& (2147483647 : Int32)) % (3 : Int32))), .val (.ref b28), .val (.ref bx31), .val (.ref b32), .val (.int (1 : Int32)), .val (.int (((p3.toUInt32 >>> ((8 : Int32) &&& 31).toUInt32).toInt32) &&& (3 : Int32))), .val (.int (1 : Int32))] [(.int (1 : Int32))])) _
            refine XS.ifNo X43.here hx rfl (hb hby at_252) rfl ((if0 _ _).trans (feq (by decide : ¬ ((1 : Int32) = (0 : Int32)))).1) ?_
            show Steps p.tables e below (T43.setTop (mkF m 255 #[.val (.int p0), .val (.int p1), .val (.int p2), .val (.int p3), .val (.ref b1), .val (.ref b6), .val (.ref b8), .val (.ref b13), .val (.int ((p3 &&& (2147483647 : Int32)) % (3 : Int32))), .val (.ref b28), .val (.ref bx31), .val (.ref b32), .val (.int (1 : Int32)), .val (.int (((p3.toUInt32 >>> ((8 : Int32) &&& 31).toUInt32).toInt32) &&& (3 : Int32))), .val (.int (1 : Int32))] [])) _
            refine XS.iload X43.here hx rfl (hb hby at_255) rfl ?_
            show Steps p.tables e below (T43.setTop (mkF m 257 #[.val (.int p0), .val (.int p1), .val (.int p2), .val (.int p3), .val (.ref b1), .val (.ref b6), .val (.ref b8), .val (.ref b13), .val (.int ((p3 &&& (2147483647 : Int32)) % (3 : Int32))), .val (.ref b28), .val (.ref bx31), .val (.ref b32), .val (.int (1 : Int32)), .val (.int (((p3.toUInt32 >>> ((8 : Int32) &&& 31).toUInt32).toInt32) &&& (3 : Int32))), .val (.int (1 : Int32))] [(.int (1 : Int32))])) _
            refine XS.ifNo X43.here hx rfl (hb hby at_257) rfl ((if0 _ _).trans (feq (by decide : ¬ ((1 : Int32) = (0 : Int32)))).1) ?_
            show Steps p.tables e below (T43.setTop (mkF m 260 #[.val (.int p0), .val (.int p1), .val (.int p2), .val (.int p3), .val (.ref b1), .val (.ref b6), .val (.ref b8), .val (.ref b13), .val (.int ((p3 &&& (2147483647 : Int32)) % (3 : Int32))), .val (.ref b28), .val (.ref bx31), .val (.ref b32), .val (.int (1 : Int32)), .val (.int (((p3.toUInt32 >>> ((8 : Int32) &&& 31).toUInt32).toInt32) &&& (3 : Int32))), .val (.int (1 : Int32))] [])) _
            refine XS.iconst X43.here hx rfl (hb hby at_260) ?_
            show Steps p.tables e below (T43.setTop (mkF m 261 #[.val (.int p0), .val (.int p1), .val (.int p2), .val (.int p3), .val (.ref b1), .val (.ref b6), .val (.ref b8), .val (.ref b13), .val (.int ((p3 &&& (2147483647 : Int32)) % (3 : Int32))), .val (.ref b28), .val (.ref bx31), .val (.ref b32), .val (.int (1 : Int32)), .val (.int (((p3.toUInt32 >>> ((8 : Int32) &&& 31).toUInt32).toInt32) &&& (3 : Int32))), .val (.int (1 : Int32))] [(.int (1 : Int32))])) _
            refine XS.goto X43.here hx rfl (pc0 := 261) (pc' := 265) rfl (hb hby at_261) (by decide) (by decide) ?_
            show Steps p.tables e below (T43.setTop (mkF m 265 #[.val (.int p0), .val (.int p1), .val (.int p2), .val (.int p3), .val (.ref b1), .val (.ref b6), .val (.ref b8), .val (.ref b13), .val (.int ((p3 &&& (2147483647 : Int32)) % (3 : Int32))), .val (.ref b28), .val (.ref bx31), .val (.ref b32), .val (.int (1 : Int32)), .val (.int (((p3.toUInt32 >>> ((8 : Int32) &&& 31).toUInt32).toInt32) &&& (3 : Int32))), .val (.int (1 : Int32))] [(.int (1 : Int32))])) _
            exact retN X43 hx (t := .boolean) Bd.returns (by simp) (hb hby at_265) hr
          · show Q_rm_law Z p0 p1 p2 p3 zc h0 n0 _ T43.heap _
            rw [e43]
            exact ⟨rfl, N43, trivial⟩
    · obtain ⟨T44, h44, X44, e44, E44, A44, D44, -, st44⟩ := newO X13 hx hZ hown (hw _ (List.mem_of_getElem? (i := 1) rfl)) (hw _ (List.mem_of_getElem? (i := 2) rfl)) (hw _ (List.mem_of_getElem? (i := 3) rfl)) e13 (g := (mkF m 104 #[.val (.int p0), .val (.int p1), .val (.int p2), .val (.int p3), .val (.ref b1), .val (.ref b6), .val (.ref b8), .val (.ref b13), .val (.int ((p3 &&& (2147483647 : Int32)) % (3 : Int32))), .unset, .unset, .unset, .unset, .unset, .unset] [])) rfl (hb hby at_104) (by decide) (by decide)
      obtain ⟨b44, g44⟩ : ∃ z, z = h13.size := ⟨_, rfl⟩
      rw [← g44] at A44 D44 st44
      have ne_b1_b44 : b1 ≠ b44 := Nat.ne_of_lt (Nat.lt_of_lt_of_le V5_13.lt (Nat.le_of_eq g44.symm))
      have ne_b6_b44 : b6 ≠ b44 := Nat.ne_of_lt (Nat.lt_of_lt_of_le A6_13.lt (Nat.le_of_eq g44.symm))
      have ne_b8_b44 : b8 ≠ b44 := Nat.ne_of_lt (Nat.lt_of_lt_of_le V12_13.lt (Nat.le_of_eq g44.symm))
      have ne_b13_b44 : b13 ≠ b44 := Nat.ne_of_lt (Nat.lt_of_lt_of_le V_b13.lt (Nat.le_of_eq g44.symm))
      have g_b44 : n0 ≤ b44 := Nat.le_trans Z13 (Nat.le_of_eq g44.symm)
      have X00_44 : Old Z n0 h44 := Old.ext X00_13 E44
      have V5_44 : Arv Z h44 b1 k1 .char (2 : Int32) [(.int (nar .char (p0 &&& (255 : Int32)).toUInt32.toUInt16.toUInt32.toInt32)), (.int (nar .char (p1 &&& (255 : Int32)).toUInt32.toUInt16.toUInt32.toInt32))] (.int (0 : Int32)) := V5_13.ext E44
      have A6_44 : Exa Z h44 b6 "java/lang/String" := A6_13.ext E44
      have Sh_CS_44 : Sta Z h44 "java/lang/String" "COMPACT_STRINGS" "Z" (.int zc) := Sh_CS_13.ext E44
      have V12_44 : Arv Z h44 b8 k8 .char (2 : Int32) [(.int (nar .char (p2 &&& (255 : Int32)).toUInt32.toUInt16.toUInt32.toInt32)), (.int (nar .char (((p2.toUInt32 >>> ((8 : Int32) &&& 31).toUInt32).toInt32) &&& (255 : Int32)).toUInt32.toUInt16.toUInt32.toInt32))] (.int (0 : Int32)) := V12_13.ext E44
      have V_b13_44 : Arv Z h44 b13 k13 .char (0 : Int32) [] (.int (0 : Int32)) := V_b13.ext E44
      have hk44' : _ ≤ h44.size := Nat.le_trans hk13' E44.1
      have Z44 : n0 ≤ h44.size := Nat.le_trans Z13 E44.1
      have F_coder_b44 : Fld Z h44 b44 "java/lang/String" "coder" "B" (.int (0 : Int32)) := D44 (Or.inr (hw _ (List.mem_of_getElem? (i := 27) rfl))) (ty := .byte) (by decide)
      have F_value_b44 : Fld Z h44 b44 "java/lang/String" "value" "[B" .null := D44 (Or.inr (hw _ (List.mem_of_getElem? (i := 29) rfl))) (ty := (.array .byte)) (by decide)
      obtain ⟨_, _, ⟨T45, L45, k45, n45⟩, -, X45, ⟨Lc45, hQ45, l45, y45, z45⟩, st45⟩ := X44.specialBack hx (y := (⟨"java/lang/String", "<init>", "([C)V"⟩ : MethodName)) rfl hown (mvT hZ (hw _ (List.mem_of_getElem? (i := 4) rfl))) (mvT hZ (hw _ (List.mem_of_getElem? (i := 5) rfl))) (mvT hZ (hw _ (List.mem_of_getElem? (i := 6) rfl))) (by decide) (StrChars.Road.backV (W := 1) hZ hws (kI := 4) (hw _ (List.mem_of_getElem? (i := 2) rfl)) (cs := ([(nar .char (p2 &&& (255 : Int32)).toUInt32.toUInt16.toUInt32.toInt32), (nar .char (((p2.toUInt32 >>> ((8 : Int32) &&& 31).toUInt32).toInt32) &&& (255 : Int32)).toUInt32.toUInt16.toUInt32.toInt32)] : List Int32)) (bs := (([(nar .char (p2 &&& (255 : Int32)).toUInt32.toUInt16.toUInt32.toInt32), (nar .char (((p2.toUInt32 >>> ((8 : Int32) &&& 31).toUInt32).toInt32) &&& (255 : Int32)).toUInt32.toUInt16.toUInt32.toInt32)] : List Int32)).map (fun c => c.toInt8.toInt32)) (n := 2) g_b44 Z44 A44 F_value_b44 F_coder_b44 V12_44 Sh_CS_44 P5 rfl rfl (by decide) (by decide) (List.forall_mem_cons.mpr ⟨own_ch _, List.forall_mem_cons.mpr ⟨own_ch _, fun _ q => nomatch q⟩⟩) rfl (by decide) (by decide)) (g := (mkF m 110 #[.val (.int p0), .val (.int p1), .val (.int p2), .val (.int p3), .val (.ref b1), .val (.ref b6), .val (.ref b8), .val (.ref b13), .val (.int ((p3 &&& (2147483647 : Int32)) % (3 : Int32))), .unset, .unset, .unset, .unset, .unset, .unset] [(.ref b8), (.ref b44), (.ref b44)])) rfl (by rw [hml]; rfl) (Steps.refl _) (a := b44) (argsL := [(.ref b8)]) (rest := [(.ref b44)]) (lenOf pd_6 rfl) rfl (by show 2 * 0 + _ ≤ _; exact Nat.le_of_eq rfl) (hb hby at_110) (fun _ _ => ⟨rfl, e44, (by decide : 6 + 1 ≤ _), (by decide : 14 + 2 ≤ _)⟩)
      dsimp only [Pt.U, Pt.locs, Pt.cells, Pt.slots] at X45 l45 y45 z45 st45 hQ45
      subst l45 y45 z45
      obtain ⟨rfl, N45q, x45c0, x45c1, x45c2, x45c3, x45c4, x45c5, x45c6, x45c7, x45c8, x45c9⟩ := hQ45
      have N45 := Fr.app N12 N45q
      have X00_45 : Old Z n0 T45.heap := X00_44.keep x45c0 (allS g_b44 all0)
      have V5_45 : Arv Z T45.heap b1 k1 .char (2 : Int32) [(.int (nar .char (p0 &&& (255 : Int32)).toUInt32.toUInt16.toUInt32.toInt32)), (.int (nar .char (p1 &&& (255 : Int32)).toUInt32.toUInt16.toUInt32.toInt32))] (.int (0 : Int32)) := V5_44.keep x45c0 (ninS ne_b1_b44 nin0)
      have A6_45 : Exa Z T45.heap b6 "java/lang/String" := A6_44.keep x45c0
      have V12_45 : Arv Z T45.heap b8 k8 .char (2 : Int32) [(.int (nar .char (p2 &&& (255 : Int32)).toUInt32.toUInt16.toUInt32.toInt32)), (.int (nar .char (((p2.toUInt32 >>> ((8 : Int32) &&& 31).toUInt32).toInt32) &&& (255 : Int32)).toUInt32.toUInt16.toUInt32.toInt32))] (.int (0 : Int32)) := V12_44.keep x45c0 (ninS ne_b8_b44 nin0)
      have V_b13_45 : Arv Z T45.heap b13 k13 .char (0 : Int32) [] (.int (0 : Int32)) := V_b13_44.keep x45c0 (ninS ne_b13_b44 nin0)
      have A44_45 : Exa Z T45.heap b44 "java/lang/String" := A44.keep x45c0
      have Sh_CS_45 : Sta Z T45.heap "java/lang/String" "COMPACT_STRINGS" "Z" (.int zc) := S_CS.ext X00_45.2
      have hk45' : _ ≤ T45.heap.size := Nat.le_trans hk44' x45c0.1
      have Z45 : n0 ≤ T45.heap.size := Nat.le_trans Z44 x45c0.1
      obtain ⟨cl46, Ar46, qk46, S46, N46', H46, G46⟩ := (id V12_45)
      have hin46 : ¬ ((0 : Int32) < 0 ∨ cl46.slots.size ≤ ((0 : Int32)).toNatClampNeg) := inb_of S46 ⟨by decide, by decide⟩
      have hat46 : cl46.slots[((0 : Int32)).toNatClampNeg]? = some (.int (nar .char (p2 &&& (255 : Int32)).toUInt32.toUInt16.toUInt32.toInt32)) := Has.at H46 hin46 rfl
      obtain ⟨_, _, ⟨T47, L47, k47, n47⟩, -, X47, ⟨Lc47, hQ47, l47, y47, z47⟩, st47⟩ := Jvm.LawKit.callS X45 hx (y := (⟨"java/lang/String", "valueOf", "(C)Ljava/lang/String;"⟩ : MethodName)) hown (mvT hZ (hw _ (List.mem_of_getElem? (i := 34) rfl))) (mvT hZ (hw _ (List.mem_of_getElem? (i := 35) rfl))) (mvT hZ (hw _ (List.mem_of_getElem? (i := 3) rfl))) (mvT hZ (hw _ (List.mem_of_getElem? (i := 36) rfl))) (by decide) (backOf (W := 0) (rm_vof l Z a0 hw [] (nar .char (p2 &&& (255 : Int32)).toUInt32.toUInt16.toUInt32.toInt32) zc T45.heap n0 Z45 Sh_CS_45 P5 (own_ch _).2) hZ (hw _ (List.mem_of_getElem? (i := 36) rfl)) (hw _ (List.mem_of_getElem? (i := 3) rfl)) (by decide) (by decide)) (g := (mkF m 119 #[.val (.int p0), .val (.int p1), .val (.int p2), .val (.int p3), .val (.ref b1), .val (.ref b6), .val (.ref b8), .val (.ref b13), .val (.int ((p3 &&& (2147483647 : Int32)) % (3 : Int32))), .val (.ref b44), .unset, .unset, .unset, .unset, .unset] [(.int (nar .char (p2 &&& (255 : Int32)).toUInt32.toUInt16.toUInt32.toInt32))])) rfl (by rw [hml]; rfl) (argsL := [(.int (nar .char (p2 &&& (255 : Int32)).toUInt32.toUInt16.toUInt32.toInt32))]) (rest := []) (lenOf pd_7 rfl) rfl (by show 2 * 0 + _ ≤ _; exact Nat.le_of_eq rfl) (hb hby at_119) (fun _ _ => ⟨rfl, rfl, (by decide : 7 + 2 ≤ _), (by decide : 16 + 5 ≤ _)⟩)
      dsimp only [Pt.U, Pt.locs, Pt.cells, Pt.slots] at X47 l47 y47 z47 st47 hQ47
      subst l47 y47 z47
      obtain ⟨bx47, rfl, N47q, x47c0, x47c1, x47c2, x47c3⟩ := hQ47
      have N47 := Fr.app N45 N47q
      have ne_b1_bx47 : b1 ≠ bx47 := Nat.ne_of_lt (Nat.lt_of_lt_of_le V5_45.lt x47c2)
      have ne_b6_bx47 : b6 ≠ bx47 := Nat.ne_of_lt (Nat.lt_of_lt_of_le A6_45.lt x47c2)
      have ne_b8_bx47 : b8 ≠ bx47 := Nat.ne_of_lt (Nat.lt_of_lt_of_le V12_45.lt x47c2)
      have ne_b13_bx47 : b13 ≠ bx47 := Nat.ne_of_lt (Nat.lt_of_lt_of_le V_b13_45.lt x47c2)
      have ne_b44_bx47 : b44 ≠ bx47 := Nat.ne_of_lt (Nat.lt_of_lt_of_le A44_45.lt x47c2)
      have X00_47 : Old Z n0 T47.heap := X00_45.keep x47c0 all0
      have V5_47 : Arv Z T47.heap b1 k1 .char (2 : Int32) [(.int (nar .char (p0 &&& (255 : Int32)).toUInt32.toUInt16.toUInt32.toInt32)), (.int (nar .char (p1 &&& (255 : Int32)).toUInt32.toUInt16.toUInt32.toInt32))] (.int (0 : Int32)) := V5_45.keep x47c0 nin0
      have A6_47 : Exa Z T47.heap b6 "java/lang/String" := A6_45.keep x47c0
      have V12_47 : Arv Z T47.heap b8 k8 .char (2 : Int32) [(.int (nar .char (p2 &&& (255 : Int32)).toUInt32.toUInt16.toUInt32.toInt32)), (.int (nar .char (((p2.toUInt32 >>> ((8 : Int32) &&& 31).toUInt32).toInt32) &&& (255 : Int32)).toUInt32.toUInt16.toUInt32.toInt32))] (.int (0 : Int32)) := V12_45.keep x47c0 nin0
      have V_b13_47 : Arv Z T47.heap b13 k13 .char (0 : Int32) [] (.int (0 : Int32)) := V_b13_45.keep x47c0 nin0
      have A44_47 : Exa Z T47.heap b44 "java/lang/String" := A44_45.keep x47c0
      have Sh_CS_47 : Sta Z T47.heap "java/lang/String" "COMPACT_STRINGS" "Z" (.int zc) := S_CS.ext X00_47.2
      have hk47' : _ ≤ T47.heap.size := Nat.le_trans hk45' x47c0.1
      have Z47 : n0 ≤ T47.heap.size := Nat.le_trans Z45 x47c0.1
      obtain ⟨T48, h48, X48, e48, E48, A48, D48, -, st48⟩ := newO X47 hx hZ hown (hw _ (List.mem_of_getElem? (i := 48) rfl)) (hw _ (List.mem_of_getElem? (i := 49) rfl)) (hw _ (List.mem_of_getElem? (i := 50) rfl)) rfl (g := (mkF m 124 #[.val (.int p0), .val (.int p1), .val (.int p2), .val (.int p3), .val (.ref b1), .val (.ref b6), .val (.ref b8), .val (.ref b13), .val (.int ((p3 &&& (2147483647 : Int32)) % (3 : Int32))), .val (.ref b44), .val (.ref bx47), .unset, .unset, .unset, .unset] [])) rfl (hb hby at_124) (by decide) (by decide)
      obtain ⟨b48, g48⟩ : ∃ z, z = T47.heap.size := ⟨_, rfl⟩
      rw [← g48] at A48 D48 st48
      have ne_b1_b48 : b1 ≠ b48 := Nat.ne_of_lt (Nat.lt_of_lt_of_le V5_47.lt (Nat.le_of_eq g48.symm))
      have ne_b6_b48 : b6 ≠ b48 := Nat.ne_of_lt (Nat.lt_of_lt_of_le A6_47.lt (Nat.le_of_eq g48.symm))
      have ne_b8_b48 : b8 ≠ b48 := Nat.ne_of_lt (Nat.lt_of_lt_of_le V12_47.lt (Nat.le_of_eq g48.symm))
      have ne_b13_b48 : b13 ≠ b48 := Nat.ne_of_lt (Nat.lt_of_lt_of_le V_b13_47.lt (Nat.le_of_eq g48.symm))
      have ne_b44_b48 : b44 ≠ b48 := Nat.ne_of_lt (Nat.lt_of_lt_of_le A44_47.lt (Nat.le_of_eq g48.symm))
      have ne_bx47_b48 : bx47 ≠ b48 := Nat.ne_of_lt (Nat.lt_of_lt_of_le x47c3.lt (Nat.le_of_eq g48.symm))
      have g_b48 : n0 ≤ b48 := Nat.le_trans Z47 (Nat.le_of_eq g48.symm)
      have X00_48 : Old Z n0 h48 := Old.ext X00_47 E48
      have V5_48 : Arv Z h48 b1 k1 .char (2 : Int32) [(.int (nar .char (p0 &&& (255 : Int32)).toUInt32.toUInt16.toUInt32.toInt32)), (.int (nar .char (p1 &&& (255 : Int32)).toUInt32.toUInt16.toUInt32.toInt32))] (.int (0 : Int32)) := V5_47.ext E48
      have A6_48 : Exa Z h48 b6 "java/lang/String" := A6_47.ext E48
      have V12_48 : Arv Z h48 b8 k8 .char (2 : Int32) [(.int (nar .char (p2 &&& (255 : Int32)).toUInt32.toUInt16.toUInt32.toInt32)), (.int (nar .char (((p2.toUInt32 >>> ((8 : Int32) &&& 31).toUInt32).toInt32) &&& (255 : Int32)).toUInt32.toUInt16.toUInt32.toInt32))] (.int (0 : Int32)) := V12_47.ext E48
      have V_b13_48 : Arv Z h48 b13 k13 .char (0 : Int32) [] (.int (0 : Int32)) := V_b13_47.ext E48
      have A44_48 : Exa Z h48 b44 "java/lang/String" := A44_47.ext E48
      have Sh_CS_48 : Sta Z h48 "java/lang/String" "COMPACT_STRINGS" "Z" (.int zc) := Sh_CS_47.ext E48
      have x47c3_48 : Exa Z h48 bx47 "java/lang/String" := x47c3.ext E48
      have hk48' : _ ≤ h48.size := Nat.le_trans hk47' E48.1
      have Z48 : n0 ≤ h48.size := Nat.le_trans Z47 E48.1
      have F_name_b48 : Fld Z h48 b48 "com/example/watchpost/watchpost/Option" "name" "Ljava/lang/String;" .null := D48 (Or.inr (hw _ (List.mem_of_getElem? (i := 59) rfl))) (ty := (.object "java/lang/String")) (by decide)
      have F_shortName_b48 : Fld Z h48 b48 "com/example/watchpost/watchpost/Option" "shortName" "Ljava/lang/String;" .null := D48 (Or.inr (hw _ (List.mem_of_getElem? (i := 61) rfl))) (ty := (.object "java/lang/String")) (by decide)
      have F_value_b48 : Fld Z h48 b48 "com/example/watchpost/watchpost/Option" "value" "Ljava/lang/String;" .null := D48 (Or.inr (hw _ (List.mem_of_getElem? (i := 63) rfl))) (ty := (.object "java/lang/String")) (by decide)
      have F_required_b48 : Fld Z h48 b48 "com/example/watchpost/watchpost/Option" "required" "Z" (.int (0 : Int32)) := D48 (Or.inr (hw _ (List.mem_of_getElem? (i := 65) rfl))) (ty := .boolean) (by decide)
      obtain ⟨_, _, ⟨T49, L49, k49, n49⟩, -, X49, ⟨Lc49, hQ49, l49, y49, z49⟩, st49⟩ := X48.specialBack hx (y := (⟨"com/example/watchpost/watchpost/Option", "<init>", "(Ljava/lang/String;Ljava/lang/String;)V"⟩ : MethodName)) rfl hown (mvT hZ (hw _ (List.mem_of_getElem? (i := 51) rfl))) (mvT hZ (hw _ (List.mem_of_getElem? (i := 52) rfl))) (mvT hZ (hw _ (List.mem_of_getElem? (i := 53) rfl))) (by decide) (backOf (W := 1) (rm_two1 l Z a0 hw [] b48 b6 b44 h48 n0 Z48 A48 F_name_b48 F_shortName_b48 F_value_b48 F_required_b48 g_b48) hZ (hw _ (List.mem_of_getElem? (i := 53) rfl)) (hw _ (List.mem_of_getElem? (i := 50) rfl)) (by decide) (by decide)) (g := (mkF m 132 #[.val (.int p0), .val (.int p1), .val (.int p2), .val (.int p3), .val (.ref b1), .val (.ref b6), .val (.ref b8), .val (.ref b13), .val (.int ((p3 &&& (2147483647 : Int32)) % (3 : Int32))), .val (.ref b44), .val (.ref bx47), .unset, .unset, .unset, .unset] [(.ref b44), (.ref b6), (.ref b48), (.ref b48)])) rfl (by rw [hml]; rfl) (Steps.refl _) (a := b48) (argsL := [(.ref b6), (.ref b44)]) (rest := [(.ref b48)]) (lenOf pd_5 rfl) rfl (by show 2 * 0 + _ ≤ _; exact Nat.le_of_eq rfl) (hb hby at_132) (fun _ _ => ⟨rfl, e48, (by decide : 10 + 0 ≤ _), (by decide : 25 + 0 ≤ _)⟩)
      dsimp only [Pt.U, Pt.locs, Pt.cells, Pt.slots] at X49 l49 y49 z49 st49 hQ49
      subst l49 y49 z49
      obtain ⟨rfl, N49q, x49c0, x49c1, x49c2, x49c3, x49c4⟩ := hQ49
      have N49 := Fr.app N47 N49q
      have X00_49 : Old Z n0 T49.heap := X00_48.keep x49c0 (allS g_b48 all0)
      have V5_49 : Arv Z T49.heap b1 k1 .char (2 : Int32) [(.int (nar .char (p0 &&& (255 : Int32)).toUInt32.toUInt16.toUInt32.toInt32)), (.int (nar .char (p1 &&& (255 : Int32)).toUInt32.toUInt16.toUInt32.toInt32))] (.int (0 : Int32)) := V5_48.keep x49c0 (ninS ne_b1_b48 nin0)
      have A6_49 : Exa Z T49.heap b6 "java/lang/String" := A6_48.keep x49c0
      have V12_49 : Arv Z T49.heap b8 k8 .char (2 : Int32) [(.int (nar .char (p2 &&& (255 : Int32)).toUInt32.toUInt16.toUInt32.toInt32)), (.int (nar .char (((p2.toUInt32 >>> ((8 : Int32) &&& 31).toUInt32).toInt32) &&& (255 : Int32)).toUInt32.toUInt16.toUInt32.toInt32))] (.int (0 : Int32)) := V12_48.keep x49c0 (ninS ne_b8_b48 nin0)
      have V_b13_49 : Arv Z T49.heap b13 k13 .char (0 : Int32) [] (.int (0 : Int32)) := V_b13_48.keep x49c0 (ninS ne_b13_b48 nin0)
      have A44_49 : Exa Z T49.heap b44 "java/lang/String" := A44_48.keep x49c0
      have x47c3_49 : Exa Z T49.heap bx47 "java/lang/String" := x47c3_48.keep x49c0
      have A48_49 : Exa Z T49.heap b48 "com/example/watchpost/watchpost/Option" := A48.keep x49c0
      have Sh_CS_49 : Sta Z T49.heap "java/lang/String" "COMPACT_STRINGS" "Z" (.int zc) := S_CS.ext X00_49.2
      have hk49' : _ ≤ T49.heap.size := Nat.le_trans hk48' x49c0.1
      have Z49 : n0 ≤ T49.heap.size := Nat.le_trans Z48 x49c0.1
      obtain ⟨cq50, kq50, q50a, q50b, q50c⟩ := isOf hZ rfl A48_49
      obtain ⟨_, _, ⟨T50, L50, k50, n50⟩, -, X50, ⟨Lc50, hQ50, l50, y50, z50⟩, st50⟩ := X49.virtualBack hx (y := (⟨"com/example/watchpost/watchpost/Option", "isFlag", "()Z"⟩ : MethodName)) (z := (⟨"com/example/watchpost/watchpost/Option", "isFlag", "()Z"⟩ : MethodName)) hown (mvT hZ (hw _ (List.mem_of_getElem? (i := 66) rfl))) (mvT hZ (hw _ (List.mem_of_getElem? (i := 67) rfl))) (notFace_of_selects (args := #[]) (mvT hZ (hw _ (List.mem_of_getElem? (i := 69) rfl)))) (mvT hZ (hw _ (List.mem_of_getElem? (i := 69) rfl))) (mvT hZ (hw _ (List.mem_of_getElem? (i := 68) rfl))) (by decide) (backOf (W := 0) (rm_flag1 l Z a0 hw [] b48 b44 T49.heap n0 Z49 x49c3) hZ (hw _ (List.mem_of_getElem? (i := 70) rfl)) (hw _ (List.mem_of_getElem? (i := 50) rfl)) (by decide) (by decide)) q50a q50c (g := (mkF m 139 #[.val (.int p0), .val (.int p1), .val (.int p2), .val (.int p3), .val (.ref b1), .val (.ref b6), .val (.ref b8), .val (.ref b13), .val (.int ((p3 &&& (2147483647 : Int32)) % (3 : Int32))), .val (.ref b44), .val (.ref bx47), .val (.ref b48), .unset, .unset, .unset] [(.ref b48)])) rfl (by rw [hml]; rfl) (Steps.refl _) (argsL := []) (rest := []) (lenOf pd_8 rfl) rfl (by show 2 * 0 + _ ≤ _; exact Nat.le_of_eq rfl) (hb hby at_139) (fun _ _ => ⟨rfl, rfl, (by decide : 10 + 0 ≤ _), (by decide : 25 + 0 ≤ _)⟩)
      dsimp only [Pt.U, Pt.locs, Pt.cells, Pt.slots] at X50 l50 y50 z50 st50 hQ50
      subst l50 y50 z50
      obtain ⟨rfl, N50q, e50⟩ := hQ50
      have N50 := Fr.app N49 N50q
      obtain ⟨cq51, kq51, q51a, q51b, q51c⟩ := isOf hZ e50 A48_49
      obtain ⟨_, _, ⟨T51, L51, k51, n51⟩, -, X51, ⟨Lc51, hQ51, l51, y51, z51⟩, st51⟩ := X50.virtualBack hx (y := (⟨"com/example/watchpost/watchpost/Option", "value", "()Ljava/lang/String;"⟩ : MethodName)) (z := (⟨"com/example/watchpost/watchpost/Option", "value", "()Ljava/lang/String;"⟩ : MethodName)) hown (mvT hZ (hw _ (List.mem_of_getElem? (i := 71) rfl))) (mvT hZ (hw _ (List.mem_of_getElem? (i := 72) rfl))) (notFace_of_selects (args := #[]) (mvT hZ (hw _ (List.mem_of_getElem? (i := 74) rfl)))) (mvT hZ (hw _ (List.mem_of_getElem? (i := 74) rfl))) (mvT hZ (hw _ (List.mem_of_getElem? (i := 73) rfl))) (by decide) (backOf (W := 0) (rm_val1 l Z a0 hw [] b48 b44 T49.heap n0 Z49 x49c3) hZ (hw _ (List.mem_of_getElem? (i := 75) rfl)) (hw _ (List.mem_of_getElem? (i := 50) rfl)) (by decide) (by decide)) q51a q51c (g := (mkF m 157 #[.val (.int p0), .val (.int p1), .val (.int p2), .val (.int p3), .val (.ref b1), .val (.ref b6), .val (.ref b8), .val (.ref b13), .val (.int ((p3 &&& (2147483647 : Int32)) % (3 : Int32))), .val (.ref b44), .val (.ref bx47), .val (.ref b48), .unset, .unset, .unset] [(.ref b48)])) rfl (by rw [hml]; rfl) (Steps.refl _) (argsL := []) (rest := []) (lenOf pd_9 rfl) rfl (by show 2 * 0 + _ ≤ _; exact Nat.le_of_eq rfl) (hb hby at_157) (fun _ _ => ⟨rfl, e50, (by decide : 10 + 0 ≤ _), (by decide : 25 + 0 ≤ _)⟩)
      dsimp only [Pt.U, Pt.locs, Pt.cells, Pt.slots] at X51 l51 y51 z51 st51 hQ51
      subst l51 y51 z51
      obtain ⟨rfl, N51q, e51⟩ := hQ51
      have N51 := Fr.app N50 N51q
      have k52 : ∀ target, Steps p.tables e below (T51.setTop (mkF m 182 #[.val (.int p0), .val (.int p1), .val (.int p2), .val (.int p3), .val (.ref b1), .val (.ref b6), .val (.ref b8), .val (.ref b13), .val (.int ((p3 &&& (2147483647 : Int32)) % (3 : Int32))), .val (.ref b44), .val (.ref bx47), .val (.ref b48), .val (.int (1 : Int32)), .val (.int (((p3.toUInt32 >>> ((8 : Int32) &&& 31).toUInt32).toInt32) &&& (3 : Int32))), .unset] [(.int (((p3.toUInt32 >>> ((8 : Int32) &&& 31).toUInt32).toInt32) &&& (3 : Int32)))])) target → Steps p.tables e below (s₁.setTop (mkF m 0 #[.val (.int p0), .val (.int p1), .val (.int p2), .val (.int p3), .unset, .unset, .unset, .unset, .unset, .unset, .unset, .unset, .unset, .unset, .unset] [])) target := by
        intro target kt
        refine k27 _ ?_
        show Steps p.tables e below (T13.setTop (mkF m 87 #[.val (.int p0), .val (.int p1), .val (.int p2), .val (.int p3), .val (.ref b1), .val (.ref b6), .val (.ref b8), .val (.ref b13), .val (.int ((p3 &&& (2147483647 : Int32)) % (3 : Int32))), .unset, .unset, .unset, .unset, .unset, .unset] [(.int (1 : Int32)), (.int ((p3 &&& (2147483647 : Int32)) % (3 : Int32)))])) _
        refine XS.icmpYes X13.here hx rfl (pc0 := 87) (pc' := 104) rfl (hb hby at_87) rfl (feq hc87).2 (by decide) (by decide) ?_
        show Steps p.tables e below (T13.setTop (mkF m 104 #[.val (.int p0), .val (.int p1), .val (.int p2), .val (.int p3), .val (.ref b1), .val (.ref b6), .val (.ref b8), .val (.ref b13), .val (.int ((p3 &&& (2147483647 : Int32)) % (3 : Int32))), .unset, .unset, .unset, .unset, .unset, .unset] [])) _
        refine st44 _ ?_
        show Steps p.tables e below (T44.setTop (mkF m 107 #[.val (.int p0), .val (.int p1), .val (.int p2), .val (.int p3), .val (.ref b1), .val (.ref b6), .val (.ref b8), .val (.ref b13), .val (.int ((p3 &&& (2147483647 : Int32)) % (3 : Int32))), .unset, .unset, .unset, .unset, .unset, .unset] [(.ref b44)])) _
        refine XS.dup X44.here hx rfl (hb hby at_107) rfl rfl ?_
        show Steps p.tables e below (T44.setTop (mkF m 108 #[.val (.int p0), .val (.int p1), .val (.int p2), .val (.int p3), .val (.ref b1), .val (.ref b6), .val (.ref b8), .val (.ref b13), .val (.int ((p3 &&& (2147483647 : Int32)) % (3 : Int32))), .unset, .unset, .unset, .unset, .unset, .unset] [(.ref b44), (.ref b44)])) _
        refine XS.aload X44.here hx rfl (hb hby at_108) rfl rfl ?_
        show Steps p.tables e below (T44.setTop (mkF m 110 #[.val (.int p0), .val (.int p1), .val (.int p2), .val (.int p3), .val (.ref b1), .val (.ref b6), .val (.ref b8), .val (.ref b13), .val (.int ((p3 &&& (2147483647 : Int32)) % (3 : Int32))), .unset, .unset, .unset, .unset, .unset, .unset] [(.ref b8), (.ref b44), (.ref b44)])) _
        refine st45.trans ?_
        show Steps p.tables e below (T45.setTop (mkF m 113 #[.val (.int p0), .val (.int p1), .val (.int p2), .val (.int p3), .val (.ref b1), .val (.ref b6), .val (.ref b8), .val (.ref b13), .val (.int ((p3 &&& (2147483647 : Int32)) % (3 : Int32))), .unset, .unset, .unset, .unset, .unset, .unset] [(.ref b44)])) _
        refine XS.astore X45.here hx rfl (hb hby at_113) rfl rfl (l' := #[.val (.int p0), .val (.int p1), .val (.int p2), .val (.int p3), .val (.ref b1), .val (.ref b6), .val (.ref b8), .val (.ref b13), .val (.int ((p3 &&& (2147483647 : Int32)) % (3 : Int32))), .val (.ref b44), .unset, .unset, .unset, .unset, .unset]) rfl ?_
        show Steps p.tables e below (T45.setTop (mkF m 115 #[.val (.int p0), .val (.int p1), .val (.int p2), .val (.int p3), .val (.ref b1), .val (.ref b6), .val (.ref b8), .val (.ref b13), .val (.int ((p3 &&& (2147483647 : Int32)) % (3 : Int32))), .val (.ref b44), .unset, .unset, .unset, .unset, .unset] [])) _
        refine XS.aload X45.here hx rfl (hb hby at_115) rfl rfl ?_
        show Steps p.tables e below (T45.setTop (mkF m 117 #[.val (.int p0), .val (.int p1), .val (.int p2), .val (.int p3), .val (.ref b1), .val (.ref b6), .val (.ref b8), .val (.ref b13), .val (.int ((p3 &&& (2147483647 : Int32)) % (3 : Int32))), .val (.ref b44), .unset, .unset, .unset, .unset, .unset] [(.ref b8)])) _
        refine XS.iconst X45.here hx rfl (hb hby at_117) ?_
        show Steps p.tables e below (T45.setTop (mkF m 118 #[.val (.int p0), .val (.int p1), .val (.int p2), .val (.int p3), .val (.ref b1), .val (.ref b6), .val (.ref b8), .val (.ref b13), .val (.int ((p3 &&& (2147483647 : Int32)) % (3 : Int32))), .val (.ref b44), .unset, .unset, .unset, .unset, .unset] [(.int (0 : Int32)), (.ref b8)])) _
        refine X45.caload hx (j := (0 : Int32)) (v := (.int (nar .char (p2 &&& (255 : Int32)).toUInt32.toUInt16.toUInt32.toInt32))) Ar46.1 (State.isArrayOf_alike hZ.alike Ar46.2.1) Ar46.2.2 hin46 hat46 (g := (mkF m 118 #[.val (.int p0), .val (.int p1), .val (.int p2), .val (.int p3), .val (.ref b1), .val (.ref b6), .val (.ref b8), .val (.ref b13), .val (.int ((p3 &&& (2147483647 : Int32)) % (3 : Int32))), .val (.ref b44), .unset, .unset, .unset, .unset, .unset] [(.int (0 : Int32)), (.ref b8)])) rfl rfl (hb hby at_118) _ ?_
        show Steps p.tables e below (T45.setTop (mkF m 119 #[.val (.int p0), .val (.int p1), .val (.int p2), .val (.int p3), .val (.ref b1), .val (.ref b6), .val (.ref b8), .val (.ref b13), .val (.int ((p3 &&& (2147483647 : Int32)) % (3 : Int32))), .val (.ref b44), .unset, .unset, .unset, .unset, .unset] [(.int (nar .char (p2 &&& (255 : Int32)).toUInt32.toUInt16.toUInt32.toInt32))])) _
        refine st47 _ ?_
        show Steps p.tables e below (T47.setTop (mkF m 122 #[.val (.int p0), .val (.int p1), .val (.int p2), .val (.int p3), .val (.ref b1), .val (.ref b6), .val (.ref b8), .val (.ref b13), .val (.int ((p3 &&& (2147483647 : Int32)) % (3 : Int32))), .val (.ref b44), .unset, .unset, .unset, .unset, .unset] [(.ref bx47)])) _
        refine XS.astore X47.here hx rfl (hb hby at_122) rfl rfl (l' := #[.val (.int p0), .val (.int p1), .val (.int p2), .val (.int p3), .val (.ref b1), .val (.ref b6), .val (.ref b8), .val (.ref b13), .val (.int ((p3 &&& (2147483647 : Int32)) % (3 : Int32))), .val (.ref b44), .val (.ref bx47), .unset, .unset, .unset, .unset]) rfl ?_
        show Steps p.tables e below (T47.setTop (mkF m 124 #[.val (.int p0), .val (.int p1), .val (.int p2), .val (.int p3), .val (.ref b1), .val (.ref b6), .val (.ref b8), .val (.ref b13), .val (.int ((p3 &&& (2147483647 : Int32)) % (3 : Int32))), .val (.ref b44), .val (.ref bx47), .unset, .unset, .unset, .unset] [])) _
        refine st48 _ ?_
        show Steps p.tables e below (T48.setTop (mkF m 127 #[.val (.int p0), .val (.int p1), .val (.int p2), .val (.int p3), .val (.ref b1), .val (.ref b6), .val (.ref b8), .val (.ref b13), .val (.int ((p3 &&& (2147483647 : Int32)) % (3 : Int32))), .val (.ref b44), .val (.ref bx47), .unset, .unset, .unset, .unset] [(.ref b48)])) _
        refine XS.dup X48.here hx rfl (hb hby at_127) rfl rfl ?_
        show Steps p.tables e below (T48.setTop (mkF m 128 #[.val (.int p0), .val (.int p1), .val (.int p2), .val (.int p3), .val (.ref b1), .val (.ref b6), .val (.ref b8), .val (.ref b13), .val (.int ((p3 &&& (2147483647 : Int32)) % (3 : Int32))), .val (.ref b44), .val (.ref bx47), .unset, .unset, .unset, .unset] [(.ref b48), (.ref b48)])) _
        refine XS.aload X48.here hx rfl (hb hby at_128) rfl rfl ?_
        show Steps p.tables e below (T48.setTop (mkF m 130 #[.val (.int p0), .val (.int p1), .val (.int p2), .val (.int p3), .val (.ref b1), .val (.ref b6), .val (.ref b8), .val (.ref b13), .val (.int ((p3 &&& (2147483647 : Int32)) % (3 : Int32))), .val (.ref b44), .val (.ref bx47), .unset, .unset, .unset, .unset] [(.ref b6), (.ref b48), (.ref b48)])) _
        refine XS.aload X48.here hx rfl (hb hby at_130) rfl rfl ?_
        show Steps p.tables e below (T48.setTop (mkF m 132 #[.val (.int p0), .val (.int p1), .val (.int p2), .val (.int p3), .val (.ref b1), .val (.ref b6), .val (.ref b8), .val (.ref b13), .val (.int ((p3 &&& (2147483647 : Int32)) % (3 : Int32))), .val (.ref b44), .val (.ref bx47), .unset, .unset, .unset, .unset] [(.ref b44), (.ref b6), (.ref b48), (.ref b48)])) _
        refine st49.trans ?_
        show Steps p.tables e below (T49.setTop (mkF m 135 #[.val (.int p0), .val (.int p1), .val (.int p2), .val (.int p3), .val (.ref b1), .val (.ref b6), .val (.ref b8), .val (.ref b13), .val (.int ((p3 &&& (2147483647 : Int32)) % (3 : Int32))), .val (.ref b44), .val (.ref bx47), .unset, .unset, .unset, .unset] [(.ref b48)])) _
        refine XS.astore X49.here hx rfl (hb hby at_135) rfl rfl (l' := #[.val (.int p0), .val (.int p1), .val (.int p2), .val (.int p3), .val (.ref b1), .val (.ref b6), .val (.ref b8), .val (.ref b13), .val (.int ((p3 &&& (2147483647 : Int32)) % (3 : Int32))), .val (.ref b44), .val (.ref bx47), .val (.ref b48), .unset, .unset, .unset]) rfl ?_
        show Steps p.tables e below (T49.setTop (mkF m 137 #[.val (.int p0), .val (.int p1), .val (.int p2), .val (.int p3), .val (.ref b1), .val (.ref b6), .val (.ref b8), .val (.ref b13), .val (.int ((p3 &&& (2147483647 : Int32)) % (3 : Int32))), .val (.ref b44), .val (.ref bx47), .val (.ref b48), .unset, .unset, .unset] [])) _
        refine XS.aload X49.here hx rfl (hb hby at_137) rfl rfl ?_
        show Steps p.tables e below (T49.setTop (mkF m 139 #[.val (.int p0), .val (.int p1), .val (.int p2), .val (.int p3), .val (.ref b1), .val (.ref b6), .val (.ref b8), .val (.ref b13), .val (.int ((p3 &&& (2147483647 : Int32)) % (3 : Int32))), .val (.ref b44), .val (.ref bx47), .val (.ref b48), .unset, .unset, .unset] [(.ref b48)])) _
        refine st50.trans ?_
        show Steps p.tables e below (T50.setTop (mkF m 142 #[.val (.int p0), .val (.int p1), .val (.int p2), .val (.int p3), .val (.ref b1), .val (.ref b6), .val (.ref b8), .val (.ref b13), .val (.int ((p3 &&& (2147483647 : Int32)) % (3 : Int32))), .val (.ref b44), .val (.ref bx47), .val (.ref b48), .unset, .unset, .unset] [(.int (0 : Int32))])) _
        refine XS.aload X50.here hx rfl (hb hby at_142) rfl rfl ?_
        show Steps p.tables e below (T50.setTop (mkF m 144 #[.val (.int p0), .val (.int p1), .val (.int p2), .val (.int p3), .val (.ref b1), .val (.ref b6), .val (.ref b8), .val (.ref b13), .val (.int ((p3 &&& (2147483647 : Int32)) % (3 : Int32))), .val (.ref b44), .val (.ref bx47), .val (.ref b48), .unset, .unset, .unset] [(.ref b44), (.int (0 : Int32))])) _
        refine XS.ifnonnullYes X50.here hx rfl (pc0 := 144) (pc' := 151) rfl (hb hby at_144) rfl (by decide) (by decide) ?_
        show Steps p.tables e below (T50.setTop (mkF m 151 #[.val (.int p0), .val (.int p1), .val (.int p2), .val (.int p3), .val (.ref b1), .val (.ref b6), .val (.ref b8), .val (.ref b13), .val (.int ((p3 &&& (2147483647 : Int32)) % (3 : Int32))), .val (.ref b44), .val (.ref bx47), .val (.ref b48), .unset, .unset, .unset] [(.int (0 : Int32))])) _
        refine XS.iconst X50.here hx rfl (hb hby at_151) ?_
        show Steps p.tables e below (T50.setTop (mkF m 152 #[.val (.int p0), .val (.int p1), .val (.int p2), .val (.int p3), .val (.ref b1), .val (.ref b6), .val (.ref b8), .val (.ref b13), .val (.int ((p3 &&& (2147483647 : Int32)) % (3 : Int32))), .val (.ref b44), .val (.ref bx47), .val (.ref b48), .unset, .unset, .unset] [(.int (0 : Int32)), (.int (0 : Int32))])) _
        refine XS.icmpNo X50.here hx rfl (hb hby at_152) rfl (teq (by decide : (0 : Int32) = (0 : Int32))).2 ?_
        show Steps p.tables e below (T50.setTop (mkF m 155 #[.val (.int p0), .val (.int p1), .val (.int p2), .val (.int p3), .val (.ref b1), .val (.ref b6), .val (.ref b8), .val (.ref b13), .val (.int ((p3 &&& (2147483647 : Int32)) % (3 : Int32))), .val (.ref b44), .val (.ref bx47), .val (.ref b48), .unset, .unset, .unset] [])) _
        refine XS.aload X50.here hx rfl (hb hby at_155) rfl rfl ?_
        show Steps p.tables e below (T50.setTop (mkF m 157 #[.val (.int p0), .val (.int p1), .val (.int p2), .val (.int p3), .val (.ref b1), .val (.ref b6), .val (.ref b8), .val (.ref b13), .val (.int ((p3 &&& (2147483647 : Int32)) % (3 : Int32))), .val (.ref b44), .val (.ref bx47), .val (.ref b48), .unset, .unset, .unset] [(.ref b48)])) _
        refine st51.trans ?_
        show Steps p.tables e below (T51.setTop (mkF m 160 #[.val (.int p0), .val (.int p1), .val (.int p2), .val (.int p3), .val (.ref b1), .val (.ref b6), .val (.ref b8), .val (.ref b13), .val (.int ((p3 &&& (2147483647 : Int32)) % (3 : Int32))), .val (.ref b44), .val (.ref bx47), .val (.ref b48), .unset, .unset, .unset] [(.ref b44)])) _
        refine XS.aload X51.here hx rfl (hb hby at_160) rfl rfl ?_
        show Steps p.tables e below (T51.setTop (mkF m 162 #[.val (.int p0), .val (.int p1), .val (.int p2), .val (.int p3), .val (.ref b1), .val (.ref b6), .val (.ref b8), .val (.ref b13), .val (.int ((p3 &&& (2147483647 : Int32)) % (3 : Int32))), .val (.ref b44), .val (.ref bx47), .val (.ref b48), .unset, .unset, .unset] [(.ref b44), (.ref b44)])) _
        refine Jvm.RoadKit.acmp (g := (mkF m 162 #[.val (.int p0), .val (.int p1), .val (.int p2), .val (.int p3), .val (.ref b1), .val (.ref b6), .val (.ref b8), .val (.ref b13), .val (.int ((p3 &&& (2147483647 : Int32)) % (3 : Int32))), .val (.ref b44), .val (.ref bx47), .val (.ref b48), .unset, .unset, .unset] [(.ref b44), (.ref b44)])) X51 hx rfl rfl rfl (pc0 := 162) (pc' := 165) (same := true) rfl (hb hby at_162) rfl (decide_eq_true rfl) (by decide) (by decide) ?_
        show Steps p.tables e below (T51.setTop (mkF m 165 #[.val (.int p0), .val (.int p1), .val (.int p2), .val (.int p3), .val (.ref b1), .val (.ref b6), .val (.ref b8), .val (.ref b13), .val (.int ((p3 &&& (2147483647 : Int32)) % (3 : Int32))), .val (.ref b44), .val (.ref bx47), .val (.ref b48), .unset, .unset, .unset] [])) _
        refine XS.iconst X51.here hx rfl (hb hby at_165) ?_
        show Steps p.tables e below (T51.setTop (mkF m 166 #[.val (.int p0), .val (.int p1), .val (.int p2), .val (.int p3), .val (.ref b1), .val (.ref b6), .val (.ref b8), .val (.ref b13), .val (.int ((p3 &&& (2147483647 : Int32)) % (3 : Int32))), .val (.ref b44), .val (.ref bx47), .val (.ref b48), .unset, .unset, .unset] [(.int (1 : Int32))])) _
        refine XS.goto X51.here hx rfl (pc0 := 166) (pc' := 170) rfl (hb hby at_166) (by decide) (by decide) ?_
        show Steps p.tables e below (T51.setTop (mkF m 170 #[.val (.int p0), .val (.int p1), .val (.int p2), .val (.int p3), .val (.ref b1), .val (.ref b6), .val (.ref b8), .val (.ref b13), .val (.int ((p3 &&& (2147483647 : Int32)) % (3 : Int32))), .val (.ref b44), .val (.ref bx47), .val (.ref b48), .unset, .unset, .unset] [(.int (1 : Int32))])) _
        refine XS.istore X51.here hx rfl (hb hby at_170) rfl (l' := #[.val (.int p0), .val (.int p1), .val (.int p2), .val (.int p3), .val (.ref b1), .val (.ref b6), .val (.ref b8), .val (.ref b13), .val (.int ((p3 &&& (2147483647 : Int32)) % (3 : Int32))), .val (.ref b44), .val (.ref bx47), .val (.ref b48), .val (.int (1 : Int32)), .unset, .unset]) rfl ?_
        show Steps p.tables e below (T51.setTop (mkF m 172 #[.val (.int p0), .val (.int p1), .val (.int p2), .val (.int p3), .val (.ref b1), .val (.ref b6), .val (.ref b8), .val (.ref b13), .val (.int ((p3 &&& (2147483647 : Int32)) % (3 : Int32))), .val (.ref b44), .val (.ref bx47), .val (.ref b48), .val (.int (1 : Int32)), .unset, .unset] [])) _
        refine XS.iloadN X51.here hx rfl (hb hby at_172) rfl ?_
        show Steps p.tables e below (T51.setTop (mkF m 173 #[.val (.int p0), .val (.int p1), .val (.int p2), .val (.int p3), .val (.ref b1), .val (.ref b6), .val (.ref b8), .val (.ref b13), .val (.int ((p3 &&& (2147483647 : Int32)) % (3 : Int32))), .val (.ref b44), .val (.ref bx47), .val (.ref b48), .val (.int (1 : Int32)), .unset, .unset] [(.int p3)])) _
        refine XS.bipush X51.here hx rfl (hb hby at_173) ?_
        show Steps p.tables e below (T51.setTop (mkF m 175 #[.val (.int p0), .val (.int p1), .val (.int p2), .val (.int p3), .val (.ref b1), .val (.ref b6), .val (.ref b8), .val (.ref b13), .val (.int ((p3 &&& (2147483647 : Int32)) % (3 : Int32))), .val (.ref b44), .val (.ref bx47), .val (.ref b48), .val (.int (1 : Int32)), .unset, .unset] [(.int (8 : Int32)), (.int p3)])) _
        refine XS.iushr X51.here hx rfl (hb hby at_175) rfl ?_
        show Steps p.tables e below (T51.setTop (mkF m 176 #[.val (.int p0), .val (.int p1), .val (.int p2), .val (.int p3), .val (.ref b1), .val (.ref b6), .val (.ref b8), .val (.ref b13), .val (.int ((p3 &&& (2147483647 : Int32)) % (3 : Int32))), .val (.ref b44), .val (.ref bx47), .val (.ref b48), .val (.int (1 : Int32)), .unset, .unset] [(.int ((p3.toUInt32 >>> ((8 : Int32) &&& 31).toUInt32).toInt32))])) _
        refine XS.iconst X51.here hx rfl (hb hby at_176) ?_
        show Steps p.tables e below (T51.setTop (mkF m 177 #[.val (.int p0), .val (.int p1), .val (.int p2), .val (.int p3), .val (.ref b1), .val (.ref b6), .val (.ref b8), .val (.ref b13), .val (.int ((p3 &&& (2147483647 : Int32)) % (3 : Int32))), .val (.ref b44), .val (.ref bx47), .val (.ref b48), .val (.int (1 : Int32)), .unset, .unset] [(.int (3 : Int32)), (.int ((p3.toUInt32 >>> ((8 : Int32) &&& 31).toUInt32).toInt32))])) _
        refine XS.iand X51.here hx rfl (hb hby at_177) rfl ?_
        show Steps p.tables e below (T51.setTop (mkF m 178 #[.val (.int p0), .val (.int p1), .val (.int p2), .val (.int p3), .val (.ref b1), .val (.ref b6), .val (.ref b8), .val (.ref b13), .val (.int ((p3 &&& (2147483647 : Int32)) % (3 : Int32))), .val (.ref b44), .val (.ref bx47), .val (.ref b48), .val (.int (1 : Int32)), .unset, .unset] [(.int (((p3.toUInt32 >>> ((8 : Int32) &&& 31).toUInt32).toInt32) &&& (3 : Int32)))])) _
        refine XS.istore X51.here hx rfl (hb hby at_178) rfl (l' := #[.val (.int p0), .val (.int p1), .val (.int p2), .val (.int p3), .val (.ref b1), .val (.ref b6), .val (.ref b8), .val (.ref b13), .val (.int ((p3 &&& (2147483647 : Int32)) % (3 : Int32))), .val (.ref b44), .val (.ref bx47), .val (.ref b48), .val (.int (1 : Int32)), .val (.int (((p3.toUInt32 >>> ((8 : Int32) &&& 31).toUInt32).toInt32) &&& (3 : Int32))), .unset]) rfl ?_
        show Steps p.tables e below (T51.setTop (mkF m 180 #[.val (.int p0), .val (.int p1), .val (.int p2), .val (.int p3), .val (.ref b1), .val (.ref b6), .val (.ref b8), .val (.ref b13), .val (.int ((p3 &&& (2147483647 : Int32)) % (3 : Int32))), .val (.ref b44), .val (.ref bx47), .val (.ref b48), .val (.int (1 : Int32)), .val (.int (((p3.toUInt32 >>> ((8 : Int32) &&& 31).toUInt32).toInt32) &&& (3 : Int32))), .unset] [])) _
        refine XS.iload X51.here hx rfl (hb hby at_180) rfl ?_
        exact kt
      by_cases hc182 : (((p3.toUInt32 >>> ((8 : Int32) &&& 31).toUInt32).toInt32) &&& (3 : Int32)) = (0 : Int32)
      · obtain ⟨_, _, ⟨T53, L53, k53, n53⟩, -, X53, ⟨Lc53, hQ53, l53, y53, z53⟩, st53⟩ := Jvm.LawKit.callS X51 hx (y := (⟨"com/example/watchpost/watchpost/Option", "flag", "(Ljava/lang/String;)Lcom/example/watchpost/watchpost/Option;"⟩ : MethodName)) hown (mvT hZ (hw _ (List.mem_of_getElem? (i := 76) rfl))) (mvT hZ (hw _ (List.mem_of_getElem? (i := 77) rfl))) (mvT hZ (hw _ (List.mem_of_getElem? (i := 50) rfl))) (mvT hZ (hw _ (List.mem_of_getElem? (i := 78) rfl))) (by decide) (backOf (W := 0) (rm_f1 l Z a0 hw [] b6 T49.heap n0 Z49) hZ (hw _ (List.mem_of_getElem? (i := 78) rfl)) (hw _ (List.mem_of_getElem? (i := 50) rfl)) (by decide) (by decide)) (g := (mkF m 187 #[.val (.int p0), .val (.int p1), .val (.int p2), .val (.int p3), .val (.ref b1), .val (.ref b6), .val (.ref b8), .val (.ref b13), .val (.int ((p3 &&& (2147483647 : Int32)) % (3 : Int32))), .val (.ref b44), .val (.ref bx47), .val (.ref b48), .val (.int (1 : Int32)), .val (.int (((p3.toUInt32 >>> ((8 : Int32) &&& 31).toUInt32).toInt32) &&& (3 : Int32))), .unset] [(.ref b6)])) rfl (by rw [hml]; rfl) (argsL := [(.ref b6)]) (rest := []) (lenOf pd_10 rfl) rfl (by show 2 * 0 + _ ≤ _; exact Nat.le_of_eq rfl) (hb hby at_187) (fun _ _ => ⟨rfl, e51, (by decide : 10 + 1 ≤ _), (by decide : 25 + 4 ≤ _)⟩)
        dsimp only [Pt.U, Pt.locs, Pt.cells, Pt.slots] at X53 l53 y53 z53 st53 hQ53
        subst l53 y53 z53
        obtain ⟨bx53, rfl, N53q, x53c0, x53c1, x53c2, x53c3, x53c4⟩ := hQ53
        have N53 := Fr.app N51 N53q
        have ne_b1_bx53 : b1 ≠ bx53 := Nat.ne_of_lt (Nat.lt_of_lt_of_le V5_49.lt x53c2)
        have ne_b6_bx53 : b6 ≠ bx53 := Nat.ne_of_lt (Nat.lt_of_lt_of_le A6_49.lt x53c2)
        have ne_b8_bx53 : b8 ≠ bx53 := Nat.ne_of_lt (Nat.lt_of_lt_of_le V12_49.lt x53c2)
        have ne_b13_bx53 : b13 ≠ bx53 := Nat.ne_of_lt (Nat.lt_of_lt_of_le V_b13_49.lt x53c2)
        have ne_b44_bx53 : b44 ≠ bx53 := Nat.ne_of_lt (Nat.lt_of_lt_of_le A44_49.lt x53c2)
        have ne_bx47_bx53 : bx47 ≠ bx53 := Nat.ne_of_lt (Nat.lt_of_lt_of_le x47c3_49.lt x53c2)
        have ne_b48_bx53 : b48 ≠ bx53 := Nat.ne_of_lt (Nat.lt_of_lt_of_le A48_49.lt x53c2)
        have X00_53 : Old Z n0 T53.heap := X00_49.keep x53c0 all0
        have V5_53 : Arv Z T53.heap b1 k1 .char (2 : Int32) [(.int (nar .char (p0 &&& (255 : Int32)).toUInt32.toUInt16.toUInt32.toInt32)), (.int (nar .char (p1 &&& (255 : Int32)).toUInt32.toUInt16.toUInt32.toInt32))] (.int (0 : Int32)) := V5_49.keep x53c0 nin0
        have A6_53 : Exa Z T53.heap b6 "java/lang/String" := A6_49.keep x53c0
        have V12_53 : Arv Z T53.heap b8 k8 .char (2 : Int32) [(.int (nar .char (p2 &&& (255 : Int32)).toUInt32.toUInt16.toUInt32.toInt32)), (.int (nar .char (((p2.toUInt32 >>> ((8 : Int32) &&& 31).toUInt32).toInt32) &&& (255 : Int32)).toUInt32.toUInt16.toUInt32.toInt32))] (.int (0 : Int32)) := V12_49.keep x53c0 nin0
        have V_b13_53 : Arv Z T53.heap b13 k13 .char (0 : Int32) [] (.int (0 : Int32)) := V_b13_49.keep x53c0 nin0
        have A44_53 : Exa Z T53.heap b44 "java/lang/String" := A44_49.keep x53c0
        have x47c3_53 : Exa Z T53.heap bx47 "java/lang/String" := x47c3_49.keep x53c0
        have A48_53 : Exa Z T53.heap b48 "com/example/watchpost/watchpost/Option" := A48_49.keep x53c0
        have x49c1_53 : Fld Z T53.heap b48 "com/example/watchpost/watchpost/Option" "name" "Ljava/lang/String;" (.ref b6) := x49c1.keep x53c0 nin0
        have x49c2_53 : Fld Z T53.heap b48 "com/example/watchpost/watchpost/Option" "shortName" "Ljava/lang/String;" .null := x49c2.keep x53c0 nin0
        have x49c3_53 : Fld Z T53.heap b48 "com/example/watchpost/watchpost/Option" "value" "Ljava/lang/String;" (.ref b44) := x49c3.keep x53c0 nin0
        have x49c4_53 : Fld Z T53.heap b48 "com/example/watchpost/watchpost/Option" "required" "Z" (.int (nar .boolean (0 : Int32))) := x49c4.keep x53c0 nin0
        have Sh_CS_53 : Sta Z T53.heap "java/lang/String" "COMPACT_STRINGS" "Z" (.int zc) := S_CS.ext X00_53.2
        have hk53' : _ ≤ T53.heap.size := Nat.le_trans hk49' x53c0.1
        have Z53 : n0 ≤ T53.heap.size := Nat.le_trans Z49 x53c0.1
        obtain ⟨cq54, kq54, q54a, q54b, q54c⟩ := isOf hZ rfl x53c3
        obtain ⟨_, _, ⟨T54, L54, k54, n54⟩, -, X54, ⟨Lc54, hQ54, l54, y54, z54⟩, st54⟩ := X53.virtualBack hx (y := (⟨"com/example/watchpost/watchpost/Option", "isFlag", "()Z"⟩ : MethodName)) (z := (⟨"com/example/watchpost/watchpost/Option", "isFlag", "()Z"⟩ : MethodName)) hown (mvT hZ (hw _ (List.mem_of_getElem? (i := 66) rfl))) (mvT hZ (hw _ (List.mem_of_getElem? (i := 67) rfl))) (notFace_of_selects (args := #[]) (mvT hZ (hw _ (List.mem_of_getElem? (i := 69) rfl)))) (mvT hZ (hw _ (List.mem_of_getElem? (i := 69) rfl))) (mvT hZ (hw _ (List.mem_of_getElem? (i := 68) rfl))) (by decide) (backOf (W := 0) (rm_flag0 l Z a0 hw [] bx53 T53.heap n0 Z53 x53c4) hZ (hw _ (List.mem_of_getElem? (i := 70) rfl)) (hw _ (List.mem_of_getElem? (i := 50) rfl)) (by decide) (by decide)) q54a q54c (g := (mkF m 190 #[.val (.int p0), .val (.int p1), .val (.int p2), .val (.int p3), .val (.ref b1), .val (.ref b6), .val (.ref b8), .val (.ref b13), .val (.int ((p3 &&& (2147483647 : Int32)) % (3 : Int32))), .val (.ref b44), .val (.ref bx47), .val (.ref b48), .val (.int (1 : Int32)), .val (.int (((p3.toUInt32 >>> ((8 : Int32) &&& 31).toUInt32).toInt32) &&& (3 : Int32))), .unset] [(.ref bx53)])) rfl (by rw [hml]; rfl) (Steps.refl _) (argsL := []) (rest := []) (lenOf pd_8 rfl) rfl (by show 2 * 0 + _ ≤ _; exact Nat.le_of_eq rfl) (hb hby at_190) (fun _ _ => ⟨rfl, rfl, (by decide : 11 + 0 ≤ _), (by decide : 29 + 0 ≤ _)⟩)
        dsimp only [Pt.U, Pt.locs, Pt.cells, Pt.slots] at X54 l54 y54 z54 st54 hQ54
        subst l54 y54 z54
        obtain ⟨rfl, N54q, e54⟩ := hQ54
        have N54 := Fr.app N53 N54q
        obtain ⟨fs, hr, hrun, hended, hREW⟩ := X54.leaveW hS0 (by first | exact hk53' | (rw [e54]; exact hk53')) (v := some (.int (1 : Int32))) (fun h => by rw [Bd.returns] at h; cases h)
        refine ⟨_, _, pre0 _ ?_, hrun, hended, _, _, rfl, ?_, hREW.1, hREW.2.1, hREW.2.2.1, hREW.2.2.2.mono (by decide) (by decide)⟩
        · refine k52 _ ?_
          show Steps p.tables e below (T51.setTop (mkF m 182 #[.val (.int p0), .val (.int p1), .val (.int p2), .val (.int p3), .val (.ref b1), .val (.ref b6), .val (.ref b8), .val (.ref b13), .val (.int ((p3 &&& (2147483647 : Int32)) % (3 : Int32))), .val (.ref b44), .val (.ref bx47), .val (.ref b48), .val (.int (1 : Int32)), .val (.int (((p3.toUInt32 >>> ((8 : Int32) &&& 31).toUInt32).toInt32) &&& (3 : Int32))), .unset] [(.int (((p3.toUInt32 >>> ((8 : Int32) &&& 31).toUInt32).toInt32) &&& (3 : Int32)))])) _
          refine XS.ifNo X51.here hx rfl (hb hby at_182) rfl ((if0 _ _).trans (teq hc182).2) ?_
          show Steps p.tables e below (T51.setTop (mkF m 185 #[.val (.int p0), .val (.int p1), .val (.int p2), .val (.int p3), .val (.ref b1), .val (.ref b6), .val (.ref b8), .val (.ref b13), .val (.int ((p3 &&& (2147483647 : Int32)) % (3 : Int32))), .val (.ref b44), .val (.ref bx47), .val (.ref b48), .val (.int (1 : Int32)), .val (.int (((p3.toUInt32 >>> ((8 : Int32) &&& 31).toUInt32).toInt32) &&& (3 : Int32))), .unset] [])) _
          refine XS.aload X51.here hx rfl (hb hby at_185) rfl rfl ?_
          show Steps p.tables e below (T51.setTop (mkF m 187 #[.val (.int p0), .val (.int p1), .val (.int p2), .val (.int p3), .val (.ref b1), .val (.ref b6), .val (.ref b8), .val (.ref b13), .val (.int ((p3 &&& (2147483647 : Int32)) % (3 : Int32))), .val (.ref b44), .val (.ref bx47), .val (.ref b48), .val (.int (1 : Int32)), .val (.int (((p3.toUInt32 >>> ((8 : Int32) &&& 31).toUInt32).toInt32) &&& (3 : Int32))), .unset] [(.ref b6)])) _
          refine st53 _ ?_
          show Steps p.tables e below (T53.setTop (mkF m 190 #[.val (.int p0), .val (.int p1), .val (.int p2), .val (.int p3), .val (.ref b1), .val (.ref b6), .val (.ref b8), .val (.ref b13), .val (.int ((p3 &&& (2147483647 : Int32)) % (3 : Int32))), .val (.ref b44), .val (.ref bx47), .val (.ref b48), .val (.int (1 : Int32)), .val (.int (((p3.toUInt32 >>> ((8 : Int32) &&& 31).toUInt32).toInt32) &&& (3 : Int32))), .unset] [(.ref bx53)])) _
          refine st54.trans ?_
          show Steps p.tables e below (T54.setTop (mkF m 193 #[.val (.int p0), .val (.int p1), .val (.int p2), .val (.int p3), .val (.ref b1), .val (.ref b6), .val (.ref b8), .val (.ref b13), .val (.int ((p3 &&& (2147483647 : Int32)) % (3 : Int32))), .val (.ref b44), .val (.ref bx47), .val (.ref b48), .val (.int (1 : Int32)), .val (.int (((p3.toUInt32 >>> ((8 : Int32) &&& 31).toUInt32).toInt32) &&& (3 : Int32))), .unset] [(.int (1 : Int32))])) _
          refine XS.istore X54.here hx rfl (hb hby at_193) rfl (l' := #[.val (.int p0), .val (.int p1), .val (.int p2), .val (.int p3), .val (.ref b1), .val (.ref b6), .val (.ref b8), .val (.ref b13), .val (.int ((p3 &&& (2147483647 : Int32)) % (3 : Int32))), .val (.ref b44), .val (.ref bx47), .val (.ref b48), .val (.int (1 : Int32)), .val (.int (((p3.toUInt32 >>> ((8 : Int32) &&& 31).toUInt32).toInt32) &&& (3 : Int32))), .val (.int (1 : Int32))]) rfl ?_
          show Steps p.tables e below (T54.setTop (mkF m 195 #[.val (.int p0), .val (.int p1), .val (.int p2), .val (.int p3), .val (.ref b1), .val (.ref b6), .val (.ref b8), .val (.ref b13), .val (.int ((p3 &&& (2147483647 : Int32)) % (3 : Int32))), .val (.ref b44), .val (.ref bx47), .val (.ref b48), .val (.int (1 : Int32)), .val (.int (((p3.toUInt32 >>> ((8 : Int32) &&& 31).toUInt32).toInt32) &&& (3 : Int32))), .val (.int (1 : Int32))] [])) _
          refine XS.goto X54.here hx rfl (pc0 := 195) (pc' := 250) rfl (hb hby at_195) (by decide) (by decide) ?_
          show Steps p.tables e below (T54.setTop (mkF m 250 #[.val (.int p0), .val (.int p1), .val (.int p2), .val (.int p3), .val (.ref b1), .val (.ref b6), .val (.ref b8), .val (.ref b13), .val (.int ((p3 &&& (2147483647 : Int32)) % (3 : Int32))), .val (.ref b44), .val (.ref bx47), .val (.ref b48), .val (.int (1 : Int32)), .val (.int (((p3.toUInt32 >>> ((8 : Int32) &&& 31).toUInt32).toInt32) &&& (3 : Int32))), .val (.int (1 : Int32))] [])) _
          refine XS.iload X54.here hx rfl (hb hby at_250) rfl ?_
          show Steps p.tables e below (T54.setTop (mkF m 252 #[.val (.int p0), .val (.int p1), .val (.int p2), .val (.int p3), .val (.ref b1), .val (.ref b6), .val (.ref b8), .val (.ref b13), .val (.int ((p3 &&& (2147483647 : Int32)) % (3 : Int32))), .val (.ref b44), .val (.ref bx47), .val (.ref b48), .val (.int (1 : Int32)), .val (.int (((p3.toUInt32 >>> ((8 : Int32) &&& 31).toUInt32).toInt32) &&& (3 : Int32))), .val (.int (1 : Int32))] [(.int (1 : Int32))])) _
          refine XS.ifNo X54.here hx rfl (hb hby at_252) rfl ((if0 _ _).trans (feq (by decide : ¬ ((1 : Int32) = (0 : Int32)))).1) ?_
          show Steps p.tables e below (T54.setTop (mkF m 255 #[.val (.int p0), .val (.int p1), .val (.int p2), .val (.int p3), .val (.ref b1), .val (.ref b6), .val (.ref b8), .val (.ref b13), .val (.int ((p3 &&& (2147483647 : Int32)) % (3 : Int32))), .val (.ref b44), .val (.ref bx47), .val (.ref b48), .val (.int (1 : Int32)), .val (.int (((p3.toUInt32 >>> ((8 : Int32) &&& 31).toUInt32).toInt32) &&& (3 : Int32))), .val (.int (1 : Int32))] [])) _
          refine XS.iload X54.here hx rfl (hb hby at_255) rfl ?_
          show Steps p.tables e below (T54.setTop (mkF m 257 #[.val (.int p0), .val (.int p1), .val (.int p2), .val (.int p3), .val (.ref b1), .val (.ref b6), .val (.ref b8), .val (.ref b13), .val (.int ((p3 &&& (2147483647 : Int32)) % (3 : Int32))), .val (.ref b44), .val (.ref bx47), .val (.ref b48), .val (.int (1 : Int32)), .val (.int (((p3.toUInt32 >>> ((8 : Int32) &&& 31).toUInt32).toInt32) &&& (3 : Int32))), .val (.int (1 : Int32))] [(.int (1 : Int32))])) _
          refine XS.ifNo X54.here hx rfl (hb hby at_257) rfl ((if0 _ _).trans (feq (by decide : ¬ ((1 : Int32) = (0 : Int32)))).1) ?_
          show Steps p.tables e below (T54.setTop (mkF m 260 #[.val (.int p0), .val (.int p1), .val (.int p2), .val (.int p3), .val (.ref b1), .val (.ref b6), .val (.ref b8), .val (.ref b13), .val (.int ((p3 &&& (2147483647 : Int32)) % (3 : Int32))), .val (.ref b44), .val (.ref bx47), .val (.ref b48), .val (.int (1 : Int32)), .val (.int (((p3.toUInt32 >>> ((8 : Int32) &&& 31).toUInt32).toInt32) &&& (3 : Int32))), .val (.int (1 : Int32))] [])) _
          refine XS.iconst X54.here hx rfl (hb hby at_260) ?_
          show Steps p.tables e below (T54.setTop (mkF m 261 #[.val (.int p0), .val (.int p1), .val (.int p2), .val (.int p3), .val (.ref b1), .val (.ref b6), .val (.ref b8), .val (.ref b13), .val (.int ((p3 &&& (2147483647 : Int32)) % (3 : Int32))), .val (.ref b44), .val (.ref bx47), .val (.ref b48), .val (.int (1 : Int32)), .val (.int (((p3.toUInt32 >>> ((8 : Int32) &&& 31).toUInt32).toInt32) &&& (3 : Int32))), .val (.int (1 : Int32))] [(.int (1 : Int32))])) _
          refine XS.goto X54.here hx rfl (pc0 := 261) (pc' := 265) rfl (hb hby at_261) (by decide) (by decide) ?_
          show Steps p.tables e below (T54.setTop (mkF m 265 #[.val (.int p0), .val (.int p1), .val (.int p2), .val (.int p3), .val (.ref b1), .val (.ref b6), .val (.ref b8), .val (.ref b13), .val (.int ((p3 &&& (2147483647 : Int32)) % (3 : Int32))), .val (.ref b44), .val (.ref bx47), .val (.ref b48), .val (.int (1 : Int32)), .val (.int (((p3.toUInt32 >>> ((8 : Int32) &&& 31).toUInt32).toInt32) &&& (3 : Int32))), .val (.int (1 : Int32))] [(.int (1 : Int32))])) _
          exact retN X54 hx (t := .boolean) Bd.returns (by simp) (hb hby at_265) hr
        · show Q_rm_law Z p0 p1 p2 p3 zc h0 n0 _ T54.heap _
          rw [e54]
          exact ⟨rfl, N54, trivial⟩
      · have k55 : ∀ target, Steps p.tables e below (T51.setTop (mkF m 201 #[.val (.int p0), .val (.int p1), .val (.int p2), .val (.int p3), .val (.ref b1), .val (.ref b6), .val (.ref b8), .val (.ref b13), .val (.int ((p3 &&& (2147483647 : Int32)) % (3 : Int32))), .val (.ref b44), .val (.ref bx47), .val (.ref b48), .val (.int (1 : Int32)), .val (.int (((p3.toUInt32 >>> ((8 : Int32) &&& 31).toUInt32).toInt32) &&& (3 : Int32))), .unset] [(.int (1 : Int32)), (.int (((p3.toUInt32 >>> ((8 : Int32) &&& 31).toUInt32).toInt32) &&& (3 : Int32)))])) target → Steps p.tables e below (s₁.setTop (mkF m 0 #[.val (.int p0), .val (.int p1), .val (.int p2), .val (.int p3), .unset, .unset, .unset, .unset, .unset, .unset, .unset, .unset, .unset, .unset, .unset] [])) target := by
          intro target kt
          refine k52 _ ?_
          show Steps p.tables e below (T51.setTop (mkF m 182 #[.val (.int p0), .val (.int p1), .val (.int p2), .val (.int p3), .val (.ref b1), .val (.ref b6), .val (.ref b8), .val (.ref b13), .val (.int ((p3 &&& (2147483647 : Int32)) % (3 : Int32))), .val (.ref b44), .val (.ref bx47), .val (.ref b48), .val (.int (1 : Int32)), .val (.int (((p3.toUInt32 >>> ((8 : Int32) &&& 31).toUInt32).toInt32) &&& (3 : Int32))), .unset] [(.int (((p3.toUInt32 >>> ((8 : Int32) &&& 31).toUInt32).toInt32) &&& (3 : Int32)))])) _
          refine XS.ifYes X51.here hx rfl (pc0 := 182) (pc' := 198) rfl (hb hby at_182) rfl ((if0 _ _).trans (feq hc182).2) (by decide) (by decide) ?_
          show Steps p.tables e below (T51.setTop (mkF m 198 #[.val (.int p0), .val (.int p1), .val (.int p2), .val (.int p3), .val (.ref b1), .val (.ref b6), .val (.ref b8), .val (.ref b13), .val (.int ((p3 &&& (2147483647 : Int32)) % (3 : Int32))), .val (.ref b44), .val (.ref bx47), .val (.ref b48), .val (.int (1 : Int32)), .val (.int (((p3.toUInt32 >>> ((8 : Int32) &&& 31).toUInt32).toInt32) &&& (3 : Int32))), .unset] [])) _
          refine XS.iload X51.here hx rfl (hb hby at_198) rfl ?_
          show Steps p.tables e below (T51.setTop (mkF m 200 #[.val (.int p0), .val (.int p1), .val (.int p2), .val (.int p3), .val (.ref b1), .val (.ref b6), .val (.ref b8), .val (.ref b13), .val (.int ((p3 &&& (2147483647 : Int32)) % (3 : Int32))), .val (.ref b44), .val (.ref bx47), .val (.ref b48), .val (.int (1 : Int32)), .val (.int (((p3.toUInt32 >>> ((8 : Int32) &&& 31).toUInt32).toInt32) &&& (3 : Int32))), .unset] [(.int (((p3.toUInt32 >>> ((8 : Int32) &&& 31).toUInt32).toInt32) &&& (3 : Int32)))])) _
          refine XS.iconst X51.here hx rfl (hb hby at_200) ?_
          exact kt
        by_cases hc201 : (((p3.toUInt32 >>> ((8 : Int32) &&& 31).toUInt32).toInt32) &&& (3 : Int32)) = (1 : Int32)
        · obtain ⟨_, _, ⟨T56, L56, k56, n56⟩, -, X56, ⟨Lc56, hQ56, l56, y56, z56⟩, st56⟩ := Jvm.LawKit.callS X51 hx (y := (⟨"com/example/watchpost/watchpost/Option", "flag", "(Ljava/lang/String;Ljava/lang/String;)Lcom/example/watchpost/watchpost/Option;"⟩ : MethodName)) hown (mvT hZ (hw _ (List.mem_of_getElem? (i := 81) rfl))) (mvT hZ (hw _ (List.mem_of_getElem? (i := 82) rfl))) (mvT hZ (hw _ (List.mem_of_getElem? (i := 50) rfl))) (mvT hZ (hw _ (List.mem_of_getElem? (i := 83) rfl))) (by decide) (backOf (W := 0) (rm_f2 l Z a0 hw [] b6 bx47 T49.heap n0 Z49) hZ (hw _ (List.mem_of_getElem? (i := 83) rfl)) (hw _ (List.mem_of_getElem? (i := 50) rfl)) (by decide) (by decide)) (g := (mkF m 208 #[.val (.int p0), .val (.int p1), .val (.int p2), .val (.int p3), .val (.ref b1), .val (.ref b6), .val (.ref b8), .val (.ref b13), .val (.int ((p3 &&& (2147483647 : Int32)) % (3 : Int32))), .val (.ref b44), .val (.ref bx47), .val (.ref b48), .val (.int (1 : Int32)), .val (.int (((p3.toUInt32 >>> ((8 : Int32) &&& 31).toUInt32).toInt32) &&& (3 : Int32))), .unset] [(.ref bx47), (.ref b6)])) rfl (by rw [hml]; rfl) (argsL := [(.ref b6), (.ref bx47)]) (rest := []) (lenOf pd_11 rfl) rfl (by show 2 * 0 + _ ≤ _; exact Nat.le_of_eq rfl) (hb hby at_208) (fun _ _ => ⟨rfl, e51, (by decide : 10 + 1 ≤ _), (by decide : 25 + 4 ≤ _)⟩)
          dsimp only [Pt.U, Pt.locs, Pt.cells, Pt.slots] at X56 l56 y56 z56 st56 hQ56
          subst l56 y56 z56
          obtain ⟨bx56, rfl, N56q, x56c0, x56c1, x56c2, x56c3, x56c4⟩ := hQ56
          have N56 := Fr.app N51 N56q
          have ne_b1_bx56 : b1 ≠ bx56 := Nat.ne_of_lt (Nat.lt_of_lt_of_le V5_49.lt x56c2)
          have ne_b6_bx56 : b6 ≠ bx56 := Nat.ne_of_lt (Nat.lt_of_lt_of_le A6_49.lt x56c2)
          have ne_b8_bx56 : b8 ≠ bx56 := Nat.ne_of_lt (Nat.lt_of_lt_of_le V12_49.lt x56c2)
          have ne_b13_bx56 : b13 ≠ bx56 := Nat.ne_of_lt (Nat.lt_of_lt_of_le V_b13_49.lt x56c2)
          have ne_b44_bx56 : b44 ≠ bx56 := Nat.ne_of_lt (Nat.lt_of_lt_of_le A44_49.lt x56c2)
          have ne_bx47_bx56 : bx47 ≠ bx56 := Nat.ne_of_lt (Nat.lt_of_lt_of_le x47c3_49.lt x56c2)
          have ne_b48_bx56 : b48 ≠ bx56 := Nat.ne_of_lt (Nat.lt_of_lt_of_le A48_49.lt x56c2)
          have X00_56 : Old Z n0 T56.heap := X00_49.keep x56c0 all0
          have V5_56 : Arv Z T56.heap b1 k1 .char (2 : Int32) [(.int (nar .char (p0 &&& (255 : Int32)).toUInt32.toUInt16.toUInt32.toInt32)), (.int (nar .char (p1 &&& (255 : Int32)).toUInt32.toUInt16.toUInt32.toInt32))] (.int (0 : Int32)) := V5_49.keep x56c0 nin0
          have A6_56 : Exa Z T56.heap b6 "java/lang/String" := A6_49.keep x56c0
          have V12_56 : Arv Z T56.heap b8 k8 .char (2 : Int32) [(.int (nar .char (p2 &&& (255 : Int32)).toUInt32.toUInt16.toUInt32.toInt32)), (.int (nar .char (((p2.toUInt32 >>> ((8 : Int32) &&& 31).toUInt32).toInt32) &&& (255 : Int32)).toUInt32.toUInt16.toUInt32.toInt32))] (.int (0 : Int32)) := V12_49.keep x56c0 nin0
          have V_b13_56 : Arv Z T56.heap b13 k13 .char (0 : Int32) [] (.int (0 : Int32)) := V_b13_49.keep x56c0 nin0
          have A44_56 : Exa Z T56.heap b44 "java/lang/String" := A44_49.keep x56c0
          have x47c3_56 : Exa Z T56.heap bx47 "java/lang/String" := x47c3_49.keep x56c0
          have A48_56 : Exa Z T56.heap b48 "com/example/watchpost/watchpost/Option" := A48_49.keep x56c0
          have x49c1_56 : Fld Z T56.heap b48 "com/example/watchpost/watchpost/Option" "name" "Ljava/lang/String;" (.ref b6) := x49c1.keep x56c0 nin0
          have x49c2_56 : Fld Z T56.heap b48 "com/example/watchpost/watchpost/Option" "shortName" "Ljava/lang/String;" .null := x49c2.keep x56c0 nin0
          have x49c3_56 : Fld Z T56.heap b48 "com/example/watchpost/watchpost/Option" "value" "Ljava/lang/String;" (.ref b44) := x49c3.keep x56c0 nin0
          have x49c4_56 : Fld Z T56.heap b48 "com/example/watchpost/watchpost/Option" "required" "Z" (.int (nar .boolean (0 : Int32))) := x49c4.keep x56c0 nin0
          have Sh_CS_56 : Sta Z T56.heap "java/lang/String" "COMPACT_STRINGS" "Z" (.int zc) := S_CS.ext X00_56.2
          have hk56' : _ ≤ T56.heap.size := Nat.le_trans hk49' x56c0.1
          have Z56 : n0 ≤ T56.heap.size := Nat.le_trans Z49 x56c0.1
          obtain ⟨cq57, kq57, q57a, q57b, q57c⟩ := isOf hZ rfl x56c3
          obtain ⟨_, _, ⟨T57, L57, k57, n57⟩, -, X57, ⟨Lc57, hQ57, l57, y57, z57⟩, st57⟩ := X56.virtualBack hx (y := (⟨"com/example/watchpost/watchpost/Option", "isFlag", "()Z"⟩ : MethodName)) (z := (⟨"com/example/watchpost/watchpost/Option", "isFlag", "()Z"⟩ : MethodName)) hown (mvT hZ (hw _ (List.mem_of_getElem? (i := 66) rfl))) (mvT hZ (hw _ (List.mem_of_getElem? (i := 67) rfl))) (notFace_of_selects (args := #[]) (mvT hZ (hw _ (List.mem_of_getElem? (i := 69) rfl)))) (mvT hZ (hw _ (List.mem_of_getElem? (i := 69) rfl))) (mvT hZ (hw _ (List.mem_of_getElem? (i := 68) rfl))) (by decide) (backOf (W := 0) (rm_flag0 l Z a0 hw [] bx56 T56.heap n0 Z56 x56c4) hZ (hw _ (List.mem_of_getElem? (i := 70) rfl)) (hw _ (List.mem_of_getElem? (i := 50) rfl)) (by decide) (by decide)) q57a q57c (g := (mkF m 211 #[.val (.int p0), .val (.int p1), .val (.int p2), .val (.int p3), .val (.ref b1), .val (.ref b6), .val (.ref b8), .val (.ref b13), .val (.int ((p3 &&& (2147483647 : Int32)) % (3 : Int32))), .val (.ref b44), .val (.ref bx47), .val (.ref b48), .val (.int (1 : Int32)), .val (.int (((p3.toUInt32 >>> ((8 : Int32) &&& 31).toUInt32).toInt32) &&& (3 : Int32))), .unset] [(.ref bx56)])) rfl (by rw [hml]; rfl) (Steps.refl _) (argsL := []) (rest := []) (lenOf pd_8 rfl) rfl (by show 2 * 0 + _ ≤ _; exact Nat.le_of_eq rfl) (hb hby at_211) (fun _ _ => ⟨rfl, rfl, (by decide : 11 + 0 ≤ _), (by decide : 29 + 0 ≤ _)⟩)
          dsimp only [Pt.U, Pt.locs, Pt.cells, Pt.slots] at X57 l57 y57 z57 st57 hQ57
          subst l57 y57 z57
          obtain ⟨rfl, N57q, e57⟩ := hQ57
          have N57 := Fr.app N56 N57q
          obtain ⟨fs, hr, hrun, hended, hREW⟩ := X57.leaveW hS0 (by first | exact hk56' | (rw [e57]; exact hk56')) (v := some (.int (1 : Int32))) (fun h => by rw [Bd.returns] at h; cases h)
          refine ⟨_, _, pre0 _ ?_, hrun, hended, _, _, rfl, ?_, hREW.1, hREW.2.1, hREW.2.2.1, hREW.2.2.2.mono (by decide) (by decide)⟩
          · refine k55 _ ?_
            show Steps p.tables e below (T51.setTop (mkF m 201 #[.val (.int p0), .val (.int p1), .val (.int p2), .val (.int p3), .val (.ref b1), .val (.ref b6), .val (.ref b8), .val (.ref b13), .val (.int ((p3 &&& (2147483647 : Int32)) % (3 : Int32))), .val (.ref b44), .val (.ref bx47), .val (.ref b48), .val (.int (1 : Int32)), .val (.int (((p3.toUInt32 >>> ((8 : Int32) &&& 31).toUInt32).toInt32) &&& (3 : Int32))), .unset] [(.int (1 : Int32)), (.int (((p3.toUInt32 >>> ((8 : Int32) &&& 31).toUInt32).toInt32) &&& (3 : Int32)))])) _
            refine XS.icmpNo X51.here hx rfl (hb hby at_201) rfl (teq hc201).2 ?_
            show Steps p.tables e below (T51.setTop (mkF m 204 #[.val (.int p0), .val (.int p1), .val (.int p2), .val (.int p3), .val (.ref b1), .val (.ref b6), .val (.ref b8), .val (.ref b13), .val (.int ((p3 &&& (2147483647 : Int32)) % (3 : Int32))), .val (.ref b44), .val (.ref bx47), .val (.ref b48), .val (.int (1 : Int32)), .val (.int (((p3.toUInt32 >>> ((8 : Int32) &&& 31).toUInt32).toInt32) &&& (3 : Int32))), .unset] [])) _
            refine XS.aload X51.here hx rfl (hb hby at_204) rfl rfl ?_
            show Steps p.tables e below (T51.setTop (mkF m 206 #[.val (.int p0), .val (.int p1), .val (.int p2), .val (.int p3), .val (.ref b1), .val (.ref b6), .val (.ref b8), .val (.ref b13), .val (.int ((p3 &&& (2147483647 : Int32)) % (3 : Int32))), .val (.ref b44), .val (.ref bx47), .val (.ref b48), .val (.int (1 : Int32)), .val (.int (((p3.toUInt32 >>> ((8 : Int32) &&& 31).toUInt32).toInt32) &&& (3 : Int32))), .unset] [(.ref b6)])) _
            refine XS.aload X51.here hx rfl (hb hby at_206) rfl rfl ?_
            show Steps p.tables e below (T51.setTop (mkF m 208 #[.val (.int p0), .val (.int p1), .val (.int p2), .val (.int p3), .val (.ref b1), .val (.ref b6), .val (.ref b8), .val (.ref b13), .val (.int ((p3 &&& (2147483647 : Int32)) % (3 : Int32))), .val (.ref b44), .val (.ref bx47), .val (.ref b48), .val (.int (1 : Int32)), .val (.int (((p3.toUInt32 >>> ((8 : Int32) &&& 31).toUInt32).toInt32) &&& (3 : Int32))), .unset] [(.ref bx47), (.ref b6)])) _
            refine st56 _ ?_
            show Steps p.tables e below (T56.setTop (mkF m 211 #[.val (.int p0), .val (.int p1), .val (.int p2), .val (.int p3), .val (.ref b1), .val (.ref b6), .val (.ref b8), .val (.ref b13), .val (.int ((p3 &&& (2147483647 : Int32)) % (3 : Int32))), .val (.ref b44), .val (.ref bx47), .val (.ref b48), .val (.int (1 : Int32)), .val (.int (((p3.toUInt32 >>> ((8 : Int32) &&& 31).toUInt32).toInt32) &&& (3 : Int32))), .unset] [(.ref bx56)])) _
            refine st57.trans ?_
            show Steps p.tables e below (T57.setTop (mkF m 214 #[.val (.int p0), .val (.int p1), .val (.int p2), .val (.int p3), .val (.ref b1), .val (.ref b6), .val (.ref b8), .val (.ref b13), .val (.int ((p3 &&& (2147483647 : Int32)) % (3 : Int32))), .val (.ref b44), .val (.ref bx47), .val (.ref b48), .val (.int (1 : Int32)), .val (.int (((p3.toUInt32 >>> ((8 : Int32) &&& 31).toUInt32).toInt32) &&& (3 : Int32))), .unset] [(.int (1 : Int32))])) _
            refine XS.istore X57.here hx rfl (hb hby at_214) rfl (l' := #[.val (.int p0), .val (.int p1), .val (.int p2), .val (.int p3), .val (.ref b1), .val (.ref b6), .val (.ref b8), .val (.ref b13), .val (.int ((p3 &&& (2147483647 : Int32)) % (3 : Int32))), .val (.ref b44), .val (.ref bx47), .val (.ref b48), .val (.int (1 : Int32)), .val (.int (((p3.toUInt32 >>> ((8 : Int32) &&& 31).toUInt32).toInt32) &&& (3 : Int32))), .val (.int (1 : Int32))]) rfl ?_
            show Steps p.tables e below (T57.setTop (mkF m 216 #[.val (.int p0), .val (.int p1), .val (.int p2), .val (.int p3), .val (.ref b1), .val (.ref b6), .val (.ref b8), .val (.ref b13), .val (.int ((p3 &&& (2147483647 : Int32)) % (3 : Int32))), .val (.ref b44), .val (.ref bx47), .val (.ref b48), .val (.int (1 : Int32)), .val (.int (((p3.toUInt32 >>> ((8 : Int32) &&& 31).toUInt32).toInt32) &&& (3 : Int32))), .val (.int (1 : Int32))] [])) _
            refine XS.goto X57.here hx rfl (pc0 := 216) (pc' := 250) rfl (hb hby at_216) (by decide) (by decide) ?_
            show Steps p.tables e below (T57.setTop (mkF m 250 #[.val (.int p0), .val (.int p1), .val (.int p2), .val (.int p3), .val (.ref b1), .val (.ref b6), .val (.ref b8), .val (.ref b13), .val (.int ((p3 &&& (2147483647 : Int32)) % (3 : Int32))), .val (.ref b44), .val (.ref bx47), .val (.ref b48), .val (.int (1 : Int32)), .val (.int (((p3.toUInt32 >>> ((8 : Int32) &&& 31).toUInt32).toInt32) &&& (3 : Int32))), .val (.int (1 : Int32))] [])) _
            refine XS.iload X57.here hx rfl (hb hby at_250) rfl ?_
            show Steps p.tables e below (T57.setTop (mkF m 252 #[.val (.int p0), .val (.int p1), .val (.int p2), .val (.int p3), .val (.ref b1), .val (.ref b6), .val (.ref b8), .val (.ref b13), .val (.int ((p3 &&& (2147483647 : Int32)) % (3 : Int32))), .val (.ref b44), .val (.ref bx47), .val (.ref b48), .val (.int (1 : Int32)), .val (.int (((p3.toUInt32 >>> ((8 : Int32) &&& 31).toUInt32).toInt32) &&& (3 : Int32))), .val (.int (1 : Int32))] [(.int (1 : Int32))])) _
            refine XS.ifNo X57.here hx rfl (hb hby at_252) rfl ((if0 _ _).trans (feq (by decide : ¬ ((1 : Int32) = (0 : Int32)))).1) ?_
            show Steps p.tables e below (T57.setTop (mkF m 255 #[.val (.int p0), .val (.int p1), .val (.int p2), .val (.int p3), .val (.ref b1), .val (.ref b6), .val (.ref b8), .val (.ref b13), .val (.int ((p3 &&& (2147483647 : Int32)) % (3 : Int32))), .val (.ref b44), .val (.ref bx47), .val (.ref b48), .val (.int (1 : Int32)), .val (.int (((p3.toUInt32 >>> ((8 : Int32) &&& 31).toUInt32).toInt32) &&& (3 : Int32))), .val (.int (1 : Int32))] [])) _
            refine XS.iload X57.here hx rfl (hb hby at_255) rfl ?_
            show Steps p.tables e below (T57.setTop (mkF m 257 #[.val (.int p0), .val (.int p1), .val (.int p2), .val (.int p3), .val (.ref b1), .val (.ref b6), .val (.ref b8), .val (.ref b13), .val (.int ((p3 &&& (2147483647 : Int32)) % (3 : Int32))), .val (.ref b44), .val (.ref bx47), .val (.ref b48), .val (.int (1 : Int32)), .val (.int (((p3.toUInt32 >>> ((8 : Int32) &&& 31).toUInt32).toInt32) &&& (3 : Int32))), .val (.int (1 : Int32))] [(.int (1 : Int32))])) _
            refine XS.ifNo X57.here hx rfl (hb hby at_257) rfl ((if0 _ _).trans (feq (by decide : ¬ ((1 : Int32) = (0 : Int32)))).1) ?_
            show Steps p.tables e below (T57.setTop (mkF m 260 #[.val (.int p0), .val (.int p1), .val (.int p2), .val (.int p3), .val (.ref b1), .val (.ref b6), .val (.ref b8), .val (.ref b13), .val (.int ((p3 &&& (2147483647 : Int32)) % (3 : Int32))), .val (.ref b44), .val (.ref bx47), .val (.ref b48), .val (.int (1 : Int32)), .val (.int (((p3.toUInt32 >>> ((8 : Int32) &&& 31).toUInt32).toInt32) &&& (3 : Int32))), .val (.int (1 : Int32))] [])) _
            refine XS.iconst X57.here hx rfl (hb hby at_260) ?_
            show Steps p.tables e below (T57.setTop (mkF m 261 #[.val (.int p0), .val (.int p1), .val (.int p2), .val (.int p3), .val (.ref b1), .val (.ref b6), .val (.ref b8), .val (.ref b13), .val (.int ((p3 &&& (2147483647 : Int32)) % (3 : Int32))), .val (.ref b44), .val (.ref bx47), .val (.ref b48), .val (.int (1 : Int32)), .val (.int (((p3.toUInt32 >>> ((8 : Int32) &&& 31).toUInt32).toInt32) &&& (3 : Int32))), .val (.int (1 : Int32))] [(.int (1 : Int32))])) _
            refine XS.goto X57.here hx rfl (pc0 := 261) (pc' := 265) rfl (hb hby at_261) (by decide) (by decide) ?_
            show Steps p.tables e below (T57.setTop (mkF m 265 #[.val (.int p0), .val (.int p1), .val (.int p2), .val (.int p3), .val (.ref b1), .val (.ref b6), .val (.ref b8), .val (.ref b13), .val (.int ((p3 &&& (2147483647 : Int32)) % (3 : Int32))), .val (.ref b44), .val (.ref bx47), .val (.ref b48), .val (.int (1 : Int32)), .val (.int (((p3.toUInt32 >>> ((8 : Int32) &&& 31).toUInt32).toInt32) &&& (3 : Int32))), .val (.int (1 : Int32))] [(.int (1 : Int32))])) _
            exact retN X57 hx (t := .boolean) Bd.returns (by simp) (hb hby at_265) hr
          · show Q_rm_law Z p0 p1 p2 p3 zc h0 n0 _ T57.heap _
            rw [e57]
            exact ⟨rfl, N57, trivial⟩
        · obtain ⟨_, _, ⟨T58, L58, k58, n58⟩, -, X58, ⟨Lc58, hQ58, l58, y58, z58⟩, st58⟩ := Jvm.LawKit.callS X51 hx (y := (⟨"com/example/watchpost/watchpost/Option", "required", "(Ljava/lang/String;Ljava/lang/String;)Lcom/example/watchpost/watchpost/Option;"⟩ : MethodName)) hown (mvT hZ (hw _ (List.mem_of_getElem? (i := 84) rfl))) (mvT hZ (hw _ (List.mem_of_getElem? (i := 85) rfl))) (mvT hZ (hw _ (List.mem_of_getElem? (i := 50) rfl))) (mvT hZ (hw _ (List.mem_of_getElem? (i := 86) rfl))) (by decide) (backOf (W := 0) (rm_rq l Z a0 hw [] b6 b44 T49.heap n0 Z49) hZ (hw _ (List.mem_of_getElem? (i := 86) rfl)) (hw _ (List.mem_of_getElem? (i := 50) rfl)) (by decide) (by decide)) (g := (mkF m 228 #[.val (.int p0), .val (.int p1), .val (.int p2), .val (.int p3), .val (.ref b1), .val (.ref b6), .val (.ref b8), .val (.ref b13), .val (.int ((p3 &&& (2147483647 : Int32)) % (3 : Int32))), .val (.ref b44), .val (.ref bx47), .val (.ref b48), .val (.int (1 : Int32)), .val (.int (((p3.toUInt32 >>> ((8 : Int32) &&& 31).toUInt32).toInt32) &&& (3 : Int32))), .unset] [(.ref b44), (.ref b6)])) rfl (by rw [hml]; rfl) (argsL := [(.ref b6), (.ref b44)]) (rest := []) (lenOf pd_11 rfl) rfl (by show 2 * 0 + _ ≤ _; exact Nat.le_of_eq rfl) (hb hby at_228) (fun _ _ => ⟨rfl, e51, (by decide : 10 + 1 ≤ _), (by decide : 25 + 4 ≤ _)⟩)
          dsimp only [Pt.U, Pt.locs, Pt.cells, Pt.slots] at X58 l58 y58 z58 st58 hQ58
          subst l58 y58 z58
          obtain ⟨bx58, rfl, N58q, x58c0, x58c1, x58c2, x58c3, x58c4⟩ := hQ58
          have N58 := Fr.app N51 N58q
          have ne_b1_bx58 : b1 ≠ bx58 := Nat.ne_of_lt (Nat.lt_of_lt_of_le V5_49.lt x58c2)
          have ne_b6_bx58 : b6 ≠ bx58 := Nat.ne_of_lt (Nat.lt_of_lt_of_le A6_49.lt x58c2)
          have ne_b8_bx58 : b8 ≠ bx58 := Nat.ne_of_lt (Nat.lt_of_lt_of_le V12_49.lt x58c2)
          have ne_b13_bx58 : b13 ≠ bx58 := Nat.ne_of_lt (Nat.lt_of_lt_of_le V_b13_49.lt x58c2)
          have ne_b44_bx58 : b44 ≠ bx58 := Nat.ne_of_lt (Nat.lt_of_lt_of_le A44_49.lt x58c2)
          have ne_bx47_bx58 : bx47 ≠ bx58 := Nat.ne_of_lt (Nat.lt_of_lt_of_le x47c3_49.lt x58c2)
          have ne_b48_bx58 : b48 ≠ bx58 := Nat.ne_of_lt (Nat.lt_of_lt_of_le A48_49.lt x58c2)
          have X00_58 : Old Z n0 T58.heap := X00_49.keep x58c0 all0
          have V5_58 : Arv Z T58.heap b1 k1 .char (2 : Int32) [(.int (nar .char (p0 &&& (255 : Int32)).toUInt32.toUInt16.toUInt32.toInt32)), (.int (nar .char (p1 &&& (255 : Int32)).toUInt32.toUInt16.toUInt32.toInt32))] (.int (0 : Int32)) := V5_49.keep x58c0 nin0
          have A6_58 : Exa Z T58.heap b6 "java/lang/String" := A6_49.keep x58c0
          have V12_58 : Arv Z T58.heap b8 k8 .char (2 : Int32) [(.int (nar .char (p2 &&& (255 : Int32)).toUInt32.toUInt16.toUInt32.toInt32)), (.int (nar .char (((p2.toUInt32 >>> ((8 : Int32) &&& 31).toUInt32).toInt32) &&& (255 : Int32)).toUInt32.toUInt16.toUInt32.toInt32))] (.int (0 : Int32)) := V12_49.keep x58c0 nin0
          have V_b13_58 : Arv Z T58.heap b13 k13 .char (0 : Int32) [] (.int (0 : Int32)) := V_b13_49.keep x58c0 nin0
          have A44_58 : Exa Z T58.heap b44 "java/lang/String" := A44_49.keep x58c0
          have x47c3_58 : Exa Z T58.heap bx47 "java/lang/String" := x47c3_49.keep x58c0
          have A48_58 : Exa Z T58.heap b48 "com/example/watchpost/watchpost/Option" := A48_49.keep x58c0
          have x49c1_58 : Fld Z T58.heap b48 "com/example/watchpost/watchpost/Option" "name" "Ljava/lang/String;" (.ref b6) := x49c1.keep x58c0 nin0
          have x49c2_58 : Fld Z T58.heap b48 "com/example/watchpost/watchpost/Option" "shortName" "Ljava/lang/String;" .null := x49c2.keep x58c0 nin0
          have x49c3_58 : Fld Z T58.heap b48 "com/example/watchpost/watchpost/Option" "value" "Ljava/lang/String;" (.ref b44) := x49c3.keep x58c0 nin0
          have x49c4_58 : Fld Z T58.heap b48 "com/example/watchpost/watchpost/Option" "required" "Z" (.int (nar .boolean (0 : Int32))) := x49c4.keep x58c0 nin0
          have Sh_CS_58 : Sta Z T58.heap "java/lang/String" "COMPACT_STRINGS" "Z" (.int zc) := S_CS.ext X00_58.2
          have hk58' : _ ≤ T58.heap.size := Nat.le_trans hk49' x58c0.1
          have Z58 : n0 ≤ T58.heap.size := Nat.le_trans Z49 x58c0.1
          obtain ⟨cq59, kq59, q59a, q59b, q59c⟩ := isOf hZ rfl x58c3
          obtain ⟨_, _, ⟨T59, L59, k59, n59⟩, -, X59, ⟨Lc59, hQ59, l59, y59, z59⟩, st59⟩ := X58.virtualBack hx (y := (⟨"com/example/watchpost/watchpost/Option", "isFlag", "()Z"⟩ : MethodName)) (z := (⟨"com/example/watchpost/watchpost/Option", "isFlag", "()Z"⟩ : MethodName)) hown (mvT hZ (hw _ (List.mem_of_getElem? (i := 66) rfl))) (mvT hZ (hw _ (List.mem_of_getElem? (i := 67) rfl))) (notFace_of_selects (args := #[]) (mvT hZ (hw _ (List.mem_of_getElem? (i := 69) rfl)))) (mvT hZ (hw _ (List.mem_of_getElem? (i := 69) rfl))) (mvT hZ (hw _ (List.mem_of_getElem? (i := 68) rfl))) (by decide) (backOf (W := 0) (rm_flag1 l Z a0 hw [] bx58 b44 T58.heap n0 Z58 x58c4) hZ (hw _ (List.mem_of_getElem? (i := 70) rfl)) (hw _ (List.mem_of_getElem? (i := 50) rfl)) (by decide) (by decide)) q59a q59c (g := (mkF m 231 #[.val (.int p0), .val (.int p1), .val (.int p2), .val (.int p3), .val (.ref b1), .val (.ref b6), .val (.ref b8), .val (.ref b13), .val (.int ((p3 &&& (2147483647 : Int32)) % (3 : Int32))), .val (.ref b44), .val (.ref bx47), .val (.ref b48), .val (.int (1 : Int32)), .val (.int (((p3.toUInt32 >>> ((8 : Int32) &&& 31).toUInt32).toInt32) &&& (3 : Int32))), .unset] [(.ref bx58)])) rfl (by rw [hml]; rfl) (Steps.refl _) (argsL := []) (rest := []) (lenOf pd_8 rfl) rfl (by show 2 * 0 + _ ≤ _; exact Nat.le_of_eq rfl) (hb hby at_231) (fun _ _ => ⟨rfl, rfl, (by decide : 11 + 0 ≤ _), (by decide : 29 + 0 ≤ _)⟩)
          dsimp only [Pt.U, Pt.locs, Pt.cells, Pt.slots] at X59 l59 y59 z59 st59 hQ59
          subst l59 y59 z59
          obtain ⟨rfl, N59q, e59⟩ := hQ59
          have N59 := Fr.app N58 N59q
          obtain ⟨fs, hr, hrun, hended, hREW⟩ := X59.leaveW hS0 (by first | exact hk58' | (rw [e59]; exact hk58')) (v := some (.int (1 : Int32))) (fun h => by rw [Bd.returns] at h; cases h)
          refine ⟨_, _, pre0 _ ?_, hrun, hended, _, _, rfl, ?_, hREW.1, hREW.2.1, hREW.2.2.1, hREW.2.2.2.mono (by decide) (by decide)⟩
          · refine k55 _ ?_
            show Steps p.tables e below (T51.setTop (mkF m 201 #[.val (.int p0), .val (.int p1), .val (.int p2), .val (.int p3), .val (.ref b1), .val (.ref b6), .val (.ref b8), .val (.ref b13), .val (.int ((p3 &&& (2147483647 : Int32)) % (3 : Int32))), .val (.ref b44), .val (.ref bx47), .val (.ref b48), .val (.int (1 : Int32)), .val (.int (((p3.toUInt32 >>> ((8 : Int32) &&& 31).toUInt32).toInt32) &&& (3 : Int32))), .unset] [(.int (1 : Int32)), (.int (((p3.toUInt32 >>> ((8 : Int32) &&& 31).toUInt32).toInt32) &&& (3 : Int32)))])) _
            refine XS.icmpYes X51.here hx rfl (pc0 := 201) (pc' := 219) rfl (hb hby at_201) rfl (feq hc201).2 (by decide) (by decide) ?_
            show Steps p.tables e below (T51.setTop (mkF m 219 #[.val (.int p0), .val (.int p1), .val (.int p2), .val (.int p3), .val (.ref b1), .val (.ref b6), .val (.ref b8), .val (.ref b13), .val (.int ((p3 &&& (2147483647 : Int32)) % (3 : Int32))), .val (.ref b44), .val (.ref bx47), .val (.ref b48), .val (.int (1 : Int32)), .val (.int (((p3.toUInt32 >>> ((8 : Int32) &&& 31).toUInt32).toInt32) &&& (3 : Int32))), .unset] [])) _
            refine XS.aload X51.here hx rfl (hb hby at_219) rfl rfl ?_
            show Steps p.tables e below (T51.setTop (mkF m 221 #[.val (.int p0), .val (.int p1), .val (.int p2), .val (.int p3), .val (.ref b1), .val (.ref b6), .val (.ref b8), .val (.ref b13), .val (.int ((p3 &&& (2147483647 : Int32)) % (3 : Int32))), .val (.ref b44), .val (.ref bx47), .val (.ref b48), .val (.int (1 : Int32)), .val (.int (((p3.toUInt32 >>> ((8 : Int32) &&& 31).toUInt32).toInt32) &&& (3 : Int32))), .unset] [(.ref b44)])) _
            refine XS.ifnullNo X51.here hx rfl (hb hby at_221) rfl ?_
            show Steps p.tables e below (T51.setTop (mkF m 224 #[.val (.int p0), .val (.int p1), .val (.int p2), .val (.int p3), .val (.ref b1), .val (.ref b6), .val (.ref b8), .val (.ref b13), .val (.int ((p3 &&& (2147483647 : Int32)) % (3 : Int32))), .val (.ref b44), .val (.ref bx47), .val (.ref b48), .val (.int (1 : Int32)), .val (.int (((p3.toUInt32 >>> ((8 : Int32) &&& 31).toUInt32).toInt32) &&& (3 : Int32))), .unset] [])) _
            refine XS.aload X51.here hx rfl (hb hby at_224) rfl rfl ?_
            show Steps p.tables e below (T51.setTop (mkF m 226 #[.val (.int p0), .val (.int p1), .val (.int p2), .val (.int p3), .val (.ref b1), .val (.ref b6), .val (.ref b8), .val (.ref b13), .val (.int ((p3 &&& (2147483647 : Int32)) % (3 : Int32))), .val (.ref b44), .val (.ref bx47), .val (.ref b48), .val (.int (1 : Int32)), .val (.int (((p3.toUInt32 >>> ((8 : Int32) &&& 31).toUInt32).toInt32) &&& (3 : Int32))), .unset] [(.ref b6)])) _
            refine XS.aload X51.here hx rfl (hb hby at_226) rfl rfl ?_
            show Steps p.tables e below (T51.setTop (mkF m 228 #[.val (.int p0), .val (.int p1), .val (.int p2), .val (.int p3), .val (.ref b1), .val (.ref b6), .val (.ref b8), .val (.ref b13), .val (.int ((p3 &&& (2147483647 : Int32)) % (3 : Int32))), .val (.ref b44), .val (.ref bx47), .val (.ref b48), .val (.int (1 : Int32)), .val (.int (((p3.toUInt32 >>> ((8 : Int32) &&& 31).toUInt32).toInt32) &&& (3 : Int32))), .unset] [(.ref b44), (.ref b6)])) _
            refine st58 _ ?_
            show Steps p.tables e below (T58.setTop (mkF m 231 #[.val (.int p0), .val (.int p1), .val (.int p2), .val (.int p3), .val (.ref b1), .val (.ref b6), .val (.ref b8), .val (.ref b13), .val (.int ((p3 &&& (2147483647 : Int32)) % (3 : Int32))), .val (.ref b44), .val (.ref bx47), .val (.ref b48), .val (.int (1 : Int32)), .val (.int (((p3.toUInt32 >>> ((8 : Int32) &&& 31).toUInt32).toInt32) &&& (3 : Int32))), .unset] [(.ref bx58)])) _
            refine st59.trans ?_
            show Steps p.tables e below (T59.setTop (mkF m 234 #[.val (.int p0), .val (.int p1), .val (.int p2), .val (.int p3), .val (.ref b1), .val (.ref b6), .val (.ref b8), .val (.ref b13), .val (.int ((p3 &&& (2147483647 : Int32)) % (3 : Int32))), .val (.ref b44), .val (.ref bx47), .val (.ref b48), .val (.int (1 : Int32)), .val (.int (((p3.toUInt32 >>> ((8 : Int32) &&& 31).toUInt32).toInt32) &&& (3 : Int32))), .unset] [(.int (0 : Int32))])) _
            refine XS.ifNo X59.here hx rfl (hb hby at_234) rfl ((if0 _ _).trans (teq (by decide : (0 : Int32) = (0 : Int32))).2) ?_
            show Steps p.tables e below (T59.setTop (mkF m 237 #[.val (.int p0), .val (.int p1), .val (.int p2), .val (.int p3), .val (.ref b1), .val (.ref b6), .val (.ref b8), .val (.ref b13), .val (.int ((p3 &&& (2147483647 : Int32)) % (3 : Int32))), .val (.ref b44), .val (.ref bx47), .val (.ref b48), .val (.int (1 : Int32)), .val (.int (((p3.toUInt32 >>> ((8 : Int32) &&& 31).toUInt32).toInt32) &&& (3 : Int32))), .unset] [])) _
            refine XS.iconst X59.here hx rfl (hb hby at_237) ?_
            show Steps p.tables e below (T59.setTop (mkF m 238 #[.val (.int p0), .val (.int p1), .val (.int p2), .val (.int p3), .val (.ref b1), .val (.ref b6), .val (.ref b8), .val (.ref b13), .val (.int ((p3 &&& (2147483647 : Int32)) % (3 : Int32))), .val (.ref b44), .val (.ref bx47), .val (.ref b48), .val (.int (1 : Int32)), .val (.int (((p3.toUInt32 >>> ((8 : Int32) &&& 31).toUInt32).toInt32) &&& (3 : Int32))), .unset] [(.int (1 : Int32))])) _
            refine XS.goto X59.here hx rfl (pc0 := 238) (pc' := 242) rfl (hb hby at_238) (by decide) (by decide) ?_
            show Steps p.tables e below (T59.setTop (mkF m 242 #[.val (.int p0), .val (.int p1), .val (.int p2), .val (.int p3), .val (.ref b1), .val (.ref b6), .val (.ref b8), .val (.ref b13), .val (.int ((p3 &&& (2147483647 : Int32)) % (3 : Int32))), .val (.ref b44), .val (.ref bx47), .val (.ref b48), .val (.int (1 : Int32)), .val (.int (((p3.toUInt32 >>> ((8 : Int32) &&& 31).toUInt32).toInt32) &&& (3 : Int32))), .unset] [(.int (1 : Int32))])) _
            refine XS.istore X59.here hx rfl (hb hby at_242) rfl (l' := #[.val (.int p0), .val (.int p1), .val (.int p2), .val (.int p3), .val (.ref b1), .val (.ref b6), .val (.ref b8), .val (.ref b13), .val (.int ((p3 &&& (2147483647 : Int32)) % (3 : Int32))), .val (.ref b44), .val (.ref bx47), .val (.ref b48), .val (.int (1 : Int32)), .val (.int (((p3.toUInt32 >>> ((8 : Int32) &&& 31).toUInt32).toInt32) &&& (3 : Int32))), .val (.int (1 : Int32))]) rfl ?_
            show Steps p.tables e below (T59.setTop (mkF m 244 #[.val (.int p0), .val (.int p1), .val (.int p2), .val (.int p3), .val (.ref b1), .val (.ref b6), .val (.ref b8), .val (.ref b13), .val (.int ((p3 &&& (2147483647 : Int32)) % (3 : Int32))), .val (.ref b44), .val (.ref bx47), .val (.ref b48), .val (.int (1 : Int32)), .val (.int (((p3.toUInt32 >>> ((8 : Int32) &&& 31).toUInt32).toInt32) &&& (3 : Int32))), .val (.int (1 : Int32))] [])) _
            refine XS.goto X59.here hx rfl (pc0 := 244) (pc' := 250) rfl (hb hby at_244) (by decide) (by decide) ?_
            show Steps p.tables e below (T59.setTop (mkF m 250 #[.val (.int p0), .val (.int p1), .val (.int p2), .val (.int p3), .val (.ref b1), .val (.ref b6), .val (.ref b8), .val (.ref b13), .val (.int ((p3 &&& (2147483647 : Int32)) % (3 : Int32))), .val (.ref b44), .val (.ref bx47), .val (.ref b48), .val (.int (1 : Int32)), .val (.int (((p3.toUInt32 >>> ((8 : Int32) &&& 31).toUInt32).toInt32) &&& (3 : Int32))), .val (.int (1 : Int32))] [])) _
            refine XS.iload X59.here hx rfl (hb hby at_250) rfl ?_
            show Steps p.tables e below (T59.setTop (mkF m 252 #[.val (.int p0), .val (.int p1), .val (.int p2), .val (.int p3), .val (.ref b1), .val (.ref b6), .val (.ref b8), .val (.ref b13), .val (.int ((p3 &&& (2147483647 : Int32)) % (3 : Int32))), .val (.ref b44), .val (.ref bx47), .val (.ref b48), .val (.int (1 : Int32)), .val (.int (((p3.toUInt32 >>> ((8 : Int32) &&& 31).toUInt32).toInt32) &&& (3 : Int32))), .val (.int (1 : Int32))] [(.int (1 : Int32))])) _
            refine XS.ifNo X59.here hx rfl (hb hby at_252) rfl ((if0 _ _).trans (feq (by decide : ¬ ((1 : Int32) = (0 : Int32)))).1) ?_
            show Steps p.tables e below (T59.setTop (mkF m 255 #[.val (.int p0), .val (.int p1), .val (.int p2), .val (.int p3), .val (.ref b1), .val (.ref b6), .val (.ref b8), .val (.ref b13), .val (.int ((p3 &&& (2147483647 : Int32)) % (3 : Int32))), .val (.ref b44), .val (.ref bx47), .val (.ref b48), .val (.int (1 : Int32)), .val (.int (((p3.toUInt32 >>> ((8 : Int32) &&& 31).toUInt32).toInt32) &&& (3 : Int32))), .val (.int (1 : Int32))] [])) _
            refine XS.iload X59.here hx rfl (hb hby at_255) rfl ?_
            show Steps p.tables e below (T59.setTop (mkF m 257 #[.val (.int p0), .val (.int p1), .val (.int p2), .val (.int p3), .val (.ref b1), .val (.ref b6), .val (.ref b8), .val (.ref b13), .val (.int ((p3 &&& (2147483647 : Int32)) % (3 : Int32))), .val (.ref b44), .val (.ref bx47), .val (.ref b48), .val (.int (1 : Int32)), .val (.int (((p3.toUInt32 >>> ((8 : Int32) &&& 31).toUInt32).toInt32) &&& (3 : Int32))), .val (.int (1 : Int32))] [(.int (1 : Int32))])) _
            refine XS.ifNo X59.here hx rfl (hb hby at_257) rfl ((if0 _ _).trans (feq (by decide : ¬ ((1 : Int32) = (0 : Int32)))).1) ?_
            show Steps p.tables e below (T59.setTop (mkF m 260 #[.val (.int p0), .val (.int p1), .val (.int p2), .val (.int p3), .val (.ref b1), .val (.ref b6), .val (.ref b8), .val (.ref b13), .val (.int ((p3 &&& (2147483647 : Int32)) % (3 : Int32))), .val (.ref b44), .val (.ref bx47), .val (.ref b48), .val (.int (1 : Int32)), .val (.int (((p3.toUInt32 >>> ((8 : Int32) &&& 31).toUInt32).toInt32) &&& (3 : Int32))), .val (.int (1 : Int32))] [])) _
            refine XS.iconst X59.here hx rfl (hb hby at_260) ?_
            show Steps p.tables e below (T59.setTop (mkF m 261 #[.val (.int p0), .val (.int p1), .val (.int p2), .val (.int p3), .val (.ref b1), .val (.ref b6), .val (.ref b8), .val (.ref b13), .val (.int ((p3 &&& (2147483647 : Int32)) % (3 : Int32))), .val (.ref b44), .val (.ref bx47), .val (.ref b48), .val (.int (1 : Int32)), .val (.int (((p3.toUInt32 >>> ((8 : Int32) &&& 31).toUInt32).toInt32) &&& (3 : Int32))), .val (.int (1 : Int32))] [(.int (1 : Int32))])) _
            refine XS.goto X59.here hx rfl (pc0 := 261) (pc' := 265) rfl (hb hby at_261) (by decide) (by decide) ?_
            show Steps p.tables e below (T59.setTop (mkF m 265 #[.val (.int p0), .val (.int p1), .val (.int p2), .val (.int p3), .val (.ref b1), .val (.ref b6), .val (.ref b8), .val (.ref b13), .val (.int ((p3 &&& (2147483647 : Int32)) % (3 : Int32))), .val (.ref b44), .val (.ref bx47), .val (.ref b48), .val (.int (1 : Int32)), .val (.int (((p3.toUInt32 >>> ((8 : Int32) &&& 31).toUInt32).toInt32) &&& (3 : Int32))), .val (.int (1 : Int32))] [(.int (1 : Int32))])) _
            exact retN X59 hx (t := .boolean) Bd.returns (by simp) (hb hby at_265) hr
          · show Q_rm_law Z p0 p1 p2 p3 zc h0 n0 _ T59.heap _
            rw [e59]
            exact ⟨rfl, N59, trivial⟩
set_option maxRecDepth 65536 in
set_option maxHeartbeats 40000000 in
theorem comes_1 {Post : Tables → Env → Array Value → State → Outcome → State → Prop} (hpost : ∀ tb e args s v u, (limb_1_1.after args s (.returned v) u = true ∧ limb_1_2.after args s (.returned v) u = true ∧ True) → ReturnedEndW s (.returned v) u (Jvm.fieldLocs frame_1_writes args s ++ Jvm.arrayLocs frame_1_arrays args s ++ Jvm.staticLocs frame_1_statics s) 32 1152 → Post tb e args s (.returned v) u) :
    ArmFor flags0 classFile x code maxLocals ret World_1 tables_1 room_1 Calls_1 rest_1 Pre_1 Post := by
  intro l hfl _ _ p e ha hc hk s m args below hf hA hF happ hP
  obtain ⟨hcalls, hrest, hpre⟩ := hP
  obtain ⟨-, -, -, hnamed, -, -, -, hat⟩ := (Spec.applies_iff hf).mp happ
  obtain ⟨hg, hn⟩ := and_e (Cond.before_iff.mp (show (Jvm.Cond.and given_1 narrow_1).before args s = true from hpre))
  obtain ⟨hcnt, hgv0⟩ := and_e hg
  obtain ⟨hg0, hgv1⟩ := and_e hgv0
  obtain ⟨hg1, hgv2⟩ := and_e hgv1
  obtain ⟨hg2, hgv3⟩ := and_e hgv2
  have hg3 := hgv3
  obtain ⟨w0, w1, w2, w3, rfl⟩ : ∃ w0 w1 w2 w3 : Value, args = #[w0, w1, w2, w3] := by
    have hs : args.size = 4 := by simpa [Cond.value, given_1] using hcnt
    obtain ⟨L⟩ := args
    match L, hs with
    | [w0, w1, w2, w3], _ => exact ⟨w0, w1, w2, w3, rfl⟩
  have hw := fun d (hd : d ∈ tables_1) => atoms_spec (ws := Jvm.Cond.code x code maxLocals ret :: tables_1) hat d (List.mem_cons_of_mem _ hd)
  have hfit : Fit s := fun {y c} hc i hi => by
    obtain ⟨ha, rfl⟩ := Array.getElem?_eq_some_iff.mp hc
    have q := List.all_eq_true.mp ((Array.all_eq_true_iff_forall_mem.mp hF) _ (Array.getElem_mem ha)) i (List.mem_range.mpr hi)
    simpa [Array.getElem?_eq_getElem hi] using q
  obtain ⟨i0, ei0⟩ := is_v hg0
  obtain rfl : w0 = (.int i0) := Option.some.inj ei0
  obtain ⟨i1, ei1⟩ := is_v hg1
  obtain rfl : w1 = (.int i1) := Option.some.inj ei1
  obtain ⟨i2, ei2⟩ := is_v hg2
  obtain rfl : w2 = (.int i2) := Option.some.inj ei2
  obtain ⟨i3, ei3⟩ := is_v hg3
  obtain rfl : w3 = (.int i3) := Option.some.inj ei3
  obtain ⟨hsets, hown0⟩ := atoms_of _ (rest_1_c_eq ▸ (show rest_1_c.before _ s = true from hrest))
  obtain ⟨zc, ezc⟩ := is_v (Cond.before_iff.mp (hsets _ (List.mem_of_getElem? (i := 1) rfl)))
  have S_CS : Sta s s.heap "java/lang/String" "COMPACT_STRINGS" "Z" (.int zc) := Sta.start ezc (Or.inl (hsets _ (List.mem_of_getElem? (i := 0) rfl)))
  have P5 : ¬ (zc = (0 : Int32)) := by
    intro q
    have n3 := not_v (Cond.before_iff.mp (hsets _ (List.mem_of_getElem? (i := 2) rfl)))
    have n4 := eq_i ezc (Term.int_eval (0 : Int32)) (by rw [q])
    rw [n4] at n3; cases n3
  obtain ⟨n, o, h1, h2, h3, _, L, rfl, hQL, hq⟩ := rm_law l s _ hw tables_1 i0 i1 i2 i3 zc s.heap s.heap.size (Nat.le_refl _) (Old.start s) S_CS P5 (hcalls.1 ("java/lang/String", 7) (by decide)) (hsets _ (List.mem_of_getElem? (i := 2) rfl)) p e ha hc hk s m _ below hf ((Spec.applies_iff_loose hf).mp happ).1 ⟨rfl, State.Warmed39.refl s, rfl, IB.start⟩ trivial
  obtain ⟨rfl, N, -⟩ := hQL
  refine ⟨n, _, h1, h2, h3, hpost _ _ _ _ _ _ ⟨Cond.after_iff.mpr rfl, Cond.after_iff.mpr (eq_i res_at (Term.int_eval (1)) rfl), trivial⟩ ⟨hq.1, hq.2.1, hq.2.2.1, (hq.2.2.2.sift fun y hy => Or.inr (N y hy)).mono (by decide) (by decide)⟩⟩
theorem main_1_1 : Claimed_1_1 := comes_1 fun _ _ _ _ _ _ h hF => ⟨h.1, hF⟩
theorem main_1_2 : Claimed_1_2 := comes_1 fun _ _ _ _ _ _ h hF => ⟨h.2.1, hF⟩
end Jvm.Pilot.@@N@@
namespace Jvm.Pilot.@@N@@
open Jvm Jvm.ClassFile Sem Op Lib Jvm.Free Jvm.Stand Jvm.Pilot.@@N@@.Jvm.D
/-! MADE BY PROGRAM (witnessworld.py) out of the Statement's table words and the real class files: 20 classes; the members and pool entries that the words name. The judged class is class 1, her method 1. -/
namespace start1
open Jvm.ClassFile
def u (s : String) : CpInfo := .utf8 (stringToUtf16 s)
/-- a pool by its gaps: so many unusable entries, then the entry; so many at the end -/
def gap : Nat → List CpInfo → List CpInfo
  | 0, r => r
  | n + 1, r => .unusable :: gap n r
def poolList (es : List (Nat × CpInfo)) (last : Nat) : List CpInfo := es.foldr (fun e r => gap e.1 (e.2 :: r)) (gap last [])
def pool (es : List (Nat × CpInfo)) (last : Nat) : Array CpInfo := ⟨poolList es last⟩
def fileOf (pool : Array CpInfo) (this : Nat) (attrs : Array Attribute := #[]) (ms : Array MethodInfo := #[]) (fl : Nat := 33) (sup : Nat := 0) (ifs : Array Nat := #[]) (fds : Array FieldInfo := #[]) : ClassFile where
  minorVersion := 0
  majorVersion := 65
  constantPool := pool
  accessFlags := fl
  thisClass := this
  superClass := sup
  interfaces := ifs
  fields := fds
  methods := ms
  attributes := attrs
def plain (name : String) (sup : Option ClassId) : Class where
  name := name
  kind := .ordinary
  loader := none
  accessFlags := 33
  super := sup
  interfaces := #[]
  cf := none
  fields := #[]
  methods := #[]
  instanceTypes := #[]
  staticTypes := #[]
  resolved := #[]
  callSites := []
  init := .initialized
  statics := none
  mirror := none

def pool0 : Array CpInfo := pool [(5, u "<init>"), (0, u "()V"), (1, .class_ 10), (1, u "java/lang/Object")] 113

def k0c0 : Code := { maxStack := 0, maxLocals := 1, code := object_method_1_code, exceptionTable := #[], attributes := #[] }
def k0m0 : Method := { name := "<init>", desc := "()V", sig := { parameters := [], returnType := none }, accessFlags := 1, code := some k0c0 }
/-- java/lang/Object -/
def k0 : Class := { plain "java/lang/Object" none with
  accessFlags := 33
  interfaces := #[]
  cf := some (fileOf pool0 8 #[] #[{ accessFlags := 1, nameIndex := 5, descriptorIndex := 6, attributes := #[] }] 33 0 #[] #[])
  fields := #[]
  methods := #[k0m0]
  instanceTypes := #[]
  staticTypes := #[]
  resolved := Array.replicate 124 none
  statics := none }

def pool1 : Array CpInfo := pool [(2, .class_ 4), (1, u "java/lang/Object"), (0, u "<init>"), (0, u "()V"), (0, .class_ 8), (0, u "java/lang/String"), (0, .methodref 7 10), (0, .nameAndType 5 11), (0, u "([C)V"), (0, .integer 2147483647), (0, .methodref 7 14), (0, .nameAndType 15 16), (0, u "valueOf"), (0, u "(C)Ljava/lang/String;"), (0, .class_ 18), (0, u "com/example/watchpost/watchpost/Option"), (0, .methodref 17 20), (0, .nameAndType 5 21), (0, u "(Ljava/lang/String;Ljava/lang/String;)V"), (0, .methodref 17 23), (0, .nameAndType 24 25), (0, u "isFlag"), (0, u "()Z"), (0, .methodref 17 27), (0, .nameAndType 28 29), (0, u "value"), (0, u "()Ljava/lang/String;"), (0, .methodref 17 31), (0, .nameAndType 32 33), (0, u "flag"), (0, u "(Ljava/lang/String;)Lcom/example/watchpost/watchpost/Option;"), (0, .methodref 17 35), (0, .nameAndType 32 36), (0, u "(Ljava/lang/String;Ljava/lang/String;)Lcom/example/watchpost/watchpost/Option;"), (0, .methodref 17 38), (0, .nameAndType 39 36), (0, u "required"), (0, .class_ 41), (0, u "com/example/watchpost/watchpost/OptionIsFlagPinLaw"), (2, u "law"), (0, u "(IIII)Z")] 5

def k1m0 : Method := { name := "<init>", desc := "()V", sig := { parameters := [], returnType := none }, accessFlags := 1, code := none }
def k1c1 : Code := { maxStack := 5, maxLocals := 15, code := code, exceptionTable := #[], attributes := #[] }
def k1m1 : Method := { name := "law", desc := "(IIII)Z", sig := { parameters := [.int, .int, .int, .int], returnType := some .boolean }, accessFlags := 9, code := some k1c1 }
/-- com/example/watchpost/watchpost/OptionIsFlagPinLaw -/
def k1 : Class := { plain "com/example/watchpost/watchpost/OptionIsFlagPinLaw" (some 0) with
  accessFlags := 49
  interfaces := #[]
  cf := some (fileOf pool1 40 #[] #[{ accessFlags := 1, nameIndex := 5, descriptorIndex := 6, attributes := #[] }, { accessFlags := 9, nameIndex := 44, descriptorIndex := 45, attributes := #[] }] 49 2 #[] #[])
  fields := #[]
  methods := #[k1m0, k1m1]
  instanceTypes := #[]
  staticTypes := #[]
  resolved := Array.replicate 51 none
  statics := none }

def pool2 : Array CpInfo := pool [(1, .class_ 2), (0, u "java/io/Serializable"), (0, .class_ 4), (0, u "java/lang/Object")] 2

/-- java/io/Serializable -/
def k2 : Class := { plain "java/io/Serializable" (some 0) with
  accessFlags := 1537
  interfaces := #[]
  cf := some (fileOf pool2 1 #[] #[] 1537 3 #[] #[])
  fields := #[]
  methods := #[]
  instanceTypes := #[]
  staticTypes := #[]
  resolved := Array.replicate 7 none
  statics := none }

def pool3 : Array CpInfo := pool [(1, .class_ 2), (0, u "java/lang/Comparable"), (0, .class_ 4), (0, u "java/lang/Object")] 7

/-- java/lang/Comparable -/
def k3 : Class := { plain "java/lang/Comparable" (some 0) with
  accessFlags := 1537
  interfaces := #[]
  cf := some (fileOf pool3 1 #[] #[] 1537 3 #[] #[])
  fields := #[]
  methods := #[]
  instanceTypes := #[]
  staticTypes := #[]
  resolved := Array.replicate 12 none
  statics := none }

def pool4 : Array CpInfo := pool [(2, .class_ 4), (1, u "java/lang/CharSequence"), (42, .class_ 48), (0, u "java/lang/CharSequence$1CodePointIterator"), (10, .class_ 60), (0, u "java/lang/CharSequence$1CharIterator"), (5, .class_ 67), (0, u "java/lang/Object")] 63

/-- java/lang/CharSequence -/
def k4 : Class := { plain "java/lang/CharSequence" (some 0) with
  accessFlags := 1537
  interfaces := #[]
  cf := some (fileOf pool4 2 #[.nestMembers #[47, 59]] #[] 1537 66 #[] #[])
  fields := #[]
  methods := #[]
  instanceTypes := #[]
  staticTypes := #[]
  resolved := Array.replicate 131 none
  statics := none }

def pool5 : Array CpInfo := pool [(1, .class_ 2), (0, u "java/lang/constant/Constable"), (0, .class_ 4), (0, u "java/lang/Object")] 6

/-- java/lang/constant/Constable -/
def k5 : Class := { plain "java/lang/constant/Constable" (some 0) with
  accessFlags := 1537
  interfaces := #[]
  cf := some (fileOf pool5 1 #[] #[] 1537 3 #[] #[])
  fields := #[]
  methods := #[]
  instanceTypes := #[]
  staticTypes := #[]
  resolved := Array.replicate 11 none
  statics := none }

def pool6 : Array CpInfo := pool [(1, .class_ 2), (0, u "java/lang/constant/ConstantDesc"), (0, .class_ 4), (0, u "java/lang/Object")] 32

/-- java/lang/constant/ConstantDesc -/
def k6 : Class := { plain "java/lang/constant/ConstantDesc" (some 0) with
  accessFlags := 1537
  interfaces := #[]
  cf := some (fileOf pool6 1 #[] #[] 1537 3 #[] #[])
  fields := #[]
  methods := #[]
  instanceTypes := #[]
  staticTypes := #[]
  resolved := Array.replicate 37 none
  statics := none }

def pool7 : Array CpInfo := pool [(1, .methodref 2 3), (0, .class_ 4), (0, .nameAndType 5 6), (0, u "java/lang/Object"), (0, u "<init>"), (0, u "()V"), (0, .string 8), (0, u ""), (0, .fieldref 10 11), (0, .class_ 12), (0, .nameAndType 13 14), (0, u "java/lang/String"), (0, u "value"), (0, u "[B"), (0, .fieldref 10 16), (0, .nameAndType 17 18), (0, u "coder"), (0, u "B"), (2, u "hash"), (0, u "I"), (2, u "hashIsZero"), (0, u "Z"), (0, .methodref 10 28), (0, .nameAndType 5 29), (0, u "([CIILjava/lang/Void;)V"), (8, .fieldref 10 39), (0, .nameAndType 40 26), (0, u "COMPACT_STRINGS"), (1, .class_ 44), (1, u "java/lang/StringUTF16"), (0, u "compress"), (1, .methodref 42 48), (0, .nameAndType 49 50), (0, u "coderFromArrayLen"), (0, u "([BI)B"), (2, u "toBytes"), (53, .class_ 109), (1, u "java/lang/StringLatin1"), (67, .methodref 42 178), (0, .nameAndType 45 179), (0, u "([CII)[B"), (29, .methodref 10 210), (0, .nameAndType 5 211), (0, u "([BB)V"), (157, u "(C)Z"), (205, .class_ 576), (0, u "java/lang/CharSequence"), (22, u "CASE_INSENSITIVE_ORDER"), (0, u "Ljava/util/Comparator;"), (181, u "valueOf"), (0, u "(C)Ljava/lang/String;"), (226, u "([C)V"), (4, .methodref 107 1016), (0, .nameAndType 1017 369), (0, u "canEncode"), (0, .methodref 107 1019), (0, .nameAndType 53 1020), (0, u "(C)[B"), (80, u "serialPersistentFields"), (0, u "[Ljava/io/ObjectStreamField;"), (0, .class_ 1104), (0, u "java/lang/String$CaseInsensitiveComparator"), (1, .class_ 1107), (0, u "java/io/Serializable"), (0, .class_ 1109), (0, u "java/lang/Comparable"), (0, .class_ 1111), (0, u "java/lang/constant/Constable"), (0, .class_ 1113), (0, u "java/lang/constant/ConstantDesc"), (2, u "serialVersionUID"), (0, u "J"), (3, u "REPL"), (0, u "C"), (2, u "LATIN1"), (1, u "UTF16")] 323

def k7m0 : Method := { name := "<init>", desc := "()V", sig := { parameters := [], returnType := none }, accessFlags := 1, code := none }
def k7c1 : Code := { maxStack := 5, maxLocals := 2, code := jdk_42_method_3_code, exceptionTable := #[], attributes := #[] }
def k7m1 : Method := { name := "<init>", desc := "([C)V", sig := { parameters := [(.array .char)], returnType := none }, accessFlags := 1, code := some k7c1 }
def k7c2 : Code := { maxStack := 4, maxLocals := 1, code := jdk_42_method_139_code, exceptionTable := #[], attributes := #[] }
def k7m2 : Method := { name := "valueOf", desc := "(C)Ljava/lang/String;", sig := { parameters := [.char], returnType := some (.object "java/lang/String") }, accessFlags := 9, code := some k7c2 }
def k7c3 : Code := { maxStack := 4, maxLocals := 6, code := jdk_42_method_149_code, exceptionTable := #[], attributes := #[] }
def k7m3 : Method := { name := "<init>", desc := "([CIILjava/lang/Void;)V", sig := { parameters := [(.array .char), .int, .int, (.object "java/lang/Void")], returnType := none }, accessFlags := 2, code := some k7c3 }
def k7c4 : Code := { maxStack := 2, maxLocals := 3, code := jdk_42_method_151_code, exceptionTable := #[], attributes := #[] }
def k7m4 : Method := { name := "<init>", desc := "([BB)V", sig := { parameters := [(.array .byte), .byte], returnType := none }, accessFlags := 0, code := some k7c4 }
/-- java/lang/String -/
def k7 : Class := { plain "java/lang/String" (some 0) with
  accessFlags := 49
  interfaces := #[2, 3, 4, 5, 6]
  cf := some (fileOf pool7 10 #[.nestMembers #[1103]] #[{ accessFlags := 1, nameIndex := 5, descriptorIndex := 6, attributes := #[] }, { accessFlags := 1, nameIndex := 5, descriptorIndex := 1010, attributes := #[] }, { accessFlags := 9, nameIndex := 782, descriptorIndex := 783, attributes := #[] }, { accessFlags := 2, nameIndex := 5, descriptorIndex := 29, attributes := #[] }, { accessFlags := 0, nameIndex := 5, descriptorIndex := 211, attributes := #[] }] 49 2 #[1106, 1108, 575, 1110, 1112] #[{ accessFlags := 18, nameIndex := 13, descriptorIndex := 14, attributes := #[] }, { accessFlags := 18, nameIndex := 17, descriptorIndex := 18, attributes := #[] }, { accessFlags := 2, nameIndex := 21, descriptorIndex := 22, attributes := #[] }, { accessFlags := 2, nameIndex := 25, descriptorIndex := 26, attributes := #[] }, { accessFlags := 26, nameIndex := 1116, descriptorIndex := 1117, attributes := #[] }, { accessFlags := 24, nameIndex := 40, descriptorIndex := 26, attributes := #[] }, { accessFlags := 26, nameIndex := 1101, descriptorIndex := 1102, attributes := #[] }, { accessFlags := 26, nameIndex := 1121, descriptorIndex := 1122, attributes := #[] }, { accessFlags := 25, nameIndex := 599, descriptorIndex := 600, attributes := #[] }, { accessFlags := 24, nameIndex := 1125, descriptorIndex := 18, attributes := #[] }, { accessFlags := 24, nameIndex := 1127, descriptorIndex := 18, attributes := #[] }])
  fields := #[{ name := "value", type := (.array .byte), accessFlags := 18, slot := 0, constantValue := 0 }, { name := "coder", type := .byte, accessFlags := 18, slot := 1, constantValue := 0 }, { name := "hash", type := .int, accessFlags := 2, slot := 2, constantValue := 0 }, { name := "hashIsZero", type := .boolean, accessFlags := 2, slot := 3, constantValue := 0 }, { name := "serialVersionUID", type := .long, accessFlags := 26, slot := 0, constantValue := 0 }, { name := "COMPACT_STRINGS", type := .boolean, accessFlags := 24, slot := 1, constantValue := 0 }, { name := "serialPersistentFields", type := (.array (.object "java/io/ObjectStreamField")), accessFlags := 26, slot := 2, constantValue := 0 }, { name := "REPL", type := .char, accessFlags := 26, slot := 3, constantValue := 0 }, { name := "CASE_INSENSITIVE_ORDER", type := (.object "java/util/Comparator"), accessFlags := 25, slot := 4, constantValue := 0 }, { name := "LATIN1", type := .byte, accessFlags := 24, slot := 5, constantValue := 0 }, { name := "UTF16", type := .byte, accessFlags := 24, slot := 6, constantValue := 0 }]
  methods := #[k7m0, k7m1, k7m2, k7m3, k7m4]
  instanceTypes := #[(.array .byte), .byte, .int, .boolean]
  staticTypes := #[.long, .boolean, (.array (.object "java/io/ObjectStreamField")), .char, (.object "java/util/Comparator"), .byte, .byte]
  resolved := Array.replicate 1451 none
  statics := some 0 }

def pool8 : Array CpInfo := pool [(6, .class_ 8), (1, u "java/lang/Object"), (0, u "<init>"), (0, u "()V"), (1, .class_ 14), (1, u "java/lang/StringUTF16"), (31, u "$assertionsDisabled"), (0, u "Z"), (13, u "HI_BYTE_SHIFT"), (0, u "I"), (2, u "LO_BYTE_SHIFT"), (49, .methodref 12 116), (0, .nameAndType 117 118), (0, u "compress"), (0, u "([CI[BII)I"), (3, u "([CII)[B"), (138, u "coderFromArrayLen"), (0, u "([BI)B"), (106, .class_ 371), (1, u "java/lang/StringUTF16$LinesSpliterator"), (58, u "MAX_LENGTH"), (196, .class_ 628), (0, u "java/lang/StringUTF16$CodePointsSpliterator"), (0, .class_ 630), (0, u "java/lang/StringUTF16$CharsSpliterator")] 4

def k8m0 : Method := { name := "<init>", desc := "()V", sig := { parameters := [], returnType := none }, accessFlags := 0, code := none }
def k8c1 : Code := { maxStack := 2, maxLocals := 2, code := jdk_52_method_15_code, exceptionTable := #[], attributes := #[] }
def k8m1 : Method := { name := "coderFromArrayLen", desc := "([BI)B", sig := { parameters := [(.array .byte), .int], returnType := some .byte }, accessFlags := 8, code := some k8c1 }
def k8c2 : Code := { maxStack := 5, maxLocals := 6, code := jdk_52_method_16_code, exceptionTable := #[], attributes := #[] }
def k8m2 : Method := { name := "compress", desc := "([CII)[B", sig := { parameters := [(.array .char), .int, .int], returnType := some (.array .byte) }, accessFlags := 9, code := some k8c2 }
def k8c3 : Code := { maxStack := 3, maxLocals := 7, code := jdk_52_method_21_code, exceptionTable := #[], attributes := #[] }
def k8m3 : Method := { name := "compress", desc := "([CI[BII)I", sig := { parameters := [(.array .char), .int, (.array .byte), .int, .int], returnType := some .int }, accessFlags := 9, code := some k8c3 }
/-- java/lang/StringUTF16 -/
def k8 : Class := { plain "java/lang/StringUTF16" (some 0) with
  accessFlags := 48
  interfaces := #[]
  cf := some (fileOf pool8 12 #[.nestMembers #[627, 629, 369]] #[{ accessFlags := 0, nameIndex := 9, descriptorIndex := 10, attributes := #[] }, { accessFlags := 8, nameIndex := 261, descriptorIndex := 262, attributes := #[] }, { accessFlags := 9, nameIndex := 117, descriptorIndex := 122, attributes := #[] }, { accessFlags := 9, nameIndex := 117, descriptorIndex := 118, attributes := #[] }] 48 6 #[] #[{ accessFlags := 26, nameIndex := 61, descriptorIndex := 62, attributes := #[] }, { accessFlags := 26, nameIndex := 65, descriptorIndex := 62, attributes := #[] }, { accessFlags := 24, nameIndex := 430, descriptorIndex := 62, attributes := #[] }, { accessFlags := 4120, nameIndex := 46, descriptorIndex := 47, attributes := #[] }])
  fields := #[{ name := "HI_BYTE_SHIFT", type := .int, accessFlags := 26, slot := 0, constantValue := 0 }, { name := "LO_BYTE_SHIFT", type := .int, accessFlags := 26, slot := 1, constantValue := 0 }, { name := "MAX_LENGTH", type := .int, accessFlags := 24, slot := 2, constantValue := 0 }, { name := "$assertionsDisabled", type := .boolean, accessFlags := 4120, slot := 3, constantValue := 0 }]
  methods := #[k8m0, k8m1, k8m2, k8m3]
  instanceTypes := #[]
  staticTypes := #[.int, .int, .int, .boolean]
  resolved := Array.replicate 635 none
  statics := none }

def pool9 : Array CpInfo := pool [(4, .class_ 6), (1, u "java/lang/Object"), (0, u "<init>"), (0, u "()V"), (5, .class_ 16), (1, u "java/lang/StringLatin1"), (73, u "canEncode"), (14, u "(C)Z"), (15, u "$assertionsDisabled"), (0, u "Z"), (98, .class_ 223), (1, u "java/lang/StringLatin1$LinesSpliterator"), (156, u "toBytes"), (1, u "(C)[B"), (7, .class_ 391), (0, u "java/lang/StringLatin1$CharsSpliterator")] 3

def k9m0 : Method := { name := "<init>", desc := "()V", sig := { parameters := [], returnType := none }, accessFlags := 0, code := none }
def k9c1 : Code := { maxStack := 2, maxLocals := 1, code := jdk_43_method_3_code, exceptionTable := #[], attributes := #[] }
def k9m1 : Method := { name := "canEncode", desc := "(C)Z", sig := { parameters := [.char], returnType := some .boolean }, accessFlags := 9, code := some k9c1 }
def k9c2 : Code := { maxStack := 4, maxLocals := 1, code := jdk_43_method_46_code, exceptionTable := #[], attributes := #[] }
def k9m2 : Method := { name := "toBytes", desc := "(C)[B", sig := { parameters := [.char], returnType := some (.array .byte) }, accessFlags := 9, code := some k9c2 }
/-- java/lang/StringLatin1 -/
def k9 : Class := { plain "java/lang/StringLatin1" (some 0) with
  accessFlags := 48
  interfaces := #[]
  cf := some (fileOf pool9 14 #[.nestMembers #[390, 221]] #[{ accessFlags := 0, nameIndex := 7, descriptorIndex := 8, attributes := #[] }, { accessFlags := 9, nameIndex := 90, descriptorIndex := 105, attributes := #[] }, { accessFlags := 9, nameIndex := 380, descriptorIndex := 382, attributes := #[] }] 48 4 #[] #[{ accessFlags := 4120, nameIndex := 121, descriptorIndex := 122, attributes := #[] }])
  fields := #[{ name := "$assertionsDisabled", type := .boolean, accessFlags := 4120, slot := 0, constantValue := 0 }]
  methods := #[k9m0, k9m1, k9m2]
  instanceTypes := #[]
  staticTypes := #[.boolean]
  resolved := Array.replicate 395 none
  statics := none }

def pool10 : Array CpInfo := pool [(1, .methodref 2 3), (0, .class_ 4), (0, .nameAndType 5 6), (0, u "com/example/watchpost/watchpost/Option"), (0, u "<init>"), (0, u "(Ljava/lang/String;Ljava/lang/String;Ljava/lang/String;Z)V"), (0, .methodref 8 9), (0, .class_ 10), (0, .nameAndType 5 11), (0, u "java/lang/Object"), (0, u "()V"), (0, .fieldref 2 13), (0, .nameAndType 14 15), (0, u "name"), (0, u "Ljava/lang/String;"), (0, .fieldref 2 17), (0, .nameAndType 18 15), (0, u "shortName"), (0, .fieldref 2 20), (0, .nameAndType 21 15), (0, u "value"), (0, .fieldref 2 23), (0, .nameAndType 24 25), (0, u "required"), (0, u "Z"), (0, .methodref 2 27), (0, .nameAndType 5 28), (0, u "(Ljava/lang/String;Ljava/lang/String;)V"), (8, u "isFlag"), (0, u "()Z"), (12, u "()Ljava/lang/String;"), (4, u "flag"), (0, u "(Ljava/lang/String;)Lcom/example/watchpost/watchpost/Option;"), (0, u "(Ljava/lang/String;Ljava/lang/String;)Lcom/example/watchpost/watchpost/Option;")] 28

def k10c0 : Code := { maxStack := 5, maxLocals := 3, code := prog_5_method_1_code, exceptionTable := #[], attributes := #[] }
def k10m0 : Method := { name := "<init>", desc := "(Ljava/lang/String;Ljava/lang/String;)V", sig := { parameters := [(.object "java/lang/String"), (.object "java/lang/String")], returnType := none }, accessFlags := 0, code := some k10c0 }
def k10c1 : Code := { maxStack := 2, maxLocals := 5, code := prog_5_method_2_code, exceptionTable := #[], attributes := #[] }
def k10m1 : Method := { name := "<init>", desc := "(Ljava/lang/String;Ljava/lang/String;Ljava/lang/String;Z)V", sig := { parameters := [(.object "java/lang/String"), (.object "java/lang/String"), (.object "java/lang/String"), .boolean], returnType := none }, accessFlags := 2, code := some k10c1 }
def k10c2 : Code := { maxStack := 4, maxLocals := 1, code := prog_5_method_3_code, exceptionTable := #[], attributes := #[] }
def k10m2 : Method := { name := "flag", desc := "(Ljava/lang/String;)Lcom/example/watchpost/watchpost/Option;", sig := { parameters := [(.object "java/lang/String")], returnType := some (.object "com/example/watchpost/watchpost/Option") }, accessFlags := 8, code := some k10c2 }
def k10c3 : Code := { maxStack := 6, maxLocals := 2, code := prog_5_method_4_code, exceptionTable := #[], attributes := #[] }
def k10m3 : Method := { name := "flag", desc := "(Ljava/lang/String;Ljava/lang/String;)Lcom/example/watchpost/watchpost/Option;", sig := { parameters := [(.object "java/lang/String"), (.object "java/lang/String")], returnType := some (.object "com/example/watchpost/watchpost/Option") }, accessFlags := 8, code := some k10c3 }
def k10c4 : Code := { maxStack := 6, maxLocals := 2, code := prog_5_method_5_code, exceptionTable := #[], attributes := #[] }
def k10m4 : Method := { name := "required", desc := "(Ljava/lang/String;Ljava/lang/String;)Lcom/example/watchpost/watchpost/Option;", sig := { parameters := [(.object "java/lang/String"), (.object "java/lang/String")], returnType := some (.object "com/example/watchpost/watchpost/Option") }, accessFlags := 8, code := some k10c4 }
def k10c5 : Code := { maxStack := 1, maxLocals := 1, code := prog_5_method_8_code, exceptionTable := #[], attributes := #[] }
def k10m5 : Method := { name := "isFlag", desc := "()Z", sig := { parameters := [], returnType := some .boolean }, accessFlags := 0, code := some k10c5 }
def k10c6 : Code := { maxStack := 1, maxLocals := 1, code := prog_5_method_9_code, exceptionTable := #[], attributes := #[] }
def k10m6 : Method := { name := "value", desc := "()Ljava/lang/String;", sig := { parameters := [], returnType := some (.object "java/lang/String") }, accessFlags := 0, code := some k10c6 }
/-- com/example/watchpost/watchpost/Option -/
def k10 : Class := { plain "com/example/watchpost/watchpost/Option" (some 0) with
  accessFlags := 48
  interfaces := #[]
  cf := some (fileOf pool10 2 #[] #[{ accessFlags := 0, nameIndex := 5, descriptorIndex := 28, attributes := #[] }, { accessFlags := 2, nameIndex := 5, descriptorIndex := 6, attributes := #[] }, { accessFlags := 8, nameIndex := 56, descriptorIndex := 57, attributes := #[] }, { accessFlags := 8, nameIndex := 56, descriptorIndex := 58, attributes := #[] }, { accessFlags := 8, nameIndex := 24, descriptorIndex := 58, attributes := #[] }, { accessFlags := 0, nameIndex := 37, descriptorIndex := 38, attributes := #[] }, { accessFlags := 0, nameIndex := 21, descriptorIndex := 51, attributes := #[] }] 48 8 #[] #[{ accessFlags := 18, nameIndex := 14, descriptorIndex := 15, attributes := #[] }, { accessFlags := 18, nameIndex := 18, descriptorIndex := 15, attributes := #[] }, { accessFlags := 18, nameIndex := 21, descriptorIndex := 15, attributes := #[] }, { accessFlags := 18, nameIndex := 24, descriptorIndex := 25, attributes := #[] }])
  fields := #[{ name := "name", type := (.object "java/lang/String"), accessFlags := 18, slot := 0, constantValue := 0 }, { name := "shortName", type := (.object "java/lang/String"), accessFlags := 18, slot := 1, constantValue := 0 }, { name := "value", type := (.object "java/lang/String"), accessFlags := 18, slot := 2, constantValue := 0 }, { name := "required", type := .boolean, accessFlags := 18, slot := 3, constantValue := 0 }]
  methods := #[k10m0, k10m1, k10m2, k10m3, k10m4, k10m5, k10m6]
  instanceTypes := #[(.object "java/lang/String"), (.object "java/lang/String"), (.object "java/lang/String"), .boolean]
  staticTypes := #[]
  resolved := Array.replicate 87 none
  statics := none }

def pool11 : Array CpInfo := pool [(2, .class_ 4), (1, u "java/lang/Object"), (0, u "<init>"), (0, u "()V"), (17, .class_ 26), (1, u "jdk/internal/util/Preconditions"), (28, .class_ 56), (0, u "jdk/internal/util/Preconditions$4"), (57, .class_ 115), (0, u "jdk/internal/util/Preconditions$1"), (7, u "SIOOBE_FORMATTER"), (0, u "Ljava/util/function/BiFunction;"), (0, .class_ 126), (0, u "jdk/internal/util/Preconditions$2"), (3, u "AIOOBE_FORMATTER"), (0, .class_ 132), (0, u "jdk/internal/util/Preconditions$3"), (3, u "IOOBE_FORMATTER")] 57

def k11m0 : Method := { name := "<init>", desc := "()V", sig := { parameters := [], returnType := none }, accessFlags := 1, code := none }
/-- jdk/internal/util/Preconditions -/
def k11 : Class := { plain "jdk/internal/util/Preconditions" (some 0) with
  accessFlags := 33
  interfaces := #[]
  cf := some (fileOf pool11 24 #[.nestMembers #[55, 131, 125, 114]] #[{ accessFlags := 1, nameIndex := 5, descriptorIndex := 6, attributes := #[] }] 33 2 #[] #[{ accessFlags := 25, nameIndex := 123, descriptorIndex := 124, attributes := #[] }, { accessFlags := 25, nameIndex := 130, descriptorIndex := 124, attributes := #[] }, { accessFlags := 25, nameIndex := 136, descriptorIndex := 124, attributes := #[] }])
  fields := #[{ name := "SIOOBE_FORMATTER", type := (.object "java/util/function/BiFunction"), accessFlags := 25, slot := 0, constantValue := 0 }, { name := "AIOOBE_FORMATTER", type := (.object "java/util/function/BiFunction"), accessFlags := 25, slot := 1, constantValue := 0 }, { name := "IOOBE_FORMATTER", type := (.object "java/util/function/BiFunction"), accessFlags := 25, slot := 2, constantValue := 0 }]
  methods := #[k11m0]
  instanceTypes := #[]
  staticTypes := #[(.object "java/util/function/BiFunction"), (.object "java/util/function/BiFunction"), (.object "java/util/function/BiFunction")]
  resolved := Array.replicate 194 none
  statics := some 1 }

def pool12 : Array CpInfo := pool [(9, u "<init>"), (6, .class_ 18), (1, u "java/lang/Object"), (0, u "()V"), (1, .class_ 23), (1, u "jdk/internal/util/ArraysSupport"), (0, u "LOG2_ARRAY_LONG_INDEX_SCALE"), (0, u "I"), (2, u "U"), (0, u "Ljdk/internal/misc/Unsafe;"), (8, u "BIG_ENDIAN"), (0, u "Z"), (8, u "LOG2_BYTE_BIT_SIZE"), (4, u "LOG2_ARRAY_INT_INDEX_SCALE"), (54, u "JLA"), (0, u "Ljdk/internal/access/JavaLangAccess;"), (11, u "LOG2_ARRAY_BOOLEAN_INDEX_SCALE"), (9, u "LOG2_ARRAY_BYTE_INDEX_SCALE"), (5, u "LOG2_ARRAY_CHAR_INDEX_SCALE"), (5, u "LOG2_ARRAY_SHORT_INDEX_SCALE"), (18, u "LOG2_ARRAY_FLOAT_INDEX_SCALE"), (24, u "LOG2_ARRAY_DOUBLE_INDEX_SCALE"), (89, u "T_BOOLEAN"), (2, u "T_CHAR"), (1, u "T_FLOAT"), (1, u "T_DOUBLE"), (1, u "T_BYTE"), (1, u "T_SHORT"), (1, u "T_INT"), (1, u "T_LONG"), (1, u "SOFT_MAX_ARRAY_LENGTH")] 83

def k12m0 : Method := { name := "<init>", desc := "()V", sig := { parameters := [], returnType := none }, accessFlags := 2, code := none }
/-- jdk/internal/util/ArraysSupport -/
def k12 : Class := { plain "jdk/internal/util/ArraysSupport" (some 0) with
  accessFlags := 33
  interfaces := #[]
  cf := some (fileOf pool12 21 #[] #[{ accessFlags := 2, nameIndex := 9, descriptorIndex := 19, attributes := #[] }] 33 16 #[] #[{ accessFlags := 24, nameIndex := 28, descriptorIndex := 29, attributes := #[] }, { accessFlags := 26, nameIndex := 38, descriptorIndex := 39, attributes := #[] }, { accessFlags := 25, nameIndex := 121, descriptorIndex := 25, attributes := #[] }, { accessFlags := 25, nameIndex := 131, descriptorIndex := 25, attributes := #[] }, { accessFlags := 25, nameIndex := 137, descriptorIndex := 25, attributes := #[] }, { accessFlags := 25, nameIndex := 143, descriptorIndex := 25, attributes := #[] }, { accessFlags := 25, nameIndex := 53, descriptorIndex := 25, attributes := #[] }, { accessFlags := 25, nameIndex := 24, descriptorIndex := 25, attributes := #[] }, { accessFlags := 25, nameIndex := 162, descriptorIndex := 25, attributes := #[] }, { accessFlags := 25, nameIndex := 187, descriptorIndex := 25, attributes := #[] }, { accessFlags := 26, nameIndex := 48, descriptorIndex := 25, attributes := #[] }, { accessFlags := 25, nameIndex := 277, descriptorIndex := 25, attributes := #[] }, { accessFlags := 25, nameIndex := 280, descriptorIndex := 25, attributes := #[] }, { accessFlags := 25, nameIndex := 282, descriptorIndex := 25, attributes := #[] }, { accessFlags := 25, nameIndex := 284, descriptorIndex := 25, attributes := #[] }, { accessFlags := 25, nameIndex := 286, descriptorIndex := 25, attributes := #[] }, { accessFlags := 25, nameIndex := 288, descriptorIndex := 25, attributes := #[] }, { accessFlags := 25, nameIndex := 290, descriptorIndex := 25, attributes := #[] }, { accessFlags := 25, nameIndex := 292, descriptorIndex := 25, attributes := #[] }, { accessFlags := 26, nameIndex := 108, descriptorIndex := 109, attributes := #[] }, { accessFlags := 25, nameIndex := 294, descriptorIndex := 25, attributes := #[] }])
  fields := #[{ name := "U", type := (.object "jdk/internal/misc/Unsafe"), accessFlags := 24, slot := 0, constantValue := 0 }, { name := "BIG_ENDIAN", type := .boolean, accessFlags := 26, slot := 1, constantValue := 0 }, { name := "LOG2_ARRAY_BOOLEAN_INDEX_SCALE", type := .int, accessFlags := 25, slot := 2, constantValue := 0 }, { name := "LOG2_ARRAY_BYTE_INDEX_SCALE", type := .int, accessFlags := 25, slot := 3, constantValue := 0 }, { name := "LOG2_ARRAY_CHAR_INDEX_SCALE", type := .int, accessFlags := 25, slot := 4, constantValue := 0 }, { name := "LOG2_ARRAY_SHORT_INDEX_SCALE", type := .int, accessFlags := 25, slot := 5, constantValue := 0 }, { name := "LOG2_ARRAY_INT_INDEX_SCALE", type := .int, accessFlags := 25, slot := 6, constantValue := 0 }, { name := "LOG2_ARRAY_LONG_INDEX_SCALE", type := .int, accessFlags := 25, slot := 7, constantValue := 0 }, { name := "LOG2_ARRAY_FLOAT_INDEX_SCALE", type := .int, accessFlags := 25, slot := 8, constantValue := 0 }, { name := "LOG2_ARRAY_DOUBLE_INDEX_SCALE", type := .int, accessFlags := 25, slot := 9, constantValue := 0 }, { name := "LOG2_BYTE_BIT_SIZE", type := .int, accessFlags := 26, slot := 10, constantValue := 0 }, { name := "T_BOOLEAN", type := .int, accessFlags := 25, slot := 11, constantValue := 0 }, { name := "T_CHAR", type := .int, accessFlags := 25, slot := 12, constantValue := 0 }, { name := "T_FLOAT", type := .int, accessFlags := 25, slot := 13, constantValue := 0 }, { name := "T_DOUBLE", type := .int, accessFlags := 25, slot := 14, constantValue := 0 }, { name := "T_BYTE", type := .int, accessFlags := 25, slot := 15, constantValue := 0 }, { name := "T_SHORT", type := .int, accessFlags := 25, slot := 16, constantValue := 0 }, { name := "T_INT", type := .int, accessFlags := 25, slot := 17, constantValue := 0 }, { name := "T_LONG", type := .int, accessFlags := 25, slot := 18, constantValue := 0 }, { name := "JLA", type := (.object "jdk/internal/access/JavaLangAccess"), accessFlags := 26, slot := 19, constantValue := 0 }, { name := "SOFT_MAX_ARRAY_LENGTH", type := .int, accessFlags := 25, slot := 20, constantValue := 0 }]
  methods := #[k12m0]
  instanceTypes := #[]
  staticTypes := #[(.object "jdk/internal/misc/Unsafe"), .boolean, .int, .int, .int, .int, .int, .int, .int, .int, .int, .int, .int, .int, .int, .int, .int, .int, .int, (.object "jdk/internal/access/JavaLangAccess"), .int]
  resolved := Array.replicate 378 none
  statics := none }

def pool13 : Array CpInfo := pool [(1, u "java/lang/Cloneable"), (0, .class_ 1), (0, u "java/lang/Object"), (0, .class_ 3)] 3

/-- java/lang/Cloneable -/
def k13 : Class := { plain "java/lang/Cloneable" (some 0) with
  accessFlags := 1537
  interfaces := #[]
  cf := some (fileOf pool13 2 #[] #[] 1537 4 #[] #[])
  fields := #[]
  methods := #[]
  instanceTypes := #[]
  staticTypes := #[]
  resolved := Array.replicate 8 none
  statics := none }

/-- the primitive byte -/
def k14 : Class := { plain "byte" none with kind := .primitive 'B', accessFlags := 0x411 }
/-- [B -/
def k15 : Class := { plain "[B" (some 0) with kind := .array 14 .byte, interfaces := #[13, 2], accessFlags := 1041 }

/-- the primitive char -/
def k16 : Class := { plain "char" none with kind := .primitive 'C', accessFlags := 0x411 }
/-- [C -/
def k17 : Class := { plain "[C" (some 0) with kind := .array 16 .char, interfaces := #[13, 2], accessFlags := 1041 }

/-- the primitive int -/
def k18 : Class := { plain "int" none with kind := .primitive 'I', accessFlags := 0x411 }
/-- [I -/
def k19 : Class := { plain "[I" (some 0) with kind := .array 18 .int, interfaces := #[13, 2], accessFlags := 1041 }

def heap : Heap := #[{ cls := 7, slots := #[.long 0, .int 1, .null, .int 0, .null, .int 0, .int 0], vm := .statics 7 },
  { cls := 11, slots := #[.null, .null, .null], vm := .statics 11 }]
def classes : Array Class := #[k0, k1, k2, k3, k4, k5, k6, k7, k8, k9, k10, k11, k12, k13, k14, k15, k16, k17, k18, k19]
def interned : List (Array UInt16 × Addr) := []
def slotsUsed : Nat := 10
def theMethod : MethodId := ⟨1, 1⟩
def args0 : Array Value := #[.int 5, .int 5, .int 5, .int 5]
def aboutOver (below : List Frame) : State where
  vm := { classes := classes, interned := interned.toArray }
  heap := heap
  slotsUsed := slotsUsed
  threads := #[{ frames := .invoking theMethod args0 :: below }]
def below0 : List Frame := [.native { method := ⟨0, 0⟩, args := #[] }]
def about1 : State := aboutOver below0
def p0 : Program := .bare "" "" ""
def e0 : Env := launch0.env 0 0 0
theorem w_frames : about1.frames = Frame.invoking theMethod args0 :: below0 := rfl
set_option maxRecDepth 65536 in
theorem w_args : argsFit about1.vm theMethod args0 = true := by decide +kernel
set_option maxRecDepth 65536 in
theorem w_heap : heapFits about1 = true := by decide +kernel
set_option maxRecDepth 65536 in
theorem w_runnable : about1.curStatus? = some .runnable := by decide +kernel
set_option maxRecDepth 65536 in
theorem w_alone : about1.alone = true := by decide +kernel
set_option maxRecDepth 65536 in
theorem w_named : about1.methodNamed? x = some theMethod := by decide +kernel
set_option maxRecDepth 65536 in
theorem w_hears : about1.hears theMethod below0 = true := by decide +kernel
set_option maxRecDepth 65536 in
theorem w_ripe : about1.ripe theMethod args0 below0 = true := by decide +kernel
theorem w_running : about1.status = .running := rfl
set_option maxRecDepth 65536 in
theorem w_room : about1.hasRoom e0.platform room_1 = true :=
  launch0.hasRoom_least _ room_1 (by decide +kernel) (by decide +kernel) (by decide +kernel) (by decide +kernel) (by decide +kernel) (by decide +kernel)
theorem allAtoms_all (ts : List Jvm.Cond) (a : Array Jvm.Value) (st : Jvm.State) : (allAtoms ts).before a st = ts.all (fun c => c.before a st) := by
  induction ts with
  | nil => rfl
  | cons c t ih =>
    show (Jvm.Cond.and c (allAtoms t)).before a st = _
    rw [Jvm.Cond.before_and, ih, List.all_cons]
def words1 : List Jvm.Cond := Jvm.Cond.code x code maxLocals ret :: tables_1
/-- a 'code' word, met by the world's own term for the bytes: nothing is compared byte by byte -/
theorem code_word {y : MethodName} {bytes : ByteArray} {mx : Nat} {rt : Option FieldType} {a : Array Value} {s : State} {m : MethodId} {meth : Method} {c : Code} (h1 : s.methodNamed? y = some m) (h2 : s.vm.method? m = some meth) (h3 : meth.code = some c) (h4 : c.code = bytes)
    (h5 : (c.maxLocals == mx && c.exceptionTable.isEmpty && decide (c.maxStack ≤ mostOperands) && decide (meth.sig.returnType = rt) && !meth.locks && decide (parseMethodDescriptor y.desc = some meth.sig)) = true) : (Jvm.Cond.code y bytes mx rt).before a s = true := by
  simp only [Bool.and_eq_true, beq_iff_eq, Bool.not_eq_true', decide_eq_true_eq] at h5
  obtain ⟨⟨⟨⟨⟨g1, g2⟩, g3⟩, g4⟩, g5⟩, g6⟩ := h5
  simp [Cond.before, Cond.holds, Cond.value, h1, h2, h3, h4, g1, g2, g3, g4, g5, g6]
def isCode : Jvm.Cond → Bool
  | .code _ _ _ _ => true
  | _ => false
theorem all_split {L : List Jvm.Cond} {P : Jvm.Cond → Bool} (h1 : L.all (fun c => isCode c || P c) = true) (h2 : ∀ c ∈ L.filter isCode, P c = true) : L.all P = true := by
  refine List.all_eq_true.mpr fun c hc => ?_
  have h := List.all_eq_true.mp h1 c hc
  rcases Bool.eq_false_or_eq_true (isCode c) with hi | hi
  · exact h2 c (List.mem_filter.mpr ⟨hc, hi⟩)
  · simpa [hi] using h
set_option maxRecDepth 65536 in
theorem w_c0 : (Jvm.Cond.code x code maxLocals ret).before args0 about1 = true := code_word (m := ⟨1, 1⟩) (meth := k1m1) (c := k1c1) (by decide +kernel) rfl rfl rfl (by decide +kernel)
set_option maxRecDepth 65536 in
theorem w_c1 : (Jvm.Cond.code ({ cls := "java/lang/String", name := "<init>", desc := "([C)V" } : Jvm.MethodName) jdk_42_method_3_code (2 : Nat) (Option.none : Option Jvm.ClassFile.FieldType)).before args0 about1 = true := code_word (m := ⟨7, 1⟩) (meth := k7m1) (c := k7c1) (by decide +kernel) rfl rfl rfl (by decide +kernel)
set_option maxRecDepth 65536 in
theorem w_c2 : (Jvm.Cond.code ({ cls := "java/lang/String", name := "<init>", desc := "([CIILjava/lang/Void;)V" } : Jvm.MethodName) jdk_42_method_149_code (6 : Nat) (Option.none : Option Jvm.ClassFile.FieldType)).before args0 about1 = true := code_word (m := ⟨7, 3⟩) (meth := k7m3) (c := k7c3) (by decide +kernel) rfl rfl rfl (by decide +kernel)
set_option maxRecDepth 65536 in
theorem w_c3 : (Jvm.Cond.code ({ cls := "java/lang/Object", name := "<init>", desc := "()V" } : Jvm.MethodName) object_method_1_code (1 : Nat) (Option.none : Option Jvm.ClassFile.FieldType)).before args0 about1 = true := code_word (m := ⟨0, 0⟩) (meth := k0m0) (c := k0c0) (by decide +kernel) rfl rfl rfl (by decide +kernel)
set_option maxRecDepth 65536 in
theorem w_c4 : (Jvm.Cond.code ({ cls := "java/lang/StringUTF16", name := "compress", desc := "([CII)[B" } : Jvm.MethodName) jdk_52_method_16_code (6 : Nat) (Option.some (Jvm.ClassFile.FieldType.array Jvm.ClassFile.FieldType.byte))).before args0 about1 = true := code_word (m := ⟨8, 2⟩) (meth := k8m2) (c := k8c2) (by decide +kernel) rfl rfl rfl (by decide +kernel)
set_option maxRecDepth 65536 in
theorem w_c5 : (Jvm.Cond.code ({ cls := "java/lang/StringUTF16", name := "compress", desc := "([CI[BII)I" } : Jvm.MethodName) jdk_52_method_21_code (7 : Nat) (Option.some Jvm.ClassFile.FieldType.int)).before args0 about1 = true := code_word (m := ⟨8, 3⟩) (meth := k8m3) (c := k8c3) (by decide +kernel) rfl rfl rfl (by decide +kernel)
set_option maxRecDepth 65536 in
theorem w_c6 : (Jvm.Cond.code ({ cls := "java/lang/StringUTF16", name := "coderFromArrayLen", desc := "([BI)B" } : Jvm.MethodName) jdk_52_method_15_code (2 : Nat) (Option.some Jvm.ClassFile.FieldType.byte)).before args0 about1 = true := code_word (m := ⟨8, 1⟩) (meth := k8m1) (c := k8c1) (by decide +kernel) rfl rfl rfl (by decide +kernel)
set_option maxRecDepth 65536 in
theorem w_c7 : (Jvm.Cond.code ({ cls := "java/lang/String", name := "valueOf", desc := "(C)Ljava/lang/String;" } : Jvm.MethodName) jdk_42_method_139_code (1 : Nat) (Option.some (Jvm.ClassFile.FieldType.object "java/lang/String"))).before args0 about1 = true := code_word (m := ⟨7, 2⟩) (meth := k7m2) (c := k7c2) (by decide +kernel) rfl rfl rfl (by decide +kernel)
set_option maxRecDepth 65536 in
theorem w_c8 : (Jvm.Cond.code ({ cls := "java/lang/StringLatin1", name := "canEncode", desc := "(C)Z" } : Jvm.MethodName) jdk_43_method_3_code (1 : Nat) (Option.some Jvm.ClassFile.FieldType.boolean)).before args0 about1 = true := code_word (m := ⟨9, 1⟩) (meth := k9m1) (c := k9c1) (by decide +kernel) rfl rfl rfl (by decide +kernel)
set_option maxRecDepth 65536 in
theorem w_c9 : (Jvm.Cond.code ({ cls := "java/lang/StringLatin1", name := "toBytes", desc := "(C)[B" } : Jvm.MethodName) jdk_43_method_46_code (1 : Nat) (Option.some (Jvm.ClassFile.FieldType.array Jvm.ClassFile.FieldType.byte))).before args0 about1 = true := code_word (m := ⟨9, 2⟩) (meth := k9m2) (c := k9c2) (by decide +kernel) rfl rfl rfl (by decide +kernel)
set_option maxRecDepth 65536 in
theorem w_c10 : (Jvm.Cond.code ({ cls := "java/lang/String", name := "<init>", desc := "([BB)V" } : Jvm.MethodName) jdk_42_method_151_code (3 : Nat) (Option.none : Option Jvm.ClassFile.FieldType)).before args0 about1 = true := code_word (m := ⟨7, 4⟩) (meth := k7m4) (c := k7c4) (by decide +kernel) rfl rfl rfl (by decide +kernel)
set_option maxRecDepth 65536 in
theorem w_c11 : (Jvm.Cond.code ({ cls := "com/example/watchpost/watchpost/Option", name := "<init>", desc := "(Ljava/lang/String;Ljava/lang/String;)V" } : Jvm.MethodName) prog_5_method_1_code (3 : Nat) (Option.none : Option Jvm.ClassFile.FieldType)).before args0 about1 = true := code_word (m := ⟨10, 0⟩) (meth := k10m0) (c := k10c0) (by decide +kernel) rfl rfl rfl (by decide +kernel)
set_option maxRecDepth 65536 in
theorem w_c12 : (Jvm.Cond.code ({ cls := "com/example/watchpost/watchpost/Option", name := "<init>", desc := "(Ljava/lang/String;Ljava/lang/String;Ljava/lang/String;Z)V" } : Jvm.MethodName) prog_5_method_2_code (5 : Nat) (Option.none : Option Jvm.ClassFile.FieldType)).before args0 about1 = true := code_word (m := ⟨10, 1⟩) (meth := k10m1) (c := k10c1) (by decide +kernel) rfl rfl rfl (by decide +kernel)
set_option maxRecDepth 65536 in
theorem w_c13 : (Jvm.Cond.code ({ cls := "com/example/watchpost/watchpost/Option", name := "isFlag", desc := "()Z" } : Jvm.MethodName) prog_5_method_8_code (1 : Nat) (Option.some Jvm.ClassFile.FieldType.boolean)).before args0 about1 = true := code_word (m := ⟨10, 5⟩) (meth := k10m5) (c := k10c5) (by decide +kernel) rfl rfl rfl (by decide +kernel)
set_option maxRecDepth 65536 in
theorem w_c14 : (Jvm.Cond.code ({ cls := "com/example/watchpost/watchpost/Option", name := "value", desc := "()Ljava/lang/String;" } : Jvm.MethodName) prog_5_method_9_code (1 : Nat) (Option.some (Jvm.ClassFile.FieldType.object "java/lang/String"))).before args0 about1 = true := code_word (m := ⟨10, 6⟩) (meth := k10m6) (c := k10c6) (by decide +kernel) rfl rfl rfl (by decide +kernel)
set_option maxRecDepth 65536 in
theorem w_c15 : (Jvm.Cond.code ({ cls := "com/example/watchpost/watchpost/Option", name := "flag", desc := "(Ljava/lang/String;)Lcom/example/watchpost/watchpost/Option;" } : Jvm.MethodName) prog_5_method_3_code (1 : Nat) (Option.some (Jvm.ClassFile.FieldType.object "com/example/watchpost/watchpost/Option"))).before args0 about1 = true := code_word (m := ⟨10, 2⟩) (meth := k10m2) (c := k10c2) (by decide +kernel) rfl rfl rfl (by decide +kernel)
set_option maxRecDepth 65536 in
theorem w_c16 : (Jvm.Cond.code ({ cls := "com/example/watchpost/watchpost/Option", name := "flag", desc := "(Ljava/lang/String;Ljava/lang/String;)Lcom/example/watchpost/watchpost/Option;" } : Jvm.MethodName) prog_5_method_4_code (2 : Nat) (Option.some (Jvm.ClassFile.FieldType.object "com/example/watchpost/watchpost/Option"))).before args0 about1 = true := code_word (m := ⟨10, 3⟩) (meth := k10m3) (c := k10c3) (by decide +kernel) rfl rfl rfl (by decide +kernel)
set_option maxRecDepth 65536 in
theorem w_c17 : (Jvm.Cond.code ({ cls := "com/example/watchpost/watchpost/Option", name := "required", desc := "(Ljava/lang/String;Ljava/lang/String;)Lcom/example/watchpost/watchpost/Option;" } : Jvm.MethodName) prog_5_method_5_code (2 : Nat) (Option.some (Jvm.ClassFile.FieldType.object "com/example/watchpost/watchpost/Option"))).before args0 about1 = true := code_word (m := ⟨10, 4⟩) (meth := k10m4) (c := k10c4) (by decide +kernel) rfl rfl rfl (by decide +kernel)
def codes1 : List Jvm.Cond := [Jvm.Cond.code x code maxLocals ret, Jvm.Cond.code ({ cls := "java/lang/String", name := "<init>", desc := "([C)V" } : Jvm.MethodName) jdk_42_method_3_code (2 : Nat) (Option.none : Option Jvm.ClassFile.FieldType), Jvm.Cond.code ({ cls := "java/lang/String", name := "<init>", desc := "([CIILjava/lang/Void;)V" } : Jvm.MethodName) jdk_42_method_149_code (6 : Nat) (Option.none : Option Jvm.ClassFile.FieldType), Jvm.Cond.code ({ cls := "java/lang/Object", name := "<init>", desc := "()V" } : Jvm.MethodName) object_method_1_code (1 : Nat) (Option.none : Option Jvm.ClassFile.FieldType), Jvm.Cond.code ({ cls := "java/lang/StringUTF16", name := "compress", desc := "([CII)[B" } : Jvm.MethodName) jdk_52_method_16_code (6 : Nat) (Option.some (Jvm.ClassFile.FieldType.array Jvm.ClassFile.FieldType.byte)), Jvm.Cond.code ({ cls := "java/lang/StringUTF16", name := "compress", desc := "([CI[BII)I" } : Jvm.MethodName) jdk_52_method_21_code (7 : Nat) (Option.some Jvm.ClassFile.FieldType.int), Jvm.Cond.code ({ cls := "java/lang/StringUTF16", name := "coderFromArrayLen", desc := "([BI)B" } : Jvm.MethodName) jdk_52_method_15_code (2 : Nat) (Option.some Jvm.ClassFile.FieldType.byte), Jvm.Cond.code ({ cls := "java/lang/String", name := "valueOf", desc := "(C)Ljava/lang/String;" } : Jvm.MethodName) jdk_42_method_139_code (1 : Nat) (Option.some (Jvm.ClassFile.FieldType.object "java/lang/String")), Jvm.Cond.code ({ cls := "java/lang/StringLatin1", name := "canEncode", desc := "(C)Z" } : Jvm.MethodName) jdk_43_method_3_code (1 : Nat) (Option.some Jvm.ClassFile.FieldType.boolean), Jvm.Cond.code ({ cls := "java/lang/StringLatin1", name := "toBytes", desc := "(C)[B" } : Jvm.MethodName) jdk_43_method_46_code (1 : Nat) (Option.some (Jvm.ClassFile.FieldType.array Jvm.ClassFile.FieldType.byte)), Jvm.Cond.code ({ cls := "java/lang/String", name := "<init>", desc := "([BB)V" } : Jvm.MethodName) jdk_42_method_151_code (3 : Nat) (Option.none : Option Jvm.ClassFile.FieldType), Jvm.Cond.code ({ cls := "com/example/watchpost/watchpost/Option", name := "<init>", desc := "(Ljava/lang/String;Ljava/lang/String;)V" } : Jvm.MethodName) prog_5_method_1_code (3 : Nat) (Option.none : Option Jvm.ClassFile.FieldType), Jvm.Cond.code ({ cls := "com/example/watchpost/watchpost/Option", name := "<init>", desc := "(Ljava/lang/String;Ljava/lang/String;Ljava/lang/String;Z)V" } : Jvm.MethodName) prog_5_method_2_code (5 : Nat) (Option.none : Option Jvm.ClassFile.FieldType), Jvm.Cond.code ({ cls := "com/example/watchpost/watchpost/Option", name := "isFlag", desc := "()Z" } : Jvm.MethodName) prog_5_method_8_code (1 : Nat) (Option.some Jvm.ClassFile.FieldType.boolean), Jvm.Cond.code ({ cls := "com/example/watchpost/watchpost/Option", name := "value", desc := "()Ljava/lang/String;" } : Jvm.MethodName) prog_5_method_9_code (1 : Nat) (Option.some (Jvm.ClassFile.FieldType.object "java/lang/String")), Jvm.Cond.code ({ cls := "com/example/watchpost/watchpost/Option", name := "flag", desc := "(Ljava/lang/String;)Lcom/example/watchpost/watchpost/Option;" } : Jvm.MethodName) prog_5_method_3_code (1 : Nat) (Option.some (Jvm.ClassFile.FieldType.object "com/example/watchpost/watchpost/Option")), Jvm.Cond.code ({ cls := "com/example/watchpost/watchpost/Option", name := "flag", desc := "(Ljava/lang/String;Ljava/lang/String;)Lcom/example/watchpost/watchpost/Option;" } : Jvm.MethodName) prog_5_method_4_code (2 : Nat) (Option.some (Jvm.ClassFile.FieldType.object "com/example/watchpost/watchpost/Option")), Jvm.Cond.code ({ cls := "com/example/watchpost/watchpost/Option", name := "required", desc := "(Ljava/lang/String;Ljava/lang/String;)Lcom/example/watchpost/watchpost/Option;" } : Jvm.MethodName) prog_5_method_5_code (2 : Nat) (Option.some (Jvm.ClassFile.FieldType.object "com/example/watchpost/watchpost/Option"))]
set_option maxRecDepth 65536 in
theorem codes_eq : words1.filter isCode = codes1 := rfl
theorem w_codes : ∀ c ∈ words1.filter isCode, c.before args0 about1 = true := by
  rw [codes_eq]
  intro c hc
  simp only [codes1, List.mem_cons, List.not_mem_nil, or_false] at hc
  rcases hc with rfl | rfl | rfl | rfl | rfl | rfl | rfl | rfl | rfl | rfl | rfl | rfl | rfl | rfl | rfl | rfl | rfl | rfl
  · exact w_c0
  · exact w_c1
  · exact w_c2
  · exact w_c3
  · exact w_c4
  · exact w_c5
  · exact w_c6
  · exact w_c7
  · exact w_c8
  · exact w_c9
  · exact w_c10
  · exact w_c11
  · exact w_c12
  · exact w_c13
  · exact w_c14
  · exact w_c15
  · exact w_c16
  · exact w_c17
set_option maxRecDepth 65536 in
theorem w_t1 : (words1.take 24).all (fun c => isCode c || c.before args0 about1) = true := by decide +kernel
set_option maxRecDepth 65536 in
theorem w_t2 : ((words1.drop 24).take 24).all (fun c => isCode c || c.before args0 about1) = true := by decide +kernel
set_option maxRecDepth 65536 in
theorem w_t3 : (((words1.drop 24).drop 24).take 24).all (fun c => isCode c || c.before args0 about1) = true := by decide +kernel
set_option maxRecDepth 65536 in
theorem w_t4 : (((words1.drop 24).drop 24).drop 24).all (fun c => isCode c || c.before args0 about1) = true := by decide +kernel
theorem w_tables : (allAtoms (Jvm.Cond.code x code maxLocals ret :: tables_1)).before args0 about1 = true := by
  rw [allAtoms_all]
  show words1.all (fun c => c.before args0 about1) = true
  refine all_split ?_ w_codes
  rw [← List.take_append_drop 24 words1, List.all_append, w_t1, ← List.take_append_drop 24 (words1.drop 24), List.all_append, w_t2, ← List.take_append_drop 24 ((words1.drop 24).drop 24), List.all_append, w_t3, w_t4]
  rfl
set_option maxRecDepth 65536 in
theorem w_rest : rest_1_c.before args0 about1 = true := by decide +kernel
set_option maxRecDepth 65536 in
theorem w_case : (Jvm.Cond.and given_1 narrow_1).before args0 about1 = true := by decide +kernel
set_option maxRecDepth 65536 in
theorem w_consts : constsHeld consts_1 about1 := Jvm.Lit.constsHeldB_iff.mp (by decide +kernel)
theorem w_applies : (headSpec (Jvm.Cond.code x code maxLocals ret :: tables_1) room_1).applies x e0.platform about1 = true :=
  (Spec.applies_iff w_frames).mpr ⟨w_running, w_runnable, w_alone, w_named, w_hears, w_ripe, w_room, w_tables⟩
theorem atStart : AtStart classFile x code maxLocals ret World_1 tables_1 room_1 Calls_1 rest_1 Pre_1 launch0 p0 e0 about1 theMethod args0 below0 :=
  ⟨lists_1, trivial, launch0.admits_env _ _ _, launch0.least_env, fairChoices_fair.cas, fairChoices_fair.clock, w_frames, w_args, w_heap, w_applies, ⟨w_consts, trivial⟩, w_rest, w_case⟩
end start1
theorem witness_1 : WitnessClaimed_1 := ⟨start1.p0, start1.e0, start1.about1, start1.theMethod, start1.args0, start1.below0, start1.atStart⟩
end Jvm.Pilot.@@N@@
