import JvmDerived
import JvmDerived.Pilot.@@N@@Statement
import JvmDerived.Pilot.@@N@@Code
set_option linter.unusedVariables false
set_option linter.unusedSimpArgs false
@@BLOCK:TracedD.lean.txt@@
/- laws to paste: Road.backV (cut by pick.py; bodies as the Statement names them) -/
namespace Jvm.Pilot.@@N@@
namespace StrChars
open Jvm Sem ClassFile Op Lib Jvm.Stand Jvm.Free.XT Jvm.Free.ALB Jvm.Free.JM Jvm.Free
open Jvm.Lib.Cold (StaticIs)
/-- a char array whose places are chars -/
def Ch (a : Addr) (A : Cell) (U : State) : Prop := Arr .char a A U ∧ Typed .char A
theorem Ch.mv {a : Addr} {A : Cell} {U U' : State} (h : Ch a A U) (hal : U.vm.Alike U'.vm) (hh : U'.heap = U.heap) : Ch a A U' := ⟨h.1.mv hal hh, h.2⟩
theorem Ch.keep {a : Addr} {A : Cell} {U U' : State} (h : Ch a A U) (hal : U.vm.Alike U'.vm) (hk : U'.heap[a]? = some A) : Ch a A U' := ⟨h.1.keep hal hk, h.2⟩
/-- what place i of a char[]'s cell holds -/
def cv (A : Cell) (i : Nat) : Int32 := match A.slots[i]? with | some (.int x) => x | _ => 0
theorem Ch.get {a : Addr} {A : Cell} {U : State} (h : Ch a A U) {i : Nat} (hi : i < A.slots.size) : A.slots[i]? = some (.int (cv A i)) := by
  have e := Array.getElem?_eq_getElem hi
  have f := h.2 i _ e
  unfold cv; rw [e]
  generalize A.slots[i] = v at f
  cases v <;> simp [fits] at f ⊢
/-- the byte that i2b leaves of a char -/
def lo8 (x : Int32) : Int32 := x.toInt8.toInt32
theorem fits_lo8 (y : Int32) : fits .byte (.int (lo8 y)) = true := by
  have h1 := y.toInt8.le_toInt
  have h2 := y.toInt8.toInt_lt
  simp only [lo8, fits, Bool.and_eq_true, decide_eq_true_eq, Int32.le_iff_toInt_le, Int8.toInt_toInt32, show (-128 : Int32).toInt = -128 from by decide, show (127 : Int32).toInt = 127 from by decide]
  omega
/-- A' is A but that each place j of lo .. hi - 1 holds f j -/
def Laid (A A' : Cell) (lo hi : Nat) (f : Nat → Value) : Prop := A'.cls = A.cls ∧ A'.vm = A.vm ∧ A'.slots.size = A.slots.size ∧ ∀ i, A'.slots[i]? = if lo ≤ i ∧ i < hi then some (f i) else A.slots[i]?
theorem Laid.zero (A : Cell) (lo : Nat) (f : Nat → Value) : Laid A A lo (lo + 0) f := ⟨rfl, rfl, rfl, fun i => by rw [if_neg (by omega)]⟩
theorem Laid.step {A Ak : Cell} {lo k : Nat} {f : Nat → Value} {v : Value} (h : Laid A Ak lo k f) (hlo : lo ≤ k) (hk : k < Ak.slots.size) (hv : v = f k) : Laid A (Ak.setSlot k v) lo (k + 1) f := by
  refine ⟨h.1, h.2.1, by simpa [Cell.setSlot] using h.2.2.1, fun i => ?_⟩
  by_cases e : k = i
  · subst e; rw [Cell.slots_setSlot_self v hk, if_pos (by omega), hv]
  · rw [Cell.slots_setSlot_ne v e, h.2.2.2 i]
    by_cases q : lo ≤ i ∧ i < k
    · rw [if_pos q, if_pos (by omega)]
    · rw [if_neg q, if_neg (by omega)]
def U16 : String := "java/lang/StringUTF16"
namespace Cmp5
def yN : MethodName := ⟨"java/lang/StringUTF16", "compress", "([CI[BII)I"⟩
abbrev yB : ByteArray := jdk_52_method_21_code
theorem d0 : decode yB 0 = .ok (.iconst 0, 1) := by decide +kernel
theorem d1 : decode yB 1 = .ok (.istore 5, 2) := by decide +kernel
theorem d3 : decode yB 3 = .ok (.iload 5, 2) := by decide +kernel
theorem d5 : decode yB 5 = .ok (.iload 4, 2) := by decide +kernel
theorem d7 : decode yB 7 = .ok (.if_icmp (.ge) 37, 3) := by decide +kernel
theorem d10 : decode yB 10 = .ok (.aload_n 0, 1) := by decide +kernel
theorem d11 : decode yB 11 = .ok (.iload_n 1, 1) := by decide +kernel
theorem d12 : decode yB 12 = .ok (.caload, 1) := by decide +kernel
theorem d13 : decode yB 13 = .ok (.istore 6, 2) := by decide +kernel
theorem d15 : decode yB 15 = .ok (.iload 6, 2) := by decide +kernel
theorem d17 : decode yB 17 = .ok (.sipush 255, 3) := by decide +kernel
theorem d20 : decode yB 20 = .ok (.if_icmp (.le) 6, 3) := by decide +kernel
theorem d26 : decode yB 26 = .ok (.aload_n 2, 1) := by decide +kernel
theorem d27 : decode yB 27 = .ok (.iload_n 3, 1) := by decide +kernel
theorem d28 : decode yB 28 = .ok (.iload 6, 2) := by decide +kernel
theorem d30 : decode yB 30 = .ok (.i2b, 1) := by decide +kernel
theorem d31 : decode yB 31 = .ok (.bastore, 1) := by decide +kernel
theorem d32 : decode yB 32 = .ok (.iinc 1 1, 3) := by decide +kernel
theorem d35 : decode yB 35 = .ok (.iinc 3 1, 3) := by decide +kernel
theorem d38 : decode yB 38 = .ok (.iinc 5 1, 3) := by decide +kernel
theorem d41 : decode yB 41 = .ok (.goto (-38), 3) := by decide +kernel
theorem d44 : decode yB 44 = .ok (.iload 4, 2) := by decide +kernel
theorem d46 : decode yB 46 = .ok (.ireturn, 1) := by decide +kernel
def site : List Cond := []
def tab : Cond := tabOf yN yB 7 (some .int) site
def P (b : Addr) (A : Cell) (d : Addr) (B : Cell) (o q len : Nat) (args : Array Value) (s : State) : Prop := args = #[.ref b, .int (Int32.ofNat o), .ref d, .int (Int32.ofNat q), .int (Int32.ofNat len)] ∧ Ch b A s ∧ Arr .byte d B s ∧ b ≠ d ∧ o + len ≤ A.slots.size ∧ q + len ≤ B.slots.size ∧ ∀ i, i < len → ¬ 255 < cv A (o + i)
def E (b : Addr) (A : Cell) (d : Addr) (B : Cell) (o q len : Nat) (r : Option Value) (s u : State) : Prop := r = some (.int (Int32.ofNat len)) ∧ ∃ B', Put d B' s u ∧ Laid B B' q (q + len) (fun j => Value.int (lo8 (cv A (o + (j - q)))))
/-- no char of the range above 255: len; the places written hold each char's low byte -/
theorem law (l : Launch) (b : Addr) (A : Cell) (d : Addr) (B : Cell) (o q len : Nat) : Law l yN 5 5 0 0 yB 7 (some .int) site (P b A d B o q len) (E b A d B o q len) (copyLocs d q len) 0 0 := by
  refine Law.of_walk (plainFor_of_name (by decide +kernel)) (by decide +kernel) (by decide +kernel) (by decide) (fun _ _ h => by rw [h.1]; rfl) (fun _ U U' hal hh h => ⟨h.1, h.2.1.mv hal hh, h.2.2.1.mv hal hh, h.2.2.2⟩) (fun r U U' V V' h1 hal h2 h => ⟨h.1, h.2.elim fun B' q => ⟨B', q.1.mv h1 h2, q.2⟩⟩) ?_
  intro p e s m args below meth c s₁ X0 hexec hbytes hml hret hlk hnm hown hh0 W hP
  obtain ⟨rfl, hA, hB, hne, l1, l2, hp⟩ := hP
  have c1 : Steps p.tables e below (s₁.setTop (entryFrame m #[.ref b, .int (Int32.ofNat o), .ref d, .int (Int32.ofNat q), .int (Int32.ofNat len)] 7)) (s₁.setTop (mkF m 0 #[.val (.ref b), .val (.int (Int32.ofNat o)), .val (.ref d), .val (.int (Int32.ofNat q)), .val (.int (Int32.ofNat len)), .unset, .unset] [])) := entry rfl
  have hA0 := hA.1.mv X0.warmed.alike hh0
  have hB0 := hB.mv X0.warmed.alike hh0
  have a31 := hA.1.2.2.2
  have c2 : Steps p.tables e below (s₁.setTop (entryFrame m #[.ref b, .int (Int32.ofNat o), .ref d, .int (Int32.ofNat q), .int (Int32.ofNat len)] 7)) (s₁.setTop (mkF m 3 #[.val (.ref b), .val (.int (Int32.ofNat o)), .val (.ref d), .val (.int (Int32.ofNat q)), .val (.int (Int32.ofNat len)), .val (.int 0), .unset] [])) := c1.trans (by
    refine iconstV X0.here hexec rfl 0 (hb hbytes d0) (by decide) ?_
    refine XS.istore X0.here hexec rfl (hb hbytes d1) rfl rfl ?_
    exact Steps.refl _)
  have loop : ∀ (r i : Nat), i + r = len → ∀ (z : Slot), (z = .unset ∨ ∃ w, z = .val w ∧ w.category = 1) → ∀ (Tl : State) (Bk : Cell), Stand p l e { frames := 0, locals := 0, cells := 0, slots := 0 } s m #[.ref b, .int (Int32.ofNat o), .ref d, .int (Int32.ofNat q), .int (Int32.ofNat len)] below meth c Tl ([] ++ copyLocs d q i) 0 0 → Put d Bk s₁ Tl → Laid B Bk q (q + i) (fun j => Value.int (lo8 (cv A (o + (j - q))))) →
      Steps p.tables e below (s₁.setTop (entryFrame m #[.ref b, .int (Int32.ofNat o), .ref d, .int (Int32.ofNat q), .int (Int32.ofNat len)] 7)) (Tl.setTop (mkF m 3 #[.val (.ref b), .val (.int (Int32.ofNat (o + i))), .val (.ref d), .val (.int (Int32.ofNat (q + i))), .val (.int (Int32.ofNat len)), .val (.int (Int32.ofNat i)), z] [])) → ∃ (T' : State) (B' : Cell) (z' : Slot), Stand p l e { frames := 0, locals := 0, cells := 0, slots := 0 } s m #[.ref b, .int (Int32.ofNat o), .ref d, .int (Int32.ofNat q), .int (Int32.ofNat len)] below meth c T' ([] ++ copyLocs d q len) 0 0 ∧ Put d B' s₁ T' ∧ Laid B B' q (q + len) (fun j => Value.int (lo8 (cv A (o + (j - q))))) ∧
      Steps p.tables e below (s₁.setTop (entryFrame m #[.ref b, .int (Int32.ofNat o), .ref d, .int (Int32.ofNat q), .int (Int32.ofNat len)] 7)) (T'.setTop (mkF m 3 #[.val (.ref b), .val (.int (Int32.ofNat (o + len))), .val (.ref d), .val (.int (Int32.ofNat (q + len))), .val (.int (Int32.ofNat len)), .val (.int (Int32.ofNat len)), z'] [])) := by
    intro r
    induction r with
    | zero =>
      intro i hi z hz Tl Bk Xl pl fl cl
      have hil : i = len := by omega
      rw [hil] at Xl fl cl
      exact ⟨Tl, Bk, z, Xl, pl, fl, cl⟩
    | succ r ih =>
      intro i hi z hz Tl Bk Xl pl fl cl
      have all := X0.warmed.alike.symm.trans Xl.warmed.alike
      have hAl := hA0.keep all (pl.other hne hA0.1)
      have hBk := hB0.like all pl.1 fl.1 fl.2.1 fl.2.2.1
      have hlt : q + i < Bk.slots.size := by rw [fl.2.2.1]; omega
      have c3 : Steps p.tables e below (s₁.setTop (entryFrame m #[.ref b, .int (Int32.ofNat o), .ref d, .int (Int32.ofNat q), .int (Int32.ofNat len)] 7)) (Tl.setTop (mkF m 12 #[.val (.ref b), .val (.int (Int32.ofNat (o + i))), .val (.ref d), .val (.int (Int32.ofNat (q + i))), .val (.int (Int32.ofNat len)), .val (.int (Int32.ofNat i)), z] [.int (Int32.ofNat (o + i)), .ref b])) := cl.trans (by
        refine XS.iload Xl.here hexec rfl (hb hbytes d3) rfl ?_
        refine XS.iload Xl.here hexec rfl (hb hbytes d5) rfl ?_
        refine XS.icmpNo Xl.here hexec rfl (hb hbytes d7) rfl (ii_ge_f (lt32 (by omega) (by omega))) ?_
        refine XS.aloadN Xl.here hexec rfl (hb hbytes d10) rfl rfl ?_
        refine XS.iloadN Xl.here hexec rfl (hb hbytes d11) rfl ?_
        exact Steps.refl _)
      have c4 : Steps p.tables e below (s₁.setTop (entryFrame m #[.ref b, .int (Int32.ofNat o), .ref d, .int (Int32.ofNat q), .int (Int32.ofNat len)] 7)) (Tl.setTop (mkF m 13 #[.val (.ref b), .val (.int (Int32.ofNat (o + i))), .val (.ref d), .val (.int (Int32.ofNat (q + i))), .val (.int (Int32.ofNat len)), .val (.int (Int32.ofNat i)), z] [.int (cv A (o + i))])) := c3.trans (by
        refine Xl.aget hexec hAl rfl (hA.get (i := o + i) (by omega)) rfl rfl (hb hbytes d12) ?_
        exact Steps.refl _)
      have c5 : Steps p.tables e below (s₁.setTop (entryFrame m #[.ref b, .int (Int32.ofNat o), .ref d, .int (Int32.ofNat q), .int (Int32.ofNat len)] 7)) (Tl.setTop (mkF m 15 #[.val (.ref b), .val (.int (Int32.ofNat (o + i))), .val (.ref d), .val (.int (Int32.ofNat (q + i))), .val (.int (Int32.ofNat len)), .val (.int (Int32.ofNat i)), .val (.int (cv A (o + i)))] [])) := c4.trans (by
        refine XS.istoreS Xl.here hexec rfl (hb hbytes d13) rfl rfl hz ?_
        exact Steps.refl _)
      have c6 : Steps p.tables e below (s₁.setTop (entryFrame m #[.ref b, .int (Int32.ofNat o), .ref d, .int (Int32.ofNat q), .int (Int32.ofNat len)] 7)) (Tl.setTop (mkF m 31 #[.val (.ref b), .val (.int (Int32.ofNat (o + i))), .val (.ref d), .val (.int (Int32.ofNat (q + i))), .val (.int (Int32.ofNat len)), .val (.int (Int32.ofNat i)), .val (.int (cv A (o + i)))] [.int (lo8 (cv A (o + i))), .int (Int32.ofNat (q + i)), .ref d])) := c5.trans (by
        refine XS.iload Xl.here hexec rfl (hb hbytes d15) rfl ?_
        refine sipushV Xl.here hexec rfl 255 (hb hbytes d17) (by decide) ?_
        refine XS.icmpYes Xl.here hexec rfl (pc0 := 20) rfl (hb hbytes d20) rfl (ii_le_t (hp i (by omega))) (by decide) rfl ?_
        refine XS.aloadN Xl.here hexec rfl (hb hbytes d26) rfl rfl ?_
        refine XS.iloadN Xl.here hexec rfl (hb hbytes d27) rfl ?_
        refine XS.iload Xl.here hexec rfl (hb hbytes d28) rfl ?_
        refine i2b Xl.here hexec rfl (hb hbytes d30) rfl ?_
        exact Steps.refl _)
      obtain ⟨T7, X7, p7, st7⟩ := Xl.aput hexec hBk rfl hlt rfl (fits_lo8 (cv A (o + i))) (g := (mkF m 31 #[.val (.ref b), .val (.int (Int32.ofNat (o + i))), .val (.ref d), .val (.int (Int32.ofNat (q + i))), .val (.int (Int32.ofNat len)), .val (.int (Int32.ofNat i)), .val (.int (cv A (o + i)))] [.int (lo8 (cv A (o + i))), .int (Int32.ofNat (q + i)), .ref d])) rfl (rest := []) rfl (hb hbytes d31)
      have c8 : Steps p.tables e below (s₁.setTop (entryFrame m #[.ref b, .int (Int32.ofNat o), .ref d, .int (Int32.ofNat q), .int (Int32.ofNat len)] 7)) (T7.setTop (mkF m 32 #[.val (.ref b), .val (.int (Int32.ofNat (o + i))), .val (.ref d), .val (.int (Int32.ofNat (q + i))), .val (.int (Int32.ofNat len)), .val (.int (Int32.ofNat i)), .val (.int (cv A (o + i)))] [])) := c6.trans (st7 _ (Steps.refl _))
      have c9 : Steps p.tables e below (s₁.setTop (entryFrame m #[.ref b, .int (Int32.ofNat o), .ref d, .int (Int32.ofNat q), .int (Int32.ofNat len)] 7)) (T7.setTop (mkF m 3 #[.val (.ref b), .val (.int (Int32.ofNat (o + i) + 1)), .val (.ref d), .val (.int (Int32.ofNat (q + i) + 1)), .val (.int (Int32.ofNat len)), .val (.int (Int32.ofNat i + 1)), .val (.int (cv A (o + i)))] [])) := c8.trans (by
        refine iincV X7.here hexec rfl 1 (hb hbytes d32) (by decide) rfl rfl ?_
        refine iincV X7.here hexec rfl 1 (hb hbytes d35) (by decide) rfl rfl ?_
        refine iincV X7.here hexec rfl 1 (hb hbytes d38) (by decide) rfl rfl ?_
        refine XS.goto X7.here hexec rfl (pc0 := 41) rfl (hb hbytes d41) (by decide) rfl ?_
        exact Steps.refl _)
      have c10 : Steps p.tables e below (s₁.setTop (entryFrame m #[.ref b, .int (Int32.ofNat o), .ref d, .int (Int32.ofNat q), .int (Int32.ofNat len)] 7)) (T7.setTop (mkF m 3 #[.val (.ref b), .val (.int (Int32.ofNat (o + (i + 1)))), .val (.ref d), .val (.int (Int32.ofNat (q + (i + 1)))), .val (.int (Int32.ofNat len)), .val (.int (Int32.ofNat (i + 1))), .val (.int (cv A (o + i)))] [])) := by
        have := c9
        rw [succ32, succ32, succ32] at this
        exact this
      exact ih (i + 1) (by omega) _ (Or.inr ⟨_, rfl, rfl⟩) T7 _ (by rw [copyLocs_step, ← List.append_assoc]; exact X7) (pl.trans p7) (fl.step (by omega) hlt (by simp)) c10
  obtain ⟨T9, B9, z9, X9, p9, f9, g9⟩ := loop len 0 (by omega) .unset (Or.inl rfl) s₁ B (by simpa [copyLocs] using X0) ⟨hB0.1, fun _ _ => rfl, rfl⟩ (Laid.zero _ _ _) c2
  have c11 : Steps p.tables e below (s₁.setTop (entryFrame m #[.ref b, .int (Int32.ofNat o), .ref d, .int (Int32.ofNat q), .int (Int32.ofNat len)] 7)) (T9.setTop (mkF m 46 #[.val (.ref b), .val (.int (Int32.ofNat (o + len))), .val (.ref d), .val (.int (Int32.ofNat (q + len))), .val (.int (Int32.ofNat len)), .val (.int (Int32.ofNat len)), z9] [.int (Int32.ofNat len)])) := g9.trans (by
    refine XS.iload X9.here hexec rfl (hb hbytes d3) rfl ?_
    refine XS.iload X9.here hexec rfl (hb hbytes d5) rfl ?_
    refine XS.icmpYes X9.here hexec rfl (pc0 := 7) rfl (hb hbytes d7) rfl (ii_ge_t (nlt32 (by omega) (Nat.le_refl _))) (by decide) rfl ?_
    refine XS.iload X9.here hexec rfl (hb hbytes d44) rfl ?_
    exact Steps.refl _)
  exact ⟨T9, some (.int (Int32.ofNat len)), _, _, _, X9, by simp, rfl, rfl, (fun h => by cases h), ⟨rfl, B9, p9.from hh0, f9⟩, fun fs hl => c11.trans (X9.ireturnOut hexec hret rfl (Or.inl rfl) (hb hbytes d46) hl)⟩
end Cmp5
namespace Cmp3
def yN : MethodName := ⟨"java/lang/StringUTF16", "compress", "([CII)[B"⟩
abbrev yB : ByteArray := jdk_52_method_16_code
theorem d0 : decode yB 0 = .ok (.iload_n 2, 1) := by decide +kernel
theorem d1 : decode yB 1 = .ok (.newarray .byte, 2) := by decide +kernel
theorem d3 : decode yB 3 = .ok (.astore_n 3, 1) := by decide +kernel
theorem d4 : decode yB 4 = .ok (.aload_n 0, 1) := by decide +kernel
theorem d5 : decode yB 5 = .ok (.iload_n 1, 1) := by decide +kernel
theorem d6 : decode yB 6 = .ok (.aload_n 3, 1) := by decide +kernel
theorem d7 : decode yB 7 = .ok (.iconst 0, 1) := by decide +kernel
theorem d8 : decode yB 8 = .ok (.iload_n 2, 1) := by decide +kernel
theorem d9 : decode yB 9 = .ok (.invokestatic 115, 3) := by decide +kernel
theorem d12 : decode yB 12 = .ok (.istore 4, 2) := by decide +kernel
theorem d14 : decode yB 14 = .ok (.iload 4, 2) := by decide +kernel
theorem d16 : decode yB 16 = .ok (.iload_n 2, 1) := by decide +kernel
theorem d17 : decode yB 17 = .ok (.if_icmp (.eq) 40, 3) := by decide +kernel
theorem d57 : decode yB 57 = .ok (.aload_n 3, 1) := by decide +kernel
theorem d58 : decode yB 58 = .ok (.areturn, 1) := by decide +kernel
def site : List Cond := [.arrayClass .byte, Cmp5.tab] ++ staticW U16 115 Cmp5.yN
def tab : Cond := tabOf yN yB 6 (some (.array .byte)) site
def P (b : Addr) (A : Cell) (o len : Nat) (args : Array Value) (s : State) : Prop := args = #[.ref b, .int (Int32.ofNat o), .int (Int32.ofNat len)] ∧ Ch b A s ∧ o + len ≤ A.slots.size ∧ len ≤ 536870912 ∧ ∀ i, i < len → ¬ 255 < cv A (o + i)
def E (b : Addr) (A : Cell) (o len : Nat) (r : Option Value) (s u : State) : Prop := NewArr .byte "[B" len (fun j => .int (lo8 (cv A (o + j)))) r s u ∧ u.heap.size = s.heap.size + 1
/-- no char of the range above 255: a new byte[] of their low bytes -/
theorem law (l : Launch) (b : Addr) (A : Cell) (o len : Nat) : Law l yN 3 3 1 18 yB 6 (some (.array .byte)) site (P b A o len) (E b A o len) [] 1 len := by
  refine Law.of_walk (plainFor_of_name (by decide +kernel)) (by decide +kernel) (by decide +kernel) (by decide) (fun _ _ h => by rw [h.1]; rfl) (fun _ U U' hal hh h => ⟨h.1, h.2.1.mv hal hh, h.2.2⟩) (fun r U U' V V' h1 hal h2 h => ⟨NewArr.mv r U U' V V' h1 hal h2 h.1, by rw [h1, h2]; exact h.2⟩) ?_
  intro p e s m args below meth c s₁ X0 hexec hbytes hml hret hlk hnm hown hh0 W hP
  obtain ⟨rfl, hA, l1, l2, hp⟩ := hP
  have a31 := hA.1.2.2.2
  have c1 : Steps p.tables e below (s₁.setTop (entryFrame m #[.ref b, .int (Int32.ofNat o), .int (Int32.ofNat len)] 6)) (s₁.setTop (mkF m 0 #[.val (.ref b), .val (.int (Int32.ofNat o)), .val (.int (Int32.ofNat len)), .unset, .unset, .unset] [])) := entry rfl
  have c2 : Steps p.tables e below (s₁.setTop (entryFrame m #[.ref b, .int (Int32.ofNat o), .int (Int32.ofNat len)] 6)) (s₁.setTop (mkF m 1 #[.val (.ref b), .val (.int (Int32.ofNat o)), .val (.int (Int32.ofNat len)), .unset, .unset, .unset] [.int (Int32.ofNat len)])) := c1.trans (by
    refine XS.iloadN X0.here hexec rfl (hb hbytes d0) rfl ?_
    exact Steps.refl _)
  obtain ⟨T3, B3, X3, ba3, bs3, bv3, bh3, bf3, st3⟩ := X0.anew hexec (atype := .byte) (wk W (.arrayClass .byte)) rfl (by show len * 1 ≤ _; omega) (by omega) (g := (mkF m 1 #[.val (.ref b), .val (.int (Int32.ofNat o)), .val (.int (Int32.ofNat len)), .unset, .unset, .unset] [.int (Int32.ofNat len)])) rfl (hb hbytes d1) (rest := []) rfl (Nat.le_refl _) (by show 0 + len ≤ len; omega)
  rw [hh0] at ba3 st3
  have kp3 : XT.Kept s T3 := (XT.Kept.of_eq hh0).push bh3
  have hA3 := hA.keep X3.warmed.alike (kp3 _ _ hA.1.1)
  have hne : b ≠ s.heap.size := hA.1.ne
  have c4 : Steps p.tables e below (s₁.setTop (entryFrame m #[.ref b, .int (Int32.ofNat o), .int (Int32.ofNat len)] 6)) (T3.setTop (mkF m 3 #[.val (.ref b), .val (.int (Int32.ofNat o)), .val (.int (Int32.ofNat len)), .unset, .unset, .unset] [.ref s.heap.size])) := c2.trans (st3 _ (Steps.refl _))
  have c5 : Steps p.tables e below (s₁.setTop (entryFrame m #[.ref b, .int (Int32.ofNat o), .int (Int32.ofNat len)] 6)) (T3.setTop (mkF m 9 #[.val (.ref b), .val (.int (Int32.ofNat o)), .val (.int (Int32.ofNat len)), .val (.ref s.heap.size), .unset, .unset] [.int (Int32.ofNat len), .int 0, .ref s.heap.size, .int (Int32.ofNat o), .ref b])) := c4.trans (by
    refine XS.astoreN X3.here hexec rfl (hb hbytes d3) rfl rfl rfl ?_
    refine XS.aloadN X3.here hexec rfl (hb hbytes d4) rfl rfl ?_
    refine XS.iloadN X3.here hexec rfl (hb hbytes d5) rfl ?_
    refine XS.aloadN X3.here hexec rfl (hb hbytes d6) rfl rfl ?_
    refine iconstV X3.here hexec rfl 0 (hb hbytes d7) (by decide) ?_
    refine XS.iloadN X3.here hexec rfl (hb hbytes d8) rfl ?_
    exact Steps.refl _)
  obtain ⟨v6, T6, X6, E6, g6⟩ := X3.callS hexec (Cmp5.law l b A s.heap.size B3 o 0 len) hown (wks W (staticW U16 115 Cmp5.yN)) (wk W Cmp5.tab) (W := 0) (Nat.le_of_ble_eq_true rfl) (Nat.le_of_ble_eq_true rfl) (Nat.le_refl _) (by show 0 + len + 0 ≤ len; omega) (g := (mkF m 9 #[.val (.ref b), .val (.int (Int32.ofNat o)), .val (.int (Int32.ofNat len)), .val (.ref s.heap.size), .unset, .unset] [.int (Int32.ofNat len), .int (Int32.ofNat 0), .ref s.heap.size, .int (Int32.ofNat o), .ref b])) rfl (by rw [hml]; rfl) c5 (argsL := [.ref b, .int (Int32.ofNat o), .ref s.heap.size, .int (Int32.ofNat 0), .int (Int32.ofNat len)]) (rest := []) rfl rfl (by show 2 * 0 + 0 ≤ _; decide) (hb hbytes d9) (⟨rfl, hA3, ba3, hne, l1, by rw [bs3]; simp, hp⟩)
  obtain ⟨rfl, B6, p6, f6⟩ := E6
  have c7 : Steps p.tables e below (s₁.setTop (entryFrame m #[.ref b, .int (Int32.ofNat o), .int (Int32.ofNat len)] 6)) (T6.setTop (mkF m 12 #[.val (.ref b), .val (.int (Int32.ofNat o)), .val (.int (Int32.ofNat len)), .val (.ref s.heap.size), .unset, .unset] [.int (Int32.ofNat len)])) := g6
  have c8 : Steps p.tables e below (s₁.setTop (entryFrame m #[.ref b, .int (Int32.ofNat o), .int (Int32.ofNat len)] 6)) (T6.setTop (mkF m 58 #[.val (.ref b), .val (.int (Int32.ofNat o)), .val (.int (Int32.ofNat len)), .val (.ref s.heap.size), .val (.int (Int32.ofNat len)), .unset] [.ref s.heap.size])) := c7.trans (by
    refine XS.istore X6.here hexec rfl (hb hbytes d12) rfl rfl ?_
    refine XS.iload X6.here hexec rfl (hb hbytes d14) rfl ?_
    refine XS.iloadN X6.here hexec rfl (hb hbytes d16) rfl ?_
    refine XS.icmpYes X6.here hexec rfl (pc0 := 17) rfl (hb hbytes d17) rfl (ii_eq_t rfl) (by decide) rfl ?_
    refine XS.aloadN X6.here hexec rfl (hb hbytes d57) rfl rfl ?_
    exact Steps.refl _)
  have X8 := X6.wide (L' := []) (cells' := 1) (slots' := len) (fun x hx hlt => by
    simp only [List.nil_append, copyLocs, List.mem_map, List.mem_range] at hx
    obtain ⟨i, -, rfl⟩ := hx
    exact absurd hlt (Nat.lt_irrefl _)) (Nat.le_refl _) (by omega)
  exact ⟨T6, some (.ref s.heap.size), _, _, _, X8, rfl, rfl, rfl, (fun h => by cases h), ⟨⟨rfl, B6, ba3.like (X3.warmed.alike.symm.trans X6.warmed.alike) p6.1 f6.1 f6.2.1 f6.2.2.1, f6.2.1.trans bv3, by rw [X6.warmed.alike.findClass, f6.1]; exact bf3, by rw [f6.2.2.1, bs3]; simp, fun j hj => by rw [f6.2.2.2 j, if_pos (by omega)]; rfl, kp3.put p6 (Nat.le_refl _)⟩, by rw [p6.2.2, bh3, hh0]; simp⟩, fun fs hl => c8.trans (X8.areturnOut hexec rfl hret rfl (hb hbytes d58) hl)⟩
end Cmp3
namespace CodL
def yN : MethodName := ⟨"java/lang/StringUTF16", "coderFromArrayLen", "([BI)B"⟩
abbrev yB : ByteArray := jdk_52_method_15_code
theorem d0 : decode yB 0 = .ok (.iload_n 1, 1) := by decide +kernel
theorem d1 : decode yB 1 = .ok (.aload_n 0, 1) := by decide +kernel
theorem d2 : decode yB 2 = .ok (.arraylength, 1) := by decide +kernel
theorem d3 : decode yB 3 = .ok (.isub, 1) := by decide +kernel
theorem d4 : decode yB 4 = .ok (.bipush 31, 2) := by decide +kernel
theorem d6 : decode yB 6 = .ok (.iushr, 1) := by decide +kernel
theorem d7 : decode yB 7 = .ok (.i2b, 1) := by decide +kernel
theorem d8 : decode yB 8 = .ok (.ireturn, 1) := by decide +kernel
def site : List Cond := []
def tab : Cond := tabOf yN yB 2 (some .byte) site
def P (d : Addr) (B : Cell) (args : Array Value) (s : State) : Prop := args = #[.ref d, .int (Int32.ofNat B.slots.size)] ∧ Arr .byte d B s
def E (r : Option Value) (s u : State) : Prop := XT.PureE (some (.int 0)) r s u
/-- an array as long as the number of chars: LATIN1 -/
theorem law (l : Launch) (d : Addr) (B : Cell) : Law l yN 2 2 0 0 yB 2 (some .byte) site (P d B) E [] 0 0 := by
  refine Law.of_walk (plainFor_of_name (by decide +kernel)) (by decide +kernel) (by decide +kernel) (by decide) (fun _ _ h => by rw [h.1]; rfl) (fun _ U U' hal hh h => ⟨h.1, h.2.mv hal hh⟩) (fun r U U' V V' h1 hal h2 h => XT.PureE.mv r U U' V V' h1 hal h2 h) ?_
  intro p e s m args below meth c s₁ X0 hexec hbytes hml hret hlk hnm hown hh0 W hP
  obtain ⟨rfl, hB⟩ := hP
  have hB0 := hB.mv X0.warmed.alike hh0
  have c1 : Steps p.tables e below (s₁.setTop (entryFrame m #[.ref d, .int (Int32.ofNat B.slots.size)] 2)) (s₁.setTop (mkF m 0 #[.val (.ref d), .val (.int (Int32.ofNat B.slots.size))] [])) := entry rfl
  have c2 : Steps p.tables e below (s₁.setTop (entryFrame m #[.ref d, .int (Int32.ofNat B.slots.size)] 2)) (s₁.setTop (mkF m 2 #[.val (.ref d), .val (.int (Int32.ofNat B.slots.size))] [.ref d, .int (Int32.ofNat B.slots.size)])) := c1.trans (by
    refine XS.iloadN X0.here hexec rfl (hb hbytes d0) rfl ?_
    refine XS.aloadN X0.here hexec rfl (hb hbytes d1) rfl rfl ?_
    exact Steps.refl _)
  have c3 : Steps p.tables e below (s₁.setTop (entryFrame m #[.ref d, .int (Int32.ofNat B.slots.size)] 2)) (s₁.setTop (mkF m 8 #[.val (.ref d), .val (.int (Int32.ofNat B.slots.size))] [.int (lo8 (ushr (Int32.ofNat B.slots.size - Int32.ofNat B.slots.size) 31))])) := c2.trans (by
    refine X0.alen hexec hB0 rfl rfl (hb hbytes d2) ?_
    refine XS.isub X0.here hexec rfl (hb hbytes d3) rfl ?_
    refine bipushV X0.here hexec rfl 31 (hb hbytes d4) (by decide) ?_
    refine iushr X0.here hexec rfl (hb hbytes d6) rfl ?_
    refine i2b X0.here hexec rfl (hb hbytes d7) rfl ?_
    exact Steps.refl _)
  have e0 : lo8 (ushr (Int32.ofNat B.slots.size - Int32.ofNat B.slots.size) 31) = 0 := by rw [Int32.sub_self]; decide
  rw [e0] at c3
  exact ⟨s₁, some (.int 0), _, _, _, X0, rfl, rfl, rfl, (fun h => by cases h), ⟨rfl, hh0⟩, fun fs hl => c3.trans (X0.ireturnOut hexec hret rfl (Or.inr (Or.inr (Or.inl rfl))) (hb hbytes d8) hl)⟩
end CodL
/-- the String at a is Latin-1 over a new byte[] (the heap's one new cell): the low bytes of the len chars of A from o on; every cell but a is kept -/
def Got (a : Addr) (D : Cell) (fV fC : Field) (A : Cell) (o len : Nat) (r : Option Value) (s u : State) : Prop := r = none ∧ ∃ D' V : Cell, Blank "java/lang/String" a D' u ∧ Same D D' [fV.slot, fC.slot] ∧ D'.slots[fV.slot]? = some (.ref s.heap.size) ∧ D'.slots[fC.slot]? = some (.int 0) ∧ Arr .byte s.heap.size V u ∧ V.vm = .none ∧ u.vm.findClass "[B" = some V.cls ∧ V.slots.size = len ∧ (∀ j, j < len → V.slots[j]? = some (.int (lo8 (cv A (o + j))))) ∧ (∀ (y : Addr) (c : Cell), y ≠ a → s.heap[y]? = some c → u.heap[y]? = some c) ∧ u.heap.size = s.heap.size + 1
theorem Got.mv {a : Addr} {D A : Cell} {fV fC : Field} {o len : Nat} : ∀ r (U U' V V' : State), U'.heap = U.heap → V.vm.Alike V'.vm → V'.heap = V.heap → Got a D fV fC A o len r U V → Got a D fV fC A o len r U' V' :=
  fun r U U' V V' h1 hal h2 ⟨e0, D', X, a1, a2, a3, a4, a5, a6, a7, a8, a9, a10, a11⟩ => ⟨e0, D', X, a1.mv hal h2, a2, by rw [h1]; exact a3, a4, by rw [h1]; exact a5.mv hal h2, a6, by rw [hal.findClass]; exact a7, a8, a9, by rw [h1, h2]; exact a10, by rw [h1, h2]; exact a11⟩
namespace New4
def yN : MethodName := ⟨"java/lang/String", "<init>", "([CIILjava/lang/Void;)V"⟩
abbrev yB : ByteArray := jdk_42_method_149_code
theorem d0 : decode yB 0 = .ok (.aload_n 0, 1) := by decide +kernel
theorem d1 : decode yB 1 = .ok (.invokespecial 1, 3) := by decide +kernel
theorem d4 : decode yB 4 = .ok (.iload_n 3, 1) := by decide +kernel
theorem d5 : decode yB 5 = .ok (.ifCond (.ne) 22, 3) := by decide +kernel
theorem d27 : decode yB 27 = .ok (.getstatic 38, 3) := by decide +kernel
theorem d30 : decode yB 30 = .ok (.ifCond (.eq) 28, 3) := by decide +kernel
theorem d33 : decode yB 33 = .ok (.aload_n 1, 1) := by decide +kernel
theorem d34 : decode yB 34 = .ok (.iload_n 2, 1) := by decide +kernel
theorem d35 : decode yB 35 = .ok (.iload_n 3, 1) := by decide +kernel
theorem d36 : decode yB 36 = .ok (.invokestatic 177, 3) := by decide +kernel
theorem d39 : decode yB 39 = .ok (.astore 5, 2) := by decide +kernel
theorem d41 : decode yB 41 = .ok (.aload_n 0, 1) := by decide +kernel
theorem d42 : decode yB 42 = .ok (.aload 5, 2) := by decide +kernel
theorem d44 : decode yB 44 = .ok (.iload_n 3, 1) := by decide +kernel
theorem d45 : decode yB 45 = .ok (.invokestatic 47, 3) := by decide +kernel
theorem d48 : decode yB 48 = .ok (.putfield 15, 3) := by decide +kernel
theorem d51 : decode yB 51 = .ok (.aload_n 0, 1) := by decide +kernel
theorem d52 : decode yB 52 = .ok (.aload 5, 2) := by decide +kernel
theorem d54 : decode yB 54 = .ok (.putfield 9, 3) := by decide +kernel
theorem d57 : decode yB 57 = .ok (.return_, 1) := by decide +kernel
def site : List Cond := [.fieldLink "java/lang/String" 38 "java/lang/String" "COMPACT_STRINGS" "Z", Cmp3.tab, CodL.tab, .laysFinal "java/lang/String" "java/lang/String" "value" "[B", .fieldLink "java/lang/String" 9 "java/lang/String" "value" "[B", .laysFinal "java/lang/String" "java/lang/String" "coder" "B", .fieldLink "java/lang/String" 15 "java/lang/String" "coder" "B"] ++ objW "java/lang/String" 1 ++ staticW "java/lang/String" 177 Cmp3.yN ++ staticW "java/lang/String" 47 CodL.yN
def tab : Cond := tabOf yN yB 6 none site
def P (a : Addr) (D : Cell) (fV fC : Field) (b : Addr) (A : Cell) (z : Int32) (o len : Nat) (args : Array Value) (s : State) : Prop := args = #[.ref a, .ref b, .int (Int32.ofNat o), .int (Int32.ofNat len), .null] ∧ Blank "java/lang/String" a D s ∧ Found "java/lang/String" "value" "[B" fV s ∧ Found "java/lang/String" "coder" "B" fC s ∧ Ch b A s ∧ StaticIs s "java/lang/String" "COMPACT_STRINGS" "Z" (.int z) ∧ ¬ z = 0 ∧ 0 < len ∧ o + len ≤ A.slots.size ∧ len ≤ 536870912 ∧ ∀ i, i < len → ¬ 255 < cv A (o + i)
def E (a : Addr) (D : Cell) (fV fC : Field) (A : Cell) (o len : Nat) (r : Option Value) (s u : State) : Prop := Got a D fV fC A o len r s u
/-- len > 0, no char of the range above 255: a Latin-1 String of their low bytes -/
theorem law (l : Launch) (a : Addr) (D : Cell) (fV fC : Field) (b : Addr) (A : Cell) (z : Int32) (o len : Nat) : Law l yN 5 4 2 35 yB 6 none site (P a D fV fC b A z o len) (E a D fV fC A o len) [⟨a, fC.slot⟩, ⟨a, fV.slot⟩] 1 len := by
  refine Law.of_walk (plainFor_of_name (by decide +kernel)) (by decide +kernel) (by decide +kernel) (by decide) (fun _ _ h => by rw [h.1]; rfl) (fun _ U U' hal hh h => ⟨h.1, h.2.1.mv hal hh, h.2.2.1.al hal, h.2.2.2.1.al hal, h.2.2.2.2.1.mv hal hh, h.2.2.2.2.2.1.there hal hh, h.2.2.2.2.2.2⟩) (fun r U U' V V' h1 hal h2 h => Got.mv r U U' V V' h1 hal h2 h) ?_
  intro p e s m args below meth c s₁ X0 hexec hbytes hml hret hlk hnm hown hh0 W hP
  obtain ⟨rfl, hB, f1, f2, hA, s1, hz, l0, l1, l2, hp⟩ := hP
  have a31 := hA.1.2.2.2
  have c1 : Steps p.tables e below (s₁.setTop (entryFrame m #[.ref a, .ref b, .int (Int32.ofNat o), .int (Int32.ofNat len), .null] 6)) (s₁.setTop (mkF m 0 #[.val (.ref a), .val (.ref b), .val (.int (Int32.ofNat o)), .val (.int (Int32.ofNat len)), .val .null, .unset] [])) := entry rfl
  have c2 : Steps p.tables e below (s₁.setTop (entryFrame m #[.ref a, .ref b, .int (Int32.ofNat o), .int (Int32.ofNat len), .null] 6)) (s₁.setTop (mkF m 1 #[.val (.ref a), .val (.ref b), .val (.int (Int32.ofNat o)), .val (.int (Int32.ofNat len)), .val .null, .unset] [.ref a])) := c1.trans (by
    refine XS.aloadN X0.here hexec rfl (hb hbytes d0) rfl rfl ?_
    exact Steps.refl _)
  obtain ⟨T3, X3, q3, st3⟩ := X0.oinit hexec hown (wks W (objW "java/lang/String" 1)) (g := (mkF m 1 #[.val (.ref a), .val (.ref b), .val (.int (Int32.ofNat o)), .val (.int (Int32.ofNat len)), .val .null, .unset] [.ref a])) rfl (by rw [hml]; rfl) (rest := []) rfl (hb hbytes d1) (W := 0) (by show 2 * 0 + 0 ≤ _; decide) (Nat.le_of_ble_eq_true rfl) (Nat.le_of_ble_eq_true rfl)
  have hh3 := q3.trans hh0
  have c4 : Steps p.tables e below (s₁.setTop (entryFrame m #[.ref a, .ref b, .int (Int32.ofNat o), .int (Int32.ofNat len), .null] 6)) (T3.setTop (mkF m 27 #[.val (.ref a), .val (.ref b), .val (.int (Int32.ofNat o)), .val (.int (Int32.ofNat len)), .val .null, .unset] [])) := (c2.trans (st3 _ (Steps.refl _))).trans (by
    refine XS.iloadN X3.here hexec rfl (hb hbytes d4) rfl ?_
    refine XS.ifYes X3.here hexec rfl (pc0 := 5) rfl (hb hbytes d5) rfl (i0_ne_t (nz32 (by omega) l0)) (by decide) rfl ?_
    exact Steps.refl _)
  obtain ⟨T5, X5, q5, st5⟩ := X3.sget hexec hown (wk W (.fieldLink "java/lang/String" 38 "java/lang/String" "COMPACT_STRINGS" "Z")) s1 (fun _ _ h => by rw [hh3]; exact h) (g := (mkF m 27 #[.val (.ref a), .val (.ref b), .val (.int (Int32.ofNat o)), .val (.int (Int32.ofNat len)), .val .null, .unset] [])) rfl (hb hbytes d27)
  have hh5 := q5.trans hh3
  have c6 : Steps p.tables e below (s₁.setTop (entryFrame m #[.ref a, .ref b, .int (Int32.ofNat o), .int (Int32.ofNat len), .null] 6)) (T5.setTop (mkF m 30 #[.val (.ref a), .val (.ref b), .val (.int (Int32.ofNat o)), .val (.int (Int32.ofNat len)), .val .null, .unset] [.int z])) := c4.trans (st5 _ (Steps.refl _))
  have c7 : Steps p.tables e below (s₁.setTop (entryFrame m #[.ref a, .ref b, .int (Int32.ofNat o), .int (Int32.ofNat len), .null] 6)) (T5.setTop (mkF m 36 #[.val (.ref a), .val (.ref b), .val (.int (Int32.ofNat o)), .val (.int (Int32.ofNat len)), .val .null, .unset] [.int (Int32.ofNat len), .int (Int32.ofNat o), .ref b])) := c6.trans (by
    refine XS.ifNo X5.here hexec rfl (hb hbytes d30) rfl (i0_eq_f hz) ?_
    refine XS.aloadN X5.here hexec rfl (hb hbytes d33) rfl rfl ?_
    refine XS.iloadN X5.here hexec rfl (hb hbytes d34) rfl ?_
    refine XS.iloadN X5.here hexec rfl (hb hbytes d35) rfl ?_
    exact Steps.refl _)
  obtain ⟨v8, T8, X8, E8, g8⟩ := X5.callS hexec (Cmp3.law l b A o len) hown (wks W (staticW "java/lang/String" 177 Cmp3.yN)) (wk W Cmp3.tab) (W := 0) (Nat.le_of_ble_eq_true rfl) (Nat.le_of_ble_eq_true rfl) (Nat.le_refl _) (by show 0 + len ≤ len; omega) (g := (mkF m 36 #[.val (.ref a), .val (.ref b), .val (.int (Int32.ofNat o)), .val (.int (Int32.ofNat len)), .val .null, .unset] [.int (Int32.ofNat len), .int (Int32.ofNat o), .ref b])) rfl (by rw [hml]; rfl) c7 (argsL := [.ref b, .int (Int32.ofNat o), .int (Int32.ofNat len)]) (rest := []) rfl rfl (by show 2 * 0 + 0 ≤ _; decide) (hb hbytes d36) (⟨rfl, hA.mv X5.warmed.alike hh5, l1, l2, hp⟩)
  obtain ⟨e8, z8⟩ := E8
  obtain ⟨rfl, N, n1, n2, n3, n4, n5, n6⟩ := NewArr.mv _ T5 s _ _ hh5.symm (Vm.Alike.refl _) rfl e8
  rw [hh5] at z8
  have hB1 := hB.keep X8.warmed.alike (n6 _ _ hB.1)
  have hne : s.heap.size ≠ a := (Nat.ne_of_lt (Array.getElem?_eq_some_iff.mp hB.1).1).symm
  have c9 : Steps p.tables e below (s₁.setTop (entryFrame m #[.ref a, .ref b, .int (Int32.ofNat o), .int (Int32.ofNat len), .null] 6)) (T8.setTop (mkF m 39 #[.val (.ref a), .val (.ref b), .val (.int (Int32.ofNat o)), .val (.int (Int32.ofNat len)), .val .null, .unset] [.ref s.heap.size])) := g8
  have c10 : Steps p.tables e below (s₁.setTop (entryFrame m #[.ref a, .ref b, .int (Int32.ofNat o), .int (Int32.ofNat len), .null] 6)) (T8.setTop (mkF m 45 #[.val (.ref a), .val (.ref b), .val (.int (Int32.ofNat o)), .val (.int (Int32.ofNat len)), .val .null, .val (.ref s.heap.size)] [.int (Int32.ofNat N.slots.size), .ref s.heap.size, .ref a])) := by
    have hc : Steps p.tables e below (s₁.setTop (entryFrame m #[.ref a, .ref b, .int (Int32.ofNat o), .int (Int32.ofNat len), .null] 6)) (T8.setTop (mkF m 45 #[.val (.ref a), .val (.ref b), .val (.int (Int32.ofNat o)), .val (.int (Int32.ofNat len)), .val .null, .val (.ref s.heap.size)] [.int (Int32.ofNat len), .ref s.heap.size, .ref a])) := c9.trans (by
      refine XS.astore X8.here hexec rfl (hb hbytes d39) rfl rfl rfl ?_
      refine XS.aloadN X8.here hexec rfl (hb hbytes d41) rfl rfl ?_
      refine XS.aload X8.here hexec rfl (hb hbytes d42) rfl rfl ?_
      refine XS.iloadN X8.here hexec rfl (hb hbytes d44) rfl ?_
      exact Steps.refl _)
    rw [n4]; exact hc
  obtain ⟨v11, T11, X11, E11, g11⟩ := X8.callS hexec (CodL.law l s.heap.size N) hown (wks W (staticW "java/lang/String" 47 CodL.yN)) (wk W CodL.tab) (W := 1) (Nat.le_of_ble_eq_true rfl) (Nat.le_of_ble_eq_true rfl) (Nat.le_refl _) (by show 0 + len + 0 ≤ len; omega) (g := (mkF m 45 #[.val (.ref a), .val (.ref b), .val (.int (Int32.ofNat o)), .val (.int (Int32.ofNat len)), .val .null, .val (.ref s.heap.size)] [.int (Int32.ofNat N.slots.size), .ref s.heap.size, .ref a])) rfl (by rw [hml]; rfl) c10 (argsL := [.ref s.heap.size, .int (Int32.ofNat N.slots.size)]) (rest := [.ref a]) rfl rfl (by show 2 * 0 + (1 + 0) ≤ _; decide) (hb hbytes d45) (⟨rfl, n1⟩)
  obtain ⟨rfl, q11⟩ := E11
  have hB11 := hB1.mv (X8.warmed.alike.symm.trans X11.warmed.alike) q11
  have c12 : Steps p.tables e below (s₁.setTop (entryFrame m #[.ref a, .ref b, .int (Int32.ofNat o), .int (Int32.ofNat len), .null] 6)) (T11.setTop (mkF m 48 #[.val (.ref a), .val (.ref b), .val (.int (Int32.ofNat o)), .val (.int (Int32.ofNat len)), .val .null, .val (.ref s.heap.size)] [.int 0, .ref a])) := g11
  obtain ⟨T13, X13, p13, bl13, sl13, st13⟩ := X11.finit hexec hown (wk W (.fieldLink "java/lang/String" 15 "java/lang/String" "coder" "B")) (Or.inr ⟨_, (wk W (.laysFinal "java/lang/String" "java/lang/String" "coder" "B"))⟩) (Or.inl ⟨rfl, hnm⟩) f2 (Or.inl rfl) hB11 (t := .byte) (by decide +kernel) rfl (g := (mkF m 48 #[.val (.ref a), .val (.ref b), .val (.int (Int32.ofNat o)), .val (.int (Int32.ofNat len)), .val .null, .val (.ref s.heap.size)] [.int 0, .ref a])) rfl (rest := []) rfl (hb hbytes d48)
  have c14 : Steps p.tables e below (s₁.setTop (entryFrame m #[.ref a, .ref b, .int (Int32.ofNat o), .int (Int32.ofNat len), .null] 6)) (T13.setTop (mkF m 54 #[.val (.ref a), .val (.ref b), .val (.int (Int32.ofNat o)), .val (.int (Int32.ofNat len)), .val .null, .val (.ref s.heap.size)] [.ref s.heap.size, .ref a])) := (c12.trans (st13 _ (Steps.refl _))).trans (by
    refine XS.aloadN X13.here hexec rfl (hb hbytes d51) rfl rfl ?_
    refine XS.aload X13.here hexec rfl (hb hbytes d52) rfl rfl ?_
    exact Steps.refl _)
  obtain ⟨T15, X15, p15, bl15, sl15, st15⟩ := X13.finit hexec hown (wk W (.fieldLink "java/lang/String" 9 "java/lang/String" "value" "[B")) (Or.inr ⟨_, (wk W (.laysFinal "java/lang/String" "java/lang/String" "value" "[B"))⟩) (Or.inl ⟨rfl, hnm⟩) f1 (Or.inl rfl) bl13 (t := (.array .byte)) (by decide +kernel) rfl (g := (mkF m 54 #[.val (.ref a), .val (.ref b), .val (.int (Int32.ofNat o)), .val (.int (Int32.ofNat len)), .val .null, .val (.ref s.heap.size)] [.ref s.heap.size, .ref a])) rfl (rest := []) rfl (hb hbytes d54)
  have c16 : Steps p.tables e below (s₁.setTop (entryFrame m #[.ref a, .ref b, .int (Int32.ofNat o), .int (Int32.ofNat len), .null] 6)) (T15.setTop (mkF m 57 #[.val (.ref a), .val (.ref b), .val (.int (Int32.ofNat o)), .val (.int (Int32.ofNat len)), .val .null, .val (.ref s.heap.size)] [])) := c14.trans (st15 _ (Steps.refl _))
  have ap := apart (Or.inr ⟨_, (wk W (.laysFinal "java/lang/String" "java/lang/String" "value" "[B"))⟩) (Or.inr ⟨_, (wk W (.laysFinal "java/lang/String" "java/lang/String" "coder" "B"))⟩) f1 f2 (t₁ := .array .byte) (t₂ := .byte) (by decide +kernel) (by decide +kernel) (by decide)
  have al := X8.warmed.alike.symm.trans X15.warmed.alike
  have n7 : T11.heap[s.heap.size]? = some N := by rw [q11]; exact n1.1
  exact ⟨T15, none, _, _, _, X15, by simp, rfl, by omega, (fun _ => rfl), ⟨rfl, _, N, bl15, ((Same.refl D _).set _ (by simp)).set _ (by simp), sl15, (Cell.slots_setSlot_ne _ ap).trans sl13, n1.keep al (p15.other hne (p13.other hne n7)), n2, by rw [al.findClass]; exact n3, n4, n5, fun y c h1 h2 => p15.other h1 (p13.other h1 (by rw [q11]; exact n6 y c h2)), by rw [p15.2.2, p13.2.2, q11]; exact z8⟩, fun fs hl => c16.trans (X15.returnOut hexec hret (hb hbytes d57) hl)⟩
end New4
namespace New1
def yN : MethodName := ⟨"java/lang/String", "<init>", "([C)V"⟩
abbrev yB : ByteArray := jdk_42_method_3_code
theorem d0 : decode yB 0 = .ok (.aload_n 0, 1) := by decide +kernel
theorem d1 : decode yB 1 = .ok (.aload_n 1, 1) := by decide +kernel
theorem d2 : decode yB 2 = .ok (.iconst 0, 1) := by decide +kernel
theorem d3 : decode yB 3 = .ok (.aload_n 1, 1) := by decide +kernel
theorem d4 : decode yB 4 = .ok (.arraylength, 1) := by decide +kernel
theorem d5 : decode yB 5 = .ok (.aconst_null, 1) := by decide +kernel
theorem d6 : decode yB 6 = .ok (.invokespecial 27, 3) := by decide +kernel
theorem d9 : decode yB 9 = .ok (.return_, 1) := by decide +kernel
def site : List Cond := [New4.tab] ++ initW "java/lang/String" 27 New4.yN
def tab : Cond := tabOf yN yB 2 none site
def P (a : Addr) (D : Cell) (fV fC : Field) (b : Addr) (A : Cell) (z : Int32) (args : Array Value) (s : State) : Prop := args = #[.ref a, .ref b] ∧ Blank "java/lang/String" a D s ∧ Found "java/lang/String" "value" "[B" fV s ∧ Found "java/lang/String" "coder" "B" fC s ∧ Ch b A s ∧ StaticIs s "java/lang/String" "COMPACT_STRINGS" "Z" (.int z) ∧ ¬ z = 0 ∧ 0 < A.slots.size ∧ A.slots.size ≤ 536870912 ∧ ∀ i, i < A.slots.size → ¬ 255 < cv A i
def E (a : Addr) (D : Cell) (fV fC : Field) (A : Cell) (r : Option Value) (s u : State) : Prop := Got a D fV fC A 0 A.slots.size r s u
/-- new String(chars), not empty, no char above 255: a Latin-1 String of their low bytes -/
theorem law (l : Launch) (a : Addr) (D : Cell) (fV fC : Field) (b : Addr) (A : Cell) (z : Int32) : Law l yN 2 1 3 52 yB 2 none site (P a D fV fC b A z) (E a D fV fC A) [⟨a, fC.slot⟩, ⟨a, fV.slot⟩] 1 A.slots.size := by
  refine Law.of_walk (plainFor_of_name (by decide +kernel)) (by decide +kernel) (by decide +kernel) (by decide) (fun _ _ h => by rw [h.1]; rfl) (fun _ U U' hal hh h => ⟨h.1, h.2.1.mv hal hh, h.2.2.1.al hal, h.2.2.2.1.al hal, h.2.2.2.2.1.mv hal hh, h.2.2.2.2.2.1.there hal hh, h.2.2.2.2.2.2⟩) (fun r U U' V V' h1 hal h2 h => Got.mv r U U' V V' h1 hal h2 h) ?_
  intro p e s m args below meth c s₁ X0 hexec hbytes hml hret hlk hnm hown hh0 W hP
  obtain ⟨rfl, hB, f1, f2, hA, s1, hz, l0, l2, hp⟩ := hP
  have c1 : Steps p.tables e below (s₁.setTop (entryFrame m #[.ref a, .ref b] 2)) (s₁.setTop (mkF m 0 #[.val (.ref a), .val (.ref b)] [])) := entry rfl
  have c2 : Steps p.tables e below (s₁.setTop (entryFrame m #[.ref a, .ref b] 2)) (s₁.setTop (mkF m 6 #[.val (.ref a), .val (.ref b)] [.null, .int (Int32.ofNat A.slots.size), .int 0, .ref b, .ref a])) := c1.trans (by
    refine XS.aloadN X0.here hexec rfl (hb hbytes d0) rfl rfl ?_
    refine XS.aloadN X0.here hexec rfl (hb hbytes d1) rfl rfl ?_
    refine iconstV X0.here hexec rfl 0 (hb hbytes d2) (by decide) ?_
    refine XS.aloadN X0.here hexec rfl (hb hbytes d3) rfl rfl ?_
    refine X0.alen hexec (hA.1.mv X0.warmed.alike hh0) rfl rfl (hb hbytes d4) ?_
    refine XS.aconstNull X0.here hexec rfl (hb hbytes d5) ?_
    exact Steps.refl _)
  obtain ⟨v3, T3, X3, E3, g3⟩ := X0.callN hexec (New4.law l a D fV fC b A z 0 A.slots.size) rfl hown (wks W (initW "java/lang/String" 27 New4.yN)) (W New4.tab (by simp only [site, List.mem_cons, List.mem_append, true_or, or_true])) (W := 0) (Nat.le_of_ble_eq_true rfl) (Nat.le_of_ble_eq_true rfl) (Nat.le_refl _) (by show 0 + A.slots.size ≤ A.slots.size; omega) (g := (mkF m 6 #[.val (.ref a), .val (.ref b)] [.null, .int (Int32.ofNat A.slots.size), .int (Int32.ofNat 0), .ref b, .ref a])) rfl (by rw [hml]; rfl) c2 (argsL := [.ref b, .int (Int32.ofNat 0), .int (Int32.ofNat A.slots.size), .null]) (rest := []) rfl rfl (by show 2 * 0 + 0 ≤ _; decide) (hb hbytes d6) (⟨rfl, hB.mv X0.warmed.alike hh0, f1.al X0.warmed.alike, f2.al X0.warmed.alike, hA.mv X0.warmed.alike hh0, s1.there X0.warmed.alike hh0, hz, l0, by omega, l2, fun i hi => by rw [Nat.zero_add]; exact hp i hi⟩)
  have e0 := Got.mv _ s₁ s _ _ hh0.symm (Vm.Alike.refl _) rfl E3
  obtain rfl := e0.1
  have c4 : Steps p.tables e below (s₁.setTop (entryFrame m #[.ref a, .ref b] 2)) (T3.setTop (mkF m 9 #[.val (.ref a), .val (.ref b)] [])) := g3
  exact ⟨T3, none, _, _, _, X3, by simp, rfl, by omega, (fun _ => rfl), e0, fun fs hl => c4.trans (X3.returnOut hexec hret (hb hbytes d9) hl)⟩
theorem pays {l : Launch} {R : Room} {p : Program} {e : Env} {below : List Frame} {s : State} {sargs : Array Value} {len W : Nat} (a : Addr) (D : Cell) (fV fC : Field) (b : Addr) (A : Cell) (z : Int32) (htab : tab.before sargs s = true) (hfr : 4 ≤ R.frames) (hlo : W + 65 ≤ R.locals) :
    Back l R p e below s sargs yN len W (fun A₁ a₁ => A₁.cells + 1 ≤ R.cells ∧ A₁.slots + A.slots.size ≤ R.slots ∧ P a D fV fC b A z a₁ A₁.U) (fun A₁ _ v₁ B₁ => E a D fV fC A v₁ A₁.U B₁.U ∧ B₁.locs = A₁.locs ++ [⟨a, fC.slot⟩, ⟨a, fV.slot⟩] ∧ B₁.cells = A₁.cells + 1 ∧ B₁.slots = A₁.slots + A.slots.size) :=
  (law l a D fV fC b A z).pays htab hfr (by omega)
end New1
end StrChars
namespace StrChars.Road
open Jvm Sem ClassFile Op Lib Jvm.Stand Jvm.Free Jvm.Free.XT
open Jvm.Lib.Cold (StaticIs)
abbrev ST : String := "java/lang/String"
/-- every table word that New1's law asks, flat -/
abbrev words : List Jvm.Cond := [.code New1.yN New1.yB 2 none, .initialized ST, .methodLink ST 27 New4.yN, .instanceMethod New4.yN,
  .code New4.yN New4.yB 6 none, .fieldLink ST 38 ST "COMPACT_STRINGS" "Z", .laysFinal ST ST "value" "[B", .fieldLink ST 9 ST "value" "[B", .laysFinal ST ST "coder" "B", .fieldLink ST 15 ST "coder" "B",
  .methodLink ST 1 Lib.objectInit, .instanceMethod Lib.objectInit, .code Lib.objectInit ⟨#[0xb1]⟩ 1 none, .methodLink ST 177 Cmp3.yN, .static Cmp3.yN, .methodLink ST 47 CodL.yN, .static CodL.yN,
  .code Cmp3.yN Cmp3.yB 6 (some (.array .byte)), .initialized U16, .arrayClass .byte, .methodLink U16 115 Cmp5.yN, .static Cmp5.yN, .code Cmp5.yN Cmp5.yB 7 (some .int), .code CodL.yN CodL.yB 2 (some .byte)]
theorem tab_of {a : Array Value} {s : State} (h : ∀ w ∈ words, w.before a s = true) : New1.tab.before a s = true := by
  have h5 : Cmp5.tab.before a s = true := unparts (wk h (.code Cmp5.yN Cmp5.yB 7 (some .int))) (wks h (.initialized Cmp5.yN.cls :: Cmp5.site))
  have hc : CodL.tab.before a s = true := unparts (wk h (.code CodL.yN CodL.yB 2 (some .byte))) (wks h (.initialized CodL.yN.cls :: CodL.site))
  have q5 : ∀ w ∈ Cmp5.tab :: words, w.before a s = true := fun w hw => (List.mem_cons.mp hw).elim (fun e => e ▸ h5) (h w)
  have h3 : Cmp3.tab.before a s = true := unparts (wk q5 (.code Cmp3.yN Cmp3.yB 6 (some (.array .byte)))) (wks q5 (.initialized Cmp3.yN.cls :: Cmp3.site))
  have q3 : ∀ w ∈ Cmp3.tab :: CodL.tab :: words, w.before a s = true := fun w hw => (List.mem_cons.mp hw).elim (fun e => e ▸ h3) fun hw => (List.mem_cons.mp hw).elim (fun e => e ▸ hc) (h w)
  have h4 : New4.tab.before a s = true := unparts (wk q3 (.code New4.yN New4.yB 6 none)) (wks q3 (.initialized New4.yN.cls :: New4.site))
  have q4 : ∀ w ∈ New4.tab :: words, w.before a s = true := fun w hw => (List.mem_cons.mp hw).elim (fun e => e ▸ h4) (h w)
  exact unparts (wk q4 (.code New1.yN New1.yB 2 none)) (wks q4 (.initialized New1.yN.cls :: New1.site))
/-- the words ride from the start Z to the walk's own state -/
theorem moved {Z s : State} {a0 args : Array Value} (hZ : Z.Warmed39 s.vm) (hw : ∀ d ∈ words, d.before a0 Z = true) : ∀ d ∈ words, d.before args s = true := fun d hd => by
  have q := hw d hd
  have t : ∀ d ∈ words, d = .arrayClass .byte ∨ (d.onTables && d.keepsFace) = true := by decide +kernel
  rcases t d hd with rfl | t
  · exact RoadKit.mvA hZ q
  · exact RoadKit.mv hZ q t
/-- WHAT COMES BACK, over the tables of the start Z: h the heap at the call, h' behind it -/
def Q (Z : State) (x : Addr) (A : Cell) (h : Heap) (v : Option Value) (h' : Heap) (L : List Loc) : Prop := v = none ∧ (∀ y ∈ L, y.base = x) ∧ RoadKit.Keep h h' [x] ∧ h'.size = h.size + 1 ∧ RoadKit.Exa Z h' x ST ∧ RoadKit.Fld Z h' x ST "value" "[B" (.ref h.size) ∧ RoadKit.Fld Z h' x ST "coder" "B" (.int 0) ∧
  (∃ V : Cell, RoadKit.Arr Z h' h.size V .byte ∧ V.vm = .none ∧ Z.vm.findClass "[B" = some V.cls ∧ V.slots.size = A.slots.size ∧ ∀ j, j < A.slots.size → V.slots[j]? = some (.int (lo8 (cv A j)))) ∧
  ∀ (O n d : String) (w : Value), RoadKit.Fld Z h x O n d w → RoadKit.slotOf Z O n d ≠ RoadKit.slotOf Z ST "value" "[B" → RoadKit.slotOf Z O n d ≠ RoadKit.slotOf Z ST "coder" "B" → RoadKit.Fld Z h' x O n d w
/-- **new String(chars) AT A CALL, IN THE ROAD'S FORM**: for specialBack behind newO: x the fresh String, b the char[] with the cell A -/
theorem back {p : Program} {l : Launch} {e : Env} {R : Room} {s : State} {args : Array Value} {below : List Frame} {len W : Nat} {Z : State} {a0 : Array Value} {h : Heap} (hZ : Z.Warmed39 s.vm) (hw : ∀ d ∈ words, d.before a0 Z = true) {kI : Nat} (wi : (Jvm.Cond.instantiable ST kI).before a0 Z = true)
    {x b : Addr} {A : Cell} {z : Int32} {v0 c0 : Value} (E : RoadKit.Exa Z h x ST) (V : RoadKit.Fld Z h x ST "value" "[B" v0) (C : RoadKit.Fld Z h x ST "coder" "B" c0) (K : RoadKit.Arr Z h b A .char) (hty : Typed .char A) (S : RoadKit.Sta Z h ST "COMPACT_STRINGS" "Z" (.int z)) (hz : ¬ z = 0)
    (l0 : 0 < A.slots.size) (l2 : A.slots.size ≤ 536870912) (hp : ∀ i, i < A.slots.size → ¬ 255 < cv A i) (hfr : 4 ≤ R.frames) (hlo : W + 65 ≤ R.locals) :
    Back l R p e below s args New1.yN len W (fun P a => a = #[.ref x, .ref b] ∧ P.U.heap = h ∧ P.cells + 1 ≤ R.cells ∧ P.slots + A.slots.size ≤ R.slots)
      (fun P _ v B => ∃ L, Q Z x A h v B.U.heap L ∧ B.locs = P.locs ++ L ∧ B.cells = P.cells + 1 ∧ B.slots = P.slots + A.slots.size) := by
  intro m meth c P g ig mk a X hg hsize hdg hW hn hp'
  obtain ⟨rfl, rfl, r1, r2⟩ := hp'
  have al : Z.vm.Alike P.U.vm := hZ.alike.trans X.warmed.alike
  obtain ⟨D, cfV, kV, iV, fV, hD, gV, stV, knV, obV, asV, slV⟩ := id V
  obtain ⟨D', cfC, kC, iC, fC, hD', gC, stC, -, -, asC, slC⟩ := id C
  cases hD.symm.trans hD'
  obtain ⟨D2, kD, e1, e2, e3, e4, e5⟩ := id E
  cases hD.symm.trans e1
  obtain ⟨c2, k2, i1, i2, i3, -⟩ := Cond.instantiable_spec wi
  cases e2.symm.trans i1
  cases e3.symm.trans i2
  obtain ⟨kU, u1, u2⟩ := al.2.2 _ _ e3
  have hB : Blank ST x D P.U := ⟨hD, ⟨knV, fun q hq => by rw [hq] at obV; cases obV⟩, by rw [al.findClass]; exact e2, kU, u1, by rw [u2]; exact i3, by rw [u2]; exact e5 i3⟩
  have F1 : Found ST "value" "[B" fV P.U := ⟨SBG.found_only al ⟨cfV, kV, iV, gV⟩, stV⟩
  have F2 : Found ST "coder" "B" fC P.U := ⟨SBG.found_only al ⟨cfC, kC, iC, gC⟩, stC⟩
  have hA : Ch b A P.U := ⟨⟨K.1, State.isArrayOf_alike al K.2.1, K.2.2, by omega⟩, hty⟩
  have hS : StaticIs P.U ST "COMPACT_STRINGS" "Z" (.int z) := by
    obtain ⟨cfS, iS, kS, fS, st, cS, t1, t2, t3, t4, t5, t6, t7⟩ := S
    exact StaticIs.there (s := { Z with heap := P.U.heap }) ⟨cfS, iS, kS, fS, st, cS, t1, t2, t3, t4, t5, (fun q => by rw [q] at t6; cases t6), t7⟩ al rfl
  obtain ⟨v, B, X', ⟨⟨hv, E', V', q1, q2, q3, q4, q5, q6, q7, q8, q9, q10, q11⟩, hl, hc, hs⟩, st⟩ := New1.pays x D fV fC b A z (tab_of (moved hZ hw)) hfr hlo m meth c P g ig mk _ X hg hsize hdg hW hn ⟨r1, r2, rfl, hB, F1, F2, hA, hS, hz, l0, l2, hp⟩
  have al' : Z.vm.Alike B.U.vm := hZ.alike.trans X'.warmed.alike
  have hsz : E'.slots.size = D.slots.size := by
    obtain ⟨-, -, -, kB, w1, w2, w3⟩ := q1
    obtain ⟨kB', y1, y2⟩ := al'.2.2 _ _ e3
    rw [q2.2.1] at w1
    cases w1.symm.trans y1
    rw [w3, e5 i3, y2]
  refine ⟨v, B, X', ⟨_, ⟨hv, ?_, ⟨by omega, fun y cy hy hn' => q10 y cy (by simpa using hn') hy, fun y cy hy => ?_⟩, q11, ⟨E', _, q1.1, by rw [q2.2.1]; exact e2, by rw [q2.2.1]; exact e3, by rw [q2.1]; exact obV, fun _ => by rw [hsz]; exact e5 i3⟩,
    ⟨E', cfV, kV, iV, fV, q1.1, gV, stV, by rw [q2.1]; exact knV, by rw [q2.1]; exact obV, by rw [q2.2.1]; exact asV, q3⟩, ⟨E', cfC, kC, iC, fC, q1.1, gC, stC, by rw [q2.1]; exact knV, by rw [q2.1]; exact obV, by rw [q2.2.1]; exact asC, q4⟩,
    ⟨V', ⟨q5.1, State.isArrayOf_alike al'.symm q5.2.1, q5.2.2.1⟩, q6, by rw [← al'.findClass]; exact q7, q8, fun j hj => by have := q9 j hj; rwa [Nat.zero_add] at this⟩, fun O n d w F n1 n2 => ?_⟩, hl, hc, hs⟩, st⟩
  · intro y hy
    simp only [List.mem_cons, List.not_mem_nil, or_false] at hy
    rcases hy with rfl | rfl <;> rfl
  · by_cases q : y = x
    · subst q
      cases hD.symm.trans hy
      exact ⟨E', q1.1, q2.2.1, q2.1, hsz⟩
    · exact ⟨cy, q10 y cy q hy, rfl, rfl, rfl⟩
  · obtain ⟨D3, cf, k, i, f, g1, g2, g3, g4, g5, g6, g7⟩ := F
    cases hD.symm.trans g1
    simp only [RoadKit.slotOf, g2, gV, gC, Option.map_some, Option.getD_some] at n1 n2
    exact ⟨E', cf, k, i, f, q1.1, g2, g3, by rw [q2.1]; exact g4, by rw [q2.1]; exact g5, by rw [q2.2.1]; exact g6, by rw [q2.2.2 f.slot (by simp [n1, n2])]; exact g7⟩
end StrChars.Road
namespace StrChars.Road
open Jvm Sem ClassFile Op Lib Jvm.Stand Jvm.Free Jvm.Free.XT
/-- WHAT COMES BACK, the byte[] as a list of values -/
def QA (Z : State) (x : Addr) (zn : Int32) (cs : List Int32) (h : Heap) (v : Option Value) (h' : Heap) (L : List Loc) : Prop := v = none ∧ (∀ y ∈ L, y.base = x) ∧ RoadKit.Keep h h' [x] ∧ h'.size = h.size + 1 ∧ RoadKit.Exa Z h' x ST ∧ RoadKit.Fld Z h' x ST "value" "[B" (.ref h.size) ∧ RoadKit.Fld Z h' x ST "coder" "B" (.int 0) ∧
  (∃ kb, Z.vm.findClass "[B" = some kb ∧ RoadKit.Arv Z h' h.size kb .byte zn (cs.map fun c => .int (lo8 c)) (.int 0)) ∧
  ∀ (O n d : String) (w : Value), RoadKit.Fld Z h x O n d w → RoadKit.slotOf Z O n d ≠ RoadKit.slotOf Z ST "value" "[B" → RoadKit.slotOf Z O n d ≠ RoadKit.slotOf Z ST "coder" "B" → RoadKit.Fld Z h' x O n d w
/-- **new String(chars) AT A CALL, THE ARRAYS AS LISTS**: the char[] at b holds cs, not empty, no char above 255 -/
theorem backArv {p : Program} {l : Launch} {e : Env} {R : Room} {s : State} {args : Array Value} {below : List Frame} {len W : Nat} {Z : State} {a0 : Array Value} {h : Heap} (hZ : Z.Warmed39 s.vm) (hw : ∀ d ∈ words, d.before a0 Z = true) {kI : Nat} (wi : (Jvm.Cond.instantiable ST kI).before a0 Z = true)
    {x b : Addr} {k : ClassId} {zn z : Int32} {cs : List Int32} {dv v0 c0 : Value} (E : RoadKit.Exa Z h x ST) (V : RoadKit.Fld Z h x ST "value" "[B" v0) (C : RoadKit.Fld Z h x ST "coder" "B" c0) (K : RoadKit.Arv Z h b k .char zn (cs.map Value.int) dv) (S : RoadKit.Sta Z h ST "COMPACT_STRINGS" "Z" (.int z)) (hz : ¬ z = 0)
    (hlen : zn.toNatClampNeg = cs.length) (h0 : 0 < cs.length) (hbig : cs.length ≤ 536870912) (hall : ∀ c ∈ cs, ¬ 255 < c) (hfr : 4 ≤ R.frames) (hlo : W + 65 ≤ R.locals) :
    Back l R p e below s args New1.yN len W (fun P a => a = #[.ref x, .ref b] ∧ P.U.heap = h ∧ P.cells + 1 ≤ R.cells ∧ P.slots + cs.length ≤ R.slots)
      (fun P _ v B => ∃ L, QA Z x zn cs h v B.U.heap L ∧ B.locs = P.locs ++ L ∧ B.cells = P.cells + 1 ∧ B.slots = P.slots + cs.length) := by
  obtain ⟨A, K1, K2, K3, K4, K5, K6⟩ := K
  have e : A.slots.size = cs.length := K3.trans hlen
  have hat : ∀ (i : Nat) (hi : i < cs.length), A.slots[i]? = some (.int cs[i]) := fun i hi => by rw [K5 i (by omega)]; simp [List.getD_eq_getElem?_getD, hi]
  have hcv : ∀ (i : Nat) (hi : i < cs.length), cv A i = cs[i] := fun i hi => by unfold cv; rw [hat i hi]
  have hty : Typed .char A := fun i v hv => by
    have hi : i < A.slots.size := (Array.getElem?_eq_some_iff.mp hv).1
    have q := K5 i hi
    rw [hv] at q
    rw [Option.some.inj q]
    exact K6 i hi
  refine Back.mono (back hZ hw wi E V C K1 hty S hz (by omega) (by omega) (fun i hi => by rw [hcv i (by omega)]; exact hall _ (List.getElem_mem _)) hfr hlo) (fun P a hp => ⟨hp.1, hp.2.1, hp.2.2.1, by rw [e]; exact hp.2.2.2⟩) (fun P a v B hp hq => ?_)
  obtain ⟨L, ⟨q1, q2, q3, q4, q5, q6, q7, ⟨V', v1, v2, v3, v4, v5⟩, q9⟩, hl, hc, hs⟩ := hq
  refine ⟨L, ⟨q1, q2, q3, q4, q5, q6, q7, ⟨V'.cls, v3, V', v1, rfl, by rw [v4, e, hlen], K4, fun i hi => ?_, fun i hi => ?_⟩, q9⟩, hl, hc, by rw [hs, e]⟩
  · have hi' : i < cs.length := by omega
    rw [v5 i (by omega), hcv i hi']; simp [List.getD_eq_getElem?_getD, hi']
  · have hi' : i < cs.length := by omega
    simp only [List.getD_eq_getElem?_getD, List.getElem?_map, List.getElem?_eq_getElem hi', Option.map_some, Option.getD_some]
    exact fits_lo8 _
end StrChars.Road
namespace StrChars.Road
open Jvm Sem ClassFile Op Lib Jvm.Stand Jvm.Free Jvm.Free.XT
/-- WHAT COMES BACK, in the writer's own shape -/
def QV (Z : State) (x : Addr) (N : Int32) (bs : List Int32) (h : Heap) (n0 : Nat) (v : Option Value) (h' : Heap) (L : List Loc) : Prop := v = none ∧ RoadKit.Fr n0 L ∧ RoadKit.Keep h h' [x] ∧ RoadKit.Exa Z h' x ST ∧ RoadKit.Fld Z h' x ST "coder" "B" (.int 0) ∧
  ∃ (t : Addr) (kb : ClassId), n0 ≤ t ∧ h.size ≤ t ∧ ¬ t = x ∧ RoadKit.Fld Z h' x ST "value" "[B" (.ref t) ∧ RoadKit.Arv Z h' t kb .byte N (bs.map Value.int) (.int 0)
/-- **new String(chars) AT A CALL, FOR THE WRITER**: a char[] of n known ints, each 0 to 255 -/
theorem backV {p : Program} {l : Launch} {e : Env} {R : Room} {s : State} {args : Array Value} {below : List Frame} {len W : Nat} {Z : State} {a0 : Array Value} {h : Heap} (hZ : Z.Warmed39 s.vm) (hw : ∀ d ∈ words, d.before a0 Z = true) {kI : Nat} (wi : (Jvm.Cond.instantiable ST kI).before a0 Z = true)
    {x b : Addr} {kC : ClassId} {cs bs : List Int32} {d v0 c0 : Value} {z N : Int32} {n n0 : Nat} (hx0 : n0 ≤ x) (hh0 : n0 ≤ h.size) (E : RoadKit.Exa Z h x ST) (V : RoadKit.Fld Z h x ST "value" "[B" v0) (C : RoadKit.Fld Z h x ST "coder" "B" c0) (K : RoadKit.Arv Z h b kC .char N (cs.map Value.int) d) (S : RoadKit.Sta Z h ST "COMPACT_STRINGS" "Z" (.int z)) (hz : ¬ z = 0)
    (hn : cs.length = n) (hN : N = Int32.ofNat n) (l0 : 0 < n) (l2 : n ≤ 4000) (hp : ∀ c ∈ cs, ¬ c < 0 ∧ ¬ (255 : Int32) < c) (hb : bs = cs.map (fun c => c.toInt8.toInt32)) (hfr : 4 ≤ R.frames) (hlo : W + 65 ≤ R.locals) :
    Back l R p e below s args (⟨"java/lang/String", "<init>", "([C)V"⟩ : MethodName) len W (fun P a => a = #[.ref x, .ref b] ∧ P.U.heap = h ∧ P.cells + 1 ≤ R.cells ∧ P.slots + n ≤ R.slots)
      (fun P _ v B => ∃ L, QV Z x N bs h n0 v B.U.heap L ∧ B.locs = P.locs ++ L ∧ B.cells = P.cells + 1 ∧ B.slots = P.slots + n) := by
  subst hn hN hb
  refine Back.mono (backArv hZ hw wi E V C K S hz (n32 (by omega)) l0 (by omega) (fun c hc => (hp c hc).2) hfr hlo) (fun P a hp => hp) (fun P a v B hp hq => ?_)
  obtain ⟨L, ⟨q1, q2, q3, q4, q5, q6, q7, ⟨kb, v1, v2⟩, q9⟩, hl, hc, hs⟩ := hq
  exact ⟨L, ⟨q1, fun y hy => by rw [q2 y hy]; exact hx0, q3, q5, q7, h.size, kb, hh0, Nat.le_refl _, Nat.ne_of_gt E.lt, q6, by rw [List.map_map]; exact v2⟩, hl, hc, hs⟩
end StrChars.Road
end Jvm.Pilot.@@N@@

namespace Jvm.Pilot.@@N@@
open Jvm Jvm.ClassFile Sem Op Lib Jvm.Free Jvm.Stand Jvm.LawKit Jvm.RoadKit Bundle Jvm.Pilot.@@N@@.Jvm.D
section OwnGo
variable {p : Program} {l : Launch} {e : Env} {R : Room} {s : State} {m : MethodId} {args : Array Value} {below : List Frame} {meth : Method} {c : Code} {T : State} {locs : List Loc} {cells slots : Nat} {Z : State} {a0 : Array Value} {h : Heap} {Q : Option Value → Heap → List Loc → Prop} {kc kn : Nat} {V V' : State}
/-- from V the run comes to the body's end, and there Q holds -/
def own_Go (p : Program) (e : Env) (below : List Frame) (s : State) (Q : Option Value → Heap → List Loc → Prop) (kc kn : Nat) (V : State) : Prop :=
  ∃ U o, Steps p.tables e below V U ∧ U.status = .running ∧ Ended U below o ∧ ∃ v L, o = .returned v ∧ Q v U.heap L ∧ FrameEnd s o U L kc kn
theorem own_st (h : ∀ t, Steps p.tables e below V' t → Steps p.tables e below V t) (k : own_Go p e below s Q kc kn V') : own_Go p e below s Q kc kn V := by
  obtain ⟨U, o, h1, r⟩ := k
  exact ⟨U, o, h U h1, r⟩
theorem own_z0 {n0 : Nat} (X : Old Z n0 h) : n0 ≤ h.size := X.1 ▸ X.2.1
/-- the return of an int, a long or a reference -/
theorem own_ret (X : Stand p l e R s m args below meth c T locs cells slots) (hx : p.tables.exec = Jvm.exec) (hk : meth.locks = false) {pc : Nat} {Ls : Array Slot} {w : Value} {t : FieldType} {i : Instr} {rest : List Value} (hret : meth.sig.returnType = some t) (hn : narrow t w = w)
    (hi : (i = .ireturn ∧ (t = .int ∨ t = .boolean ∨ t = .byte ∨ t = .char ∨ t = .short) ∧ ∃ z, w = .int z) ∨ (i = .lreturn ∧ t = .long ∧ ∃ z, w = .long z) ∨ (i = .dreturn ∧ t = .double ∧ ∃ z, w = .double z) ∨ (i = .freturn ∧ t = .float ∧ ∃ z, w = .float z) ∨ (i = .areturn ∧ t.isReference = true ∧ w.isRef = true))
    (hd : decode c.code pc = .ok (i, 1)) (hc : cells ≤ kc) (hs : slots ≤ kn) (q : Q (some w) T.heap locs) : own_Go p e below s Q kc kn (T.setTop (mkF m pc Ls (w :: rest))) := by
  obtain ⟨fs, hr, hrun, hended, hW, hsame⟩ := X.leave (v := some w) (fun h => by rw [hret] at h; cases h)
  exact ⟨_, _, retOut X hx hret hn hi hd hr, hrun, hended, _, _, rfl, q, ⟨_, rfl⟩, hW, hsame.mono hc hs⟩
theorem own_retI (X : Stand p l e R s m args below meth c T locs cells slots) (hx : p.tables.exec = Jvm.exec) (hk : meth.locks = false) {pc : Nat} {Ls : Array Slot} {z : Int32} {rest : List Value} (hret : meth.sig.returnType = some .int) (hd : decode c.code pc = .ok (.ireturn, 1)) (hc : cells ≤ kc) (hs : slots ≤ kn) (q : Q (some (.int z)) T.heap locs) :
    own_Go p e below s Q kc kn (T.setTop (mkF m pc Ls (.int z :: rest))) := own_ret X hx hk hret rfl (Or.inl ⟨rfl, Or.inl rfl, z, rfl⟩) hd hc hs q
theorem own_retJ (X : Stand p l e R s m args below meth c T locs cells slots) (hx : p.tables.exec = Jvm.exec) (hk : meth.locks = false) {pc : Nat} {Ls : Array Slot} {z : Int64} {rest : List Value} (hret : meth.sig.returnType = some .long) (hd : decode c.code pc = .ok (.lreturn, 1)) (hc : cells ≤ kc) (hs : slots ≤ kn) (q : Q (some (.long z)) T.heap locs) :
    own_Go p e below s Q kc kn (T.setTop (mkF m pc Ls (.long z :: rest))) := own_ret X hx hk hret rfl (Or.inr (Or.inl ⟨rfl, rfl, z, rfl⟩)) hd hc hs q
theorem own_retR (X : Stand p l e R s m args below meth c T locs cells slots) (hx : p.tables.exec = Jvm.exec) (hk : meth.locks = false) {pc : Nat} {Ls : Array Slot} {w : Value} {t : FieldType} {rest : List Value} (hret : meth.sig.returnType = some t) (ht : t.isReference = true) (hw : w.isRef = true) (hd : decode c.code pc = .ok (.areturn, 1)) (hc : cells ≤ kc) (hs : slots ≤ kn) (q : Q (some w) T.heap locs) :
    own_Go p e below s Q kc kn (T.setTop (mkF m pc Ls (w :: rest))) := by
  refine own_ret X hx hk hret ?_ (Or.inr (Or.inr (Or.inr (Or.inr ⟨rfl, ht, hw⟩)))) hd hc hs q
  rcases ref_cases hw with rfl | ⟨b, rfl⟩ <;> cases t <;> first | rfl | (cases ht; done)
/-- the return of a boolean, byte, char or short -/
theorem own_retN (X : Stand p l e R s m args below meth c T locs cells slots) (hx : p.tables.exec = Jvm.exec) (hk : meth.locks = false) {pc : Nat} {Ls : Array Slot} {z : Int32} {t : FieldType} {rest : List Value} (hret : meth.sig.returnType = some t) (ht : t = .boolean ∨ t = .byte ∨ t = .char ∨ t = .short) (hd : decode c.code pc = .ok (.ireturn, 1)) (hc : cells ≤ kc) (hs : slots ≤ kn) (q : Q (some (.int (nar t z))) T.heap locs) :
    own_Go p e below s Q kc kn (T.setTop (mkF m pc Ls (.int z :: rest))) := by
  obtain ⟨fs, hr, hrun, hended, hW, hsame⟩ := X.leave (v := some (.int (nar t z))) (fun h => by rw [hret] at h; cases h)
  exact ⟨_, _, retN X hx hret ht hd hr, hrun, hended, _, _, rfl, q, ⟨_, rfl⟩, hW, hsame.mono hc hs⟩
theorem own_retV (X : Stand p l e R s m args below meth c T locs cells slots) (hx : p.tables.exec = Jvm.exec) (hk : meth.locks = false) {pc : Nat} {Ls : Array Slot} (hret : meth.sig.returnType = none) (hd : decode c.code pc = .ok (.return_, 1)) (hc : cells ≤ kc) (hs : slots ≤ kn) (q : Q none T.heap locs) :
    own_Go p e below s Q kc kn (T.setTop (mkF m pc Ls [])) := by
  obtain ⟨fs, hr, hrun, hended, hW, hsame⟩ := X.leave (v := none) (fun _ => rfl)
  exact ⟨_, _, X.returnOut hx hret hd hr, hrun, hended, _, _, rfl, q, ⟨_, rfl⟩, hW, hsame.mono hc hs⟩
/-! calls, by a Back or by the callee's own contract -/
variable {own : String} {index : Nat} {y z : MethodName} {bytes : ByteArray} {maxL : Nat} {ret : Option FieldType} {W k n : Nat} {as' : Array Value} {Qy : Option Value → Heap → List Loc → Prop} {g : JFrame} {argsL rest : List Value} {rm : Room}
theorem own_backS (X : Stand p l e R s m args below meth c T locs cells slots) (hx : p.tables.exec = Jvm.exec) (hZ : Z.Warmed39 s.vm) (hown : s.vm.findClass own = some m.cls) (w1 : (Cond.methodLink own index y).before a0 Z = true) (w2 : (Cond.static y).before a0 Z = true) (w3 : (Cond.initialized y.cls).before a0 Z = true) (w4 : (Cond.code y bytes maxL ret).before a0 Z = true)
    (hy : y.cls ≠ "java/lang/invoke/MethodHandle" ∧ y.cls ≠ "java/lang/invoke/VarHandle")
    (hK : Back l R p e below s args y 3 W (fun A a => a = as' ∧ A.U.heap = h ∧ A.cells + k ≤ R.cells ∧ A.slots + n ≤ R.slots) (fun A _ v B => ∃ L, Qy v B.U.heap L ∧ B.locs = A.locs ++ L ∧ B.cells = A.cells + k ∧ B.slots = A.slots + n))
    (eT : T.heap = h) (hg : g.method = m) (hsize : g.locals.size = c.maxLocals) (has : argsL.toArray = as') (hlen : ∀ sig, parseMethodDescriptor y.desc = some sig → argsL.length = sig.parameters.length) (hstack : g.stack = argsL.reverse ++ rest) (hW : 2 * g.monitorRoom + (rest.map fun v => v.category).sum ≤ W)
    (hdg : decode c.code g.pc = .ok (.invokestatic index, 3)) (hc : cells + k ≤ R.cells) (hs : slots + n ≤ R.slots) :
    ∃ v T' h' L, Stand p l e R s m args below meth c T' (locs ++ L) (cells + k) (slots + n) ∧ T'.heap = h' ∧ Qy v h' L ∧ ∀ t, Steps p.tables e below (T'.setTop { g with pc := g.pc + 3, stack := v.toList ++ rest }) t → Steps p.tables e below (T.setTop g) t := by
  obtain ⟨v, _, ⟨T', L', k', n'⟩, -, X', ⟨L, hQ, l1, l2, l3⟩, st⟩ := Jvm.LawKit.callS X hx (y := y) hown (mvT hZ w1) (mvT hZ w2) (mvT hZ w3) (mvT hZ w4) hy hK hg hsize hlen hstack hW hdg (fun _ _ => ⟨has, eT, hc, hs⟩)
  dsimp only [Pt.U, Pt.locs, Pt.cells, Pt.slots] at X' l1 l2 l3 st hQ
  subst l1 l2 l3
  exact ⟨v, T', _, L, X', rfl, hQ, st⟩
theorem own_callS (X : Stand p l e R s m args below meth c T locs cells slots) (hx : p.tables.exec = Jvm.exec) (hZ : Z.Warmed39 s.vm) (hown : s.vm.findClass own = some m.cls) (w1 : (Cond.methodLink own index y).before a0 Z = true) (w2 : (Cond.static y).before a0 Z = true) (w3 : (Cond.initialized y.cls).before a0 Z = true) (w4 : (Cond.code y bytes maxL ret).before a0 Z = true)
    (hy : y.cls ≠ "java/lang/invoke/MethodHandle" ∧ y.cls ≠ "java/lang/invoke/VarHandle")
    (hM : MetFree l y (head1 [Cond.code y bytes maxL ret] rm) (fun a U => a = as' ∧ Z.Warmed39 U.vm ∧ U.heap = h) (fun _ _ _ _ _ => True) (fun _ U o U' => ∃ v L, o = .returned v ∧ Qy v U'.heap L ∧ FrameEnd U o U' L rm.cells rm.slots)) (hf : rm.frames + 1 ≤ R.frames) (hl : W + (maxL + 11) + rm.locals ≤ R.locals)
    (eT : T.heap = h) (hg : g.method = m) (hsize : g.locals.size = c.maxLocals) (has : argsL.toArray = as') (hlen : ∀ sig, parseMethodDescriptor y.desc = some sig → argsL.length = sig.parameters.length) (hstack : g.stack = argsL.reverse ++ rest) (hW : 2 * g.monitorRoom + (rest.map fun v => v.category).sum ≤ W)
    (hdg : decode c.code g.pc = .ok (.invokestatic index, 3)) (hc : cells + rm.cells ≤ R.cells) (hs : slots + rm.slots ≤ R.slots) :
    ∃ v T' h' L, Stand p l e R s m args below meth c T' (locs ++ L) (cells + rm.cells) (slots + rm.slots) ∧ T'.heap = h' ∧ Qy v h' L ∧ ∀ t, Steps p.tables e below (T'.setTop { g with pc := g.pc + 3, stack := v.toList ++ rest }) t → Steps p.tables e below (T.setTop g) t :=
  own_backS X hx hZ hown w1 w2 w3 w4 hy (backOf hM hZ w4 w3 hf hl) eT hg hsize has hlen hstack hW hdg hc hs
theorem own_backI (X : Stand p l e R s m args below meth c T locs cells slots) (hx : p.tables.exec = Jvm.exec) (hZ : Z.Warmed39 s.vm) (hown : s.vm.findClass own = some m.cls) (hy1 : y.name = "<init>") (w1 : (Cond.methodLink own index y).before a0 Z = true) (w2 : (Cond.instanceMethod y).before a0 Z = true) (w4 : (Cond.code y bytes maxL none).before a0 Z = true)
    (hy : y.cls ≠ "java/lang/invoke/MethodHandle" ∧ y.cls ≠ "java/lang/invoke/VarHandle")
    (hK : Back l R p e below s args y 3 W (fun A a => a = as' ∧ A.U.heap = h ∧ A.cells + k ≤ R.cells ∧ A.slots + n ≤ R.slots) (fun A _ v B => ∃ L, Qy v B.U.heap L ∧ B.locs = A.locs ++ L ∧ B.cells = A.cells + k ∧ B.slots = A.slots + n))
    (eT : T.heap = h) {a : Addr} (hg : g.method = m) (hsize : g.locals.size = c.maxLocals) (has : (Value.ref a :: argsL).toArray = as') (hlen : ∀ sig, parseMethodDescriptor y.desc = some sig → argsL.length = sig.parameters.length) (hstack : g.stack = argsL.reverse ++ .ref a :: rest) (hW : 2 * g.monitorRoom + (rest.map fun v => v.category).sum ≤ W)
    (hdg : decode c.code g.pc = .ok (.invokespecial index, 3)) (hc : cells + k ≤ R.cells) (hs : slots + n ≤ R.slots) :
    ∃ v T' h' L, Stand p l e R s m args below meth c T' (locs ++ L) (cells + k) (slots + n) ∧ T'.heap = h' ∧ Qy v h' L ∧ ∀ t, Steps p.tables e below (T'.setTop { g with pc := g.pc + 3, stack := v.toList ++ rest }) t → Steps p.tables e below (T.setTop g) t := by
  obtain ⟨v, _, ⟨T', L', k', n'⟩, -, X', ⟨L, hQ, l1, l2, l3⟩, st⟩ := X.specialBack hx (y := y) hy1 hown (mvT hZ w1) (mvT hZ w2) (mvT hZ w4) hy hK hg hsize (Steps.refl _) hlen hstack hW hdg (fun _ _ => ⟨has, eT, hc, hs⟩)
  dsimp only [Pt.U, Pt.locs, Pt.cells, Pt.slots] at X' l1 l2 l3 st hQ
  subst l1 l2 l3
  exact ⟨v, T', _, L, X', rfl, hQ, fun t k => st.trans k⟩
theorem own_callI (X : Stand p l e R s m args below meth c T locs cells slots) (hx : p.tables.exec = Jvm.exec) (hZ : Z.Warmed39 s.vm) (hown : s.vm.findClass own = some m.cls) (hy1 : y.name = "<init>") (w1 : (Cond.methodLink own index y).before a0 Z = true) (w2 : (Cond.instanceMethod y).before a0 Z = true) (w3 : (Cond.initialized y.cls).before a0 Z = true) (w4 : (Cond.code y bytes maxL none).before a0 Z = true)
    (hy : y.cls ≠ "java/lang/invoke/MethodHandle" ∧ y.cls ≠ "java/lang/invoke/VarHandle")
    (hM : MetFree l y (head1 [Cond.code y bytes maxL none] rm) (fun a U => a = as' ∧ Z.Warmed39 U.vm ∧ U.heap = h) (fun _ _ _ _ _ => True) (fun _ U o U' => ∃ v L, o = .returned v ∧ Qy v U'.heap L ∧ FrameEnd U o U' L rm.cells rm.slots)) (hf : rm.frames + 1 ≤ R.frames) (hl : W + (maxL + 11) + rm.locals ≤ R.locals)
    (eT : T.heap = h) {a : Addr} (hg : g.method = m) (hsize : g.locals.size = c.maxLocals) (has : (Value.ref a :: argsL).toArray = as') (hlen : ∀ sig, parseMethodDescriptor y.desc = some sig → argsL.length = sig.parameters.length) (hstack : g.stack = argsL.reverse ++ .ref a :: rest) (hW : 2 * g.monitorRoom + (rest.map fun v => v.category).sum ≤ W)
    (hdg : decode c.code g.pc = .ok (.invokespecial index, 3)) (hc : cells + rm.cells ≤ R.cells) (hs : slots + rm.slots ≤ R.slots) :
    ∃ v T' h' L, Stand p l e R s m args below meth c T' (locs ++ L) (cells + rm.cells) (slots + rm.slots) ∧ T'.heap = h' ∧ Qy v h' L ∧ ∀ t, Steps p.tables e below (T'.setTop { g with pc := g.pc + 3, stack := v.toList ++ rest }) t → Steps p.tables e below (T.setTop g) t :=
  own_backI X hx hZ hown hy1 w1 w2 w4 hy (backOf hM hZ w4 w3 hf hl) eT hg hsize has hlen hstack hW hdg hc hs
theorem own_backV (X : Stand p l e R s m args below meth c T locs cells slots) (hx : p.tables.exec = Jvm.exec) (hZ : Z.Warmed39 s.vm) (hown : s.vm.findClass own = some m.cls) {C : String} (w1 : (Cond.methodLink own index y).before a0 Z = true) (w2 : (Cond.declares y).before a0 Z = true) (hnf : NotFace s y) (w3 : (Cond.selects C y z).before a0 Z = true) (w4 : (Cond.instanceMethod z).before a0 Z = true)
    (hy : y.cls ≠ "java/lang/invoke/MethodHandle" ∧ y.cls ≠ "java/lang/invoke/VarHandle")
    (hK : Back l R p e below s args z 3 W (fun A a => a = as' ∧ A.U.heap = h ∧ A.cells + k ≤ R.cells ∧ A.slots + n ≤ R.slots) (fun A _ v B => ∃ L, Qy v B.U.heap L ∧ B.locs = A.locs ++ L ∧ B.cells = A.cells + k ∧ B.slots = A.slots + n))
    (eT : T.heap = h) {b : Addr} (E : Exa Z h b C) (hg : g.method = m) (hsize : g.locals.size = c.maxLocals) (has : (Value.ref b :: argsL).toArray = as') (hlen : ∀ sig, parseMethodDescriptor y.desc = some sig → argsL.length = sig.parameters.length) (hstack : g.stack = argsL.reverse ++ .ref b :: rest) (hW : 2 * g.monitorRoom + (rest.map fun v => v.category).sum ≤ W)
    (hdg : decode c.code g.pc = .ok (.invokevirtual index, 3)) (hc : cells + k ≤ R.cells) (hs : slots + n ≤ R.slots) :
    ∃ v T' h' L, Stand p l e R s m args below meth c T' (locs ++ L) (cells + k) (slots + n) ∧ T'.heap = h' ∧ Qy v h' L ∧ ∀ t, Steps p.tables e below (T'.setTop { g with pc := g.pc + 3, stack := v.toList ++ rest }) t → Steps p.tables e below (T.setTop g) t := by
  obtain ⟨cq, kq, qa, qb, qc⟩ := isOf hZ eT E
  obtain ⟨v, _, ⟨T', L', k', n'⟩, -, X', ⟨L, hQ, l1, l2, l3⟩, st⟩ := X.virtualBack hx (y := y) (z := z) hown (mvT hZ w1) (mvT hZ w2) hnf (mvT hZ w3) (mvT hZ w4) hy hK qa qc hg hsize (Steps.refl _) hlen hstack hW hdg (fun _ _ => ⟨has, eT, hc, hs⟩)
  dsimp only [Pt.U, Pt.locs, Pt.cells, Pt.slots] at X' l1 l2 l3 st hQ
  subst l1 l2 l3
  exact ⟨v, T', _, L, X', rfl, hQ, fun t k => st.trans k⟩
theorem own_callV (X : Stand p l e R s m args below meth c T locs cells slots) (hx : p.tables.exec = Jvm.exec) (hZ : Z.Warmed39 s.vm) (hown : s.vm.findClass own = some m.cls) {C : String} (w1 : (Cond.methodLink own index y).before a0 Z = true) (w2 : (Cond.declares y).before a0 Z = true) (w3 : (Cond.selects C y y).before a0 Z = true) (w4 : (Cond.instanceMethod y).before a0 Z = true) (w5 : (Cond.initialized y.cls).before a0 Z = true) (w6 : (Cond.code y bytes maxL ret).before a0 Z = true)
    (hy : y.cls ≠ "java/lang/invoke/MethodHandle" ∧ y.cls ≠ "java/lang/invoke/VarHandle")
    (hM : MetFree l y (head1 [Cond.code y bytes maxL ret] rm) (fun a U => a = as' ∧ Z.Warmed39 U.vm ∧ U.heap = h) (fun _ _ _ _ _ => True) (fun _ U o U' => ∃ v L, o = .returned v ∧ Qy v U'.heap L ∧ FrameEnd U o U' L rm.cells rm.slots)) (hf : rm.frames + 1 ≤ R.frames) (hl : W + (maxL + 11) + rm.locals ≤ R.locals)
    (eT : T.heap = h) {b : Addr} (E : Exa Z h b C) (hg : g.method = m) (hsize : g.locals.size = c.maxLocals) (has : (Value.ref b :: argsL).toArray = as') (hlen : ∀ sig, parseMethodDescriptor y.desc = some sig → argsL.length = sig.parameters.length) (hstack : g.stack = argsL.reverse ++ .ref b :: rest) (hW : 2 * g.monitorRoom + (rest.map fun v => v.category).sum ≤ W)
    (hdg : decode c.code g.pc = .ok (.invokevirtual index, 3)) (hc : cells + rm.cells ≤ R.cells) (hs : slots + rm.slots ≤ R.slots) :
    ∃ v T' h' L, Stand p l e R s m args below meth c T' (locs ++ L) (cells + rm.cells) (slots + rm.slots) ∧ T'.heap = h' ∧ Qy v h' L ∧ ∀ t, Steps p.tables e below (T'.setTop { g with pc := g.pc + 3, stack := v.toList ++ rest }) t → Steps p.tables e below (T.setTop g) t :=
  own_backV X hx hZ hown w1 w2 (notFace_of_selects (args := #[]) (mvT hZ w3)) w3 w4 hy (backOf hM hZ w6 w5 hf hl) eT E hg hsize has hlen hstack hW hdg hc hs
end OwnGo
section OwnArr
variable {p : Program} {l : Launch} {e : Env} {R : Room} {s : State} {m : MethodId} {args : Array Value} {below : List Frame} {meth : Method} {c : Code} {T : State} {locs : List Loc} {cells slots : Nat} {Z : State} {a0 : Array Value} {h : Heap} {a : Addr} {k : ClassId} {ty : FieldType} {z j : Int32} {vs : List Value} {d v : Value} {g : JFrame} {rest : List Value}
theorem own_alen (X : Stand p l e R s m args below meth c T locs cells slots) (hx : p.tables.exec = Jvm.exec) (hZ : Z.Warmed39 s.vm) (eT : T.heap = h) (A : Arv Z h a k ty z vs d) (hg : g.method = m) (hs : g.stack = .ref a :: rest) (hd : decode c.code g.pc = .ok (.arraylength, 1)) (t : State)
    (hr : Steps p.tables e below (T.setTop { g with pc := g.pc + 1, stack := .int z :: rest }) t) : Steps p.tables e below (T.setTop g) t := by
  obtain ⟨cl, A1, A2, A3, A4, A5, A6⟩ := A
  refine X.arraylength hx (by rw [eT]; exact A1.1) (State.isArrayOf_alike hZ.alike A1.2.1) hg hs hd t ?_
  rw [len_of A3 A4]
  exact hr
theorem own_cald (X : Stand p l e R s m args below meth c T locs cells slots) (hx : p.tables.exec = Jvm.exec) (hZ : Z.Warmed39 s.vm) (eT : T.heap = h) (A : Arv Z h a k .char z vs d) (hj : ¬ j < 0 ∧ j < z) (hv : vs.getD j.toNatClampNeg d = v) (hg : g.method = m) (hs : g.stack = .int j :: .ref a :: rest) (hd : decode c.code g.pc = .ok (.caload, 1)) (t : State)
    (hr : Steps p.tables e below (T.setTop { g with pc := g.pc + 1, stack := v :: rest }) t) : Steps p.tables e below (T.setTop g) t := by
  obtain ⟨cl, A1, A2, A3, A4, A5, A6⟩ := A
  exact X.caload hx (by rw [eT]; exact A1.1) (State.isArrayOf_alike hZ.alike A1.2.1) A1.2.2 (inb_of A3 hj) (A5.at (inb_of A3 hj) hv) hg hs hd t hr
theorem own_bald (X : Stand p l e R s m args below meth c T locs cells slots) (hx : p.tables.exec = Jvm.exec) (hZ : Z.Warmed39 s.vm) (eT : T.heap = h) (A : Arv Z h a k .byte z vs d) (hj : ¬ j < 0 ∧ j < z) (hv : vs.getD j.toNatClampNeg d = v) (hg : g.method = m) (hs : g.stack = .int j :: .ref a :: rest) (hd : decode c.code g.pc = .ok (.baload, 1)) (t : State)
    (hr : Steps p.tables e below (T.setTop { g with pc := g.pc + 1, stack := v :: rest }) t) : Steps p.tables e below (T.setTop g) t := by
  obtain ⟨cl, A1, A2, A3, A4, A5, A6⟩ := A
  exact X.baloadBytes hx (by rw [eT]; exact A1.1) (State.isArrayOf_alike hZ.alike A1.2.1) A1.2.2 (inb_of A3 hj) (A5.at (inb_of A3 hj) hv) hg hs hd t hr
end OwnArr
section OwnFace
variable {p : Program} {l : Launch} {e : Env} {R : Room} {s : State} {m : MethodId} {args : Array Value} {below : List Frame} {meth : Method} {c : Code} {T : State} {locs : List Loc} {cells slots : Nat} {Z : State} {a0 : Array Value} {h : Heap} {own C : String} {index count : Nat} {y z : MethodName} {bytes : ByteArray} {maxL : Nat} {ret : Option FieldType} {W : Nat} {as' : Array Value} {Qy : Option Value → Heap → List Loc → Prop} {g : JFrame} {argsL rest : List Value} {rm : Room}
theorem own_callF (X : Stand p l e R s m args below meth c T locs cells slots) (hx : p.tables.exec = Jvm.exec) (hZ : Z.Warmed39 s.vm) (hown : s.vm.findClass own = some m.cls) (w1 : (Cond.methodLink own index y).before a0 Z = true) (w2 : (Cond.declares y).before a0 Z = true) (w3 : (Cond.interfaceMethod y.cls y.cls y.name y.desc).before args s = true) (w4 : (Cond.selects C y z).before a0 Z = true) (w5 : (Cond.instanceMethod z).before a0 Z = true) (w6 : (Cond.publicMethod z).before a0 Z = true) (w7 : (Cond.unhidden C y.name y.desc).before a0 Z = true) (w8 : (Cond.castable C y.cls).before a0 Z = true) (w9 : (Cond.initialized z.cls).before a0 Z = true) (w10 : (Cond.code z bytes maxL ret).before a0 Z = true)
    (hy : y.cls ≠ "java/lang/invoke/MethodHandle" ∧ y.cls ≠ "java/lang/invoke/VarHandle")
    (hM : MetFree l z (head1 [Cond.code z bytes maxL ret] rm) (fun a U => a = as' ∧ Z.Warmed39 U.vm ∧ U.heap = h) (fun _ _ _ _ _ => True) (fun _ U o U' => ∃ v L, o = .returned v ∧ Qy v U'.heap L ∧ FrameEnd U o U' L rm.cells rm.slots)) (hf : rm.frames + 1 ≤ R.frames) (hl : W + (maxL + 11) + rm.locals ≤ R.locals)
    (eT : T.heap = h) {b : Addr} (E : Exa Z h b C) (hg : g.method = m) (hsize : g.locals.size = c.maxLocals) (has : (Value.ref b :: argsL).toArray = as') (hlen : ∀ sig, parseMethodDescriptor y.desc = some sig → argsL.length = sig.parameters.length) (hstack : g.stack = argsL.reverse ++ .ref b :: rest) (hW : 2 * g.monitorRoom + (rest.map fun v => v.category).sum ≤ W)
    (hdg : decode c.code g.pc = .ok (.invokeinterface index count, 5)) (hc : cells + rm.cells ≤ R.cells) (hs : slots + rm.slots ≤ R.slots) :
    ∃ v T' h' L, Stand p l e R s m args below meth c T' (locs ++ L) (cells + rm.cells) (slots + rm.slots) ∧ T'.heap = h' ∧ Qy v h' L ∧ ∀ t, Steps p.tables e below (T'.setTop { g with pc := g.pc + 5, stack := v.toList ++ rest }) t → Steps p.tables e below (T.setTop g) t := by
  obtain ⟨cq, kq, qa, qb, qc⟩ := isOf hZ eT E
  obtain ⟨v, _, ⟨T', L', k', n'⟩, -, X', ⟨L, hQ, l1, l2, l3⟩, st⟩ := X.interfaceBack hx (xi := y) (y := z) hown (mvT hZ w1) (mvT hZ w2) w3 (mvT hZ w4) (mvT hZ w5) (mvT hZ w6) (mvT hZ w7) (mvT hZ w8) hy (backOf hM hZ w10 w9 hf hl) qa qb qc hg hsize (Steps.refl _) hlen hstack hW hdg (fun _ _ => ⟨has, eT, hc, hs⟩)
  dsimp only [Pt.U, Pt.locs, Pt.cells, Pt.slots] at X' l1 l2 l3 st hQ
  subst l1 l2 l3
  exact ⟨v, T', _, L, X', rfl, hQ, fun t k => st.trans k⟩
theorem own_callVU {owner : String} (X : Stand p l e R s m args below meth c T locs cells slots) (hx : p.tables.exec = Jvm.exec) (hZ : Z.Warmed39 s.vm) (hown : s.vm.findClass own = some m.cls) (w1 : (Cond.methodLink own index y).before a0 Z = true) (w2 : (Cond.sameMethod y.cls owner y.name y.desc).before a0 Z = true) (w3 : (Cond.declares ⟨owner, y.name, y.desc⟩).before a0 Z = true) (w4 : (Cond.selects C y z).before a0 Z = true) (w5 : (Cond.instanceMethod z).before a0 Z = true) (w6 : (Cond.initialized z.cls).before a0 Z = true) (w7 : (Cond.code z bytes maxL ret).before a0 Z = true)
    (hy : owner ≠ "java/lang/invoke/MethodHandle" ∧ owner ≠ "java/lang/invoke/VarHandle")
    (hM : MetFree l z (head1 [Cond.code z bytes maxL ret] rm) (fun a U => a = as' ∧ Z.Warmed39 U.vm ∧ U.heap = h) (fun _ _ _ _ _ => True) (fun _ U o U' => ∃ v L, o = .returned v ∧ Qy v U'.heap L ∧ FrameEnd U o U' L rm.cells rm.slots)) (hf : rm.frames + 1 ≤ R.frames) (hl : W + (maxL + 11) + rm.locals ≤ R.locals)
    (eT : T.heap = h) {b : Addr} (E : Exa Z h b C) (hg : g.method = m) (hsize : g.locals.size = c.maxLocals) (has : (Value.ref b :: argsL).toArray = as') (hlen : ∀ sig, parseMethodDescriptor y.desc = some sig → argsL.length = sig.parameters.length) (hstack : g.stack = argsL.reverse ++ .ref b :: rest) (hW : 2 * g.monitorRoom + (rest.map fun v => v.category).sum ≤ W)
    (hdg : decode c.code g.pc = .ok (.invokevirtual index, 3)) (hc : cells + rm.cells ≤ R.cells) (hs : slots + rm.slots ≤ R.slots) :
    ∃ v T' h' L, Stand p l e R s m args below meth c T' (locs ++ L) (cells + rm.cells) (slots + rm.slots) ∧ T'.heap = h' ∧ Qy v h' L ∧ ∀ t, Steps p.tables e below (T'.setTop { g with pc := g.pc + 3, stack := v.toList ++ rest }) t → Steps p.tables e below (T.setTop g) t := by
  obtain ⟨cq, kq, qa, qb, qc⟩ := isOf hZ eT E
  obtain ⟨v, _, ⟨T', L', k', n'⟩, -, X', ⟨L, hQ, l1, l2, l3⟩, st⟩ := X.virtualBackUp hx (x := y) (y := z) hown (mvT hZ w1) (mvT hZ w2) (mvT hZ w3) hy (mvT hZ w4) (mvT hZ w5) (backOf hM hZ w7 w6 hf hl) qa qc hg hsize (Steps.refl _) hlen hstack hW hdg (fun _ _ => ⟨has, eT, hc, hs⟩)
  dsimp only [Pt.U, Pt.locs, Pt.cells, Pt.slots] at X' l1 l2 l3 st hQ
  subst l1 l2 l3
  exact ⟨v, T', _, L, X', rfl, hQ, fun t k => st.trans k⟩
theorem own_aald {ty : FieldType} {a : Addr} {cl : Cell} {j : Int32} {v : Value} (X : Stand p l e R s m args below meth c T locs cells slots) (hx : p.tables.exec = Jvm.exec) (hZ : Z.Warmed39 s.vm) (eT : T.heap = h) (A : Arr Z h a cl ty) (hty : ty.isReference = true) (hj : ¬ (j < 0 ∨ cl.slots.size ≤ j.toNatClampNeg)) (hv : cl.slots[j.toNatClampNeg]? = some v) (hg : g.method = m) (hs : g.stack = .int j :: .ref a :: rest) (hd : decode c.code g.pc = .ok (.aaload, 1)) (t : State)
    (hr : Steps p.tables e below (T.setTop { g with pc := g.pc + 1, stack := v :: rest }) t) : Steps p.tables e below (T.setTop g) t :=
  X.aaload hx (by rw [eT]; exact A.1) (State.isArrayOf_alike hZ.alike A.2.1) hty A.2.2 hj hv hg hs hd t hr
theorem own_and {a b : Jvm.Cond} (h1 : a.before a0 Z = true) (h2 : b.before a0 Z = true) : (Jvm.Cond.and a b).before a0 Z = true := by rw [Cond.before_and, h1, h2]; rfl
end OwnFace
section OwnGoW
variable {p : Program} {l : Launch} {e : Env} {R : Room} {s : State} {vm : Vm} {m : MethodId} {args : Array Value} {below : List Frame} {meth : Method} {c : Code} {T : State} {locs : List Loc} {cells slots : Nat} {Z : State} {a0 : Array Value} {h : Heap} {EL : List (String × Nat)} {Q : Option Value → Heap → List Loc → Prop} {kc kn k0 : Nat} {V V' : State}
/-- own_Go where the run may load String constants: what the literals hold is carried by CHr -/
def own_GoW (p : Program) (e : Env) (below : List Frame) (s Z : State) (EL : List (String × Nat)) (Q : Option Value → Heap → List Loc → Prop) (kc kn : Nat) (V : State) : Prop :=
  ∃ U o, Steps p.tables e below V U ∧ U.status = .running ∧ Ended U below o ∧ ∃ v L, o = .returned v ∧ Q v U.heap L ∧ CHr Z EL s.vm s.heap U.vm U.heap ∧ ReturnedEndW s o U L kc kn
theorem own_stW (h : ∀ t, Steps p.tables e below V' t → Steps p.tables e below V t) (k : own_GoW p e below s Z EL Q kc kn V') : own_GoW p e below s Z EL Q kc kn V := by
  obtain ⟨U, o, h1, r⟩ := k
  exact ⟨U, o, h U h1, r⟩
theorem own_endW {o : Outcome} {t : State} {L : List Loc} {k n k' n' : Nat} (h : ReturnedEndW s o t L k n) (hk : k ≤ k') (hn : n ≤ n') : ReturnedEndW s o t L k' n' := ⟨h.1, h.2.1, h.2.2.1, h.2.2.2.mono hk hn⟩
theorem own_retW (X : Stand p l e R (s.setVm vm) m args below meth c T locs cells slots) (hx : p.tables.exec = Jvm.exec) (hk : meth.locks = false) (hS : s.Since vm k0) (hn0 : k0 ≤ T.heap.size) (hZ : Z.Warmed39 vm) (hEL : EW Z a0 EL) (Hr : CHr Z EL s.vm s.heap vm T.heap)
    {pc : Nat} {Ls : Array Slot} {w : Value} {t : FieldType} {i : Instr} {rest : List Value} (hret : meth.sig.returnType = some t) (hn : narrow t w = w)
    (hi : (i = .ireturn ∧ (t = .int ∨ t = .boolean ∨ t = .byte ∨ t = .char ∨ t = .short) ∧ ∃ z, w = .int z) ∨ (i = .lreturn ∧ t = .long ∧ ∃ z, w = .long z) ∨ (i = .dreturn ∧ t = .double ∧ ∃ z, w = .double z) ∨ (i = .freturn ∧ t = .float ∧ ∃ z, w = .float z) ∨ (i = .areturn ∧ t.isReference = true ∧ w.isRef = true))
    (hd : decode c.code pc = .ok (i, 1)) (hc : cells ≤ kc) (hs : slots ≤ kn) (q : Q (some w) T.heap locs) : own_GoW p e below s Z EL Q kc kn (T.setTop (mkF m pc Ls (w :: rest))) := by
  obtain ⟨fs, hr, hrun, hended, hE⟩ := X.leaveW hS hn0 (v := some w) (fun h => by rw [hret] at h; cases h)
  exact ⟨_, _, retOut X hx hret hn hi hd hr, hrun, hended, _, _, rfl, q, (show CHr Z EL s.vm s.heap T.vm T.heap from Hr.trans (CHv.at X hZ hEL Hr.1)), own_endW hE hc hs⟩
theorem own_retIW (X : Stand p l e R (s.setVm vm) m args below meth c T locs cells slots) (hx : p.tables.exec = Jvm.exec) (hk : meth.locks = false) (hS : s.Since vm k0) (hn0 : k0 ≤ T.heap.size) (hZ : Z.Warmed39 vm) (hEL : EW Z a0 EL) (Hr : CHr Z EL s.vm s.heap vm T.heap)
    {pc : Nat} {Ls : Array Slot} {z : Int32} {rest : List Value} (hret : meth.sig.returnType = some .int) (hd : decode c.code pc = .ok (.ireturn, 1)) (hc : cells ≤ kc) (hs : slots ≤ kn) (q : Q (some (.int z)) T.heap locs) :
    own_GoW p e below s Z EL Q kc kn (T.setTop (mkF m pc Ls (.int z :: rest))) := own_retW X hx hk hS hn0 hZ hEL Hr hret rfl (Or.inl ⟨rfl, Or.inl rfl, z, rfl⟩) hd hc hs q
theorem own_retJW (X : Stand p l e R (s.setVm vm) m args below meth c T locs cells slots) (hx : p.tables.exec = Jvm.exec) (hk : meth.locks = false) (hS : s.Since vm k0) (hn0 : k0 ≤ T.heap.size) (hZ : Z.Warmed39 vm) (hEL : EW Z a0 EL) (Hr : CHr Z EL s.vm s.heap vm T.heap)
    {pc : Nat} {Ls : Array Slot} {z : Int64} {rest : List Value} (hret : meth.sig.returnType = some .long) (hd : decode c.code pc = .ok (.lreturn, 1)) (hc : cells ≤ kc) (hs : slots ≤ kn) (q : Q (some (.long z)) T.heap locs) :
    own_GoW p e below s Z EL Q kc kn (T.setTop (mkF m pc Ls (.long z :: rest))) := own_retW X hx hk hS hn0 hZ hEL Hr hret rfl (Or.inr (Or.inl ⟨rfl, rfl, z, rfl⟩)) hd hc hs q
theorem own_retRW (X : Stand p l e R (s.setVm vm) m args below meth c T locs cells slots) (hx : p.tables.exec = Jvm.exec) (hk : meth.locks = false) (hS : s.Since vm k0) (hn0 : k0 ≤ T.heap.size) (hZ : Z.Warmed39 vm) (hEL : EW Z a0 EL) (Hr : CHr Z EL s.vm s.heap vm T.heap)
    {pc : Nat} {Ls : Array Slot} {w : Value} {t : FieldType} {rest : List Value} (hret : meth.sig.returnType = some t) (ht : t.isReference = true) (hw : w.isRef = true) (hd : decode c.code pc = .ok (.areturn, 1)) (hc : cells ≤ kc) (hs : slots ≤ kn) (q : Q (some w) T.heap locs) :
    own_GoW p e below s Z EL Q kc kn (T.setTop (mkF m pc Ls (w :: rest))) := by
  refine own_retW X hx hk hS hn0 hZ hEL Hr hret ?_ (Or.inr (Or.inr (Or.inr (Or.inr ⟨rfl, ht, hw⟩)))) hd hc hs q
  rcases ref_cases hw with rfl | ⟨b, rfl⟩ <;> cases t <;> first | rfl | (cases ht; done)
theorem own_retNW (X : Stand p l e R (s.setVm vm) m args below meth c T locs cells slots) (hx : p.tables.exec = Jvm.exec) (hk : meth.locks = false) (hS : s.Since vm k0) (hn0 : k0 ≤ T.heap.size) (hZ : Z.Warmed39 vm) (hEL : EW Z a0 EL) (Hr : CHr Z EL s.vm s.heap vm T.heap)
    {pc : Nat} {Ls : Array Slot} {z : Int32} {t : FieldType} {rest : List Value} (hret : meth.sig.returnType = some t) (ht : t = .boolean ∨ t = .byte ∨ t = .char ∨ t = .short) (hd : decode c.code pc = .ok (.ireturn, 1)) (hc : cells ≤ kc) (hs : slots ≤ kn) (q : Q (some (.int (nar t z))) T.heap locs) :
    own_GoW p e below s Z EL Q kc kn (T.setTop (mkF m pc Ls (.int z :: rest))) := by
  obtain ⟨fs, hr, hrun, hended, hE⟩ := X.leaveW hS hn0 (v := some (.int (nar t z))) (fun h => by rw [hret] at h; cases h)
  exact ⟨_, _, retN X hx hret ht hd hr, hrun, hended, _, _, rfl, q, (show CHr Z EL s.vm s.heap T.vm T.heap from Hr.trans (CHv.at X hZ hEL Hr.1)), own_endW hE hc hs⟩
theorem own_retVW (X : Stand p l e R (s.setVm vm) m args below meth c T locs cells slots) (hx : p.tables.exec = Jvm.exec) (hk : meth.locks = false) (hS : s.Since vm k0) (hn0 : k0 ≤ T.heap.size) (hZ : Z.Warmed39 vm) (hEL : EW Z a0 EL) (Hr : CHr Z EL s.vm s.heap vm T.heap)
    {pc : Nat} {Ls : Array Slot} (hret : meth.sig.returnType = none) (hd : decode c.code pc = .ok (.return_, 1)) (hc : cells ≤ kc) (hs : slots ≤ kn) (q : Q none T.heap locs) :
    own_GoW p e below s Z EL Q kc kn (T.setTop (mkF m pc Ls [])) := by
  obtain ⟨fs, hr, hrun, hended, hE⟩ := X.leaveW hS hn0 (v := none) (fun _ => rfl)
  exact ⟨_, _, X.returnOut hx hret hd hr, hrun, hended, _, _, rfl, q, (show CHr Z EL s.vm s.heap T.vm T.heap from Hr.trans (CHv.at X hZ hEL Hr.1)), own_endW hE hc hs⟩
/-! a callee that may load constants itself: its law keeps the invariant; sf: what it writes of the caller's and what isn't a literal's -/
variable {own : String} {index : Nat} {y z : MethodName} {bytes : ByteArray} {maxL : Nat} {ret : Option FieldType} {W k n len : Nat} {as' : Array Value} {Qy : Option Value → Heap → List Loc → Prop} {g : JFrame} {argsL rest : List Value} {rm : Room} {sf : List Addr}
theorem own_payW {K : Program → Env → List Frame → State → Array Value → Prop}
    (hM : MetFree l y (head1 [Cond.code y bytes maxL ret] rm) (fun a U => a = as' ∧ Z.Warmed39 U.vm ∧ U.heap = h ∧ CHv Z EL U.vm h ∧ ∀ x ∈ sf, Safe Z EL U.vm h x) K (fun _ U o U' => ∃ v L, o = .returned v ∧ Qy v U'.heap L ∧ CHr Z EL U.vm U.heap U'.vm U'.heap ∧ ReturnedEndW U o U' L rm.cells rm.slots))
    (hK : ∀ (m : MethodId) (meth : Method) (c : Code) (A : Pt) (a : Array Value) (g : JFrame) (mk : MethodId), Stand p l e R (s.setVm vm) m args below meth c A.U A.locs A.cells A.slots → g.method = m → K p e (A.U.setTop g).frames (A.U.calling g mk a) a)
    (hZ : Z.Warmed39 vm) (wc : (Cond.code y bytes maxL ret).before a0 Z = true) (wz : (Cond.initialized y.cls).before a0 Z = true) (hf : rm.frames + 1 ≤ R.frames) (hl : W + (maxL + 11) + rm.locals ≤ R.locals) (hEL : EW Z a0 EL) (H : CHv Z EL vm h) (hsf : ∀ x ∈ sf, x < h.size ∧ Safe Z EL vm h x) :
    BackS l R p e below (s.setVm vm) args y len W (fun A a => a = as' ∧ A.U.heap = h ∧ A.cells + rm.cells ≤ R.cells ∧ A.slots + rm.slots ≤ R.slots)
      (fun A _ v B => ∃ L, Qy v B.U.heap L ∧ B.locs = A.locs ++ L ∧ B.cells = A.cells + rm.cells ∧ B.slots = A.slots + rm.slots ∧ CHr Z EL vm h B.U.vm B.U.heap) :=
  BackS.of_freeWG (bytes := bytes) (maxL := maxL) (ret := ret) (E := fun _ first o t L k n => k = rm.cells ∧ n = rm.slots ∧ (∃ v, o = .returned v ∧ Qy v t.heap L) ∧ CHr Z EL first.vm first.heap t.vm t.heap) hM hf hl
    (fun m meth c A a Y hp => have hU : Z.Warmed39 A.U.vm := wtrans (s := s.setVm vm) hZ Y.warmed
      ⟨by show (Cond.and _ .tt).before a A.U = true; rw [Cond.before_and, mv hU wc]; rfl, mv hU wc, mv hU wz, hp.2.2.1, hp.2.2.2⟩)
    (fun m meth c A a g mk Y hp => ⟨hp.1, wtrans (s := s.setVm vm) hZ Y.warmed, hp.2.1, (CHv.at Y hZ hEL H).1, fun x hx => (CHv.at Y hZ hEL H).safe (hsf x hx).1 (hsf x hx).2⟩) (fun m meth c A a g mk Y _ hg => hK m meth c A a g mk Y hg)
    (fun _ _ _ _ ⟨v, L, h1, h2, h3, h4⟩ => ⟨L, _, _, h4, rfl, rfl, ⟨v, h1, h2⟩, h3⟩)
    (fun m meth c A a g mk v t L k n Y hp _ _ ⟨e1, e2, ⟨v', e3, e4⟩, e5⟩ => by
      cases e3; subst e1 e2
      refine ⟨L, e4, rfl, rfl, rfl, (CHv.at Y hZ hEL H).trans ?_⟩
      rw [← hp.2.1]; exact e5)
theorem own_callSW (X : Stand p l e R (s.setVm vm) m args below meth c T locs cells slots) (hx : p.tables.exec = Jvm.exec) (hZ : Z.Warmed39 vm) (hown : vm.findClass own = some m.cls) (hS : s.Since vm k0) (hk : k0 ≤ h.size) (w1 : (Cond.methodLink own index y).before a0 Z = true) (w2 : (Cond.static y).before a0 Z = true) (w3 : (Cond.initialized y.cls).before a0 Z = true) (w4 : (Cond.code y bytes maxL ret).before a0 Z = true)
    (hy : y.cls ≠ "java/lang/invoke/MethodHandle" ∧ y.cls ≠ "java/lang/invoke/VarHandle")
    (hB : BackS l R p e below (s.setVm vm) args y 3 W (fun A a => a = as' ∧ A.U.heap = h ∧ A.cells + k ≤ R.cells ∧ A.slots + n ≤ R.slots) (fun A _ v B => ∃ L, Qy v B.U.heap L ∧ B.locs = A.locs ++ L ∧ B.cells = A.cells + k ∧ B.slots = A.slots + n ∧ CHr Z EL vm h B.U.vm B.U.heap))
    (eT : T.heap = h) (hg : g.method = m) (hsize : g.locals.size = c.maxLocals) (has : argsL.toArray = as') (hlen : ∀ sig, parseMethodDescriptor y.desc = some sig → argsL.length = sig.parameters.length) (hstack : g.stack = argsL.reverse ++ rest) (hW : 2 * g.monitorRoom + (rest.map fun v => v.category).sum ≤ W)
    (hdg : decode c.code g.pc = .ok (.invokestatic index, 3)) (hc : cells + k ≤ R.cells) (hs : slots + n ≤ R.slots) :
    ∃ v T' h' L, Stand p l e R (s.setVm T'.vm) m args below meth c T' (locs ++ L) (cells + k) (slots + n) ∧ T'.heap = h' ∧ Qy v h' L ∧ s.Since T'.vm h'.size ∧ h.size ≤ h'.size ∧ Z.Warmed39 T'.vm ∧ T'.vm.findClass own = some m.cls ∧ CHr Z EL vm h T'.vm h' ∧ ∀ t, Steps p.tables e below (T'.setTop { g with pc := g.pc + 3, stack := v.toList ++ rest }) t → Steps p.tables e below (T.setTop g) t := by
  obtain ⟨v, _, ⟨T', L', k', n'⟩, -, X', hS', hh', ⟨L, hQ, l1, l2, l3, l4⟩, st⟩ := callSS X hx (y := y) hown (mvT (s := s.setVm vm) hZ w1) (mvT (s := s.setVm vm) hZ w2) (mvT (s := s.setVm vm) hZ w3) (mvT (s := s.setVm vm) hZ w4) hy hB hg hsize hlen hstack hW hdg (fun _ _ => ⟨has, eT, hc, hs⟩)
  dsimp only [Pt.U, Pt.locs, Pt.cells, Pt.slots] at X' l1 l2 l3 l4 st hQ hS' hh'
  subst l1 l2 l3
  rw [eT] at hh'
  obtain ⟨X2, hS2, hZ2, hown2⟩ := rebS hS hk X' hS' hh' (Z := Z) hZ (own := own) hown
  exact ⟨v, T', _, L, X2, rfl, hQ, hS2, hh', hZ2, hown2, l4, fun t k => st.trans k⟩
theorem own_callIW (X : Stand p l e R (s.setVm vm) m args below meth c T locs cells slots) (hx : p.tables.exec = Jvm.exec) (hZ : Z.Warmed39 vm) (hown : vm.findClass own = some m.cls) (hS : s.Since vm k0) (hk : k0 ≤ h.size) (hy1 : y.name = "<init>") (w1 : (Cond.methodLink own index y).before a0 Z = true) (w2 : (Cond.instanceMethod y).before a0 Z = true) (w4 : (Cond.code y bytes maxL none).before a0 Z = true)
    (hy : y.cls ≠ "java/lang/invoke/MethodHandle" ∧ y.cls ≠ "java/lang/invoke/VarHandle")
    (hB : BackS l R p e below (s.setVm vm) args y 3 W (fun A a => a = as' ∧ A.U.heap = h ∧ A.cells + k ≤ R.cells ∧ A.slots + n ≤ R.slots) (fun A _ v B => ∃ L, Qy v B.U.heap L ∧ B.locs = A.locs ++ L ∧ B.cells = A.cells + k ∧ B.slots = A.slots + n ∧ CHr Z EL vm h B.U.vm B.U.heap))
    (eT : T.heap = h) {a : Addr} (hg : g.method = m) (hsize : g.locals.size = c.maxLocals) (has : (Value.ref a :: argsL).toArray = as') (hlen : ∀ sig, parseMethodDescriptor y.desc = some sig → argsL.length = sig.parameters.length) (hstack : g.stack = argsL.reverse ++ .ref a :: rest) (hW : 2 * g.monitorRoom + (rest.map fun v => v.category).sum ≤ W)
    (hdg : decode c.code g.pc = .ok (.invokespecial index, 3)) (hc : cells + k ≤ R.cells) (hs : slots + n ≤ R.slots) :
    ∃ v T' h' L, Stand p l e R (s.setVm T'.vm) m args below meth c T' (locs ++ L) (cells + k) (slots + n) ∧ T'.heap = h' ∧ Qy v h' L ∧ s.Since T'.vm h'.size ∧ h.size ≤ h'.size ∧ Z.Warmed39 T'.vm ∧ T'.vm.findClass own = some m.cls ∧ CHr Z EL vm h T'.vm h' ∧ ∀ t, Steps p.tables e below (T'.setTop { g with pc := g.pc + 3, stack := v.toList ++ rest }) t → Steps p.tables e below (T.setTop g) t := by
  obtain ⟨v, _, ⟨T', L', k', n'⟩, -, X', hS', hh', ⟨L, hQ, l1, l2, l3, l4⟩, st⟩ := X.specialBackS hx (y := y) hy1 hown (mvT (s := s.setVm vm) hZ w1) (mvT (s := s.setVm vm) hZ w2) (mvT (s := s.setVm vm) hZ w4) hy hB hg hsize (Steps.refl _) hlen hstack hW hdg (fun _ _ => ⟨has, eT, hc, hs⟩)
  dsimp only [Pt.U, Pt.locs, Pt.cells, Pt.slots] at X' l1 l2 l3 l4 st hQ hS' hh'
  subst l1 l2 l3
  rw [eT] at hh'
  obtain ⟨X2, hS2, hZ2, hown2⟩ := rebS hS hk X' hS' hh' (Z := Z) hZ (own := own) hown
  exact ⟨v, T', _, L, X2, rfl, hQ, hS2, hh', hZ2, hown2, l4, fun t k => st.trans k⟩
theorem own_sf0 : ∀ x ∈ ([] : List Addr), x < h.size ∧ Safe Z EL vm h x := fun _ q => nomatch q
theorem own_sfS {x : Addr} {ws : List Addr} (h1 : x < h.size) (h2 : Safe Z EL vm h x) (r : ∀ y ∈ ws, y < h.size ∧ Safe Z EL vm h y) : ∀ y ∈ x :: ws, y < h.size ∧ Safe Z EL vm h y := fun y q => by
  rcases List.mem_cons.mp q with rfl | q
  · exact ⟨h1, h2⟩
  · exact r y q
end OwnGoW
section OwnExc
open Jvm.Free.Exc LibCode.Throwable
/-- the words of an exception's making, without `lays Throwable Throwable suppressedExceptions`, which the sheet lacks -/
def own_atoms (rc : String) : List Jvm.Cond := (excAtoms rc).eraseIdx 18
theorem own_ok {rc : String} : (own_atoms rc).all xOk = true := rfl
variable {p : Program} {l : Launch} {e : Env} {R : Room} {s : State} {m : MethodId} {args : Array Value} {below : List Frame} {meth : Method} {c : Code} {T : State} {locs : List Loc} {cells slots : Nat} {Z : State} {a0 : Array Value} {h : Heap}
theorem own_sub {rc : String} {x : Jvm.Cond} (hx : x ∈ excAtoms rc) (hne : x ≠ .lays tN tN "suppressedExceptions" listD) : x ∈ own_atoms rc := by
  simp only [own_atoms, excAtoms, throwableAtoms, List.cons_append, List.nil_append, List.eraseIdx_cons_succ, List.eraseIdx_cons_zero, List.mem_cons, List.not_mem_nil, or_false] at hx ⊢
  rcases hx with r | r | r | r | r | r | r | r | r | r | r | r | r | r | r | r | r | r | r | r | r | r | r | r | r | r | r | r | r | r | r | r | r | r | r | r | r | r
  all_goals first | exact absurd r hne | simp [r]
/-- Throwable's own tables (turned from the library's bundle): suppressedExceptions is read off the receiver's class -/
theorem own_links {rc : String} {pl : Platform} {cX : ClassId} {kX : Class} (howns : pl.frameOwnsMonitors = true) (hfin : pl.finalization = false) (hpl : pl.magicAccessors = ({} : Platform).magicAccessors)
    (h : ∀ x ∈ own_atoms rc, x.before args s = true) (hcX : s.vm.findClass rc = some cX) (hkX : s.vm.classes[cX]? = some kX) :
    ∃ T : ThrowableC, T.Links pl s ∧ s.vm.findClass tN = some T.cT ∧ s.methodNamed? tFill = some T.fill ∧ s.methodNamed? tFill0 = some T.fill0 ∧ (∃ i, s.fieldFound? tN "stackTrace" steD = some (T.cT, T.kT, i, T.fStack)) ∧ T.fStack.name = "stackTrace" ∧ T.fStack.type = .array (.object "java/lang/StackTraceElement") ∧
      ∃ i, s.fieldFound? tN "UNASSIGNED_STACK" steD = some (T.cT, T.kT, i, T.fUnassigned) := by
  have a : ∀ x, x ∈ excAtoms rc → x ≠ .lays tN tN "suppressedExceptions" listD → x.holds args s none s [] = true := fun x h1 h2 => h x (own_sub h1 h2)
  obtain ⟨⟨c, i0⟩, meth0, hn0, hm0, hnat0, hcode0, hlocks0, hsig0⟩ := Cond.native_spec (a (.native tFill0) (by simp [excAtoms, throwableAtoms]) (by simp))
  have hc : s.vm.findClass tN = some c := findClass_of_methodNamed hn0
  obtain ⟨k, hk, hname⟩ := Vm.findClass_spec hc
  have hinit := Cond.initialized_spec hc hk (a (.initialized tN) (by simp [excAtoms, throwableAtoms]) (by simp))
  obtain ⟨_, k1, _, _, hk1, _, _, hord, _, hni⟩ := Cond.superclass_spec hc (a (.superclass tN "java/lang/Object") (by simp [excAtoms, throwableAtoms]) (by simp))
  cases Option.some.inj (hk.symm.trans hk1)
  obtain ⟨iF, methF, hnF, hmF, hatF, hstF, habF, -, -⟩ := Cond.ownMethod (x := tFill) hc hk (a (.instanceMethod tFill) (by simp [excAtoms, throwableAtoms]) (by simp))
  obtain ⟨methF', cF, hmF', hcF, hbF, hlF, hrF, hlkF, -, hsigF⟩ := Cond.codeSync_spec hnF (a (.codeSync tFill Fill.code 1 (some (.object tN))) (by simp [excAtoms, throwableAtoms]) (by simp))
  cases Option.some.inj (hmF.symm.trans hmF')
  obtain ⟨i0', meth0', hn0', hm0', hat0, hst0, hab0, hnm0, hds0⟩ := Cond.ownMethod (x := tFill0) hc hk (a (.instanceMethod tFill0) (by simp [excAtoms, throwableAtoms]) (by simp))
  obtain rfl : i0 = i0' := by have := Option.some.inj (hn0.symm.trans hn0'); simpa using this
  cases Option.some.inj (hm0.symm.trans hm0')
  obtain ⟨iZ, methZ, hnZ, hmZ, hatZ, -, -, -, -⟩ := Cond.ownMethod (x := tInit0) hc hk (a (.instanceMethod tInit0) (by simp [excAtoms, throwableAtoms]) (by simp))
  obtain ⟨methZ', cZ, hmZ', hcZ, hbZ, hlZ, -, hlkZ, -, -⟩ := Cond.code_spec hnZ (a (.code tInit0 Init0.code 1 none) (by simp [excAtoms, throwableAtoms]) (by simp))
  obtain ⟨mO, methO, hnO, hmO, hstO, habO⟩ := Cond.instanceMethod_spec (a (.instanceMethod oInit) (by simp [excAtoms, throwableAtoms]) (by simp))
  obtain ⟨methO', cO, hmO', hcO, hbO, hlO, -, hlkO, -, hsigO⟩ := Cond.code_spec hnO (a (.code oInit ⟨#[0xb1]⟩ 1 none) (by simp [excAtoms, throwableAtoms]) (by simp))
  cases Option.some.inj (hmO.symm.trans hmO')
  obtain ⟨kO, hkO, hnameO⟩ := Vm.findClass_spec (findClass_of_methodNamed hnO)
  obtain ⟨hnmO, hdsO⟩ := name_of_methodNamed hnO hmO
  obtain ⟨ci1, n1, cf, hl1, hr1, hcf, hp1⟩ := Cond.linkedMethod hc hk hnO (a (.methodLink tN 1 oInit) (by simp [excAtoms, throwableAtoms]) (by simp)) pl hpl
  obtain ⟨ci27, n27, cf', hl27, hr27, hcf', hp27⟩ := Cond.linkedMethod hc hk hnF (a (.methodLink tN 27 tFill) (by simp [excAtoms, throwableAtoms]) (by simp)) pl hpl
  cases Option.some.inj (hcf.symm.trans hcf')
  obtain ⟨ci202, n202, cf', hl202, hr202, hcf', hp202⟩ := Cond.linkedMethod hc hk hn0 (a (.methodLink tN 202 tFill0) (by simp [excAtoms, throwableAtoms]) (by simp)) pl hpl
  cases Option.some.inj (hcf.symm.trans hcf')
  obtain ⟨ci7, i7, f7, hk7, hg7, ha7, hs7, hf7, hn7, ht7, hff7⟩ := Cond.ownField (t := .object tN) hc hk (by decide +kernel) (a (.fieldLink tN 7 tN "cause" thD) (by simp [excAtoms, throwableAtoms]) (by simp)) (a (.lays tN tN "cause" thD) (by simp [excAtoms, throwableAtoms]) (by simp)) pl hpl
  obtain ⟨ci17, i17, f17, hk17, hg17, ha17, hs17, hf17, hn17, ht17, hff17⟩ := Cond.ownField (t := .array (.object "java/lang/StackTraceElement")) hc hk (by decide +kernel) (a (.fieldLink tN 17 tN "stackTrace" steD) (by simp [excAtoms, throwableAtoms]) (by simp)) (a (.lays tN tN "stackTrace" steD) (by simp [excAtoms, throwableAtoms]) (by simp)) pl hpl
  obtain ⟨ci24, i24, f24, hk24, hg24, ha24, hs24, hf24, hn24, ht24, hff24⟩ := Cond.ownField (C' := rc) (t := .object "java/util/List") hc hk (by decide +kernel) (a (.fieldLink tN 24 tN "suppressedExceptions" listD) (by simp [excAtoms, throwableAtoms]) (by simp)) (h (.lays rc tN "suppressedExceptions" listD) (by simp [own_atoms, excAtoms, throwableAtoms])) pl hpl
  obtain ⟨ci13, i13, f13, aS, cellS, hk13, hg13, ha13, hs13, -, -, hsta, hcellS, hissS, -, -, hff13⟩ := Cond.ownStatic (t := .array (.object "java/lang/StackTraceElement")) hc hk (by decide +kernel) (a (.fieldLink tN 13 tN "UNASSIGNED_STACK" steD) (by simp [excAtoms, throwableAtoms]) (by simp)) (a (.laysStatic tN "UNASSIGNED_STACK" steD) (by simp [excAtoms, throwableAtoms]) (by simp)) pl hpl
  obtain ⟨ci20, i20, f20, _, _, hk20, hg20, ha20, hs20, -, -, -, -, -, -, -, hff20⟩ := Cond.ownStatic (t := .object "java/util/List") hc hk (by decide +kernel) (a (.fieldLink tN 20 tN "SUPPRESSED_SENTINEL" listD) (by simp [excAtoms, throwableAtoms]) (by simp)) (a (.laysStatic tN "SUPPRESSED_SENTINEL" listD) (by simp [excAtoms, throwableAtoms]) (by simp)) pl hpl
  obtain ⟨_, _, cM, kM, iM, fM, _, _, hffM, hsM, hfM, _⟩ := Cond.lays_spec (a (.lays tN tN "detailMessage" msgD) (by simp [excAtoms, throwableAtoms]) (by simp))
  obtain ⟨_, d17, hd17, hdn17⟩ := Cond.laysAt hcX hkX hff17 (h (.lays rc tN "stackTrace" steD) (by simp [own_atoms, excAtoms, throwableAtoms]))
  obtain ⟨_, d24, hd24, hdn24⟩ := Cond.laysAt hcX hkX hff24 (h (.lays rc tN "suppressedExceptions" listD) (by simp [own_atoms, excAtoms, throwableAtoms]))
  have hapart : f17.slot ≠ f24.slot := Cond.laysApart hd17 hd24 hdn17 hdn24 (by rw [hn17, hn24]; decide)
  have pF : methF.sig.parameters = [] := by
    have : (parseMethodDescriptor tFill.desc).map (·.parameters) = some [] := by decide +kernel
    rw [hsigF] at this; simpa using this
  have p0 : meth0.sig.parameters = [.int] := by
    have : (parseMethodDescriptor tFill0.desc).map (·.parameters) = some [.int] := by decide +kernel
    rw [hsig0] at this; simpa using this
  have pO : methO.sig.parameters.length = 0 := by
    have : (parseMethodDescriptor oInit.desc).map (·.parameters) = some [] := by decide +kernel
    rw [hsigO] at this
    have : methO.sig.parameters = [] := by simpa using this
    rw [this]; rfl
  refine ⟨{ cT := c, kT := k, cO := c, aS := aS, fillIdx := iF, fill0Idx := i0, initSIdx := iZ, obj := mO, kObj := kO, methFill := methF, methFill0 := meth0, methInitS := methZ, methObj := methO, codeFill := cF, codeInitS := cZ, codeObj := cO,
              fBack := f7, fDepth := f7, fStack := f17, fCause := f7, fSupp := f24, fMsg := fM, fUnassigned := f13, fSentinel := f20, cfT := cf, ci1 := ci1, n1 := n1, ci27 := ci27, n27 := n27, ci202 := ci202, n202 := n202,
              ci7 := ci7, i7 := i7, ci13 := ci13, i13 := i13, ci17 := ci17, i17 := i17, ci20 := ci20, i20 := i20, ci24 := ci24, i24 := i24 }, ?_, hc, hnF, hn0, ⟨i17, hff17⟩, hn17, ht17, ⟨i13, hff13⟩⟩
  exact { owns := howns, noFinalization := hfin, cls := hk, name := hname, boot := Vm.findClass_boot hc hk, notInterface := hni, initialized := hinit, statics := hsta,
          fillAt := hatF, fillCode := hcF, fillBytes := hbF, fillLocals := hlF, fillLocks := hlkF, fillStatic := hstF, fillAbstract := habF, fillReturns := hrF, fillParams := pF,
          fill0At := hat0, fill0Name := hnm0, fill0Desc := hds0, fill0Params := p0, fill0Static := hst0, fill0Native := hnat0, fill0Code := hcode0, fill0Locks := hlocks0, fill0Abstract := hab0,
          stackInstance := hs17, stackNotFinal := hf17, unassignedStatic := hs13,
          objClass := hkO, objClassName := hnameO, objMethod := hmO, objName := hnmO, objStatic := hstO, objAbstract := habO, objFound := by rw [hdsO]; exact lookupSpecial_of_named hnO hmO hstO, objParams := pO,
          objCode := hcO, objBytes := hbO, objLocks := hlkO, causeInstance := hs7, causeNotFinal := hf7, sentinelStatic := hs20, suppInstance := hs24, suppNotFinal := hf24, msgInstance := hsM, msgNotFinal := hfM, stackApartSupp := hapart,
          file := hcf, mlink1 := hl1, mright1 := hr1, pool1 := hp1, mlink27 := hl27, mright27 := hr27, pool27 := hp27, mlink202 := hl202, mright202 := hr202, pool202 := hp202,
          link7 := hk7, right7 := hg7, at7 := ha7, link13 := hk13, right13 := hg13, at13 := ha13, link17 := hk17, right17 := hg17, at17 := ha17, link20 := hk20, right20 := hg20, at20 := ha20, link24 := hk24, right24 := hg24, at24 := ha24 }
theorem own_apart {rc O n d n2 d2 : String} {ty ty2 : FieldType} {cf cf2 : ClassId} {k k2 : Class} {i i2 : Nat} {f f2 : Field} (Lf : Laid Z a0 rc O n d) (ht : parseFieldDescriptor d = some ty) (w : (Cond.lays rc tN n2 d2).before a0 Z = true) (ht2 : parseFieldDescriptor d2 = some ty2) (hne : n ≠ n2)
    (h1 : Z.fieldFound? O n d = some (cf, k, i, f)) (h2 : Z.fieldFound? tN n2 d2 = some (cf2, k2, i2, f2)) : f.slot ≠ f2.slot := by
  obtain ⟨c, _, _, _, _, g, a1, a2, a3, -, -, -, -, dd, a8, a9⟩ := Lf.spec
  cases a3.symm.trans h1
  obtain ⟨-, d9, b1, b2⟩ := Cond.laysAt a1 a2 h2 (show (Cond.lays rc tN n2 d2).holds a0 Z none Z [] = true from w)
  exact Cond.laysApart a8 b1 a9 b2 (by rw [(State.fieldFound?_type h1 ht).1, (State.fieldFound?_type h2 ht2).1]; exact hne)
/-- fillInStackTrace on an object of the walk's own making (the call at pc 24 of every constructor of Throwable), from the frame's start -/
theorem own_fill (X : Stand p l e R s m args below meth c T locs cells slots) (hx : p.tables.exec = Jvm.exec) (hl : l.stackTraces = true) (hZ : Z.Warmed39 s.vm) {rc : String} (hown : s.vm.findClass tN = some m.cls) (W : ∀ d ∈ own_atoms rc, d.before a0 Z = true) (hT0 : ThS Z s.heap) (hTK : s.vm.MethodsKnown) (hBelow : s.vm.FramesKnown below)
    (eT : T.heap = h) (hc0 : cells = 0) {a : Addr} (hlocs : ∀ y ∈ locs, y.base = a) (E : Exa Z h a rc) (N0 : Unt s.heap a) {nn : Nat} (wi : (Cond.instantiable rc nn).before a0 Z = true) {u : Value} (hu : u.isRef = true) (S : Sta Z h tN "UNASSIGNED_STACK" steD u) (B : Fld Z h a tN "stackTrace" steD u) (B2 : Fld Z h a tN "backtrace" obD .null)
    {g : JFrame} (hg : g.method = m) (hsize : g.locals.size = c.maxLocals) {rest : List Value} (hs : g.stack = .ref a :: rest) (hd : decode c.code g.pc = .ok (.invokevirtual 27, 3))
    (hf : 3 ≤ R.frames) (hlo : 2 * g.monitorRoom + (rest.map fun v => v.category).sum + 42 ≤ R.locals) (hc : cells + 1 ≤ R.cells) (hsl : slots + 2752 ≤ R.slots) :
    ∃ (T' : State) (h' : Heap) (L : List Loc), Stand p l e R s m args below meth c T' (locs ++ L) (cells + 1) (slots + 2752) ∧ T'.heap = h' ∧ (∀ y ∈ L, y.base = a) ∧ Keep h h' [a] ∧ Exa Z h' a rc ∧ Unt h' a ∧
      (∀ (O n d : String) (ty : FieldType) (v : Value), Laid Z a0 rc O n d → parseFieldDescriptor d = some ty → n ≠ "backtrace" → n ≠ "depth" → n ≠ "stackTrace" → Fld Z h a O n d v → Fld Z h' a O n d v) ∧
      ∀ target, Steps p.tables e below (T'.setTop { g with pc := g.pc + 3, stack := .ref a :: rest }) target → Steps p.tables e below (T.setTop g) target := by
  subst eT
  have Ws : ∀ d ∈ own_atoms rc, d.before args s = true := fun d hd => mvX hT0 hZ (List.all_eq_true.mp own_ok d hd) (W d hd)
  have a' : ∀ x, x ∈ excAtoms rc → x ≠ .lays tN tN "suppressedExceptions" listD → x.holds args s none s [] = true := fun x h1 h2 => Ws x (own_sub h1 h2)
  have aZ : ∀ x, x ∈ excAtoms rc → x ≠ .lays tN tN "suppressedExceptions" listD → x.before a0 Z = true := fun x h1 h2 => W x (own_sub h1 h2)
  have htr : e.platform.stackTraces = true := by rw [X.admits.platform]; exact hl
  have howns : e.platform.frameOwnsMonitors = true := by rw [X.admits.platform]
  have hfin : e.platform.finalization = false := by rw [X.admits.platform]
  have hpl : e.platform.magicAccessors = ({} : Platform).magicAccessors := by rw [X.admits.platform]
  obtain ⟨cell, kZ, q1, q2, q3, q4, q5⟩ := E
  obtain ⟨ci9, ki9, w1, w2, w3, -, -, -⟩ := Cond.instantiable_spec wi
  cases w1.symm.trans q2
  cases w2.symm.trans q3
  obtain ⟨kX, hk, he⟩ := hZ.alike.2.2 _ _ q3
  have hfound : s.vm.findClass rc = some cell.cls := by rw [hZ.alike.findClass]; exact q2
  have hord : kX.kind = .ordinary := by rw [he]; exact w3
  have hsz : cell.slots.size = kX.instanceTypes.size := by rw [he]; exact q5 w3
  obtain ⟨T0, L, hTf, hfill, hfill0, ⟨iS, hffS⟩, hnS, htyS, ⟨iU, hffU⟩⟩ := own_links (rc := rc) (pl := e.platform) howns hfin hpl Ws hfound hk
  obtain ⟨c0, n1, n2, n3⟩ := N0
  obtain ⟨cc, s1, s2, -, -⟩ := X.same.2.2.2.2.2 a c0 n1
  cases (show T.heap[a]? = some cc from s1).symm.trans q1
  have hvm : cell.vm = .none := by rw [s2]; exact n2
  have hmon : cell.monitor = {} := by rw [s2]; exact n3
  have hsel0 : selectMethod e.platform s.vm cell.cls T0.fill0 = .method T0.fill0 := by
    obtain ⟨c2, r2, m2, z1, z2, z3, z4, -⟩ := Cond.selects_spec (a' (.selects rc tFill0 tFill0) (by simp [excAtoms]) (by simp))
    cases Option.some.inj (z1.symm.trans hfound)
    cases Option.some.inj (z2.symm.trans (State.methodFound?_of_named hfill0 (by decide)))
    cases Option.some.inj (z3.symm.trans hfill0)
    rw [Launch.admits_selectMethod X.admits]; exact z4
  obtain ⟨cf, i, k, f, st, cellS, g1, g2, g3, g4, g5, g6, g7⟩ := S
  obtain ⟨k', hi', hek⟩ := State.fieldFound?_setVm hZ.alike g1
  cases (show s.fieldFound? tN "UNASSIGNED_STACK" steD = some (_, k', _, _) from hi').symm.trans hffU
  have hst : T0.aS = st := Option.some.inj (L.statics.symm.trans (by rw [hek]; exact g4))
  subst hst
  obtain ⟨cellB, cfB, kB, iB, fBs, b1, b2, b3, b4, b5, b6, b7⟩ := B
  cases b1.symm.trans q1
  obtain ⟨kB', hiB', -⟩ := State.fieldFound?_setVm hZ.alike b2
  cases (show s.fieldFound? tN "stackTrace" steD = some (_, kB', _, _) from hiB').symm.trans hffS
  obtain ⟨cellC, cfC, kC, iC, fB, e1, e2, e3, e4, e5, e6, e7⟩ := B2
  cases e1.symm.trans q1
  obtain ⟨kC', hiC', -⟩ := State.fieldFound?_setVm hZ.alike e2
  have hneS : T0.aS ≠ a := fun z => by
    rw [z, q1] at g5
    rw [← Option.some.inj g5, hvm] at g6
    cases g6
  obtain ⟨ci198, i198, fB', hk198, hg198, ha198, hsB, -, hnB, htB, hffB⟩ := Cond.ownField (t := .object "java/lang/Object") hTf L.cls (by decide +kernel) (a' (.fieldLink tN 198 tN "backtrace" obD) (by simp [excAtoms]) (by simp)) (a' (.lays tN tN "backtrace" obD) (by simp [excAtoms]) (by simp)) e.platform hpl
  cases (show s.fieldFound? tN "backtrace" obD = some (_, kC', _, _) from hiC').symm.trans hffB
  obtain ⟨cD1, kD1, cD, kD, iD, fD, -, -, hffD, hstD, -, -, -, -⟩ := Cond.lays_spec (a' (.lays rc tN "depth" "I") (by simp [excAtoms]) (by simp))
  cases Option.some.inj ((Cond.lays_declared (a' (.lays rc tN "depth" "I") (by simp [excAtoms]) (by simp)) hffD).symm.trans hTf)
  obtain ⟨hkD, hatD⟩ := State.fieldFound?_spec hffD
  cases Option.some.inj (hkD.symm.trans L.cls)
  obtain ⟨hnD, htD⟩ := State.fieldFound?_type hffD (t := .int) (by decide +kernel)
  have hfb := Cond.soleField_find hTf L.cls (a' (.soleField tN "backtrace") (by simp [excAtoms]) (by simp)) ha198 hnB hsB
  have hfd := Cond.soleField_find hTf L.cls (a' (.soleField tN "depth") (by simp [excAtoms]) (by simp)) hatD hnD hstD
  obtain ⟨comp, cO, kO, -, -, hkO, hkindO, hO⟩ := Cond.arrayOver_spec (Ws (.arrayOver (.object "java/lang/Object")) (own_sub (by simp [excAtoms]) (by simp)))
  obtain ⟨tyS, -⟩ := Cond.laysAt hfound hk hffS (a' (.lays rc tN "stackTrace" steD) (by simp [excAtoms]) (by simp))
  obtain ⟨tyB, -⟩ := Cond.laysAt hfound hk hffB (a' (.lays rc tN "backtrace" obD) (by simp [excAtoms]) (by simp))
  obtain ⟨tyD, -⟩ := Cond.laysAt hfound hk hffD (a' (.lays rc tN "depth" "I") (by simp [excAtoms]) (by simp))
  have tk : ∀ {f : Field} {v : Value}, kX.instanceTypes[f.slot]? = some f.type → fits f.type v = true → Jvm.Takes s cell f v := fun {f v} h1 h2 => by
    obtain ⟨z1, z2⟩ := Takes.of_laid (v := v) hk hord h1 h2
    exact ⟨by rw [hsz]; simpa using z1, by rw [hvm]; exact z2⟩
  have hSE := Ws (.selects rc tFill tFill) (own_sub (by simp [excAtoms]) (by simp))
  obtain ⟨v6, vm6, ⟨T6, L6, c6, n6⟩, hW6, X6, ⟨hv6, C6, n, hn, hD6, r1, r2, r3, r4, hL6, hc6, hn6'⟩, come⟩ := X.virtualBack hx (own := tN) (C := rc) (index := 27) (y := tFill) (z := tFill) hown (Ws (.methodLink tN 27 tFill) (own_sub (by simp [excAtoms, throwableAtoms]) (by simp))) (Ws (.declares tFill) (own_sub (by simp [excAtoms]) (by simp))) (notFace_of_selects hSE) hSE (Ws (.instanceMethod tFill) (own_sub (by simp [excAtoms, throwableAtoms]) (by simp))) (by decide)
    (fillPaysAny (l := l) (W := 2 * g.monitorRoom + (rest.map fun v => v.category).sum) hx htr T0 L hfill (u0 := ⟨u, hu⟩) (self := a) (cell := cell) (cellS := cellS) (fun _ => by rw [hvm]; simp) (by rw [hvm]; simp) (by rw [hmon]) (by rw [hmon]) b7 hsel0 hneS (fun z => by rw [z] at g6; cases g6) g7 (tk tyS (by rw [htyS]; exact fits_refV_array _ ⟨u, hu⟩))
      ⟨{ ci198 := ci198, i198 := _, fBack := fB }, ⟨hk198, hg198, ha198, hsB⟩, e7⟩ hTK hBelow hTf hO hkO hkindO hfb hfd (fun x => tk tyB (by rw [htB]; rfl)) (fun x => tk tyD (by rw [htD]; rfl)) (by omega) (by omega))
    (b := a) (cB := cell.cls) hfound ⟨cell, q1, rfl, by rw [hvm]; rfl⟩ hg hsize (Steps.refl _) (argsL := []) (rest := rest)
    (fun sig h => by rw [show parseMethodDescriptor tFill.desc = some ⟨[], some (.object tN)⟩ from by decide +kernel] at h; rw [← Option.some.inj h]; rfl) (by rw [hs]; rfl) (Nat.le_refl _) hd
    (fun vmx hWx => ⟨rfl, hc, hsl, q1, g5⟩)
  dsimp only [Pt.U, Pt.locs, Pt.cells, Pt.slots] at X6 hD6 hL6 hc6 hn6' come
  subst hv6 hL6 hc6 hn6'
  have hbase : ∀ y ∈ locs ++ [(⟨a, fB.slot⟩ : Loc), ⟨a, fD.slot⟩, ⟨a, T0.fStack.slot⟩], y.base = a := fun y hy => by
    rcases List.mem_append.mp hy with z | z
    · exact hlocs y z
    · simp only [List.mem_cons, List.not_mem_nil, or_false] at z
      rcases z with rfl | rfl | rfl <;> rfl
  have hszT : T.heap.size = s.heap.size := Nat.le_antisymm (by have := X.same.2.2.1; rw [hc0] at this; exact this) X.same.2.1
  have hback : ∀ (y : Addr) (cy : Cell), T.heap[y]? = some cy → ∃ cs : Cell, s.heap[y]? = some cs := fun y cy hy => ⟨_, Array.getElem?_eq_getElem (by rw [← hszT]; exact (Array.getElem?_eq_some_iff.mp hy).1)⟩
  refine ⟨T6, T6.heap, _, X6.more (Nat.le_refl _) (Nat.add_le_add_left hn _), rfl, fun y hy => hbase y (List.mem_append_right _ hy), ⟨by rw [show T.heap.size = s.heap.size from hszT]; exact X6.same.2.1, fun y cy hy hm => ?_, fun y cy hy => ?_⟩, ⟨C6, kZ, hD6, by rw [r1]; exact q2, by rw [r1]; exact q3, by rw [r2]; exact q4, by rw [r3]; exact q5⟩, ?_, ?_, fun t k => come.trans k⟩
  · obtain ⟨cs, hcs⟩ := hback y cy hy
    have u1 : T.heap[y]? = some cs := X.same.kept_off (fun i hi => hm (by have := hlocs _ hi; simp only at this; subst this; exact List.mem_cons_self ..)) hcs
    cases u1.symm.trans hy
    exact X6.same.kept_off (fun i hi => hm (by have := hbase _ hi; simp only at this; subst this; exact List.mem_cons_self ..)) hcs
  · obtain ⟨cs, hcs⟩ := hback y cy hy
    obtain ⟨c1, y1, y2, y3, -⟩ := X.same.2.2.2.2.2 y cs hcs
    cases (show T.heap[y]? = some c1 from y1).symm.trans hy
    obtain ⟨c', z1, z2, z3, -⟩ := X6.same.2.2.2.2.2 y cs hcs
    exact ⟨c', z1, by rw [z2, y2], by rw [z2, y2], by rw [z3, y3]⟩
  · obtain ⟨c', z1, z2, -, -⟩ := X6.same.2.2.2.2.2 a c0 n1
    exact ⟨c', z1, by rw [z2]; exact n2, by rw [z2]; exact n3⟩
  · intro O n d ty v Lf ht x1 x2 x3 F
    obtain ⟨cF, cfF, kF, iF, fF, f1, f2, f3, f4, f5, f6, f7⟩ := F
    cases f1.symm.trans q1
    obtain ⟨kd, hdZ, -⟩ := State.fieldFound?_setVm (s := s) hZ.alike.symm hffD
    have y1 := own_apart Lf ht (aZ (.lays rc tN "backtrace" obD) (by simp [excAtoms]) (by simp)) (ty2 := .object "java/lang/Object") (by decide +kernel) x1 f2 e2
    have y2 := own_apart Lf ht (aZ (.lays rc tN "depth" "I") (by simp [excAtoms]) (by simp)) (ty2 := .int) (by decide +kernel) x2 f2 (show Z.fieldFound? tN "depth" "I" = some (_, kd, _, _) from hdZ)
    have y3 := own_apart Lf ht (aZ (.lays rc tN "stackTrace" steD) (by simp [excAtoms]) (by simp)) (ty2 := .array (.object "java/lang/StackTraceElement")) (by decide +kernel) x3 f2 b2
    exact ⟨C6, cfF, kF, iF, fF, hD6, f2, f3, by rw [r2]; exact f4, by rw [r2]; exact f5, by rw [r1]; exact f6, by rw [r4 _ y1 y2 y3]; exact f7⟩
theorem own_staR {s : State} {args : Array Value} {C n d : String} (h : (Jvm.Cond.isRef (Term.static C n d)).before args s = true) (hi : (Jvm.Cond.initializedFor C n d).before args s = true) : ∃ v : Value, v.isRef = true ∧ Sta s s.heap C n d v := by
  have q := Cond.before_iff.mp h
  cases hv : (Term.static C n d).eval args s none [] s with
  | none => simp [Cond.value, hv] at q
  | some v => exact ⟨v, by cases v <;> simp [Cond.value, hv, Value.isRef] at q ⊢, Sta.start hv (Or.inl hi)⟩
end OwnExc
theorem own_nc (y : Int32) : nar .char (y.toUInt32.toUInt16.toUInt32.toInt32) = y.toUInt32.toUInt16.toUInt32.toInt32 := by
  have e : ∀ u : UInt16, u.toUInt32.toInt32.toUInt32.toUInt16 = u := fun u => by simp
  show ((y.toUInt32.toUInt16).toUInt32.toInt32).toUInt32.toUInt16.toUInt32.toInt32 = _
  rw [e]

theorem own_and255 (x : Int32) : ¬ nar .char ((x &&& (255 : Int32)).toUInt32.toUInt16.toUInt32.toInt32) < 0 ∧ ¬ (255 : Int32) < nar .char ((x &&& (255 : Int32)).toUInt32.toUInt16.toUInt32.toInt32) := by
  have t : ∀ k : Fin 256, ¬ nar .char ((Int32.ofNat k.val).toUInt32.toUInt16.toUInt32.toInt32) < 0 ∧ ¬ (255 : Int32) < nar .char ((Int32.ofNat k.val).toUInt32.toUInt16.toUInt32.toInt32) := by decide +kernel
  have h : (x &&& 255).toBitVec.toNat < 256 := by
    simp only [Int32.toBitVec_and, BitVec.toNat_and]
    exact Nat.lt_succ_of_le Nat.and_le_right
  have e : (x &&& 255) = Int32.ofNat (x &&& 255).toBitVec.toNat := by
    apply Int32.toBitVec_inj.mp
    show _ = BitVec.ofNat 32 _
    rw [BitVec.ofNat_toNat]; simp
  rw [e]
  exact t ⟨_, h⟩
theorem own_sta {s : State} {args : Array Value} {C n d : String} {k : Int32} (h : (Jvm.Cond.eq (Term.static C n d) (Term.int k)).before args s = true) (hi : (Jvm.Cond.initializedFor C n d).before args s = true) : Sta s s.heap C n d (.int k) := by
  obtain ⟨x, y, hx, hy, k1, k2⟩ := cmp_v (Or.inl (Cond.before_iff.mp h))
  rw [Term.int_eval k] at hy
  cases hy
  obtain ⟨z, rfl⟩ : ∃ z, x = .int z := k2
  have e := gotT (show (Jvm.Cond.eq (Term.static C n d) (Term.int k)).value args s none s [] = some (decide (z = k)) by simp [Cond.value, hx, Term.int_eval]) (Cond.before_iff.mp h)
  subst e
  exact Sta.start hx (Or.inl hi)
theorem own_nosf {P : Addr → Prop} : ∀ x ∈ ([] : List Addr), P x := fun _ q => nomatch q
theorem own_pn0 : plainName "java/lang/String" = true := by first | (simp [plainName, overriddenIn]; done) | decide +kernel
theorem own_d_jdk_42_method_149_0 : decode jdk_42_method_149_code 0 = .ok (.aload_n 0, 1) := by decide +kernel
theorem own_d_jdk_42_method_149_1 : decode jdk_42_method_149_code 1 = .ok (.invokespecial 1, 3) := by decide +kernel
theorem own_d_jdk_42_method_149_4 : decode jdk_42_method_149_code 4 = .ok (.iload_n 3, 1) := by decide +kernel
theorem own_d_jdk_42_method_149_5 : decode jdk_42_method_149_code 5 = .ok (.ifCond .ne 22, 3) := by decide +kernel
theorem own_d_jdk_42_method_149_8 : decode jdk_42_method_149_code 8 = .ok (.aload_n 0, 1) := by decide +kernel
theorem own_d_jdk_42_method_149_9 : decode jdk_42_method_149_code 9 = .ok (.ldc 7, 2) := by decide +kernel
theorem own_d_jdk_42_method_149_11 : decode jdk_42_method_149_code 11 = .ok (.getfield 9, 3) := by decide +kernel
theorem own_d_jdk_42_method_149_14 : decode jdk_42_method_149_code 14 = .ok (.putfield 9, 3) := by decide +kernel
theorem own_d_jdk_42_method_149_17 : decode jdk_42_method_149_code 17 = .ok (.aload_n 0, 1) := by decide +kernel
theorem own_d_jdk_42_method_149_18 : decode jdk_42_method_149_code 18 = .ok (.ldc 7, 2) := by decide +kernel
theorem own_d_jdk_42_method_149_20 : decode jdk_42_method_149_code 20 = .ok (.getfield 15, 3) := by decide +kernel
theorem own_d_jdk_42_method_149_23 : decode jdk_42_method_149_code 23 = .ok (.putfield 15, 3) := by decide +kernel
theorem own_d_jdk_42_method_149_26 : decode jdk_42_method_149_code 26 = .ok (.return_, 1) := by decide +kernel
theorem own_ef_si2_0 (m : MethodId) (x0 : Addr) (x1 : Addr) (x2 : Int32) (x3 : Int32) : entryFrame m #[(.ref x0), (.ref x1), (.int x2), (.int x3), .null] 6 = mkF m 0 #[.val (.ref x0), .val (.ref x1), .val (.int x2), .val (.int x3), .val .null, .unset] [] := by first | (simp [entryFrame, mkF, argsToLocals, Value.category]; done) | rfl
def own_Q_si2_0 (Z : State) (x : Addr) (h0 : Heap) (n0 : Nat) (v : Option Value) (h : Heap) (L : List Loc) : Prop := v = none ∧ Fr n0 L ∧ Keep h0 h [x] ∧ Exa Z h x "java/lang/String" ∧ Fld Z h x "java/lang/String" "coder" "B" (.int (0 : Int32)) ∧ ∃ t k, Fld Z h x "java/lang/String" "value" "[B" (.ref t) ∧ Arv Z h t k .byte (0 : Int32) [] (.int (0 : Int32))
set_option maxRecDepth 65536 in
set_option maxHeartbeats 40000000 in
theorem own_rm_si2_0 (l : Launch) (Z : State) (a0 : Array Value) (hw : ∀ d ∈ tables_1, d.before a0 Z = true) (hEL : EW Z a0 consts_1) (ws : List Jvm.Cond) (x : Addr) (sr : Addr) (ks : ClassId) (v0 c0 : Value) (h0 : Heap) (n0 : Nat) (Od : Old Z n0 h0) (E_x : Exa Z h0 x "java/lang/String") (F_v : Fld Z h0 x "java/lang/String" "value" "[B" v0) (F_k : Fld Z h0 x "java/lang/String" "coder" "B" c0) (V_s : Arv Z h0 sr ks .char (0 : Int32) [] (.int (0 : Int32))) (ge_x : n0 ≤ x) (ne_s : sr ≠ x) :
    MetFree l (⟨"java/lang/String", "<init>", "([CIILjava/lang/Void;)V"⟩ : MethodName) (head1 (Jvm.Cond.code (⟨"java/lang/String", "<init>", "([CIILjava/lang/Void;)V"⟩ : MethodName) jdk_42_method_149_code 6 none :: ws) ({ frames := 1, cells := 4, slots := 8, locals := 12 } : Room)) (fun a9 U => a9 = #[(.ref x), (.ref sr), (.int (0 : Int32)), (.int (0 : Int32)), .null] ∧ Z.Warmed39 U.vm ∧ U.heap = h0 ∧ CHv Z consts_1 U.vm h0 ∧ ∀ x9 ∈ ([x] : List Addr), Safe Z consts_1 U.vm h0 x9) (fun _ _ _ _ _ => True) (fun _ U o U' => ∃ v L, o = .returned v ∧ own_Q_si2_0 Z x h0 n0 v U'.heap L ∧ CHr Z consts_1 U.vm U.heap U'.vm U'.heap ∧ ReturnedEndW U o U' L ({ frames := 1, cells := 4, slots := 8, locals := 12 } : Room).cells ({ frames := 1, cells := 4, slots := 8, locals := 12 } : Room).slots) := by
  refine MetFree.of_bodySF (plainFor_of_name own_pn0) hisR ?_
  intro p e s m args below meth c s₁ Bd hml0 hP hK
  obtain ⟨rfl, hZ, hh, Hc, Hs⟩ := hP
  have hx := Bd.exec
  have hby := Bd.bytes
  have hml : c.maxLocals = 6 := hml0
  have hown : s.vm.findClass "java/lang/String" = some m.cls := findClass_of_methodNamed Bd.named
  have hnm := (name_of_methodNamed Bd.named Bd.method).1
  have hlk : meth.locks = false := Bd.notSynchronized
  have X0 : Stand p l e ({ frames := 1, cells := 4, slots := 8, locals := 12 } : Room) (s.setVm s.vm) m #[(.ref x), (.ref sr), (.int (0 : Int32)), (.int (0 : Int32)), .null] below meth c s₁ [] 0 0 := Stand.of_body Bd
  have e0 : s₁.heap = h0 := by rw [← hh, Bd.state]; rfl
  have N0 := Fr.nil n0
  have hS : s.Since s.vm h0.size := (State.WarmedH.refl s).since _
  have hk : h0.size ≤ h0.size := Nat.le_refl _
  have Hr : CHr Z consts_1 s.vm h0 s.vm h0 := CHr.refl Hc
  skip
  have Sf_x : Safe Z consts_1 s.vm h0 x := Hs _ (List.mem_of_getElem? (i := 0) rfl)
  show own_GoW p e below s Z consts_1 (own_Q_si2_0 Z x h0 n0) ({ frames := 1, cells := 4, slots := 8, locals := 12 } : Room).cells ({ frames := 1, cells := 4, slots := 8, locals := 12 } : Room).slots (s₁.setTop (entryFrame m #[(.ref x), (.ref sr), (.int (0 : Int32)), (.int (0 : Int32)), .null] 6))
  refine own_stW (fun t9 k9 => castTop (own_ef_si2_0 m x sr (0 : Int32) (0 : Int32)) k9) ?_
  show own_GoW p e below s Z consts_1 _ _ _ (s₁.setTop (mkF m 0 #[.val (.ref x), .val (.ref sr), .val (.int (0 : Int32)), .val (.int (0 : Int32)), .val .null, .unset] []))
  have Kp : Keep h0 h0 [x] := Keep.refl h0 [x]
  have hwS : ∀ d ∈ Bundle.stringAtoms, d.before a0 Z = true := fun d hd => hw d ((by decide +kernel : ∀ d ∈ Bundle.stringAtoms, d ∈ tables_1) d hd)
  refine own_stW (fun t9 k9 => XS.aloadN X0.here hx rfl (hb hby own_d_jdk_42_method_149_0) rfl rfl k9) ?_
  show own_GoW p e below s Z consts_1 _ _ _ (s₁.setTop (mkF m 1 #[.val (.ref x), .val (.ref sr), .val (.int (0 : Int32)), .val (.int (0 : Int32)), .val .null, .unset] [(.ref x)]))
  obtain ⟨T1, X1, e1, st1⟩ := initO X0 hx hZ hown (hw _ (List.mem_of_getElem? (i := 125) rfl)) (hw _ (List.mem_of_getElem? (i := 25) rfl)) (hw _ (List.mem_of_getElem? (i := 26) rfl)) e0 (g := (mkF m 1 #[.val (.ref x), .val (.ref sr), .val (.int (0 : Int32)), .val (.int (0 : Int32)), .val .null, .unset] [(.ref x)])) rfl (by rw [hml]; rfl) rfl (hb hby own_d_jdk_42_method_149_1) (by decide) (W := 0) (by show 2 * 0 + _ ≤ _; exact Nat.le_of_eq rfl) (by decide)
  refine own_stW st1 ?_
  show own_GoW p e below s Z consts_1 _ _ _ (T1.setTop (mkF m 4 #[.val (.ref x), .val (.ref sr), .val (.int (0 : Int32)), .val (.int (0 : Int32)), .val .null, .unset] []))
  refine own_stW (fun t9 k9 => XS.iloadN X1.here hx rfl (hb hby own_d_jdk_42_method_149_4) rfl  k9) ?_
  show own_GoW p e below s Z consts_1 _ _ _ (T1.setTop (mkF m 5 #[.val (.ref x), .val (.ref sr), .val (.int (0 : Int32)), .val (.int (0 : Int32)), .val .null, .unset] [(.int (0 : Int32))]))
  refine own_stW (fun t9 k9 => XS.ifNo X1.here hx rfl (hb hby own_d_jdk_42_method_149_5) rfl (by decide) k9) ?_
  show own_GoW p e below s Z consts_1 _ _ _ (T1.setTop (mkF m 8 #[.val (.ref x), .val (.ref sr), .val (.int (0 : Int32)), .val (.int (0 : Int32)), .val .null, .unset] []))
  refine own_stW (fun t9 k9 => XS.aloadN X1.here hx rfl (hb hby own_d_jdk_42_method_149_8) rfl rfl k9) ?_
  show own_GoW p e below s Z consts_1 _ _ _ (T1.setTop (mkF m 9 #[.val (.ref x), .val (.ref sr), .val (.int (0 : Int32)), .val (.int (0 : Int32)), .val .null, .unset] [(.ref x)]))
  obtain ⟨la, T2, h2, k2, lab, kl2, X2, e2, E2, hS2, hk2, hZ2, hown2, El2, Kl2, Vl2, Bl2, lta2, ltb2, R2, Li2, Sn2, st2⟩ := ldcCH X1 hx hZ hown (hw _ (List.mem_of_getElem? (i := 147) rfl)) hwS e1 hS hk hEL (by decide) Hr.1 (vs := []) (z := (0 : Int32)) (by decide) (by decide) rfl (g := (mkF m 9 #[.val (.ref x), .val (.ref sr), .val (.int (0 : Int32)), .val (.int (0 : Int32)), .val .null, .unset] [(.ref x)])) rfl (hb hby own_d_jdk_42_method_149_9) (n := 0) (by decide) (by decide) (by decide) (by decide)
  have QSf_x := CHr.safe R2 E_x.lt Sf_x
  have E_x := E_x.ext E2
  have F_v := F_v.ext E2
  have F_k := F_k.ext E2
  have Od := Od.ext E2
  have Kp := Kp.ext E2
  have Sf_x := QSf_x
  have Hr := Hr.trans R2
  have hS := hS2
  have hk := hk2
  have hZ := hZ2
  have hown := hown2
  have ne_x_la := (Sn2 _ Sf_x).1
  have ne_x_lab := (Sn2 _ Sf_x).2
  refine own_stW st2 ?_
  show own_GoW p e below s Z consts_1 _ _ _ (T2.setTop (mkF m 11 #[.val (.ref x), .val (.ref sr), .val (.int (0 : Int32)), .val (.int (0 : Int32)), .val .null, .unset] [(.ref la), (.ref x)]))
  have E_la := El2
  have K_la := Kl2
  have V_la := Vl2
  have B_la := Bl2
  obtain ⟨T3, X3, e3, st3⟩ := getF X2 hx hZ hown (host := "") (Or.inl (hw _ (List.mem_of_getElem? (i := 140) rfl))) Via.refl e2 V_la (g := (mkF m 11 #[.val (.ref x), .val (.ref sr), .val (.int (0 : Int32)), .val (.int (0 : Int32)), .val .null, .unset] [(.ref la), (.ref x)])) rfl rfl (hb hby own_d_jdk_42_method_149_11)
  refine own_stW st3 ?_
  show own_GoW p e below s Z consts_1 _ _ _ (T3.setTop (mkF m 14 #[.val (.ref x), .val (.ref sr), .val (.int (0 : Int32)), .val (.int (0 : Int32)), .val .null, .unset] [(.ref lab), (.ref x)]))
  obtain ⟨T4, h4, X4, e4, W4, st4⟩ := putF X3 hx hZ hown (host := "") (Or.inl (hw _ (List.mem_of_getElem? (i := 140) rfl))) Via.refl e3 F_v E_x (Or.inr ⟨(hw _ (List.mem_of_getElem? (i := 141) rfl)), rfl, hnm⟩) (hw _ (List.mem_of_getElem? (i := 116) rfl)) (ty := (.array .byte)) (by decide) rfl rfl (g := (mkF m 14 #[.val (.ref x), .val (.ref sr), .val (.int (0 : Int32)), .val (.int (0 : Int32)), .val .null, .unset] [(.ref lab), (.ref x)])) rfl rfl (hb hby own_d_jdk_42_method_149_14)
  have N4 := Fr.snoc X4 N0 ge_x
  have QSf_x := Safe.wr W4 Sf_x Hr.1 Sf_x
  have E_x := E_x.wr W4
  have F_v := F_v.same W4
  have F_k := F_k.other W4 (Or.inr (RoadKit.slot_ne (Or.inr (hw _ (List.mem_of_getElem? (i := 139) rfl))) (Or.inr (hw _ (List.mem_of_getElem? (i := 141) rfl))) (by decide) (t := .byte) (t' := (.array .byte)) (by decide) (by decide)))
  have E_la := E_la.wr W4
  have K_la := K_la.other W4 (Or.inl (Ne.symm ne_x_la))
  have V_la := V_la.other W4 (Or.inl (Ne.symm ne_x_la))
  have B_la := B_la.other W4 (Ne.symm ne_x_lab)
  have Od := Od.wr W4 ge_x
  have Kp := Kp.wr W4 (Or.inl (List.mem_of_getElem? (i := 0) rfl))
  have Hr := Hr.trans (CHr.wr W4 Sf_x Hr.1)
  have hk := Nat.le_trans hk (Keep.of_wr W4).1
  have Sf_x := QSf_x
  refine own_stW st4 ?_
  show own_GoW p e below s Z consts_1 _ _ _ (T4.setTop (mkF m 17 #[.val (.ref x), .val (.ref sr), .val (.int (0 : Int32)), .val (.int (0 : Int32)), .val .null, .unset] []))
  refine own_stW (fun t9 k9 => XS.aloadN X4.here hx rfl (hb hby own_d_jdk_42_method_149_17) rfl rfl k9) ?_
  show own_GoW p e below s Z consts_1 _ _ _ (T4.setTop (mkF m 18 #[.val (.ref x), .val (.ref sr), .val (.int (0 : Int32)), .val (.int (0 : Int32)), .val .null, .unset] [(.ref x)]))
  obtain ⟨lc, T5, h5, k5, lcb, kl5, X5, e5, E5, hS5, hk5, hZ5, hown5, El5, Kl5, Vl5, Bl5, lta5, ltb5, R5, Li5, Sn5, st5⟩ := ldcCH X4 hx hZ hown (hw _ (List.mem_of_getElem? (i := 147) rfl)) hwS e4 hS hk hEL (by decide) Hr.1 (vs := []) (z := (0 : Int32)) (by decide) (by decide) rfl (g := (mkF m 18 #[.val (.ref x), .val (.ref sr), .val (.int (0 : Int32)), .val (.int (0 : Int32)), .val .null, .unset] [(.ref x)])) rfl (hb hby own_d_jdk_42_method_149_18) (n := 0) (by decide) (by decide) (by decide) (by decide)
  have QSf_x := CHr.safe R5 E_x.lt Sf_x
  have E_x := E_x.ext E5
  have F_v := F_v.ext E5
  have F_k := F_k.ext E5
  have B_la := B_la.ext E5
  have Od := Od.ext E5
  have Kp := Kp.ext E5
  have Sf_x := QSf_x
  have Hr := Hr.trans R5
  have hS := hS5
  have hk := hk5
  have hZ := hZ5
  have hown := hown5
  have ne_x_lc := (Sn5 _ Sf_x).1
  have ne_x_lcb := (Sn5 _ Sf_x).2
  refine own_stW st5 ?_
  show own_GoW p e below s Z consts_1 _ _ _ (T5.setTop (mkF m 20 #[.val (.ref x), .val (.ref sr), .val (.int (0 : Int32)), .val (.int (0 : Int32)), .val .null, .unset] [(.ref lc), (.ref x)]))
  have E_lc := El5
  have K_lc := Kl5
  have V_lc := Vl5
  have B_lc := Bl5
  obtain ⟨T6, X6, e6, st6⟩ := getF X5 hx hZ hown (host := "") (Or.inl (hw _ (List.mem_of_getElem? (i := 138) rfl))) Via.refl e5 K_lc (g := (mkF m 20 #[.val (.ref x), .val (.ref sr), .val (.int (0 : Int32)), .val (.int (0 : Int32)), .val .null, .unset] [(.ref lc), (.ref x)])) rfl rfl (hb hby own_d_jdk_42_method_149_20)
  refine own_stW st6 ?_
  show own_GoW p e below s Z consts_1 _ _ _ (T6.setTop (mkF m 23 #[.val (.ref x), .val (.ref sr), .val (.int (0 : Int32)), .val (.int (0 : Int32)), .val .null, .unset] [(.int (0 : Int32)), (.ref x)]))
  obtain ⟨T7, h7, X7, e7, W7, st7⟩ := putFN X6 hx hZ hown (hw _ (List.mem_of_getElem? (i := 138) rfl)) Via.refl e6 F_k E_x (Or.inr ⟨(hw _ (List.mem_of_getElem? (i := 139) rfl)), rfl, hnm⟩) (hw _ (List.mem_of_getElem? (i := 116) rfl)) (ty := .byte) (v' := (.int (0 : Int32))) (by decide) rfl rfl (g := (mkF m 23 #[.val (.ref x), .val (.ref sr), .val (.int (0 : Int32)), .val (.int (0 : Int32)), .val .null, .unset] [(.int (0 : Int32)), (.ref x)])) rfl rfl (hb hby own_d_jdk_42_method_149_23)
  have N7 := Fr.snoc X7 N4 ge_x
  have QSf_x := Safe.wr W7 Sf_x Hr.1 Sf_x
  have E_x := E_x.wr W7
  have F_v := F_v.other W7 (Or.inr (RoadKit.slot_ne (Or.inr (hw _ (List.mem_of_getElem? (i := 141) rfl))) (Or.inr (hw _ (List.mem_of_getElem? (i := 139) rfl))) (by decide) (t := (.array .byte)) (t' := .byte) (by decide) (by decide)))
  have F_k := F_k.same W7
  have B_la := B_la.other W7 (Ne.symm ne_x_lab)
  have E_lc := E_lc.wr W7
  have K_lc := K_lc.other W7 (Or.inl (Ne.symm ne_x_lc))
  have V_lc := V_lc.other W7 (Or.inl (Ne.symm ne_x_lc))
  have B_lc := B_lc.other W7 (Ne.symm ne_x_lcb)
  have Od := Od.wr W7 ge_x
  have Kp := Kp.wr W7 (Or.inl (List.mem_of_getElem? (i := 0) rfl))
  have Hr := Hr.trans (CHr.wr W7 Sf_x Hr.1)
  have hk := Nat.le_trans hk (Keep.of_wr W7).1
  have Sf_x := QSf_x
  refine own_stW st7 ?_
  show own_GoW p e below s Z consts_1 _ _ _ (T7.setTop (mkF m 26 #[.val (.ref x), .val (.ref sr), .val (.int (0 : Int32)), .val (.int (0 : Int32)), .val .null, .unset] []))
  exact own_retVW X7 hx hlk hS (by rw [e7]; exact hk) hZ hEL (by rw [hh, e7]; exact Hr) Bd.returns (hb hby own_d_jdk_42_method_149_26) (by decide) (by decide) (by rw [e7]; exact ⟨rfl, N7, Kp, E_x, F_k, lab, _, F_v, B_la⟩)
theorem own_d_jdk_42_method_3_0 : decode jdk_42_method_3_code 0 = .ok (.aload_n 0, 1) := by decide +kernel
theorem own_d_jdk_42_method_3_1 : decode jdk_42_method_3_code 1 = .ok (.aload_n 1, 1) := by decide +kernel
theorem own_d_jdk_42_method_3_2 : decode jdk_42_method_3_code 2 = .ok (.iconst 0, 1) := by decide +kernel
theorem own_d_jdk_42_method_3_3 : decode jdk_42_method_3_code 3 = .ok (.aload_n 1, 1) := by decide +kernel
theorem own_d_jdk_42_method_3_4 : decode jdk_42_method_3_code 4 = .ok (.arraylength, 1) := by decide +kernel
theorem own_d_jdk_42_method_3_5 : decode jdk_42_method_3_code 5 = .ok (.aconst_null, 1) := by decide +kernel
theorem own_pd0 : parseMethodDescriptor "([CIILjava/lang/Void;)V" = some ⟨[(.array .char), .int, .int, (.object "java/lang/Void")], none⟩ := by decide +kernel
theorem own_d_jdk_42_method_3_6 : decode jdk_42_method_3_code 6 = .ok (.invokespecial 27, 3) := by decide +kernel
theorem own_d_jdk_42_method_3_9 : decode jdk_42_method_3_code 9 = .ok (.return_, 1) := by decide +kernel
theorem own_ef_si1_0 (m : MethodId) (x0 : Addr) (x1 : Addr) : entryFrame m #[(.ref x0), (.ref x1)] 2 = mkF m 0 #[.val (.ref x0), .val (.ref x1)] [] := by first | (simp [entryFrame, mkF, argsToLocals, Value.category]; done) | rfl
def own_Q_si1_0 (Z : State) (x : Addr) (h0 : Heap) (n0 : Nat) (v : Option Value) (h : Heap) (L : List Loc) : Prop := v = none ∧ Fr n0 L ∧ Keep h0 h [x] ∧ Exa Z h x "java/lang/String" ∧ Fld Z h x "java/lang/String" "coder" "B" (.int (0 : Int32)) ∧ ∃ t k, Fld Z h x "java/lang/String" "value" "[B" (.ref t) ∧ Arv Z h t k .byte (0 : Int32) [] (.int (0 : Int32))
set_option maxRecDepth 65536 in
set_option maxHeartbeats 40000000 in
theorem own_rm_si1_0 (l : Launch) (Z : State) (a0 : Array Value) (hw : ∀ d ∈ tables_1, d.before a0 Z = true) (hEL : EW Z a0 consts_1) (ws : List Jvm.Cond) (x : Addr) (sr : Addr) (ks : ClassId) (v0 c0 : Value) (h0 : Heap) (n0 : Nat) (Od : Old Z n0 h0) (E_x : Exa Z h0 x "java/lang/String") (F_v : Fld Z h0 x "java/lang/String" "value" "[B" v0) (F_k : Fld Z h0 x "java/lang/String" "coder" "B" c0) (V_s : Arv Z h0 sr ks .char (0 : Int32) [] (.int (0 : Int32))) (ge_x : n0 ≤ x) (ne_s : sr ≠ x) :
    MetFree l (⟨"java/lang/String", "<init>", "([C)V"⟩ : MethodName) (head1 (Jvm.Cond.code (⟨"java/lang/String", "<init>", "([C)V"⟩ : MethodName) jdk_42_method_3_code 2 none :: ws) ({ frames := 2, cells := 4, slots := 8, locals := 29 } : Room)) (fun a9 U => a9 = #[(.ref x), (.ref sr)] ∧ Z.Warmed39 U.vm ∧ U.heap = h0 ∧ CHv Z consts_1 U.vm h0 ∧ ∀ x9 ∈ ([x] : List Addr), Safe Z consts_1 U.vm h0 x9) (fun _ _ _ _ _ => True) (fun _ U o U' => ∃ v L, o = .returned v ∧ own_Q_si1_0 Z x h0 n0 v U'.heap L ∧ CHr Z consts_1 U.vm U.heap U'.vm U'.heap ∧ ReturnedEndW U o U' L ({ frames := 2, cells := 4, slots := 8, locals := 29 } : Room).cells ({ frames := 2, cells := 4, slots := 8, locals := 29 } : Room).slots) := by
  refine MetFree.of_bodySF (plainFor_of_name own_pn0) hisR ?_
  intro p e s m args below meth c s₁ Bd hml0 hP hK
  obtain ⟨rfl, hZ, hh, Hc, Hs⟩ := hP
  have hx := Bd.exec
  have hby := Bd.bytes
  have hml : c.maxLocals = 2 := hml0
  have hown : s.vm.findClass "java/lang/String" = some m.cls := findClass_of_methodNamed Bd.named
  have hnm := (name_of_methodNamed Bd.named Bd.method).1
  have hlk : meth.locks = false := Bd.notSynchronized
  have X0 : Stand p l e ({ frames := 2, cells := 4, slots := 8, locals := 29 } : Room) (s.setVm s.vm) m #[(.ref x), (.ref sr)] below meth c s₁ [] 0 0 := Stand.of_body Bd
  have e0 : s₁.heap = h0 := by rw [← hh, Bd.state]; rfl
  have N0 := Fr.nil n0
  have hS : s.Since s.vm h0.size := (State.WarmedH.refl s).since _
  have hk : h0.size ≤ h0.size := Nat.le_refl _
  have Hr : CHr Z consts_1 s.vm h0 s.vm h0 := CHr.refl Hc
  skip
  have Sf_x : Safe Z consts_1 s.vm h0 x := Hs _ (List.mem_of_getElem? (i := 0) rfl)
  show own_GoW p e below s Z consts_1 (own_Q_si1_0 Z x h0 n0) ({ frames := 2, cells := 4, slots := 8, locals := 29 } : Room).cells ({ frames := 2, cells := 4, slots := 8, locals := 29 } : Room).slots (s₁.setTop (entryFrame m #[(.ref x), (.ref sr)] 2))
  refine own_stW (fun t9 k9 => castTop (own_ef_si1_0 m x sr) k9) ?_
  show own_GoW p e below s Z consts_1 _ _ _ (s₁.setTop (mkF m 0 #[.val (.ref x), .val (.ref sr)] []))
  have Kp : Keep h0 h0 [x] := Keep.refl h0 [x]
  refine own_stW (fun t9 k9 => XS.aloadN X0.here hx rfl (hb hby own_d_jdk_42_method_3_0) rfl rfl k9) ?_
  show own_GoW p e below s Z consts_1 _ _ _ (s₁.setTop (mkF m 1 #[.val (.ref x), .val (.ref sr)] [(.ref x)]))
  refine own_stW (fun t9 k9 => XS.aloadN X0.here hx rfl (hb hby own_d_jdk_42_method_3_1) rfl rfl k9) ?_
  show own_GoW p e below s Z consts_1 _ _ _ (s₁.setTop (mkF m 2 #[.val (.ref x), .val (.ref sr)] [(.ref sr), (.ref x)]))
  refine own_stW (fun t9 k9 => XS.iconst X0.here hx rfl (hb hby own_d_jdk_42_method_3_2) k9) ?_
  show own_GoW p e below s Z consts_1 _ _ _ (s₁.setTop (mkF m 3 #[.val (.ref x), .val (.ref sr)] [(.int (0 : Int32)), (.ref sr), (.ref x)]))
  refine own_stW (fun t9 k9 => XS.aloadN X0.here hx rfl (hb hby own_d_jdk_42_method_3_3) rfl rfl k9) ?_
  show own_GoW p e below s Z consts_1 _ _ _ (s₁.setTop (mkF m 4 #[.val (.ref x), .val (.ref sr)] [(.ref sr), (.int (0 : Int32)), (.ref sr), (.ref x)]))
  refine own_stW (fun t9 k9 => own_alen X0 hx hZ e0 V_s (g := (mkF m 4 #[.val (.ref x), .val (.ref sr)] [(.ref sr), (.int (0 : Int32)), (.ref sr), (.ref x)])) rfl rfl (hb hby own_d_jdk_42_method_3_4) t9 k9) ?_
  show own_GoW p e below s Z consts_1 _ _ _ (s₁.setTop (mkF m 5 #[.val (.ref x), .val (.ref sr)] [(.int (0 : Int32)), (.int (0 : Int32)), (.ref sr), (.ref x)]))
  refine own_stW (fun t9 k9 => XS.aconstNull X0.here hx rfl (hb hby own_d_jdk_42_method_3_5) k9) ?_
  show own_GoW p e below s Z consts_1 _ _ _ (s₁.setTop (mkF m 6 #[.val (.ref x), .val (.ref sr)] [.null, (.int (0 : Int32)), (.int (0 : Int32)), (.ref sr), (.ref x)]))
  obtain ⟨_, T8, h8, L8, X8, e8, ⟨rfl, Nc, Kc, E_y, F_c, t, kt, F_u, V_t⟩, hS8, hg8, hZ8, hown8, R8, st8⟩ := own_callIW X0 hx hZ hown hS hk rfl (hw _ (List.mem_of_getElem? (i := 121) rfl)) (hw _ (List.mem_of_getElem? (i := 122) rfl)) (hw _ (List.mem_of_getElem? (i := 124) rfl)) (by decide) (own_payW (W := 0) (K := (fun _ _ _ _ _ => True)) (own_rm_si2_0 l Z a0 hw hEL [] x sr ks v0 c0 h0 n0 Od E_x F_v F_k V_s ge_x ne_s) (fun _ _ _ _ _ _ _ _ _ => trivial) hZ (hw _ (List.mem_of_getElem? (i := 124) rfl)) (hw _ (List.mem_of_getElem? (i := 117) rfl)) (by decide) (by decide) hEL Hr.1 (own_sfS E_x.lt Sf_x own_sf0)) e0 (a := x) (g := (mkF m 6 #[.val (.ref x), .val (.ref sr)] [.null, (.int (0 : Int32)), (.int (0 : Int32)), (.ref sr), (.ref x)])) rfl (by rw [hml]; rfl) (argsL := [(.ref sr), (.int (0 : Int32)), (.int (0 : Int32)), .null]) (rest := []) rfl (lenOf own_pd0 rfl) rfl (by show 2 * 0 + _ ≤ _; exact Nat.le_of_eq rfl) (hb hby own_d_jdk_42_method_3_6) (by decide) (by decide)
  have N8 := Fr.app N0 Nc
  have QSf_x := CHr.safe R8 E_x.lt Sf_x
  have E_x := E_x.keep Kc
  have Od := Od.keep Kc (allS ge_x all0)
  have Kp := Kp.trans Kc (allS (Or.inl (List.mem_of_getElem? (i := 0) rfl)) all0)
  have Sf_x := QSf_x
  have Hr := Hr.trans R8
  have hS := hS8
  have hk : h8.size ≤ h8.size := Nat.le_refl _
  have hZ := hZ8
  have hown := hown8
  refine own_stW st8 ?_
  show own_GoW p e below s Z consts_1 _ _ _ (T8.setTop (mkF m 9 #[.val (.ref x), .val (.ref sr)] []))
  exact own_retVW X8 hx hlk hS (by rw [e8]; exact hk) hZ hEL (by rw [hh, e8]; exact Hr) Bd.returns (hb hby own_d_jdk_42_method_3_9) (by decide) (by decide) (by rw [e8]; exact ⟨rfl, N8, Kp, E_y, F_c, t, kt, F_u, V_t⟩)
theorem own_pn1 : plainName "java/lang/Number" = true := by first | (simp [plainName, overriddenIn]; done) | decide +kernel
theorem own_d_jdk_18_method_1_0 : decode jdk_18_method_1_code 0 = .ok (.aload_n 0, 1) := by decide +kernel
theorem own_d_jdk_18_method_1_1 : decode jdk_18_method_1_code 1 = .ok (.invokespecial 1, 3) := by decide +kernel
theorem own_d_jdk_18_method_1_4 : decode jdk_18_method_1_code 4 = .ok (.return_, 1) := by decide +kernel
theorem own_ef_num (m : MethodId) (x0 : Addr) : entryFrame m #[(.ref x0)] 1 = mkF m 0 #[.val (.ref x0)] [] := by first | (simp [entryFrame, mkF, argsToLocals, Value.category]; done) | rfl
def own_Q_num (Z : State)  (h0 : Heap) (n0 : Nat) (v : Option Value) (h : Heap) (L : List Loc) : Prop := v = none ∧ Fr n0 L ∧ h = h0
set_option maxRecDepth 65536 in
set_option maxHeartbeats 40000000 in
theorem own_rm_num (l : Launch) (Z : State) (a0 : Array Value) (hw : ∀ d ∈ tables_1, d.before a0 Z = true) (ws : List Jvm.Cond) (x : Addr) (h0 : Heap) (n0 : Nat) (Od : Old Z n0 h0) :
    MetFree l (⟨"java/lang/Number", "<init>", "()V"⟩ : MethodName) (head1 (Jvm.Cond.code (⟨"java/lang/Number", "<init>", "()V"⟩ : MethodName) jdk_18_method_1_code 1 none :: ws) ({ frames := 1, cells := 0, slots := 0, locals := 12 } : Room)) (fun a9 U => a9 = #[(.ref x)] ∧ Z.Warmed39 U.vm ∧ U.heap = h0) (fun _ _ _ _ _ => True) (fun _ U o U' => ∃ v L, o = .returned v ∧ own_Q_num Z  h0 n0 v U'.heap L ∧ FrameEnd U o U' L ({ frames := 1, cells := 0, slots := 0, locals := 12 } : Room).cells ({ frames := 1, cells := 0, slots := 0, locals := 12 } : Room).slots) := by
  refine MetFree.of_bodySF (plainFor_of_name own_pn1) hisR ?_
  intro p e s m args below meth c s₁ Bd hml0 hP hK
  obtain ⟨rfl, hZ, hh⟩ := hP
  have hx := Bd.exec
  have hby := Bd.bytes
  have hml : c.maxLocals = 1 := hml0
  have hown : s.vm.findClass "java/lang/Number" = some m.cls := findClass_of_methodNamed Bd.named
  have hnm := (name_of_methodNamed Bd.named Bd.method).1
  have hlk : meth.locks = false := Bd.notSynchronized
  have X0 : Stand p l e ({ frames := 1, cells := 0, slots := 0, locals := 12 } : Room) s m #[(.ref x)] below meth c s₁ [] 0 0 := Stand.of_body Bd
  have e0 : s₁.heap = h0 := by rw [← hh, Bd.state]; rfl
  have N0 := Fr.nil n0
  show own_Go p e below s (own_Q_num Z  h0 n0) ({ frames := 1, cells := 0, slots := 0, locals := 12 } : Room).cells ({ frames := 1, cells := 0, slots := 0, locals := 12 } : Room).slots (s₁.setTop (entryFrame m #[(.ref x)] 1))
  refine own_st (fun t9 k9 => castTop (own_ef_num m x) k9) ?_
  show own_Go p e below s _ _ _ (s₁.setTop (mkF m 0 #[.val (.ref x)] []))
  refine own_st (fun t9 k9 => XS.aloadN X0.here hx rfl (hb hby own_d_jdk_18_method_1_0) rfl rfl k9) ?_
  show own_Go p e below s _ _ _ (s₁.setTop (mkF m 1 #[.val (.ref x)] [(.ref x)]))
  obtain ⟨T9, X9, e9, st9⟩ := initO X0 hx hZ hown (hw _ (List.mem_of_getElem? (i := 24) rfl)) (hw _ (List.mem_of_getElem? (i := 25) rfl)) (hw _ (List.mem_of_getElem? (i := 26) rfl)) e0 (g := (mkF m 1 #[.val (.ref x)] [(.ref x)])) rfl (by rw [hml]; rfl) rfl (hb hby own_d_jdk_18_method_1_1) (by decide) (W := 0) (by show 2 * 0 + _ ≤ _; exact Nat.le_of_eq rfl) (by decide)
  refine own_st st9 ?_
  show own_Go p e below s _ _ _ (T9.setTop (mkF m 4 #[.val (.ref x)] []))
  exact own_retV X9 hx hlk Bd.returns (hb hby own_d_jdk_18_method_1_4) (by decide) (by decide) (by rw [e9]; exact ⟨rfl, N0, rfl⟩)
theorem own_pn2 : plainName "java/lang/Long" = true := by first | (simp [plainName, overriddenIn]; done) | decide +kernel
theorem own_d_jdk_35_method_26_0 : decode jdk_35_method_26_code 0 = .ok (.aload_n 0, 1) := by decide +kernel
theorem own_pd1 : parseMethodDescriptor "()V" = some ⟨[], none⟩ := by decide +kernel
theorem own_d_jdk_35_method_26_1 : decode jdk_35_method_26_code 1 = .ok (.invokespecial 270, 3) := by decide +kernel
theorem own_d_jdk_35_method_26_4 : decode jdk_35_method_26_code 4 = .ok (.aload_n 0, 1) := by decide +kernel
theorem own_d_jdk_35_method_26_5 : decode jdk_35_method_26_code 5 = .ok (.lload_n 1, 1) := by decide +kernel
theorem own_d_jdk_35_method_26_6 : decode jdk_35_method_26_code 6 = .ok (.putfield 273, 3) := by decide +kernel
theorem own_d_jdk_35_method_26_9 : decode jdk_35_method_26_code 9 = .ok (.return_, 1) := by decide +kernel
theorem own_ef_lgi (m : MethodId) (x0 : Addr) (x1 : Int64) : entryFrame m #[(.ref x0), (.long x1)] 3 = mkF m 0 #[.val (.ref x0), .val (.long x1), .second] [] := by first | (simp [entryFrame, mkF, argsToLocals, Value.category]; done) | rfl
def own_Q_lgi (Z : State) (x : Addr) (q : Int64) (h0 : Heap) (n0 : Nat) (v : Option Value) (h : Heap) (L : List Loc) : Prop := v = none ∧ Fr n0 L ∧ Keep h0 h [x] ∧ Exa Z h x "java/lang/Long" ∧ Fld Z h x "java/lang/Long" "value" "J" (.long q)
set_option maxRecDepth 65536 in
set_option maxHeartbeats 40000000 in
theorem own_rm_lgi (l : Launch) (Z : State) (a0 : Array Value) (hw : ∀ d ∈ tables_1, d.before a0 Z = true) (ws : List Jvm.Cond) (x : Addr) (q : Int64) (h0 : Heap) (n0 : Nat) (Od : Old Z n0 h0) (E_x : Exa Z h0 x "java/lang/Long") (F_v : Fld Z h0 x "java/lang/Long" "value" "J" (.long (0 : Int64))) (ge_x : n0 ≤ x) :
    MetFree l (⟨"java/lang/Long", "<init>", "(J)V"⟩ : MethodName) (head1 (Jvm.Cond.code (⟨"java/lang/Long", "<init>", "(J)V"⟩ : MethodName) jdk_35_method_26_code 3 none :: ws) ({ frames := 2, cells := 0, slots := 0, locals := 24 } : Room)) (fun a9 U => a9 = #[(.ref x), (.long q)] ∧ Z.Warmed39 U.vm ∧ U.heap = h0) (fun _ _ _ _ _ => True) (fun _ U o U' => ∃ v L, o = .returned v ∧ own_Q_lgi Z x q h0 n0 v U'.heap L ∧ FrameEnd U o U' L ({ frames := 2, cells := 0, slots := 0, locals := 24 } : Room).cells ({ frames := 2, cells := 0, slots := 0, locals := 24 } : Room).slots) := by
  refine MetFree.of_bodySF (plainFor_of_name own_pn2) hisR ?_
  intro p e s m args below meth c s₁ Bd hml0 hP hK
  obtain ⟨rfl, hZ, hh⟩ := hP
  have hx := Bd.exec
  have hby := Bd.bytes
  have hml : c.maxLocals = 3 := hml0
  have hown : s.vm.findClass "java/lang/Long" = some m.cls := findClass_of_methodNamed Bd.named
  have hnm := (name_of_methodNamed Bd.named Bd.method).1
  have hlk : meth.locks = false := Bd.notSynchronized
  have X0 : Stand p l e ({ frames := 2, cells := 0, slots := 0, locals := 24 } : Room) s m #[(.ref x), (.long q)] below meth c s₁ [] 0 0 := Stand.of_body Bd
  have e0 : s₁.heap = h0 := by rw [← hh, Bd.state]; rfl
  have N0 := Fr.nil n0
  show own_Go p e below s (own_Q_lgi Z x q h0 n0) ({ frames := 2, cells := 0, slots := 0, locals := 24 } : Room).cells ({ frames := 2, cells := 0, slots := 0, locals := 24 } : Room).slots (s₁.setTop (entryFrame m #[(.ref x), (.long q)] 3))
  refine own_st (fun t9 k9 => castTop (own_ef_lgi m x q) k9) ?_
  show own_Go p e below s _ _ _ (s₁.setTop (mkF m 0 #[.val (.ref x), .val (.long q), .second] []))
  have Kp : Keep h0 h0 [x] := Keep.refl h0 [x]
  refine own_st (fun t9 k9 => XS.aloadN X0.here hx rfl (hb hby own_d_jdk_35_method_26_0) rfl rfl k9) ?_
  show own_Go p e below s _ _ _ (s₁.setTop (mkF m 1 #[.val (.ref x), .val (.long q), .second] [(.ref x)]))
  obtain ⟨_, T10, h10, L10, X10, e10, ⟨rfl, Nc, hu⟩, st10⟩ := own_callI X0 hx hZ hown rfl (hw _ (List.mem_of_getElem? (i := 18) rfl)) (hw _ (List.mem_of_getElem? (i := 19) rfl)) (hw _ (List.mem_of_getElem? (i := 22) rfl)) (hw _ (List.mem_of_getElem? (i := 23) rfl)) (by decide) (own_rm_num l Z a0 hw [] x h0 n0 Od) (by decide) (by decide) e0 (a := x) (W := 0) (g := (mkF m 1 #[.val (.ref x), .val (.long q), .second] [(.ref x)])) rfl (by rw [hml]; rfl) (argsL := []) (rest := []) rfl (lenOf own_pd1 rfl) rfl (by show 2 * 0 + _ ≤ _; exact Nat.le_of_eq rfl) (hb hby own_d_jdk_35_method_26_1) (by decide) (by decide)
  have N10 := Fr.app N0 Nc
  refine own_st st10 ?_
  show own_Go p e below s _ _ _ (T10.setTop (mkF m 4 #[.val (.ref x), .val (.long q), .second] []))
  refine own_st (fun t9 k9 => XS.aloadN X10.here hx rfl (hb hby own_d_jdk_35_method_26_4) rfl rfl k9) ?_
  show own_Go p e below s _ _ _ (T10.setTop (mkF m 5 #[.val (.ref x), .val (.long q), .second] [(.ref x)]))
  refine own_st (fun t9 k9 => XT.lloadN X10.here hx rfl (hb hby own_d_jdk_35_method_26_5) rfl  k9) ?_
  show own_Go p e below s _ _ _ (T10.setTop (mkF m 6 #[.val (.ref x), .val (.long q), .second] [(.long q), (.ref x)]))
  obtain ⟨T11, h11, X11, e11, W11, st11⟩ := putF X10 hx hZ hown (host := "") (Or.inl (hw _ (List.mem_of_getElem? (i := 27) rfl))) Via.refl (e10.trans hu) F_v E_x (Or.inr ⟨(hw _ (List.mem_of_getElem? (i := 28) rfl)), rfl, hnm⟩) (hw _ (List.mem_of_getElem? (i := 13) rfl)) (ty := .long) (by decide) rfl rfl (g := (mkF m 6 #[.val (.ref x), .val (.long q), .second] [(.long q), (.ref x)])) rfl rfl (hb hby own_d_jdk_35_method_26_6)
  have N11 := Fr.snoc X11 N10 ge_x
  have E_x := E_x.wr W11
  have F_v := F_v.same W11
  have Od := Od.wr W11 ge_x
  have Kp := Kp.wr W11 (Or.inl (List.mem_of_getElem? (i := 0) rfl))
  refine own_st st11 ?_
  show own_Go p e below s _ _ _ (T11.setTop (mkF m 9 #[.val (.ref x), .val (.long q), .second] []))
  exact own_retV X11 hx hlk Bd.returns (hb hby own_d_jdk_35_method_26_9) (by decide) (by decide) (by rw [e11]; exact ⟨rfl, N11, Kp, E_x, F_v⟩)
def own_Cache (Z : State) (cl : Cell) : Prop := ∀ q : Int64, ¬ q < (-128 : Int64) → ¬ (127 : Int64) < q → ∃ box, ¬ ((q.toInt32 + (128 : Int32)) < 0 ∨ cl.slots.size ≤ (q.toInt32 + (128 : Int32)).toNatClampNeg) ∧ cl.slots[(q.toInt32 + (128 : Int32)).toNatClampNeg]? = some (.ref box) ∧ Exa Z Z.heap box "java/lang/Long" ∧ Fld Z Z.heap box "java/lang/Long" "value" "J" (.long q)
theorem own_d_jdk_35_method_24_0 : decode jdk_35_method_24_code 0 = .ok (.sipush 128, 3) := by decide +kernel
theorem own_d_jdk_35_method_24_3 : decode jdk_35_method_24_code 3 = .ok (.istore_n 2, 1) := by decide +kernel
theorem own_d_jdk_35_method_24_4 : decode jdk_35_method_24_code 4 = .ok (.lload_n 0, 1) := by decide +kernel
theorem own_d_jdk_35_method_24_5 : decode jdk_35_method_24_code 5 = .ok (.ldc2_w 230, 3) := by decide +kernel
theorem own_d_jdk_35_method_24_8 : decode jdk_35_method_24_code 8 = .ok (.lcmp, 1) := by decide +kernel
theorem own_d_jdk_35_method_24_9 : decode jdk_35_method_24_code 9 = .ok (.ifCond .lt 22, 3) := by decide +kernel
theorem own_d_jdk_35_method_24_31 : decode jdk_35_method_24_code 31 = .ok (.new 1, 3) := by decide +kernel
theorem own_d_jdk_35_method_24_34 : decode jdk_35_method_24_code 34 = .ok (.dup, 1) := by decide +kernel
theorem own_d_jdk_35_method_24_35 : decode jdk_35_method_24_code 35 = .ok (.lload_n 0, 1) := by decide +kernel
theorem own_pd2 : parseMethodDescriptor "(J)V" = some ⟨[.long], none⟩ := by decide +kernel
theorem own_d_jdk_35_method_24_36 : decode jdk_35_method_24_code 36 = .ok (.invokespecial 240, 3) := by decide +kernel
theorem own_d_jdk_35_method_24_39 : decode jdk_35_method_24_code 39 = .ok (.areturn, 1) := by decide +kernel
theorem own_d_jdk_35_method_24_12 : decode jdk_35_method_24_code 12 = .ok (.lload_n 0, 1) := by decide +kernel
theorem own_d_jdk_35_method_24_13 : decode jdk_35_method_24_code 13 = .ok (.ldc2_w 232, 3) := by decide +kernel
theorem own_d_jdk_35_method_24_16 : decode jdk_35_method_24_code 16 = .ok (.lcmp, 1) := by decide +kernel
theorem own_d_jdk_35_method_24_17 : decode jdk_35_method_24_code 17 = .ok (.ifCond .gt 14, 3) := by decide +kernel
theorem own_d_jdk_35_method_24_20 : decode jdk_35_method_24_code 20 = .ok (.getstatic 234, 3) := by decide +kernel
theorem own_d_jdk_35_method_24_23 : decode jdk_35_method_24_code 23 = .ok (.lload_n 0, 1) := by decide +kernel
theorem own_d_jdk_35_method_24_24 : decode jdk_35_method_24_code 24 = .ok (.l2i, 1) := by decide +kernel
theorem own_d_jdk_35_method_24_25 : decode jdk_35_method_24_code 25 = .ok (.sipush 128, 3) := by decide +kernel
theorem own_d_jdk_35_method_24_28 : decode jdk_35_method_24_code 28 = .ok (.iadd, 1) := by decide +kernel
theorem own_d_jdk_35_method_24_29 : decode jdk_35_method_24_code 29 = .ok (.aaload, 1) := by decide +kernel
theorem own_d_jdk_35_method_24_30 : decode jdk_35_method_24_code 30 = .ok (.areturn, 1) := by decide +kernel
theorem own_ef_lgv (m : MethodId) (x0 : Int64) : entryFrame m #[(.long x0)] 3 = mkF m 0 #[.val (.long x0), .second, .unset] [] := by first | (simp [entryFrame, mkF, argsToLocals, Value.category]; done) | rfl
def own_Q_lgv (Z : State) (q : Int64) (h0 : Heap) (n0 : Nat) (v : Option Value) (h : Heap) (L : List Loc) : Prop := Fr n0 L ∧ Keep h0 h [] ∧ ∃ b, v = some (.ref b) ∧ Exa Z h b "java/lang/Long" ∧ Fld Z h b "java/lang/Long" "value" "J" (.long q)
set_option maxRecDepth 65536 in
set_option maxHeartbeats 40000000 in
theorem own_rm_lgv (l : Launch) (Z : State) (a0 : Array Value) (hw : ∀ d ∈ tables_1, d.before a0 Z = true) (ws : List Jvm.Cond) (q : Int64) (ca : Addr) (cl : Cell) (h0 : Heap) (n0 : Nat) (Od : Old Z n0 h0) (SC : Sta Z Z.heap "java/lang/Long$LongCache" "cache" "[Ljava/lang/Long;" (.ref ca)) (AC : Arr Z Z.heap ca cl (.object "java/lang/Long")) (HC : own_Cache Z cl) :
    MetFree l (⟨"java/lang/Long", "valueOf", "(J)Ljava/lang/Long;"⟩ : MethodName) (head1 (Jvm.Cond.code (⟨"java/lang/Long", "valueOf", "(J)Ljava/lang/Long;"⟩ : MethodName) jdk_35_method_24_code 3 (some (.object "java/lang/Long")) :: ws) ({ frames := 3, cells := 1, slots := 1, locals := 39 } : Room)) (fun a9 U => a9 = #[(.long q)] ∧ Z.Warmed39 U.vm ∧ U.heap = h0) (fun _ _ _ _ _ => True) (fun _ U o U' => ∃ v L, o = .returned v ∧ own_Q_lgv Z q h0 n0 v U'.heap L ∧ FrameEnd U o U' L ({ frames := 3, cells := 1, slots := 1, locals := 39 } : Room).cells ({ frames := 3, cells := 1, slots := 1, locals := 39 } : Room).slots) := by
  refine MetFree.of_bodySF (plainFor_of_name own_pn2) hisR ?_
  intro p e s m args below meth c s₁ Bd hml0 hP hK
  obtain ⟨rfl, hZ, hh⟩ := hP
  have hx := Bd.exec
  have hby := Bd.bytes
  have hml : c.maxLocals = 3 := hml0
  have hown : s.vm.findClass "java/lang/Long" = some m.cls := findClass_of_methodNamed Bd.named
  have hnm := (name_of_methodNamed Bd.named Bd.method).1
  have hlk : meth.locks = false := Bd.notSynchronized
  have X0 : Stand p l e ({ frames := 3, cells := 1, slots := 1, locals := 39 } : Room) s m #[(.long q)] below meth c s₁ [] 0 0 := Stand.of_body Bd
  have e0 : s₁.heap = h0 := by rw [← hh, Bd.state]; rfl
  have N0 := Fr.nil n0
  show own_Go p e below s (own_Q_lgv Z q h0 n0) ({ frames := 3, cells := 1, slots := 1, locals := 39 } : Room).cells ({ frames := 3, cells := 1, slots := 1, locals := 39 } : Room).slots (s₁.setTop (entryFrame m #[(.long q)] 3))
  refine own_st (fun t9 k9 => castTop (own_ef_lgv m q) k9) ?_
  show own_Go p e below s _ _ _ (s₁.setTop (mkF m 0 #[.val (.long q), .second, .unset] []))
  have Kp : Keep h0 h0 [] := Keep.refl h0 []
  refine own_st (fun t9 k9 => XS.sipush X0.here hx rfl (hb hby own_d_jdk_35_method_24_0) k9) ?_
  show own_Go p e below s _ _ _ (s₁.setTop (mkF m 3 #[.val (.long q), .second, .unset] [(.int (128 : Int32))]))
  refine own_st (fun t9 k9 => XS.istoreN X0.here hx rfl (hb hby own_d_jdk_35_method_24_3) rfl (l' := #[.val (.long q), .second, .val (.int (128 : Int32))]) rfl k9) ?_
  show own_Go p e below s _ _ _ (s₁.setTop (mkF m 4 #[.val (.long q), .second, .val (.int (128 : Int32))] []))
  refine own_st (fun t9 k9 => XT.lloadN X0.here hx rfl (hb hby own_d_jdk_35_method_24_4) rfl  k9) ?_
  show own_Go p e below s _ _ _ (s₁.setTop (mkF m 5 #[.val (.long q), .second, .val (.int (128 : Int32))] [(.long q)]))
  refine own_st (fun t9 k9 => X0.ldc2Long hx hown (mvT hZ (hw _ (List.mem_of_getElem? (i := 11) rfl))) (g := (mkF m 5 #[.val (.long q), .second, .val (.int (128 : Int32))] [(.long q)])) rfl (hb hby own_d_jdk_35_method_24_5) t9 k9) ?_
  show own_Go p e below s _ _ _ (s₁.setTop (mkF m 8 #[.val (.long q), .second, .val (.int (128 : Int32))] [(.long (-128 : Int64)), (.long q)]))
  refine own_st (fun t9 k9 => XT.lcmp X0.here hx rfl (hb hby own_d_jdk_35_method_24_8) rfl k9) ?_
  show own_Go p e below s _ _ _ (s₁.setTop (mkF m 9 #[.val (.long q), .second, .val (.int (128 : Int32))] [(.int (XT.cmpL q (-128 : Int64)))]))
  by_cases c1 : q < (-128 : Int64)
  · skip
    refine own_st (fun t9 k9 => XS.ifYes X0.here hx rfl (pc0 := 9) (pc' := 31) rfl (hb hby own_d_jdk_35_method_24_9) rfl ((if0 _ _).trans (tlt (((lw_lt _ _).mpr c1) : (XT.cmpL q (-128 : Int64)) < (0 : Int32))).1) (by decide) (by decide) k9) ?_
    show own_Go p e below s _ _ _ (s₁.setTop (mkF m 31 #[.val (.long q), .second, .val (.int (128 : Int32))] []))
    obtain ⟨T12, h12, X12, e12, E12, A12, D12, U12, st12⟩ := newO X0 hx hZ hown (hw _ (List.mem_of_getElem? (i := 12) rfl)) (hw _ (List.mem_of_getElem? (i := 13) rfl)) (hw _ (List.mem_of_getElem? (i := 9) rfl)) e0 (g := (mkF m 31 #[.val (.long q), .second, .val (.int (128 : Int32))] [])) rfl (hb hby own_d_jdk_35_method_24_31) (by decide) (by decide)
    obtain ⟨b, g12⟩ : ∃ z, z = h0.size := ⟨_, rfl⟩
    rw [← g12] at A12 D12 st12 U12
    have ge_b : n0 ≤ b := Nat.le_trans (own_z0 Od) (Nat.le_of_eq g12.symm)
    have gz_b : h0.size ≤ b := Nat.le_trans Kp.1 (Nat.le_of_eq g12.symm)
    have Od := Od.ext E12
    have Kp := Kp.ext E12
    refine own_st st12 ?_
    show own_Go p e below s _ _ _ (T12.setTop (mkF m 34 #[.val (.long q), .second, .val (.int (128 : Int32))] [(.ref b)]))
    have E_b : Exa Z h12 b "java/lang/Long" := A12
    have F_v : Fld Z h12 b "java/lang/Long" "value" "J" (.long (0 : Int64)) := D12 (Or.inr (hw _ (List.mem_of_getElem? (i := 28) rfl))) (ty := .long) (by decide)
    refine own_st (fun t9 k9 => XS.dup X12.here hx rfl (hb hby own_d_jdk_35_method_24_34) rfl rfl k9) ?_
    show own_Go p e below s _ _ _ (T12.setTop (mkF m 35 #[.val (.long q), .second, .val (.int (128 : Int32))] [(.ref b), (.ref b)]))
    refine own_st (fun t9 k9 => XT.lloadN X12.here hx rfl (hb hby own_d_jdk_35_method_24_35) rfl  k9) ?_
    show own_Go p e below s _ _ _ (T12.setTop (mkF m 36 #[.val (.long q), .second, .val (.int (128 : Int32))] [(.long q), (.ref b), (.ref b)]))
    obtain ⟨_, T13, h13, L13, X13, e13, ⟨rfl, Nc, Kc, E_y, F_u⟩, st13⟩ := own_callI X12 hx hZ hown rfl (hw _ (List.mem_of_getElem? (i := 14) rfl)) (hw _ (List.mem_of_getElem? (i := 15) rfl)) (hw _ (List.mem_of_getElem? (i := 9) rfl)) (hw _ (List.mem_of_getElem? (i := 17) rfl)) (by decide) (own_rm_lgi l Z a0 hw [] b q h12 n0 Od E_b F_v ge_b) (by decide) (by decide) e12 (a := b) (W := 1) (g := (mkF m 36 #[.val (.long q), .second, .val (.int (128 : Int32))] [(.long q), (.ref b), (.ref b)])) rfl (by rw [hml]; rfl) (argsL := [(.long q)]) (rest := [(.ref b)]) rfl (lenOf own_pd2 rfl) rfl (by show 2 * 0 + _ ≤ _; exact Nat.le_of_eq rfl) (hb hby own_d_jdk_35_method_24_36) (by decide) (by decide)
    have N13 := Fr.app N0 Nc
    have E_b := E_b.keep Kc
    have Od := Od.keep Kc (allS ge_b all0)
    have Kp := Kp.trans Kc (allS (Or.inr gz_b) all0)
    refine own_st st13 ?_
    show own_Go p e below s _ _ _ (T13.setTop (mkF m 39 #[.val (.long q), .second, .val (.int (128 : Int32))] [(.ref b)]))
    exact own_retR X13 hx hlk Bd.returns rfl rfl (hb hby own_d_jdk_35_method_24_39) (by decide) (by decide) (by rw [e13]; exact ⟨N13, Kp, b, rfl, E_y, F_u⟩)
  · skip
    refine own_st (fun t9 k9 => XS.ifNo X0.here hx rfl (hb hby own_d_jdk_35_method_24_9) rfl ((if0 _ _).trans (flt ((fun z9 => c1 ((lw_lt _ _).mp z9)) : ¬ ((XT.cmpL q (-128 : Int64)) < (0 : Int32)))).1) k9) ?_
    show own_Go p e below s _ _ _ (s₁.setTop (mkF m 12 #[.val (.long q), .second, .val (.int (128 : Int32))] []))
    refine own_st (fun t9 k9 => XT.lloadN X0.here hx rfl (hb hby own_d_jdk_35_method_24_12) rfl  k9) ?_
    show own_Go p e below s _ _ _ (s₁.setTop (mkF m 13 #[.val (.long q), .second, .val (.int (128 : Int32))] [(.long q)]))
    refine own_st (fun t9 k9 => X0.ldc2Long hx hown (mvT hZ (hw _ (List.mem_of_getElem? (i := 112) rfl))) (g := (mkF m 13 #[.val (.long q), .second, .val (.int (128 : Int32))] [(.long q)])) rfl (hb hby own_d_jdk_35_method_24_13) t9 k9) ?_
    show own_Go p e below s _ _ _ (s₁.setTop (mkF m 16 #[.val (.long q), .second, .val (.int (128 : Int32))] [(.long (127 : Int64)), (.long q)]))
    refine own_st (fun t9 k9 => XT.lcmp X0.here hx rfl (hb hby own_d_jdk_35_method_24_16) rfl k9) ?_
    show own_Go p e below s _ _ _ (s₁.setTop (mkF m 17 #[.val (.long q), .second, .val (.int (128 : Int32))] [(.int (XT.cmpL q (127 : Int64)))]))
    by_cases c2 : (127 : Int64) < q
    · skip
      refine own_st (fun t9 k9 => XS.ifYes X0.here hx rfl (pc0 := 17) (pc' := 31) rfl (hb hby own_d_jdk_35_method_24_17) rfl ((if0 _ _).trans (tlt (((lw_gt _ _).mpr c2) : (0 : Int32) < (XT.cmpL q (127 : Int64)))).2.2.1) (by decide) (by decide) k9) ?_
      show own_Go p e below s _ _ _ (s₁.setTop (mkF m 31 #[.val (.long q), .second, .val (.int (128 : Int32))] []))
      obtain ⟨T14, h14, X14, e14, E14, A14, D14, U14, st14⟩ := newO X0 hx hZ hown (hw _ (List.mem_of_getElem? (i := 12) rfl)) (hw _ (List.mem_of_getElem? (i := 13) rfl)) (hw _ (List.mem_of_getElem? (i := 9) rfl)) e0 (g := (mkF m 31 #[.val (.long q), .second, .val (.int (128 : Int32))] [])) rfl (hb hby own_d_jdk_35_method_24_31) (by decide) (by decide)
      obtain ⟨b, g14⟩ : ∃ z, z = h0.size := ⟨_, rfl⟩
      rw [← g14] at A14 D14 st14 U14
      have ge_b : n0 ≤ b := Nat.le_trans (own_z0 Od) (Nat.le_of_eq g14.symm)
      have gz_b : h0.size ≤ b := Nat.le_trans Kp.1 (Nat.le_of_eq g14.symm)
      have Od := Od.ext E14
      have Kp := Kp.ext E14
      refine own_st st14 ?_
      show own_Go p e below s _ _ _ (T14.setTop (mkF m 34 #[.val (.long q), .second, .val (.int (128 : Int32))] [(.ref b)]))
      have E_b : Exa Z h14 b "java/lang/Long" := A14
      have F_v : Fld Z h14 b "java/lang/Long" "value" "J" (.long (0 : Int64)) := D14 (Or.inr (hw _ (List.mem_of_getElem? (i := 28) rfl))) (ty := .long) (by decide)
      refine own_st (fun t9 k9 => XS.dup X14.here hx rfl (hb hby own_d_jdk_35_method_24_34) rfl rfl k9) ?_
      show own_Go p e below s _ _ _ (T14.setTop (mkF m 35 #[.val (.long q), .second, .val (.int (128 : Int32))] [(.ref b), (.ref b)]))
      refine own_st (fun t9 k9 => XT.lloadN X14.here hx rfl (hb hby own_d_jdk_35_method_24_35) rfl  k9) ?_
      show own_Go p e below s _ _ _ (T14.setTop (mkF m 36 #[.val (.long q), .second, .val (.int (128 : Int32))] [(.long q), (.ref b), (.ref b)]))
      obtain ⟨_, T15, h15, L15, X15, e15, ⟨rfl, Nc, Kc, E_y, F_u⟩, st15⟩ := own_callI X14 hx hZ hown rfl (hw _ (List.mem_of_getElem? (i := 14) rfl)) (hw _ (List.mem_of_getElem? (i := 15) rfl)) (hw _ (List.mem_of_getElem? (i := 9) rfl)) (hw _ (List.mem_of_getElem? (i := 17) rfl)) (by decide) (own_rm_lgi l Z a0 hw [] b q h14 n0 Od E_b F_v ge_b) (by decide) (by decide) e14 (a := b) (W := 1) (g := (mkF m 36 #[.val (.long q), .second, .val (.int (128 : Int32))] [(.long q), (.ref b), (.ref b)])) rfl (by rw [hml]; rfl) (argsL := [(.long q)]) (rest := [(.ref b)]) rfl (lenOf own_pd2 rfl) rfl (by show 2 * 0 + _ ≤ _; exact Nat.le_of_eq rfl) (hb hby own_d_jdk_35_method_24_36) (by decide) (by decide)
      have N15 := Fr.app N0 Nc
      have E_b := E_b.keep Kc
      have Od := Od.keep Kc (allS ge_b all0)
      have Kp := Kp.trans Kc (allS (Or.inr gz_b) all0)
      refine own_st st15 ?_
      show own_Go p e below s _ _ _ (T15.setTop (mkF m 39 #[.val (.long q), .second, .val (.int (128 : Int32))] [(.ref b)]))
      exact own_retR X15 hx hlk Bd.returns rfl rfl (hb hby own_d_jdk_35_method_24_39) (by decide) (by decide) (by rw [e15]; exact ⟨N15, Kp, b, rfl, E_y, F_u⟩)
    · skip
      refine own_st (fun t9 k9 => XS.ifNo X0.here hx rfl (hb hby own_d_jdk_35_method_24_17) rfl ((if0 _ _).trans (flt ((fun z9 => c2 ((lw_gt _ _).mp z9)) : ¬ ((0 : Int32) < (XT.cmpL q (127 : Int64))))).2.2.1) k9) ?_
      show own_Go p e below s _ _ _ (s₁.setTop (mkF m 20 #[.val (.long q), .second, .val (.int (128 : Int32))] []))
      obtain ⟨T16, X16, e16, st16⟩ := getS (host := "") X0 hx hZ hown (hw _ (List.mem_of_getElem? (i := 113) rfl)) Via.refl e0 (SC.ext Od.2) (g := (mkF m 20 #[.val (.long q), .second, .val (.int (128 : Int32))] [])) rfl (hb hby own_d_jdk_35_method_24_20)
      refine own_st st16 ?_
      show own_Go p e below s _ _ _ (T16.setTop (mkF m 23 #[.val (.long q), .second, .val (.int (128 : Int32))] [(.ref ca)]))
      refine own_st (fun t9 k9 => XT.lloadN X16.here hx rfl (hb hby own_d_jdk_35_method_24_23) rfl  k9) ?_
      show own_Go p e below s _ _ _ (T16.setTop (mkF m 24 #[.val (.long q), .second, .val (.int (128 : Int32))] [(.long q), (.ref ca)]))
      refine own_st (fun t9 k9 => XT.l2i X16.here hx rfl (hb hby own_d_jdk_35_method_24_24) rfl k9) ?_
      show own_Go p e below s _ _ _ (T16.setTop (mkF m 25 #[.val (.long q), .second, .val (.int (128 : Int32))] [(.int (q.toInt32)), (.ref ca)]))
      refine own_st (fun t9 k9 => XS.sipush X16.here hx rfl (hb hby own_d_jdk_35_method_24_25) k9) ?_
      show own_Go p e below s _ _ _ (T16.setTop (mkF m 28 #[.val (.long q), .second, .val (.int (128 : Int32))] [(.int (128 : Int32)), (.int (q.toInt32)), (.ref ca)]))
      refine own_st (fun t9 k9 => XS.iadd X16.here hx rfl (hb hby own_d_jdk_35_method_24_28) rfl k9) ?_
      show own_Go p e below s _ _ _ (T16.setTop (mkF m 29 #[.val (.long q), .second, .val (.int (128 : Int32))] [(.int ((q.toInt32) + (128 : Int32))), (.ref ca)]))
      obtain ⟨box, hb1, hb2, EB, FB⟩ := HC q c1 c2
      refine own_st (fun t9 k9 => own_aald X16 hx hZ e16 (AC.ext Od.2) rfl hb1 hb2 (g := (mkF m 29 #[.val (.long q), .second, .val (.int (128 : Int32))] [(.int ((q.toInt32) + (128 : Int32))), (.ref ca)])) rfl rfl (hb hby own_d_jdk_35_method_24_29) t9 k9) ?_
      show own_Go p e below s _ _ _ (T16.setTop (mkF m 30 #[.val (.long q), .second, .val (.int (128 : Int32))] [(.ref box)]))
      exact own_retR X16 hx hlk Bd.returns rfl rfl (hb hby own_d_jdk_35_method_24_30) (by decide) (by decide) (by rw [e16]; exact ⟨N0, Kp, box, rfl, EB.ext Od.2, FB.ext Od.2⟩)
theorem own_pn3 : plainName "java/lang/Throwable" = true := by first | (simp [plainName, overriddenIn]; done) | decide +kernel
theorem own_d_jdk_78_method_2_0 : decode jdk_78_method_2_code 0 = .ok (.aload_n 0, 1) := by decide +kernel
theorem own_d_jdk_78_method_2_1 : decode jdk_78_method_2_code 1 = .ok (.invokespecial 1, 3) := by decide +kernel
theorem own_d_jdk_78_method_2_4 : decode jdk_78_method_2_code 4 = .ok (.aload_n 0, 1) := by decide +kernel
theorem own_d_jdk_78_method_2_5 : decode jdk_78_method_2_code 5 = .ok (.aload_n 0, 1) := by decide +kernel
theorem own_d_jdk_78_method_2_6 : decode jdk_78_method_2_code 6 = .ok (.putfield 7, 3) := by decide +kernel
theorem own_d_jdk_78_method_2_9 : decode jdk_78_method_2_code 9 = .ok (.aload_n 0, 1) := by decide +kernel
theorem own_d_jdk_78_method_2_10 : decode jdk_78_method_2_code 10 = .ok (.getstatic 13, 3) := by decide +kernel
theorem own_d_jdk_78_method_2_13 : decode jdk_78_method_2_code 13 = .ok (.putfield 17, 3) := by decide +kernel
theorem own_d_jdk_78_method_2_16 : decode jdk_78_method_2_code 16 = .ok (.aload_n 0, 1) := by decide +kernel
theorem own_d_jdk_78_method_2_17 : decode jdk_78_method_2_code 17 = .ok (.getstatic 20, 3) := by decide +kernel
theorem own_d_jdk_78_method_2_20 : decode jdk_78_method_2_code 20 = .ok (.putfield 24, 3) := by decide +kernel
theorem own_d_jdk_78_method_2_23 : decode jdk_78_method_2_code 23 = .ok (.aload_n 0, 1) := by decide +kernel
theorem own_d_jdk_78_method_2_24 : decode jdk_78_method_2_code 24 = .ok (.invokevirtual 27, 3) := by decide +kernel
theorem own_d_jdk_78_method_2_27 : decode jdk_78_method_2_code 27 = .ok (.pop, 1) := by decide +kernel
theorem own_d_jdk_78_method_2_28 : decode jdk_78_method_2_code 28 = .ok (.aload_n 0, 1) := by decide +kernel
theorem own_d_jdk_78_method_2_29 : decode jdk_78_method_2_code 29 = .ok (.aload_n 1, 1) := by decide +kernel
theorem own_d_jdk_78_method_2_30 : decode jdk_78_method_2_code 30 = .ok (.putfield 31, 3) := by decide +kernel
theorem own_d_jdk_78_method_2_33 : decode jdk_78_method_2_code 33 = .ok (.return_, 1) := by decide +kernel
theorem own_ef_thN (m : MethodId) (x0 : Addr) : entryFrame m #[(.ref x0), .null] 2 = mkF m 0 #[.val (.ref x0), .val .null] [] := by first | (simp [entryFrame, mkF, argsToLocals, Value.category]; done) | rfl
def own_Q_thN (Z : State) (x : Addr) (h0 : Heap) (n0 : Nat) (v : Option Value) (h : Heap) (L : List Loc) : Prop := v = none ∧ Fr n0 L ∧ Keep h0 h [x] ∧ Exa Z h x "com/example/jobs_into_runs/jobsintoruns/http/ApiException" ∧ Fld Z h x "com/example/jobs_into_runs/jobsintoruns/http/ApiException" "status" "I" (.int (0 : Int32)) ∧ Fld Z h x "com/example/jobs_into_runs/jobsintoruns/http/ApiException" "allowed" "Ljava/lang/String;" .null ∧ Fld Z h x "com/example/jobs_into_runs/jobsintoruns/http/ApiException" "run" "Ljava/lang/Long;" .null ∧ Fld Z h x "java/lang/Throwable" "detailMessage" "Ljava/lang/String;" .null
set_option maxRecDepth 65536 in
set_option maxHeartbeats 40000000 in
theorem own_rm_thN (l : Launch) (Z : State) (a0 : Array Value) (hw : ∀ d ∈ tables_1, d.before a0 Z = true) (ws : List Jvm.Cond) (x : Addr) (uu sv : Value) (h0 : Heap) (n0 : Nat) (Od : Old Z n0 h0) (E_x : Exa Z h0 x "com/example/jobs_into_runs/jobsintoruns/http/ApiException") (U_x : Unt h0 x) (F_ca : Fld Z h0 x "java/lang/Throwable" "cause" "Ljava/lang/Throwable;" .null) (F_st : Fld Z h0 x "java/lang/Throwable" "stackTrace" "[Ljava/lang/StackTraceElement;" .null) (F_su : Fld Z h0 x "java/lang/Throwable" "suppressedExceptions" "Ljava/util/List;" .null) (F_bt : Fld Z h0 x "java/lang/Throwable" "backtrace" "Ljava/lang/Object;" .null) (F_dm : Fld Z h0 x "java/lang/Throwable" "detailMessage" "Ljava/lang/String;" .null) (F0 : Fld Z h0 x "com/example/jobs_into_runs/jobsintoruns/http/ApiException" "status" "I" (.int (0 : Int32))) (F1 : Fld Z h0 x "com/example/jobs_into_runs/jobsintoruns/http/ApiException" "allowed" "Ljava/lang/String;" .null) (F2 : Fld Z h0 x "com/example/jobs_into_runs/jobsintoruns/http/ApiException" "run" "Ljava/lang/Long;" .null) (ge_x : n0 ≤ x) (hl : l.stackTraces = true) (SU : Sta Z Z.heap "java/lang/Throwable" "UNASSIGNED_STACK" "[Ljava/lang/StackTraceElement;" uu) (hu : uu.isRef = true) (SS : Sta Z Z.heap "java/lang/Throwable" "SUPPRESSED_SENTINEL" "Ljava/util/List;" sv) (hv : sv.isRef = true) :
    MetFree l (⟨"java/lang/Throwable", "<init>", "(Ljava/lang/String;)V"⟩ : MethodName) (head1 (Jvm.Cond.code (⟨"java/lang/Throwable", "<init>", "(Ljava/lang/String;)V"⟩ : MethodName) jdk_78_method_2_code 2 none :: ws) ({ frames := 3, cells := 1, slots := 2752, locals := 42 } : Room)) (fun a9 U => a9 = #[(.ref x), .null] ∧ Z.Warmed39 U.vm ∧ U.heap = h0) (fun _ _ bl s _ => s.vm.MethodsKnown ∧ s.vm.FramesKnown bl) (fun _ U o U' => ∃ v L, o = .returned v ∧ own_Q_thN Z x h0 n0 v U'.heap L ∧ FrameEnd U o U' L ({ frames := 3, cells := 1, slots := 2752, locals := 42 } : Room).cells ({ frames := 3, cells := 1, slots := 2752, locals := 42 } : Room).slots) := by
  refine MetFree.of_bodySF (plainFor_of_name own_pn3) hisR ?_
  intro p e s m args below meth c s₁ Bd hml0 hP hK
  obtain ⟨rfl, hZ, hh⟩ := hP
  have hx := Bd.exec
  have hby := Bd.bytes
  have hml : c.maxLocals = 2 := hml0
  have hown : s.vm.findClass "java/lang/Throwable" = some m.cls := findClass_of_methodNamed Bd.named
  have hnm := (name_of_methodNamed Bd.named Bd.method).1
  have hlk : meth.locks = false := Bd.notSynchronized
  have X0 : Stand p l e ({ frames := 3, cells := 1, slots := 2752, locals := 42 } : Room) s m #[(.ref x), .null] below meth c s₁ [] 0 0 := Stand.of_body Bd
  have e0 : s₁.heap = h0 := by rw [← hh, Bd.state]; rfl
  have N0 := Fr.nil n0
  show own_Go p e below s (own_Q_thN Z x h0 n0) ({ frames := 3, cells := 1, slots := 2752, locals := 42 } : Room).cells ({ frames := 3, cells := 1, slots := 2752, locals := 42 } : Room).slots (s₁.setTop (entryFrame m #[(.ref x), .null] 2))
  refine own_st (fun t9 k9 => castTop (own_ef_thN m x) k9) ?_
  show own_Go p e below s _ _ _ (s₁.setTop (mkF m 0 #[.val (.ref x), .val .null] []))
  obtain ⟨hTK, hBelow⟩ := hK
  have hT0 : ThS Z s.heap := by rw [hh]; exact ThS.ext Od.2 ThS.start
  have Kp : Keep h0 h0 [x] := Keep.refl h0 [x]
  refine own_st (fun t9 k9 => XS.aloadN X0.here hx rfl (hb hby own_d_jdk_78_method_2_0) rfl rfl k9) ?_
  show own_Go p e below s _ _ _ (s₁.setTop (mkF m 1 #[.val (.ref x), .val .null] [(.ref x)]))
  obtain ⟨T17, X17, e17, st17⟩ := initO X0 hx hZ hown (hw _ (List.mem_of_getElem? (i := 43) rfl)) (hw _ (List.mem_of_getElem? (i := 25) rfl)) (hw _ (List.mem_of_getElem? (i := 26) rfl)) e0 (g := (mkF m 1 #[.val (.ref x), .val .null] [(.ref x)])) rfl (by rw [hml]; rfl) rfl (hb hby own_d_jdk_78_method_2_1) (by decide) (W := 0) (by show 2 * 0 + _ ≤ _; exact Nat.le_of_eq rfl) (by decide)
  refine own_st st17 ?_
  show own_Go p e below s _ _ _ (T17.setTop (mkF m 4 #[.val (.ref x), .val .null] []))
  refine own_st (fun t9 k9 => XS.aloadN X17.here hx rfl (hb hby own_d_jdk_78_method_2_4) rfl rfl k9) ?_
  show own_Go p e below s _ _ _ (T17.setTop (mkF m 5 #[.val (.ref x), .val .null] [(.ref x)]))
  refine own_st (fun t9 k9 => XS.aloadN X17.here hx rfl (hb hby own_d_jdk_78_method_2_5) rfl rfl k9) ?_
  show own_Go p e below s _ _ _ (T17.setTop (mkF m 6 #[.val (.ref x), .val .null] [(.ref x), (.ref x)]))
  obtain ⟨T18, h18, X18, e18, W18, st18⟩ := putF X17 hx hZ hown (host := "") (Or.inl (hw _ (List.mem_of_getElem? (i := 44) rfl))) Via.refl e17 F_ca E_x (Or.inl (hw _ (List.mem_of_getElem? (i := 45) rfl))) (hw _ (List.mem_of_getElem? (i := 6) rfl)) (ty := (.object "java/lang/Throwable")) (by decide) rfl rfl (g := (mkF m 6 #[.val (.ref x), .val .null] [(.ref x), (.ref x)])) rfl rfl (hb hby own_d_jdk_78_method_2_6)
  have N18 := Fr.snoc X18 N0 ge_x
  have E_x := E_x.wr W18
  have F_ca := F_ca.same W18
  have F_st := F_st.other W18 (Or.inr (RoadKit.slot_ne (Or.inl (hw _ (List.mem_of_getElem? (i := 48) rfl))) (Or.inl (hw _ (List.mem_of_getElem? (i := 45) rfl))) (by decide) (t := (.array (.object "java/lang/StackTraceElement"))) (t' := (.object "java/lang/Throwable")) (by decide) (by decide)))
  have F_su := F_su.other W18 (Or.inr (RoadKit.slot_ne (Or.inl (hw _ (List.mem_of_getElem? (i := 51) rfl))) (Or.inl (hw _ (List.mem_of_getElem? (i := 45) rfl))) (by decide) (t := (.object "java/util/List")) (t' := (.object "java/lang/Throwable")) (by decide) (by decide)))
  have F_bt := F_bt.other W18 (Or.inr (RoadKit.slot_ne (Or.inl (hw _ (List.mem_of_getElem? (i := 76) rfl))) (Or.inl (hw _ (List.mem_of_getElem? (i := 45) rfl))) (by decide) (t := (.object "java/lang/Object")) (t' := (.object "java/lang/Throwable")) (by decide) (by decide)))
  have F_dm := F_dm.other W18 (Or.inr (RoadKit.slot_ne (Or.inl (hw _ (List.mem_of_getElem? (i := 75) rfl))) (Or.inl (hw _ (List.mem_of_getElem? (i := 45) rfl))) (by decide) (t := (.object "java/lang/String")) (t' := (.object "java/lang/Throwable")) (by decide) (by decide)))
  have F0 := F0.other W18 (Or.inr (RoadKit.slot_ne (Or.inr (hw _ (List.mem_of_getElem? (i := 81) rfl))) (Or.inl (hw _ (List.mem_of_getElem? (i := 45) rfl))) (by decide) (t := .int) (t' := (.object "java/lang/Throwable")) (by decide) (by decide)))
  have F1 := F1.other W18 (Or.inr (RoadKit.slot_ne (Or.inr (hw _ (List.mem_of_getElem? (i := 83) rfl))) (Or.inl (hw _ (List.mem_of_getElem? (i := 45) rfl))) (by decide) (t := (.object "java/lang/String")) (t' := (.object "java/lang/Throwable")) (by decide) (by decide)))
  have F2 := F2.other W18 (Or.inr (RoadKit.slot_ne (Or.inr (hw _ (List.mem_of_getElem? (i := 85) rfl))) (Or.inl (hw _ (List.mem_of_getElem? (i := 45) rfl))) (by decide) (t := (.object "java/lang/Long")) (t' := (.object "java/lang/Throwable")) (by decide) (by decide)))
  have Od := Od.wr W18 ge_x
  have Kp := Kp.wr W18 (Or.inl (List.mem_of_getElem? (i := 0) rfl))
  refine own_st st18 ?_
  show own_Go p e below s _ _ _ (T18.setTop (mkF m 9 #[.val (.ref x), .val .null] []))
  refine own_st (fun t9 k9 => XS.aloadN X18.here hx rfl (hb hby own_d_jdk_78_method_2_9) rfl rfl k9) ?_
  show own_Go p e below s _ _ _ (T18.setTop (mkF m 10 #[.val (.ref x), .val .null] [(.ref x)]))
  rcases ref_cases hu with rfl | ⟨u1, rfl⟩
  · skip
    rcases ref_cases hv with rfl | ⟨v1, rfl⟩
    · skip
      obtain ⟨T19, X19, e19, st19⟩ := getS (host := "") X18 hx hZ hown (hw _ (List.mem_of_getElem? (i := 46) rfl)) Via.refl e18 (SU.ext Od.2) (g := (mkF m 10 #[.val (.ref x), .val .null] [(.ref x)])) rfl (hb hby own_d_jdk_78_method_2_10)
      refine own_st st19 ?_
      show own_Go p e below s _ _ _ (T19.setTop (mkF m 13 #[.val (.ref x), .val .null] [.null, (.ref x)]))
      obtain ⟨T20, h20, X20, e20, W20, st20⟩ := putF X19 hx hZ hown (host := "") (Or.inl (hw _ (List.mem_of_getElem? (i := 47) rfl))) Via.refl e19 F_st E_x (Or.inl (hw _ (List.mem_of_getElem? (i := 48) rfl))) (hw _ (List.mem_of_getElem? (i := 6) rfl)) (ty := (.array (.object "java/lang/StackTraceElement"))) (by decide) rfl rfl (g := (mkF m 13 #[.val (.ref x), .val .null] [.null, (.ref x)])) rfl rfl (hb hby own_d_jdk_78_method_2_13)
      have N20 := Fr.snoc X20 N18 ge_x
      have E_x := E_x.wr W20
      have F_ca := F_ca.other W20 (Or.inr (RoadKit.slot_ne (Or.inl (hw _ (List.mem_of_getElem? (i := 45) rfl))) (Or.inl (hw _ (List.mem_of_getElem? (i := 48) rfl))) (by decide) (t := (.object "java/lang/Throwable")) (t' := (.array (.object "java/lang/StackTraceElement"))) (by decide) (by decide)))
      have F_st := F_st.same W20
      have F_su := F_su.other W20 (Or.inr (RoadKit.slot_ne (Or.inl (hw _ (List.mem_of_getElem? (i := 51) rfl))) (Or.inl (hw _ (List.mem_of_getElem? (i := 48) rfl))) (by decide) (t := (.object "java/util/List")) (t' := (.array (.object "java/lang/StackTraceElement"))) (by decide) (by decide)))
      have F_bt := F_bt.other W20 (Or.inr (RoadKit.slot_ne (Or.inl (hw _ (List.mem_of_getElem? (i := 76) rfl))) (Or.inl (hw _ (List.mem_of_getElem? (i := 48) rfl))) (by decide) (t := (.object "java/lang/Object")) (t' := (.array (.object "java/lang/StackTraceElement"))) (by decide) (by decide)))
      have F_dm := F_dm.other W20 (Or.inr (RoadKit.slot_ne (Or.inl (hw _ (List.mem_of_getElem? (i := 75) rfl))) (Or.inl (hw _ (List.mem_of_getElem? (i := 48) rfl))) (by decide) (t := (.object "java/lang/String")) (t' := (.array (.object "java/lang/StackTraceElement"))) (by decide) (by decide)))
      have F0 := F0.other W20 (Or.inr (RoadKit.slot_ne (Or.inr (hw _ (List.mem_of_getElem? (i := 81) rfl))) (Or.inl (hw _ (List.mem_of_getElem? (i := 48) rfl))) (by decide) (t := .int) (t' := (.array (.object "java/lang/StackTraceElement"))) (by decide) (by decide)))
      have F1 := F1.other W20 (Or.inr (RoadKit.slot_ne (Or.inr (hw _ (List.mem_of_getElem? (i := 83) rfl))) (Or.inl (hw _ (List.mem_of_getElem? (i := 48) rfl))) (by decide) (t := (.object "java/lang/String")) (t' := (.array (.object "java/lang/StackTraceElement"))) (by decide) (by decide)))
      have F2 := F2.other W20 (Or.inr (RoadKit.slot_ne (Or.inr (hw _ (List.mem_of_getElem? (i := 85) rfl))) (Or.inl (hw _ (List.mem_of_getElem? (i := 48) rfl))) (by decide) (t := (.object "java/lang/Long")) (t' := (.array (.object "java/lang/StackTraceElement"))) (by decide) (by decide)))
      have Od := Od.wr W20 ge_x
      have Kp := Kp.wr W20 (Or.inl (List.mem_of_getElem? (i := 0) rfl))
      refine own_st st20 ?_
      show own_Go p e below s _ _ _ (T20.setTop (mkF m 16 #[.val (.ref x), .val .null] []))
      refine own_st (fun t9 k9 => XS.aloadN X20.here hx rfl (hb hby own_d_jdk_78_method_2_16) rfl rfl k9) ?_
      show own_Go p e below s _ _ _ (T20.setTop (mkF m 17 #[.val (.ref x), .val .null] [(.ref x)]))
      obtain ⟨T21, X21, e21, st21⟩ := getS (host := "") X20 hx hZ hown (hw _ (List.mem_of_getElem? (i := 49) rfl)) Via.refl e20 (SS.ext Od.2) (g := (mkF m 17 #[.val (.ref x), .val .null] [(.ref x)])) rfl (hb hby own_d_jdk_78_method_2_17)
      refine own_st st21 ?_
      show own_Go p e below s _ _ _ (T21.setTop (mkF m 20 #[.val (.ref x), .val .null] [.null, (.ref x)]))
      obtain ⟨T22, h22, X22, e22, W22, st22⟩ := putF X21 hx hZ hown (host := "") (Or.inl (hw _ (List.mem_of_getElem? (i := 50) rfl))) Via.refl e21 F_su E_x (Or.inl (hw _ (List.mem_of_getElem? (i := 51) rfl))) (hw _ (List.mem_of_getElem? (i := 6) rfl)) (ty := (.object "java/util/List")) (by decide) rfl rfl (g := (mkF m 20 #[.val (.ref x), .val .null] [.null, (.ref x)])) rfl rfl (hb hby own_d_jdk_78_method_2_20)
      have N22 := Fr.snoc X22 N20 ge_x
      have E_x := E_x.wr W22
      have F_ca := F_ca.other W22 (Or.inr (RoadKit.slot_ne (Or.inl (hw _ (List.mem_of_getElem? (i := 45) rfl))) (Or.inl (hw _ (List.mem_of_getElem? (i := 51) rfl))) (by decide) (t := (.object "java/lang/Throwable")) (t' := (.object "java/util/List")) (by decide) (by decide)))
      have F_st := F_st.other W22 (Or.inr (RoadKit.slot_ne (Or.inl (hw _ (List.mem_of_getElem? (i := 48) rfl))) (Or.inl (hw _ (List.mem_of_getElem? (i := 51) rfl))) (by decide) (t := (.array (.object "java/lang/StackTraceElement"))) (t' := (.object "java/util/List")) (by decide) (by decide)))
      have F_su := F_su.same W22
      have F_bt := F_bt.other W22 (Or.inr (RoadKit.slot_ne (Or.inl (hw _ (List.mem_of_getElem? (i := 76) rfl))) (Or.inl (hw _ (List.mem_of_getElem? (i := 51) rfl))) (by decide) (t := (.object "java/lang/Object")) (t' := (.object "java/util/List")) (by decide) (by decide)))
      have F_dm := F_dm.other W22 (Or.inr (RoadKit.slot_ne (Or.inl (hw _ (List.mem_of_getElem? (i := 75) rfl))) (Or.inl (hw _ (List.mem_of_getElem? (i := 51) rfl))) (by decide) (t := (.object "java/lang/String")) (t' := (.object "java/util/List")) (by decide) (by decide)))
      have F0 := F0.other W22 (Or.inr (RoadKit.slot_ne (Or.inr (hw _ (List.mem_of_getElem? (i := 81) rfl))) (Or.inl (hw _ (List.mem_of_getElem? (i := 51) rfl))) (by decide) (t := .int) (t' := (.object "java/util/List")) (by decide) (by decide)))
      have F1 := F1.other W22 (Or.inr (RoadKit.slot_ne (Or.inr (hw _ (List.mem_of_getElem? (i := 83) rfl))) (Or.inl (hw _ (List.mem_of_getElem? (i := 51) rfl))) (by decide) (t := (.object "java/lang/String")) (t' := (.object "java/util/List")) (by decide) (by decide)))
      have F2 := F2.other W22 (Or.inr (RoadKit.slot_ne (Or.inr (hw _ (List.mem_of_getElem? (i := 85) rfl))) (Or.inl (hw _ (List.mem_of_getElem? (i := 51) rfl))) (by decide) (t := (.object "java/lang/Long")) (t' := (.object "java/util/List")) (by decide) (by decide)))
      have Od := Od.wr W22 ge_x
      have Kp := Kp.wr W22 (Or.inl (List.mem_of_getElem? (i := 0) rfl))
      refine own_st st22 ?_
      show own_Go p e below s _ _ _ (T22.setTop (mkF m 23 #[.val (.ref x), .val .null] []))
      refine own_st (fun t9 k9 => XS.aloadN X22.here hx rfl (hb hby own_d_jdk_78_method_2_23) rfl rfl k9) ?_
      show own_Go p e below s _ _ _ (T22.setTop (mkF m 24 #[.val (.ref x), .val .null] [(.ref x)]))
      obtain ⟨T23, h23, L23, X23, e23, B23, Kq23, E23, U23, Fq23, st23⟩ := own_fill X22 hx hl hZ (rc := "com/example/jobs_into_runs/jobsintoruns/http/ApiException") hown (fun d hd => hw d ((by decide +kernel : ∀ d ∈ own_atoms "com/example/jobs_into_runs/jobsintoruns/http/ApiException", d ∈ tables_1) d hd)) hT0 hTK hBelow e22 rfl (a := x) (fun y hy => by simp only [List.mem_append, List.mem_cons, List.not_mem_nil, or_false, false_or] at hy; rcases hy with (rfl | rfl) | rfl <;> rfl) E_x (by rw [hh]; exact U_x) (hw _ (List.mem_of_getElem? (i := 6) rfl)) (u := .null) rfl (SU.ext Od.2) F_st F_bt (g := (mkF m 24 #[.val (.ref x), .val .null] [(.ref x)])) rfl (by rw [hml]; rfl) (rest := []) rfl (hb hby own_d_jdk_78_method_2_24) (by decide) (by show 2 * 0 + _ + 42 ≤ _; exact Nat.le_of_ble_eq_true rfl) (by decide) (by decide)
      have N23 := Fr.app N22 (fun y hy => by rw [B23 y hy]; exact ge_x)
      have QF_ca := Fq23 _ _ _ (.object "java/lang/Throwable") _ (Or.inl (hw _ (List.mem_of_getElem? (i := 45) rfl))) (by decide) (by decide) (by decide) (by decide) F_ca
      have QF_su := Fq23 _ _ _ (.object "java/util/List") _ (Or.inl (hw _ (List.mem_of_getElem? (i := 51) rfl))) (by decide) (by decide) (by decide) (by decide) F_su
      have QF_dm := Fq23 _ _ _ (.object "java/lang/String") _ (Or.inl (hw _ (List.mem_of_getElem? (i := 75) rfl))) (by decide) (by decide) (by decide) (by decide) F_dm
      have QF0 := Fq23 _ _ _ .int _ (Or.inr (hw _ (List.mem_of_getElem? (i := 81) rfl))) (by decide) (by decide) (by decide) (by decide) F0
      have QF1 := Fq23 _ _ _ (.object "java/lang/String") _ (Or.inr (hw _ (List.mem_of_getElem? (i := 83) rfl))) (by decide) (by decide) (by decide) (by decide) F1
      have QF2 := Fq23 _ _ _ (.object "java/lang/Long") _ (Or.inr (hw _ (List.mem_of_getElem? (i := 85) rfl))) (by decide) (by decide) (by decide) (by decide) F2
      have Od := Od.keep Kq23 (allS ge_x all0)
      have Kp := Kp.trans Kq23 (allS (Or.inl (List.mem_of_getElem? (i := 0) rfl)) all0)
      have F_ca := QF_ca
      have F_su := QF_su
      have F_dm := QF_dm
      have F0 := QF0
      have F1 := QF1
      have F2 := QF2
      have E_x := E23
      refine own_st st23 ?_
      show own_Go p e below s _ _ _ (T23.setTop (mkF m 27 #[.val (.ref x), .val .null] [(.ref x)]))
      refine own_st (fun t9 k9 => XT.pop X23.here hx rfl (hb hby own_d_jdk_78_method_2_27) rfl rfl k9) ?_
      show own_Go p e below s _ _ _ (T23.setTop (mkF m 28 #[.val (.ref x), .val .null] []))
      refine own_st (fun t9 k9 => XS.aloadN X23.here hx rfl (hb hby own_d_jdk_78_method_2_28) rfl rfl k9) ?_
      show own_Go p e below s _ _ _ (T23.setTop (mkF m 29 #[.val (.ref x), .val .null] [(.ref x)]))
      refine own_st (fun t9 k9 => XS.aloadN X23.here hx rfl (hb hby own_d_jdk_78_method_2_29) rfl rfl k9) ?_
      show own_Go p e below s _ _ _ (T23.setTop (mkF m 30 #[.val (.ref x), .val .null] [.null, (.ref x)]))
      obtain ⟨T24, h24, X24, e24, W24, st24⟩ := putF X23 hx hZ hown (host := "") (Or.inl (hw _ (List.mem_of_getElem? (i := 79) rfl))) Via.refl e23 F_dm E_x (Or.inl (hw _ (List.mem_of_getElem? (i := 75) rfl))) (hw _ (List.mem_of_getElem? (i := 6) rfl)) (ty := (.object "java/lang/String")) (by decide) rfl rfl (g := (mkF m 30 #[.val (.ref x), .val .null] [.null, (.ref x)])) rfl rfl (hb hby own_d_jdk_78_method_2_30)
      have N24 := Fr.snoc X24 N23 ge_x
      have F_ca := F_ca.other W24 (Or.inr (RoadKit.slot_ne (Or.inl (hw _ (List.mem_of_getElem? (i := 45) rfl))) (Or.inl (hw _ (List.mem_of_getElem? (i := 75) rfl))) (by decide) (t := (.object "java/lang/Throwable")) (t' := (.object "java/lang/String")) (by decide) (by decide)))
      have F_su := F_su.other W24 (Or.inr (RoadKit.slot_ne (Or.inl (hw _ (List.mem_of_getElem? (i := 51) rfl))) (Or.inl (hw _ (List.mem_of_getElem? (i := 75) rfl))) (by decide) (t := (.object "java/util/List")) (t' := (.object "java/lang/String")) (by decide) (by decide)))
      have F_dm := F_dm.same W24
      have F0 := F0.other W24 (Or.inr (RoadKit.slot_ne (Or.inr (hw _ (List.mem_of_getElem? (i := 81) rfl))) (Or.inl (hw _ (List.mem_of_getElem? (i := 75) rfl))) (by decide) (t := .int) (t' := (.object "java/lang/String")) (by decide) (by decide)))
      have F1 := F1.other W24 (Or.inr (RoadKit.slot_ne (Or.inr (hw _ (List.mem_of_getElem? (i := 83) rfl))) (Or.inl (hw _ (List.mem_of_getElem? (i := 75) rfl))) (by decide) (t := (.object "java/lang/String")) (t' := (.object "java/lang/String")) (by decide) (by decide)))
      have F2 := F2.other W24 (Or.inr (RoadKit.slot_ne (Or.inr (hw _ (List.mem_of_getElem? (i := 85) rfl))) (Or.inl (hw _ (List.mem_of_getElem? (i := 75) rfl))) (by decide) (t := (.object "java/lang/Long")) (t' := (.object "java/lang/String")) (by decide) (by decide)))
      have E_x := E_x.wr W24
      have Od := Od.wr W24 ge_x
      have Kp := Kp.wr W24 (Or.inl (List.mem_of_getElem? (i := 0) rfl))
      refine own_st st24 ?_
      show own_Go p e below s _ _ _ (T24.setTop (mkF m 33 #[.val (.ref x), .val .null] []))
      exact own_retV X24 hx hlk Bd.returns (hb hby own_d_jdk_78_method_2_33) (by decide) (by decide) (by rw [e24]; exact ⟨rfl, N24, Kp, E_x, F0, F1, F2, F_dm⟩)
    · skip
      obtain ⟨T25, X25, e25, st25⟩ := getS (host := "") X18 hx hZ hown (hw _ (List.mem_of_getElem? (i := 46) rfl)) Via.refl e18 (SU.ext Od.2) (g := (mkF m 10 #[.val (.ref x), .val .null] [(.ref x)])) rfl (hb hby own_d_jdk_78_method_2_10)
      refine own_st st25 ?_
      show own_Go p e below s _ _ _ (T25.setTop (mkF m 13 #[.val (.ref x), .val .null] [.null, (.ref x)]))
      obtain ⟨T26, h26, X26, e26, W26, st26⟩ := putF X25 hx hZ hown (host := "") (Or.inl (hw _ (List.mem_of_getElem? (i := 47) rfl))) Via.refl e25 F_st E_x (Or.inl (hw _ (List.mem_of_getElem? (i := 48) rfl))) (hw _ (List.mem_of_getElem? (i := 6) rfl)) (ty := (.array (.object "java/lang/StackTraceElement"))) (by decide) rfl rfl (g := (mkF m 13 #[.val (.ref x), .val .null] [.null, (.ref x)])) rfl rfl (hb hby own_d_jdk_78_method_2_13)
      have N26 := Fr.snoc X26 N18 ge_x
      have E_x := E_x.wr W26
      have F_ca := F_ca.other W26 (Or.inr (RoadKit.slot_ne (Or.inl (hw _ (List.mem_of_getElem? (i := 45) rfl))) (Or.inl (hw _ (List.mem_of_getElem? (i := 48) rfl))) (by decide) (t := (.object "java/lang/Throwable")) (t' := (.array (.object "java/lang/StackTraceElement"))) (by decide) (by decide)))
      have F_st := F_st.same W26
      have F_su := F_su.other W26 (Or.inr (RoadKit.slot_ne (Or.inl (hw _ (List.mem_of_getElem? (i := 51) rfl))) (Or.inl (hw _ (List.mem_of_getElem? (i := 48) rfl))) (by decide) (t := (.object "java/util/List")) (t' := (.array (.object "java/lang/StackTraceElement"))) (by decide) (by decide)))
      have F_bt := F_bt.other W26 (Or.inr (RoadKit.slot_ne (Or.inl (hw _ (List.mem_of_getElem? (i := 76) rfl))) (Or.inl (hw _ (List.mem_of_getElem? (i := 48) rfl))) (by decide) (t := (.object "java/lang/Object")) (t' := (.array (.object "java/lang/StackTraceElement"))) (by decide) (by decide)))
      have F_dm := F_dm.other W26 (Or.inr (RoadKit.slot_ne (Or.inl (hw _ (List.mem_of_getElem? (i := 75) rfl))) (Or.inl (hw _ (List.mem_of_getElem? (i := 48) rfl))) (by decide) (t := (.object "java/lang/String")) (t' := (.array (.object "java/lang/StackTraceElement"))) (by decide) (by decide)))
      have F0 := F0.other W26 (Or.inr (RoadKit.slot_ne (Or.inr (hw _ (List.mem_of_getElem? (i := 81) rfl))) (Or.inl (hw _ (List.mem_of_getElem? (i := 48) rfl))) (by decide) (t := .int) (t' := (.array (.object "java/lang/StackTraceElement"))) (by decide) (by decide)))
      have F1 := F1.other W26 (Or.inr (RoadKit.slot_ne (Or.inr (hw _ (List.mem_of_getElem? (i := 83) rfl))) (Or.inl (hw _ (List.mem_of_getElem? (i := 48) rfl))) (by decide) (t := (.object "java/lang/String")) (t' := (.array (.object "java/lang/StackTraceElement"))) (by decide) (by decide)))
      have F2 := F2.other W26 (Or.inr (RoadKit.slot_ne (Or.inr (hw _ (List.mem_of_getElem? (i := 85) rfl))) (Or.inl (hw _ (List.mem_of_getElem? (i := 48) rfl))) (by decide) (t := (.object "java/lang/Long")) (t' := (.array (.object "java/lang/StackTraceElement"))) (by decide) (by decide)))
      have Od := Od.wr W26 ge_x
      have Kp := Kp.wr W26 (Or.inl (List.mem_of_getElem? (i := 0) rfl))
      refine own_st st26 ?_
      show own_Go p e below s _ _ _ (T26.setTop (mkF m 16 #[.val (.ref x), .val .null] []))
      refine own_st (fun t9 k9 => XS.aloadN X26.here hx rfl (hb hby own_d_jdk_78_method_2_16) rfl rfl k9) ?_
      show own_Go p e below s _ _ _ (T26.setTop (mkF m 17 #[.val (.ref x), .val .null] [(.ref x)]))
      obtain ⟨T27, X27, e27, st27⟩ := getS (host := "") X26 hx hZ hown (hw _ (List.mem_of_getElem? (i := 49) rfl)) Via.refl e26 (SS.ext Od.2) (g := (mkF m 17 #[.val (.ref x), .val .null] [(.ref x)])) rfl (hb hby own_d_jdk_78_method_2_17)
      refine own_st st27 ?_
      show own_Go p e below s _ _ _ (T27.setTop (mkF m 20 #[.val (.ref x), .val .null] [(.ref v1), (.ref x)]))
      obtain ⟨T28, h28, X28, e28, W28, st28⟩ := putF X27 hx hZ hown (host := "") (Or.inl (hw _ (List.mem_of_getElem? (i := 50) rfl))) Via.refl e27 F_su E_x (Or.inl (hw _ (List.mem_of_getElem? (i := 51) rfl))) (hw _ (List.mem_of_getElem? (i := 6) rfl)) (ty := (.object "java/util/List")) (by decide) rfl rfl (g := (mkF m 20 #[.val (.ref x), .val .null] [(.ref v1), (.ref x)])) rfl rfl (hb hby own_d_jdk_78_method_2_20)
      have N28 := Fr.snoc X28 N26 ge_x
      have E_x := E_x.wr W28
      have F_ca := F_ca.other W28 (Or.inr (RoadKit.slot_ne (Or.inl (hw _ (List.mem_of_getElem? (i := 45) rfl))) (Or.inl (hw _ (List.mem_of_getElem? (i := 51) rfl))) (by decide) (t := (.object "java/lang/Throwable")) (t' := (.object "java/util/List")) (by decide) (by decide)))
      have F_st := F_st.other W28 (Or.inr (RoadKit.slot_ne (Or.inl (hw _ (List.mem_of_getElem? (i := 48) rfl))) (Or.inl (hw _ (List.mem_of_getElem? (i := 51) rfl))) (by decide) (t := (.array (.object "java/lang/StackTraceElement"))) (t' := (.object "java/util/List")) (by decide) (by decide)))
      have F_su := F_su.same W28
      have F_bt := F_bt.other W28 (Or.inr (RoadKit.slot_ne (Or.inl (hw _ (List.mem_of_getElem? (i := 76) rfl))) (Or.inl (hw _ (List.mem_of_getElem? (i := 51) rfl))) (by decide) (t := (.object "java/lang/Object")) (t' := (.object "java/util/List")) (by decide) (by decide)))
      have F_dm := F_dm.other W28 (Or.inr (RoadKit.slot_ne (Or.inl (hw _ (List.mem_of_getElem? (i := 75) rfl))) (Or.inl (hw _ (List.mem_of_getElem? (i := 51) rfl))) (by decide) (t := (.object "java/lang/String")) (t' := (.object "java/util/List")) (by decide) (by decide)))
      have F0 := F0.other W28 (Or.inr (RoadKit.slot_ne (Or.inr (hw _ (List.mem_of_getElem? (i := 81) rfl))) (Or.inl (hw _ (List.mem_of_getElem? (i := 51) rfl))) (by decide) (t := .int) (t' := (.object "java/util/List")) (by decide) (by decide)))
      have F1 := F1.other W28 (Or.inr (RoadKit.slot_ne (Or.inr (hw _ (List.mem_of_getElem? (i := 83) rfl))) (Or.inl (hw _ (List.mem_of_getElem? (i := 51) rfl))) (by decide) (t := (.object "java/lang/String")) (t' := (.object "java/util/List")) (by decide) (by decide)))
      have F2 := F2.other W28 (Or.inr (RoadKit.slot_ne (Or.inr (hw _ (List.mem_of_getElem? (i := 85) rfl))) (Or.inl (hw _ (List.mem_of_getElem? (i := 51) rfl))) (by decide) (t := (.object "java/lang/Long")) (t' := (.object "java/util/List")) (by decide) (by decide)))
      have Od := Od.wr W28 ge_x
      have Kp := Kp.wr W28 (Or.inl (List.mem_of_getElem? (i := 0) rfl))
      refine own_st st28 ?_
      show own_Go p e below s _ _ _ (T28.setTop (mkF m 23 #[.val (.ref x), .val .null] []))
      refine own_st (fun t9 k9 => XS.aloadN X28.here hx rfl (hb hby own_d_jdk_78_method_2_23) rfl rfl k9) ?_
      show own_Go p e below s _ _ _ (T28.setTop (mkF m 24 #[.val (.ref x), .val .null] [(.ref x)]))
      obtain ⟨T29, h29, L29, X29, e29, B29, Kq29, E29, U29, Fq29, st29⟩ := own_fill X28 hx hl hZ (rc := "com/example/jobs_into_runs/jobsintoruns/http/ApiException") hown (fun d hd => hw d ((by decide +kernel : ∀ d ∈ own_atoms "com/example/jobs_into_runs/jobsintoruns/http/ApiException", d ∈ tables_1) d hd)) hT0 hTK hBelow e28 rfl (a := x) (fun y hy => by simp only [List.mem_append, List.mem_cons, List.not_mem_nil, or_false, false_or] at hy; rcases hy with (rfl | rfl) | rfl <;> rfl) E_x (by rw [hh]; exact U_x) (hw _ (List.mem_of_getElem? (i := 6) rfl)) (u := .null) rfl (SU.ext Od.2) F_st F_bt (g := (mkF m 24 #[.val (.ref x), .val .null] [(.ref x)])) rfl (by rw [hml]; rfl) (rest := []) rfl (hb hby own_d_jdk_78_method_2_24) (by decide) (by show 2 * 0 + _ + 42 ≤ _; exact Nat.le_of_ble_eq_true rfl) (by decide) (by decide)
      have N29 := Fr.app N28 (fun y hy => by rw [B29 y hy]; exact ge_x)
      have QF_ca := Fq29 _ _ _ (.object "java/lang/Throwable") _ (Or.inl (hw _ (List.mem_of_getElem? (i := 45) rfl))) (by decide) (by decide) (by decide) (by decide) F_ca
      have QF_su := Fq29 _ _ _ (.object "java/util/List") _ (Or.inl (hw _ (List.mem_of_getElem? (i := 51) rfl))) (by decide) (by decide) (by decide) (by decide) F_su
      have QF_dm := Fq29 _ _ _ (.object "java/lang/String") _ (Or.inl (hw _ (List.mem_of_getElem? (i := 75) rfl))) (by decide) (by decide) (by decide) (by decide) F_dm
      have QF0 := Fq29 _ _ _ .int _ (Or.inr (hw _ (List.mem_of_getElem? (i := 81) rfl))) (by decide) (by decide) (by decide) (by decide) F0
      have QF1 := Fq29 _ _ _ (.object "java/lang/String") _ (Or.inr (hw _ (List.mem_of_getElem? (i := 83) rfl))) (by decide) (by decide) (by decide) (by decide) F1
      have QF2 := Fq29 _ _ _ (.object "java/lang/Long") _ (Or.inr (hw _ (List.mem_of_getElem? (i := 85) rfl))) (by decide) (by decide) (by decide) (by decide) F2
      have Od := Od.keep Kq29 (allS ge_x all0)
      have Kp := Kp.trans Kq29 (allS (Or.inl (List.mem_of_getElem? (i := 0) rfl)) all0)
      have F_ca := QF_ca
      have F_su := QF_su
      have F_dm := QF_dm
      have F0 := QF0
      have F1 := QF1
      have F2 := QF2
      have E_x := E29
      refine own_st st29 ?_
      show own_Go p e below s _ _ _ (T29.setTop (mkF m 27 #[.val (.ref x), .val .null] [(.ref x)]))
      refine own_st (fun t9 k9 => XT.pop X29.here hx rfl (hb hby own_d_jdk_78_method_2_27) rfl rfl k9) ?_
      show own_Go p e below s _ _ _ (T29.setTop (mkF m 28 #[.val (.ref x), .val .null] []))
      refine own_st (fun t9 k9 => XS.aloadN X29.here hx rfl (hb hby own_d_jdk_78_method_2_28) rfl rfl k9) ?_
      show own_Go p e below s _ _ _ (T29.setTop (mkF m 29 #[.val (.ref x), .val .null] [(.ref x)]))
      refine own_st (fun t9 k9 => XS.aloadN X29.here hx rfl (hb hby own_d_jdk_78_method_2_29) rfl rfl k9) ?_
      show own_Go p e below s _ _ _ (T29.setTop (mkF m 30 #[.val (.ref x), .val .null] [.null, (.ref x)]))
      obtain ⟨T30, h30, X30, e30, W30, st30⟩ := putF X29 hx hZ hown (host := "") (Or.inl (hw _ (List.mem_of_getElem? (i := 79) rfl))) Via.refl e29 F_dm E_x (Or.inl (hw _ (List.mem_of_getElem? (i := 75) rfl))) (hw _ (List.mem_of_getElem? (i := 6) rfl)) (ty := (.object "java/lang/String")) (by decide) rfl rfl (g := (mkF m 30 #[.val (.ref x), .val .null] [.null, (.ref x)])) rfl rfl (hb hby own_d_jdk_78_method_2_30)
      have N30 := Fr.snoc X30 N29 ge_x
      have F_ca := F_ca.other W30 (Or.inr (RoadKit.slot_ne (Or.inl (hw _ (List.mem_of_getElem? (i := 45) rfl))) (Or.inl (hw _ (List.mem_of_getElem? (i := 75) rfl))) (by decide) (t := (.object "java/lang/Throwable")) (t' := (.object "java/lang/String")) (by decide) (by decide)))
      have F_su := F_su.other W30 (Or.inr (RoadKit.slot_ne (Or.inl (hw _ (List.mem_of_getElem? (i := 51) rfl))) (Or.inl (hw _ (List.mem_of_getElem? (i := 75) rfl))) (by decide) (t := (.object "java/util/List")) (t' := (.object "java/lang/String")) (by decide) (by decide)))
      have F_dm := F_dm.same W30
      have F0 := F0.other W30 (Or.inr (RoadKit.slot_ne (Or.inr (hw _ (List.mem_of_getElem? (i := 81) rfl))) (Or.inl (hw _ (List.mem_of_getElem? (i := 75) rfl))) (by decide) (t := .int) (t' := (.object "java/lang/String")) (by decide) (by decide)))
      have F1 := F1.other W30 (Or.inr (RoadKit.slot_ne (Or.inr (hw _ (List.mem_of_getElem? (i := 83) rfl))) (Or.inl (hw _ (List.mem_of_getElem? (i := 75) rfl))) (by decide) (t := (.object "java/lang/String")) (t' := (.object "java/lang/String")) (by decide) (by decide)))
      have F2 := F2.other W30 (Or.inr (RoadKit.slot_ne (Or.inr (hw _ (List.mem_of_getElem? (i := 85) rfl))) (Or.inl (hw _ (List.mem_of_getElem? (i := 75) rfl))) (by decide) (t := (.object "java/lang/Long")) (t' := (.object "java/lang/String")) (by decide) (by decide)))
      have E_x := E_x.wr W30
      have Od := Od.wr W30 ge_x
      have Kp := Kp.wr W30 (Or.inl (List.mem_of_getElem? (i := 0) rfl))
      refine own_st st30 ?_
      show own_Go p e below s _ _ _ (T30.setTop (mkF m 33 #[.val (.ref x), .val .null] []))
      exact own_retV X30 hx hlk Bd.returns (hb hby own_d_jdk_78_method_2_33) (by decide) (by decide) (by rw [e30]; exact ⟨rfl, N30, Kp, E_x, F0, F1, F2, F_dm⟩)
  · skip
    rcases ref_cases hv with rfl | ⟨v1, rfl⟩
    · skip
      obtain ⟨T31, X31, e31, st31⟩ := getS (host := "") X18 hx hZ hown (hw _ (List.mem_of_getElem? (i := 46) rfl)) Via.refl e18 (SU.ext Od.2) (g := (mkF m 10 #[.val (.ref x), .val .null] [(.ref x)])) rfl (hb hby own_d_jdk_78_method_2_10)
      refine own_st st31 ?_
      show own_Go p e below s _ _ _ (T31.setTop (mkF m 13 #[.val (.ref x), .val .null] [(.ref u1), (.ref x)]))
      obtain ⟨T32, h32, X32, e32, W32, st32⟩ := putF X31 hx hZ hown (host := "") (Or.inl (hw _ (List.mem_of_getElem? (i := 47) rfl))) Via.refl e31 F_st E_x (Or.inl (hw _ (List.mem_of_getElem? (i := 48) rfl))) (hw _ (List.mem_of_getElem? (i := 6) rfl)) (ty := (.array (.object "java/lang/StackTraceElement"))) (by decide) rfl rfl (g := (mkF m 13 #[.val (.ref x), .val .null] [(.ref u1), (.ref x)])) rfl rfl (hb hby own_d_jdk_78_method_2_13)
      have N32 := Fr.snoc X32 N18 ge_x
      have E_x := E_x.wr W32
      have F_ca := F_ca.other W32 (Or.inr (RoadKit.slot_ne (Or.inl (hw _ (List.mem_of_getElem? (i := 45) rfl))) (Or.inl (hw _ (List.mem_of_getElem? (i := 48) rfl))) (by decide) (t := (.object "java/lang/Throwable")) (t' := (.array (.object "java/lang/StackTraceElement"))) (by decide) (by decide)))
      have F_st := F_st.same W32
      have F_su := F_su.other W32 (Or.inr (RoadKit.slot_ne (Or.inl (hw _ (List.mem_of_getElem? (i := 51) rfl))) (Or.inl (hw _ (List.mem_of_getElem? (i := 48) rfl))) (by decide) (t := (.object "java/util/List")) (t' := (.array (.object "java/lang/StackTraceElement"))) (by decide) (by decide)))
      have F_bt := F_bt.other W32 (Or.inr (RoadKit.slot_ne (Or.inl (hw _ (List.mem_of_getElem? (i := 76) rfl))) (Or.inl (hw _ (List.mem_of_getElem? (i := 48) rfl))) (by decide) (t := (.object "java/lang/Object")) (t' := (.array (.object "java/lang/StackTraceElement"))) (by decide) (by decide)))
      have F_dm := F_dm.other W32 (Or.inr (RoadKit.slot_ne (Or.inl (hw _ (List.mem_of_getElem? (i := 75) rfl))) (Or.inl (hw _ (List.mem_of_getElem? (i := 48) rfl))) (by decide) (t := (.object "java/lang/String")) (t' := (.array (.object "java/lang/StackTraceElement"))) (by decide) (by decide)))
      have F0 := F0.other W32 (Or.inr (RoadKit.slot_ne (Or.inr (hw _ (List.mem_of_getElem? (i := 81) rfl))) (Or.inl (hw _ (List.mem_of_getElem? (i := 48) rfl))) (by decide) (t := .int) (t' := (.array (.object "java/lang/StackTraceElement"))) (by decide) (by decide)))
      have F1 := F1.other W32 (Or.inr (RoadKit.slot_ne (Or.inr (hw _ (List.mem_of_getElem? (i := 83) rfl))) (Or.inl (hw _ (List.mem_of_getElem? (i := 48) rfl))) (by decide) (t := (.object "java/lang/String")) (t' := (.array (.object "java/lang/StackTraceElement"))) (by decide) (by decide)))
      have F2 := F2.other W32 (Or.inr (RoadKit.slot_ne (Or.inr (hw _ (List.mem_of_getElem? (i := 85) rfl))) (Or.inl (hw _ (List.mem_of_getElem? (i := 48) rfl))) (by decide) (t := (.object "java/lang/Long")) (t' := (.array (.object "java/lang/StackTraceElement"))) (by decide) (by decide)))
      have Od := Od.wr W32 ge_x
      have Kp := Kp.wr W32 (Or.inl (List.mem_of_getElem? (i := 0) rfl))
      refine own_st st32 ?_
      show own_Go p e below s _ _ _ (T32.setTop (mkF m 16 #[.val (.ref x), .val .null] []))
      refine own_st (fun t9 k9 => XS.aloadN X32.here hx rfl (hb hby own_d_jdk_78_method_2_16) rfl rfl k9) ?_
      show own_Go p e below s _ _ _ (T32.setTop (mkF m 17 #[.val (.ref x), .val .null] [(.ref x)]))
      obtain ⟨T33, X33, e33, st33⟩ := getS (host := "") X32 hx hZ hown (hw _ (List.mem_of_getElem? (i := 49) rfl)) Via.refl e32 (SS.ext Od.2) (g := (mkF m 17 #[.val (.ref x), .val .null] [(.ref x)])) rfl (hb hby own_d_jdk_78_method_2_17)
      refine own_st st33 ?_
      show own_Go p e below s _ _ _ (T33.setTop (mkF m 20 #[.val (.ref x), .val .null] [.null, (.ref x)]))
      obtain ⟨T34, h34, X34, e34, W34, st34⟩ := putF X33 hx hZ hown (host := "") (Or.inl (hw _ (List.mem_of_getElem? (i := 50) rfl))) Via.refl e33 F_su E_x (Or.inl (hw _ (List.mem_of_getElem? (i := 51) rfl))) (hw _ (List.mem_of_getElem? (i := 6) rfl)) (ty := (.object "java/util/List")) (by decide) rfl rfl (g := (mkF m 20 #[.val (.ref x), .val .null] [.null, (.ref x)])) rfl rfl (hb hby own_d_jdk_78_method_2_20)
      have N34 := Fr.snoc X34 N32 ge_x
      have E_x := E_x.wr W34
      have F_ca := F_ca.other W34 (Or.inr (RoadKit.slot_ne (Or.inl (hw _ (List.mem_of_getElem? (i := 45) rfl))) (Or.inl (hw _ (List.mem_of_getElem? (i := 51) rfl))) (by decide) (t := (.object "java/lang/Throwable")) (t' := (.object "java/util/List")) (by decide) (by decide)))
      have F_st := F_st.other W34 (Or.inr (RoadKit.slot_ne (Or.inl (hw _ (List.mem_of_getElem? (i := 48) rfl))) (Or.inl (hw _ (List.mem_of_getElem? (i := 51) rfl))) (by decide) (t := (.array (.object "java/lang/StackTraceElement"))) (t' := (.object "java/util/List")) (by decide) (by decide)))
      have F_su := F_su.same W34
      have F_bt := F_bt.other W34 (Or.inr (RoadKit.slot_ne (Or.inl (hw _ (List.mem_of_getElem? (i := 76) rfl))) (Or.inl (hw _ (List.mem_of_getElem? (i := 51) rfl))) (by decide) (t := (.object "java/lang/Object")) (t' := (.object "java/util/List")) (by decide) (by decide)))
      have F_dm := F_dm.other W34 (Or.inr (RoadKit.slot_ne (Or.inl (hw _ (List.mem_of_getElem? (i := 75) rfl))) (Or.inl (hw _ (List.mem_of_getElem? (i := 51) rfl))) (by decide) (t := (.object "java/lang/String")) (t' := (.object "java/util/List")) (by decide) (by decide)))
      have F0 := F0.other W34 (Or.inr (RoadKit.slot_ne (Or.inr (hw _ (List.mem_of_getElem? (i := 81) rfl))) (Or.inl (hw _ (List.mem_of_getElem? (i := 51) rfl))) (by decide) (t := .int) (t' := (.object "java/util/List")) (by decide) (by decide)))
      have F1 := F1.other W34 (Or.inr (RoadKit.slot_ne (Or.inr (hw _ (List.mem_of_getElem? (i := 83) rfl))) (Or.inl (hw _ (List.mem_of_getElem? (i := 51) rfl))) (by decide) (t := (.object "java/lang/String")) (t' := (.object "java/util/List")) (by decide) (by decide)))
      have F2 := F2.other W34 (Or.inr (RoadKit.slot_ne (Or.inr (hw _ (List.mem_of_getElem? (i := 85) rfl))) (Or.inl (hw _ (List.mem_of_getElem? (i := 51) rfl))) (by decide) (t := (.object "java/lang/Long")) (t' := (.object "java/util/List")) (by decide) (by decide)))
      have Od := Od.wr W34 ge_x
      have Kp := Kp.wr W34 (Or.inl (List.mem_of_getElem? (i := 0) rfl))
      refine own_st st34 ?_
      show own_Go p e below s _ _ _ (T34.setTop (mkF m 23 #[.val (.ref x), .val .null] []))
      refine own_st (fun t9 k9 => XS.aloadN X34.here hx rfl (hb hby own_d_jdk_78_method_2_23) rfl rfl k9) ?_
      show own_Go p e below s _ _ _ (T34.setTop (mkF m 24 #[.val (.ref x), .val .null] [(.ref x)]))
      obtain ⟨T35, h35, L35, X35, e35, B35, Kq35, E35, U35, Fq35, st35⟩ := own_fill X34 hx hl hZ (rc := "com/example/jobs_into_runs/jobsintoruns/http/ApiException") hown (fun d hd => hw d ((by decide +kernel : ∀ d ∈ own_atoms "com/example/jobs_into_runs/jobsintoruns/http/ApiException", d ∈ tables_1) d hd)) hT0 hTK hBelow e34 rfl (a := x) (fun y hy => by simp only [List.mem_append, List.mem_cons, List.not_mem_nil, or_false, false_or] at hy; rcases hy with (rfl | rfl) | rfl <;> rfl) E_x (by rw [hh]; exact U_x) (hw _ (List.mem_of_getElem? (i := 6) rfl)) (u := (.ref u1)) rfl (SU.ext Od.2) F_st F_bt (g := (mkF m 24 #[.val (.ref x), .val .null] [(.ref x)])) rfl (by rw [hml]; rfl) (rest := []) rfl (hb hby own_d_jdk_78_method_2_24) (by decide) (by show 2 * 0 + _ + 42 ≤ _; exact Nat.le_of_ble_eq_true rfl) (by decide) (by decide)
      have N35 := Fr.app N34 (fun y hy => by rw [B35 y hy]; exact ge_x)
      have QF_ca := Fq35 _ _ _ (.object "java/lang/Throwable") _ (Or.inl (hw _ (List.mem_of_getElem? (i := 45) rfl))) (by decide) (by decide) (by decide) (by decide) F_ca
      have QF_su := Fq35 _ _ _ (.object "java/util/List") _ (Or.inl (hw _ (List.mem_of_getElem? (i := 51) rfl))) (by decide) (by decide) (by decide) (by decide) F_su
      have QF_dm := Fq35 _ _ _ (.object "java/lang/String") _ (Or.inl (hw _ (List.mem_of_getElem? (i := 75) rfl))) (by decide) (by decide) (by decide) (by decide) F_dm
      have QF0 := Fq35 _ _ _ .int _ (Or.inr (hw _ (List.mem_of_getElem? (i := 81) rfl))) (by decide) (by decide) (by decide) (by decide) F0
      have QF1 := Fq35 _ _ _ (.object "java/lang/String") _ (Or.inr (hw _ (List.mem_of_getElem? (i := 83) rfl))) (by decide) (by decide) (by decide) (by decide) F1
      have QF2 := Fq35 _ _ _ (.object "java/lang/Long") _ (Or.inr (hw _ (List.mem_of_getElem? (i := 85) rfl))) (by decide) (by decide) (by decide) (by decide) F2
      have Od := Od.keep Kq35 (allS ge_x all0)
      have Kp := Kp.trans Kq35 (allS (Or.inl (List.mem_of_getElem? (i := 0) rfl)) all0)
      have F_ca := QF_ca
      have F_su := QF_su
      have F_dm := QF_dm
      have F0 := QF0
      have F1 := QF1
      have F2 := QF2
      have E_x := E35
      refine own_st st35 ?_
      show own_Go p e below s _ _ _ (T35.setTop (mkF m 27 #[.val (.ref x), .val .null] [(.ref x)]))
      refine own_st (fun t9 k9 => XT.pop X35.here hx rfl (hb hby own_d_jdk_78_method_2_27) rfl rfl k9) ?_
      show own_Go p e below s _ _ _ (T35.setTop (mkF m 28 #[.val (.ref x), .val .null] []))
      refine own_st (fun t9 k9 => XS.aloadN X35.here hx rfl (hb hby own_d_jdk_78_method_2_28) rfl rfl k9) ?_
      show own_Go p e below s _ _ _ (T35.setTop (mkF m 29 #[.val (.ref x), .val .null] [(.ref x)]))
      refine own_st (fun t9 k9 => XS.aloadN X35.here hx rfl (hb hby own_d_jdk_78_method_2_29) rfl rfl k9) ?_
      show own_Go p e below s _ _ _ (T35.setTop (mkF m 30 #[.val (.ref x), .val .null] [.null, (.ref x)]))
      obtain ⟨T36, h36, X36, e36, W36, st36⟩ := putF X35 hx hZ hown (host := "") (Or.inl (hw _ (List.mem_of_getElem? (i := 79) rfl))) Via.refl e35 F_dm E_x (Or.inl (hw _ (List.mem_of_getElem? (i := 75) rfl))) (hw _ (List.mem_of_getElem? (i := 6) rfl)) (ty := (.object "java/lang/String")) (by decide) rfl rfl (g := (mkF m 30 #[.val (.ref x), .val .null] [.null, (.ref x)])) rfl rfl (hb hby own_d_jdk_78_method_2_30)
      have N36 := Fr.snoc X36 N35 ge_x
      have F_ca := F_ca.other W36 (Or.inr (RoadKit.slot_ne (Or.inl (hw _ (List.mem_of_getElem? (i := 45) rfl))) (Or.inl (hw _ (List.mem_of_getElem? (i := 75) rfl))) (by decide) (t := (.object "java/lang/Throwable")) (t' := (.object "java/lang/String")) (by decide) (by decide)))
      have F_su := F_su.other W36 (Or.inr (RoadKit.slot_ne (Or.inl (hw _ (List.mem_of_getElem? (i := 51) rfl))) (Or.inl (hw _ (List.mem_of_getElem? (i := 75) rfl))) (by decide) (t := (.object "java/util/List")) (t' := (.object "java/lang/String")) (by decide) (by decide)))
      have F_dm := F_dm.same W36
      have F0 := F0.other W36 (Or.inr (RoadKit.slot_ne (Or.inr (hw _ (List.mem_of_getElem? (i := 81) rfl))) (Or.inl (hw _ (List.mem_of_getElem? (i := 75) rfl))) (by decide) (t := .int) (t' := (.object "java/lang/String")) (by decide) (by decide)))
      have F1 := F1.other W36 (Or.inr (RoadKit.slot_ne (Or.inr (hw _ (List.mem_of_getElem? (i := 83) rfl))) (Or.inl (hw _ (List.mem_of_getElem? (i := 75) rfl))) (by decide) (t := (.object "java/lang/String")) (t' := (.object "java/lang/String")) (by decide) (by decide)))
      have F2 := F2.other W36 (Or.inr (RoadKit.slot_ne (Or.inr (hw _ (List.mem_of_getElem? (i := 85) rfl))) (Or.inl (hw _ (List.mem_of_getElem? (i := 75) rfl))) (by decide) (t := (.object "java/lang/Long")) (t' := (.object "java/lang/String")) (by decide) (by decide)))
      have E_x := E_x.wr W36
      have Od := Od.wr W36 ge_x
      have Kp := Kp.wr W36 (Or.inl (List.mem_of_getElem? (i := 0) rfl))
      refine own_st st36 ?_
      show own_Go p e below s _ _ _ (T36.setTop (mkF m 33 #[.val (.ref x), .val .null] []))
      exact own_retV X36 hx hlk Bd.returns (hb hby own_d_jdk_78_method_2_33) (by decide) (by decide) (by rw [e36]; exact ⟨rfl, N36, Kp, E_x, F0, F1, F2, F_dm⟩)
    · skip
      obtain ⟨T37, X37, e37, st37⟩ := getS (host := "") X18 hx hZ hown (hw _ (List.mem_of_getElem? (i := 46) rfl)) Via.refl e18 (SU.ext Od.2) (g := (mkF m 10 #[.val (.ref x), .val .null] [(.ref x)])) rfl (hb hby own_d_jdk_78_method_2_10)
      refine own_st st37 ?_
      show own_Go p e below s _ _ _ (T37.setTop (mkF m 13 #[.val (.ref x), .val .null] [(.ref u1), (.ref x)]))
      obtain ⟨T38, h38, X38, e38, W38, st38⟩ := putF X37 hx hZ hown (host := "") (Or.inl (hw _ (List.mem_of_getElem? (i := 47) rfl))) Via.refl e37 F_st E_x (Or.inl (hw _ (List.mem_of_getElem? (i := 48) rfl))) (hw _ (List.mem_of_getElem? (i := 6) rfl)) (ty := (.array (.object "java/lang/StackTraceElement"))) (by decide) rfl rfl (g := (mkF m 13 #[.val (.ref x), .val .null] [(.ref u1), (.ref x)])) rfl rfl (hb hby own_d_jdk_78_method_2_13)
      have N38 := Fr.snoc X38 N18 ge_x
      have E_x := E_x.wr W38
      have F_ca := F_ca.other W38 (Or.inr (RoadKit.slot_ne (Or.inl (hw _ (List.mem_of_getElem? (i := 45) rfl))) (Or.inl (hw _ (List.mem_of_getElem? (i := 48) rfl))) (by decide) (t := (.object "java/lang/Throwable")) (t' := (.array (.object "java/lang/StackTraceElement"))) (by decide) (by decide)))
      have F_st := F_st.same W38
      have F_su := F_su.other W38 (Or.inr (RoadKit.slot_ne (Or.inl (hw _ (List.mem_of_getElem? (i := 51) rfl))) (Or.inl (hw _ (List.mem_of_getElem? (i := 48) rfl))) (by decide) (t := (.object "java/util/List")) (t' := (.array (.object "java/lang/StackTraceElement"))) (by decide) (by decide)))
      have F_bt := F_bt.other W38 (Or.inr (RoadKit.slot_ne (Or.inl (hw _ (List.mem_of_getElem? (i := 76) rfl))) (Or.inl (hw _ (List.mem_of_getElem? (i := 48) rfl))) (by decide) (t := (.object "java/lang/Object")) (t' := (.array (.object "java/lang/StackTraceElement"))) (by decide) (by decide)))
      have F_dm := F_dm.other W38 (Or.inr (RoadKit.slot_ne (Or.inl (hw _ (List.mem_of_getElem? (i := 75) rfl))) (Or.inl (hw _ (List.mem_of_getElem? (i := 48) rfl))) (by decide) (t := (.object "java/lang/String")) (t' := (.array (.object "java/lang/StackTraceElement"))) (by decide) (by decide)))
      have F0 := F0.other W38 (Or.inr (RoadKit.slot_ne (Or.inr (hw _ (List.mem_of_getElem? (i := 81) rfl))) (Or.inl (hw _ (List.mem_of_getElem? (i := 48) rfl))) (by decide) (t := .int) (t' := (.array (.object "java/lang/StackTraceElement"))) (by decide) (by decide)))
      have F1 := F1.other W38 (Or.inr (RoadKit.slot_ne (Or.inr (hw _ (List.mem_of_getElem? (i := 83) rfl))) (Or.inl (hw _ (List.mem_of_getElem? (i := 48) rfl))) (by decide) (t := (.object "java/lang/String")) (t' := (.array (.object "java/lang/StackTraceElement"))) (by decide) (by decide)))
      have F2 := F2.other W38 (Or.inr (RoadKit.slot_ne (Or.inr (hw _ (List.mem_of_getElem? (i := 85) rfl))) (Or.inl (hw _ (List.mem_of_getElem? (i := 48) rfl))) (by decide) (t := (.object "java/lang/Long")) (t' := (.array (.object "java/lang/StackTraceElement"))) (by decide) (by decide)))
      have Od := Od.wr W38 ge_x
      have Kp := Kp.wr W38 (Or.inl (List.mem_of_getElem? (i := 0) rfl))
      refine own_st st38 ?_
      show own_Go p e below s _ _ _ (T38.setTop (mkF m 16 #[.val (.ref x), .val .null] []))
      refine own_st (fun t9 k9 => XS.aloadN X38.here hx rfl (hb hby own_d_jdk_78_method_2_16) rfl rfl k9) ?_
      show own_Go p e below s _ _ _ (T38.setTop (mkF m 17 #[.val (.ref x), .val .null] [(.ref x)]))
      obtain ⟨T39, X39, e39, st39⟩ := getS (host := "") X38 hx hZ hown (hw _ (List.mem_of_getElem? (i := 49) rfl)) Via.refl e38 (SS.ext Od.2) (g := (mkF m 17 #[.val (.ref x), .val .null] [(.ref x)])) rfl (hb hby own_d_jdk_78_method_2_17)
      refine own_st st39 ?_
      show own_Go p e below s _ _ _ (T39.setTop (mkF m 20 #[.val (.ref x), .val .null] [(.ref v1), (.ref x)]))
      obtain ⟨T40, h40, X40, e40, W40, st40⟩ := putF X39 hx hZ hown (host := "") (Or.inl (hw _ (List.mem_of_getElem? (i := 50) rfl))) Via.refl e39 F_su E_x (Or.inl (hw _ (List.mem_of_getElem? (i := 51) rfl))) (hw _ (List.mem_of_getElem? (i := 6) rfl)) (ty := (.object "java/util/List")) (by decide) rfl rfl (g := (mkF m 20 #[.val (.ref x), .val .null] [(.ref v1), (.ref x)])) rfl rfl (hb hby own_d_jdk_78_method_2_20)
      have N40 := Fr.snoc X40 N38 ge_x
      have E_x := E_x.wr W40
      have F_ca := F_ca.other W40 (Or.inr (RoadKit.slot_ne (Or.inl (hw _ (List.mem_of_getElem? (i := 45) rfl))) (Or.inl (hw _ (List.mem_of_getElem? (i := 51) rfl))) (by decide) (t := (.object "java/lang/Throwable")) (t' := (.object "java/util/List")) (by decide) (by decide)))
      have F_st := F_st.other W40 (Or.inr (RoadKit.slot_ne (Or.inl (hw _ (List.mem_of_getElem? (i := 48) rfl))) (Or.inl (hw _ (List.mem_of_getElem? (i := 51) rfl))) (by decide) (t := (.array (.object "java/lang/StackTraceElement"))) (t' := (.object "java/util/List")) (by decide) (by decide)))
      have F_su := F_su.same W40
      have F_bt := F_bt.other W40 (Or.inr (RoadKit.slot_ne (Or.inl (hw _ (List.mem_of_getElem? (i := 76) rfl))) (Or.inl (hw _ (List.mem_of_getElem? (i := 51) rfl))) (by decide) (t := (.object "java/lang/Object")) (t' := (.object "java/util/List")) (by decide) (by decide)))
      have F_dm := F_dm.other W40 (Or.inr (RoadKit.slot_ne (Or.inl (hw _ (List.mem_of_getElem? (i := 75) rfl))) (Or.inl (hw _ (List.mem_of_getElem? (i := 51) rfl))) (by decide) (t := (.object "java/lang/String")) (t' := (.object "java/util/List")) (by decide) (by decide)))
      have F0 := F0.other W40 (Or.inr (RoadKit.slot_ne (Or.inr (hw _ (List.mem_of_getElem? (i := 81) rfl))) (Or.inl (hw _ (List.mem_of_getElem? (i := 51) rfl))) (by decide) (t := .int) (t' := (.object "java/util/List")) (by decide) (by decide)))
      have F1 := F1.other W40 (Or.inr (RoadKit.slot_ne (Or.inr (hw _ (List.mem_of_getElem? (i := 83) rfl))) (Or.inl (hw _ (List.mem_of_getElem? (i := 51) rfl))) (by decide) (t := (.object "java/lang/String")) (t' := (.object "java/util/List")) (by decide) (by decide)))
      have F2 := F2.other W40 (Or.inr (RoadKit.slot_ne (Or.inr (hw _ (List.mem_of_getElem? (i := 85) rfl))) (Or.inl (hw _ (List.mem_of_getElem? (i := 51) rfl))) (by decide) (t := (.object "java/lang/Long")) (t' := (.object "java/util/List")) (by decide) (by decide)))
      have Od := Od.wr W40 ge_x
      have Kp := Kp.wr W40 (Or.inl (List.mem_of_getElem? (i := 0) rfl))
      refine own_st st40 ?_
      show own_Go p e below s _ _ _ (T40.setTop (mkF m 23 #[.val (.ref x), .val .null] []))
      refine own_st (fun t9 k9 => XS.aloadN X40.here hx rfl (hb hby own_d_jdk_78_method_2_23) rfl rfl k9) ?_
      show own_Go p e below s _ _ _ (T40.setTop (mkF m 24 #[.val (.ref x), .val .null] [(.ref x)]))
      obtain ⟨T41, h41, L41, X41, e41, B41, Kq41, E41, U41, Fq41, st41⟩ := own_fill X40 hx hl hZ (rc := "com/example/jobs_into_runs/jobsintoruns/http/ApiException") hown (fun d hd => hw d ((by decide +kernel : ∀ d ∈ own_atoms "com/example/jobs_into_runs/jobsintoruns/http/ApiException", d ∈ tables_1) d hd)) hT0 hTK hBelow e40 rfl (a := x) (fun y hy => by simp only [List.mem_append, List.mem_cons, List.not_mem_nil, or_false, false_or] at hy; rcases hy with (rfl | rfl) | rfl <;> rfl) E_x (by rw [hh]; exact U_x) (hw _ (List.mem_of_getElem? (i := 6) rfl)) (u := (.ref u1)) rfl (SU.ext Od.2) F_st F_bt (g := (mkF m 24 #[.val (.ref x), .val .null] [(.ref x)])) rfl (by rw [hml]; rfl) (rest := []) rfl (hb hby own_d_jdk_78_method_2_24) (by decide) (by show 2 * 0 + _ + 42 ≤ _; exact Nat.le_of_ble_eq_true rfl) (by decide) (by decide)
      have N41 := Fr.app N40 (fun y hy => by rw [B41 y hy]; exact ge_x)
      have QF_ca := Fq41 _ _ _ (.object "java/lang/Throwable") _ (Or.inl (hw _ (List.mem_of_getElem? (i := 45) rfl))) (by decide) (by decide) (by decide) (by decide) F_ca
      have QF_su := Fq41 _ _ _ (.object "java/util/List") _ (Or.inl (hw _ (List.mem_of_getElem? (i := 51) rfl))) (by decide) (by decide) (by decide) (by decide) F_su
      have QF_dm := Fq41 _ _ _ (.object "java/lang/String") _ (Or.inl (hw _ (List.mem_of_getElem? (i := 75) rfl))) (by decide) (by decide) (by decide) (by decide) F_dm
      have QF0 := Fq41 _ _ _ .int _ (Or.inr (hw _ (List.mem_of_getElem? (i := 81) rfl))) (by decide) (by decide) (by decide) (by decide) F0
      have QF1 := Fq41 _ _ _ (.object "java/lang/String") _ (Or.inr (hw _ (List.mem_of_getElem? (i := 83) rfl))) (by decide) (by decide) (by decide) (by decide) F1
      have QF2 := Fq41 _ _ _ (.object "java/lang/Long") _ (Or.inr (hw _ (List.mem_of_getElem? (i := 85) rfl))) (by decide) (by decide) (by decide) (by decide) F2
      have Od := Od.keep Kq41 (allS ge_x all0)
      have Kp := Kp.trans Kq41 (allS (Or.inl (List.mem_of_getElem? (i := 0) rfl)) all0)
      have F_ca := QF_ca
      have F_su := QF_su
      have F_dm := QF_dm
      have F0 := QF0
      have F1 := QF1
      have F2 := QF2
      have E_x := E41
      refine own_st st41 ?_
      show own_Go p e below s _ _ _ (T41.setTop (mkF m 27 #[.val (.ref x), .val .null] [(.ref x)]))
      refine own_st (fun t9 k9 => XT.pop X41.here hx rfl (hb hby own_d_jdk_78_method_2_27) rfl rfl k9) ?_
      show own_Go p e below s _ _ _ (T41.setTop (mkF m 28 #[.val (.ref x), .val .null] []))
      refine own_st (fun t9 k9 => XS.aloadN X41.here hx rfl (hb hby own_d_jdk_78_method_2_28) rfl rfl k9) ?_
      show own_Go p e below s _ _ _ (T41.setTop (mkF m 29 #[.val (.ref x), .val .null] [(.ref x)]))
      refine own_st (fun t9 k9 => XS.aloadN X41.here hx rfl (hb hby own_d_jdk_78_method_2_29) rfl rfl k9) ?_
      show own_Go p e below s _ _ _ (T41.setTop (mkF m 30 #[.val (.ref x), .val .null] [.null, (.ref x)]))
      obtain ⟨T42, h42, X42, e42, W42, st42⟩ := putF X41 hx hZ hown (host := "") (Or.inl (hw _ (List.mem_of_getElem? (i := 79) rfl))) Via.refl e41 F_dm E_x (Or.inl (hw _ (List.mem_of_getElem? (i := 75) rfl))) (hw _ (List.mem_of_getElem? (i := 6) rfl)) (ty := (.object "java/lang/String")) (by decide) rfl rfl (g := (mkF m 30 #[.val (.ref x), .val .null] [.null, (.ref x)])) rfl rfl (hb hby own_d_jdk_78_method_2_30)
      have N42 := Fr.snoc X42 N41 ge_x
      have F_ca := F_ca.other W42 (Or.inr (RoadKit.slot_ne (Or.inl (hw _ (List.mem_of_getElem? (i := 45) rfl))) (Or.inl (hw _ (List.mem_of_getElem? (i := 75) rfl))) (by decide) (t := (.object "java/lang/Throwable")) (t' := (.object "java/lang/String")) (by decide) (by decide)))
      have F_su := F_su.other W42 (Or.inr (RoadKit.slot_ne (Or.inl (hw _ (List.mem_of_getElem? (i := 51) rfl))) (Or.inl (hw _ (List.mem_of_getElem? (i := 75) rfl))) (by decide) (t := (.object "java/util/List")) (t' := (.object "java/lang/String")) (by decide) (by decide)))
      have F_dm := F_dm.same W42
      have F0 := F0.other W42 (Or.inr (RoadKit.slot_ne (Or.inr (hw _ (List.mem_of_getElem? (i := 81) rfl))) (Or.inl (hw _ (List.mem_of_getElem? (i := 75) rfl))) (by decide) (t := .int) (t' := (.object "java/lang/String")) (by decide) (by decide)))
      have F1 := F1.other W42 (Or.inr (RoadKit.slot_ne (Or.inr (hw _ (List.mem_of_getElem? (i := 83) rfl))) (Or.inl (hw _ (List.mem_of_getElem? (i := 75) rfl))) (by decide) (t := (.object "java/lang/String")) (t' := (.object "java/lang/String")) (by decide) (by decide)))
      have F2 := F2.other W42 (Or.inr (RoadKit.slot_ne (Or.inr (hw _ (List.mem_of_getElem? (i := 85) rfl))) (Or.inl (hw _ (List.mem_of_getElem? (i := 75) rfl))) (by decide) (t := (.object "java/lang/Long")) (t' := (.object "java/lang/String")) (by decide) (by decide)))
      have E_x := E_x.wr W42
      have Od := Od.wr W42 ge_x
      have Kp := Kp.wr W42 (Or.inl (List.mem_of_getElem? (i := 0) rfl))
      refine own_st st42 ?_
      show own_Go p e below s _ _ _ (T42.setTop (mkF m 33 #[.val (.ref x), .val .null] []))
      exact own_retV X42 hx hlk Bd.returns (hb hby own_d_jdk_78_method_2_33) (by decide) (by decide) (by rw [e42]; exact ⟨rfl, N42, Kp, E_x, F0, F1, F2, F_dm⟩)
theorem own_pn4 : plainName "java/lang/Exception" = true := by first | (simp [plainName, overriddenIn]; done) | decide +kernel
theorem own_d_jdk_59_method_2_0 : decode jdk_59_method_2_code 0 = .ok (.aload_n 0, 1) := by decide +kernel
theorem own_d_jdk_59_method_2_1 : decode jdk_59_method_2_code 1 = .ok (.aload_n 1, 1) := by decide +kernel
theorem own_pd3 : parseMethodDescriptor "(Ljava/lang/String;)V" = some ⟨[(.object "java/lang/String")], none⟩ := by decide +kernel
theorem own_d_jdk_59_method_2_2 : decode jdk_59_method_2_code 2 = .ok (.invokespecial 7, 3) := by decide +kernel
theorem own_d_jdk_59_method_2_5 : decode jdk_59_method_2_code 5 = .ok (.return_, 1) := by decide +kernel
theorem own_ef_exN (m : MethodId) (x0 : Addr) : entryFrame m #[(.ref x0), .null] 2 = mkF m 0 #[.val (.ref x0), .val .null] [] := by first | (simp [entryFrame, mkF, argsToLocals, Value.category]; done) | rfl
def own_Q_exN (Z : State) (x : Addr) (h0 : Heap) (n0 : Nat) (v : Option Value) (h : Heap) (L : List Loc) : Prop := v = none ∧ Fr n0 L ∧ Keep h0 h [x] ∧ Exa Z h x "com/example/jobs_into_runs/jobsintoruns/http/ApiException" ∧ Fld Z h x "com/example/jobs_into_runs/jobsintoruns/http/ApiException" "status" "I" (.int (0 : Int32)) ∧ Fld Z h x "com/example/jobs_into_runs/jobsintoruns/http/ApiException" "allowed" "Ljava/lang/String;" .null ∧ Fld Z h x "com/example/jobs_into_runs/jobsintoruns/http/ApiException" "run" "Ljava/lang/Long;" .null ∧ Fld Z h x "java/lang/Throwable" "detailMessage" "Ljava/lang/String;" .null
set_option maxRecDepth 65536 in
set_option maxHeartbeats 40000000 in
theorem own_rm_exN (l : Launch) (Z : State) (a0 : Array Value) (hw : ∀ d ∈ tables_1, d.before a0 Z = true) (ws : List Jvm.Cond) (x : Addr) (uu sv : Value) (h0 : Heap) (n0 : Nat) (Od : Old Z n0 h0) (E_x : Exa Z h0 x "com/example/jobs_into_runs/jobsintoruns/http/ApiException") (U_x : Unt h0 x) (F_ca : Fld Z h0 x "java/lang/Throwable" "cause" "Ljava/lang/Throwable;" .null) (F_st : Fld Z h0 x "java/lang/Throwable" "stackTrace" "[Ljava/lang/StackTraceElement;" .null) (F_su : Fld Z h0 x "java/lang/Throwable" "suppressedExceptions" "Ljava/util/List;" .null) (F_bt : Fld Z h0 x "java/lang/Throwable" "backtrace" "Ljava/lang/Object;" .null) (F_dm : Fld Z h0 x "java/lang/Throwable" "detailMessage" "Ljava/lang/String;" .null) (F0 : Fld Z h0 x "com/example/jobs_into_runs/jobsintoruns/http/ApiException" "status" "I" (.int (0 : Int32))) (F1 : Fld Z h0 x "com/example/jobs_into_runs/jobsintoruns/http/ApiException" "allowed" "Ljava/lang/String;" .null) (F2 : Fld Z h0 x "com/example/jobs_into_runs/jobsintoruns/http/ApiException" "run" "Ljava/lang/Long;" .null) (ge_x : n0 ≤ x) (hl : l.stackTraces = true) (SU : Sta Z Z.heap "java/lang/Throwable" "UNASSIGNED_STACK" "[Ljava/lang/StackTraceElement;" uu) (hu : uu.isRef = true) (SS : Sta Z Z.heap "java/lang/Throwable" "SUPPRESSED_SENTINEL" "Ljava/util/List;" sv) (hv : sv.isRef = true) :
    MetFree l (⟨"java/lang/Exception", "<init>", "(Ljava/lang/String;)V"⟩ : MethodName) (head1 (Jvm.Cond.code (⟨"java/lang/Exception", "<init>", "(Ljava/lang/String;)V"⟩ : MethodName) jdk_59_method_2_code 2 none :: ws) ({ frames := 4, cells := 1, slots := 2752, locals := 55 } : Room)) (fun a9 U => a9 = #[(.ref x), .null] ∧ Z.Warmed39 U.vm ∧ U.heap = h0) (fun _ _ bl s _ => s.vm.MethodsKnown ∧ s.vm.FramesKnown bl) (fun _ U o U' => ∃ v L, o = .returned v ∧ own_Q_exN Z x h0 n0 v U'.heap L ∧ FrameEnd U o U' L ({ frames := 4, cells := 1, slots := 2752, locals := 55 } : Room).cells ({ frames := 4, cells := 1, slots := 2752, locals := 55 } : Room).slots) := by
  refine MetFree.of_bodySF (plainFor_of_name own_pn4) hisR ?_
  intro p e s m args below meth c s₁ Bd hml0 hP hK
  obtain ⟨rfl, hZ, hh⟩ := hP
  have hx := Bd.exec
  have hby := Bd.bytes
  have hml : c.maxLocals = 2 := hml0
  have hown : s.vm.findClass "java/lang/Exception" = some m.cls := findClass_of_methodNamed Bd.named
  have hnm := (name_of_methodNamed Bd.named Bd.method).1
  have hlk : meth.locks = false := Bd.notSynchronized
  have X0 : Stand p l e ({ frames := 4, cells := 1, slots := 2752, locals := 55 } : Room) s m #[(.ref x), .null] below meth c s₁ [] 0 0 := Stand.of_body Bd
  have e0 : s₁.heap = h0 := by rw [← hh, Bd.state]; rfl
  have N0 := Fr.nil n0
  show own_Go p e below s (own_Q_exN Z x h0 n0) ({ frames := 4, cells := 1, slots := 2752, locals := 55 } : Room).cells ({ frames := 4, cells := 1, slots := 2752, locals := 55 } : Room).slots (s₁.setTop (entryFrame m #[(.ref x), .null] 2))
  refine own_st (fun t9 k9 => castTop (own_ef_exN m x) k9) ?_
  show own_Go p e below s _ _ _ (s₁.setTop (mkF m 0 #[.val (.ref x), .val .null] []))
  obtain ⟨hTK, hBelow⟩ := hK
  have hT0 : ThS Z s.heap := by rw [hh]; exact ThS.ext Od.2 ThS.start
  have Kp : Keep h0 h0 [x] := Keep.refl h0 [x]
  refine own_st (fun t9 k9 => XS.aloadN X0.here hx rfl (hb hby own_d_jdk_59_method_2_0) rfl rfl k9) ?_
  show own_Go p e below s _ _ _ (s₁.setTop (mkF m 1 #[.val (.ref x), .val .null] [(.ref x)]))
  refine own_st (fun t9 k9 => XS.aloadN X0.here hx rfl (hb hby own_d_jdk_59_method_2_1) rfl rfl k9) ?_
  show own_Go p e below s _ _ _ (s₁.setTop (mkF m 2 #[.val (.ref x), .val .null] [.null, (.ref x)]))
  obtain ⟨_, T43, h43, L43, X43, e43, ⟨rfl, Nc, Kc, E_y, G0, G1, G2, G3⟩, st43⟩ := own_backI X0 hx hZ hown rfl (hw _ (List.mem_of_getElem? (i := 37) rfl)) (hw _ (List.mem_of_getElem? (i := 38) rfl)) (hw _ (List.mem_of_getElem? (i := 42) rfl)) (by decide) (backOfKL (W := 0) (own_rm_thN l Z a0 hw [] x uu sv h0 n0 Od E_x U_x F_ca F_st F_su F_bt F_dm F0 F1 F2 ge_x hl SU hu SS hv) hZ (hw _ (List.mem_of_getElem? (i := 42) rfl)) (hw _ (List.mem_of_getElem? (i := 41) rfl)) (by decide) (by decide) hTK hBelow) e0 (a := x) (W := 0) (g := (mkF m 2 #[.val (.ref x), .val .null] [.null, (.ref x)])) rfl (by rw [hml]; rfl) (argsL := [.null]) (rest := []) rfl (lenOf own_pd3 rfl) rfl (by show 2 * 0 + _ ≤ _; exact Nat.le_of_eq rfl) (hb hby own_d_jdk_59_method_2_2) (by decide) (by decide)
  have N43 := Fr.app N0 Nc
  have E_x := E_x.keep Kc
  have Od := Od.keep Kc (allS ge_x all0)
  have Kp := Kp.trans Kc (allS (Or.inl (List.mem_of_getElem? (i := 0) rfl)) all0)
  refine own_st st43 ?_
  show own_Go p e below s _ _ _ (T43.setTop (mkF m 5 #[.val (.ref x), .val .null] []))
  exact own_retV X43 hx hlk Bd.returns (hb hby own_d_jdk_59_method_2_5) (by decide) (by decide) (by rw [e43]; exact ⟨rfl, N43, Kp, E_y, G0, G1, G2, G3⟩)
theorem own_pn5 : plainName "com/example/jobs_into_runs/jobsintoruns/http/ApiException" = true := by first | (simp [plainName, overriddenIn]; done) | decide +kernel
theorem own_d_prog_33_method_3_0 : decode prog_33_method_3_code 0 = .ok (.aload_n 0, 1) := by decide +kernel
theorem own_d_prog_33_method_3_1 : decode prog_33_method_3_code 1 = .ok (.aload_n 2, 1) := by decide +kernel
theorem own_d_prog_33_method_3_2 : decode prog_33_method_3_code 2 = .ok (.invokespecial 7, 3) := by decide +kernel
theorem own_d_prog_33_method_3_5 : decode prog_33_method_3_code 5 = .ok (.aload_n 0, 1) := by decide +kernel
theorem own_d_prog_33_method_3_6 : decode prog_33_method_3_code 6 = .ok (.iload_n 1, 1) := by decide +kernel
theorem own_d_prog_33_method_3_7 : decode prog_33_method_3_code 7 = .ok (.putfield 12, 3) := by decide +kernel
theorem own_d_prog_33_method_3_10 : decode prog_33_method_3_code 10 = .ok (.aload_n 0, 1) := by decide +kernel
theorem own_d_prog_33_method_3_11 : decode prog_33_method_3_code 11 = .ok (.aload_n 3, 1) := by decide +kernel
theorem own_d_prog_33_method_3_12 : decode prog_33_method_3_code 12 = .ok (.putfield 16, 3) := by decide +kernel
theorem own_d_prog_33_method_3_15 : decode prog_33_method_3_code 15 = .ok (.aload_n 0, 1) := by decide +kernel
theorem own_d_prog_33_method_3_16 : decode prog_33_method_3_code 16 = .ok (.aload 4, 2) := by decide +kernel
theorem own_d_prog_33_method_3_18 : decode prog_33_method_3_code 18 = .ok (.putfield 20, 3) := by decide +kernel
theorem own_d_prog_33_method_3_21 : decode prog_33_method_3_code 21 = .ok (.return_, 1) := by decide +kernel
theorem own_ef_aiN (m : MethodId) (x0 : Addr) (x1 : Int32) (x4 : Addr) : entryFrame m #[(.ref x0), (.int x1), .null, .null, (.ref x4)] 5 = mkF m 0 #[.val (.ref x0), .val (.int x1), .val .null, .val .null, .val (.ref x4)] [] := by first | (simp [entryFrame, mkF, argsToLocals, Value.category]; done) | rfl
def own_Q_aiN (Z : State) (x : Addr) (lg : Addr) (h0 : Heap) (n0 : Nat) (v : Option Value) (h : Heap) (L : List Loc) : Prop := v = none ∧ Fr n0 L ∧ Keep h0 h [x] ∧ Exa Z h x "com/example/jobs_into_runs/jobsintoruns/http/ApiException" ∧ Fld Z h x "com/example/jobs_into_runs/jobsintoruns/http/ApiException" "status" "I" (.int (409 : Int32)) ∧ Fld Z h x "com/example/jobs_into_runs/jobsintoruns/http/ApiException" "allowed" "Ljava/lang/String;" .null ∧ Fld Z h x "com/example/jobs_into_runs/jobsintoruns/http/ApiException" "run" "Ljava/lang/Long;" (.ref lg) ∧ Fld Z h x "java/lang/Throwable" "detailMessage" "Ljava/lang/String;" .null
set_option maxRecDepth 65536 in
set_option maxHeartbeats 40000000 in
theorem own_rm_aiN (l : Launch) (Z : State) (a0 : Array Value) (hw : ∀ d ∈ tables_1, d.before a0 Z = true) (ws : List Jvm.Cond) (x : Addr) (lg : Addr) (uu sv : Value) (h0 : Heap) (n0 : Nat) (Od : Old Z n0 h0) (E_x : Exa Z h0 x "com/example/jobs_into_runs/jobsintoruns/http/ApiException") (U_x : Unt h0 x) (F_ca : Fld Z h0 x "java/lang/Throwable" "cause" "Ljava/lang/Throwable;" .null) (F_st : Fld Z h0 x "java/lang/Throwable" "stackTrace" "[Ljava/lang/StackTraceElement;" .null) (F_su : Fld Z h0 x "java/lang/Throwable" "suppressedExceptions" "Ljava/util/List;" .null) (F_bt : Fld Z h0 x "java/lang/Throwable" "backtrace" "Ljava/lang/Object;" .null) (F_dm : Fld Z h0 x "java/lang/Throwable" "detailMessage" "Ljava/lang/String;" .null) (F0 : Fld Z h0 x "com/example/jobs_into_runs/jobsintoruns/http/ApiException" "status" "I" (.int (0 : Int32))) (F1 : Fld Z h0 x "com/example/jobs_into_runs/jobsintoruns/http/ApiException" "allowed" "Ljava/lang/String;" .null) (F2 : Fld Z h0 x "com/example/jobs_into_runs/jobsintoruns/http/ApiException" "run" "Ljava/lang/Long;" .null) (ge_x : n0 ≤ x) (hl : l.stackTraces = true) (SU : Sta Z Z.heap "java/lang/Throwable" "UNASSIGNED_STACK" "[Ljava/lang/StackTraceElement;" uu) (hu : uu.isRef = true) (SS : Sta Z Z.heap "java/lang/Throwable" "SUPPRESSED_SENTINEL" "Ljava/util/List;" sv) (hv : sv.isRef = true) :
    MetFree l (⟨"com/example/jobs_into_runs/jobsintoruns/http/ApiException", "<init>", "(ILjava/lang/String;Ljava/lang/String;Ljava/lang/Long;)V"⟩ : MethodName) (head1 (Jvm.Cond.code (⟨"com/example/jobs_into_runs/jobsintoruns/http/ApiException", "<init>", "(ILjava/lang/String;Ljava/lang/String;Ljava/lang/Long;)V"⟩ : MethodName) prog_33_method_3_code 5 none :: ws) ({ frames := 5, cells := 1, slots := 2752, locals := 68 } : Room)) (fun a9 U => a9 = #[(.ref x), (.int (409 : Int32)), .null, .null, (.ref lg)] ∧ Z.Warmed39 U.vm ∧ U.heap = h0) (fun _ _ bl s _ => s.vm.MethodsKnown ∧ s.vm.FramesKnown bl) (fun _ U o U' => ∃ v L, o = .returned v ∧ own_Q_aiN Z x lg h0 n0 v U'.heap L ∧ FrameEnd U o U' L ({ frames := 5, cells := 1, slots := 2752, locals := 68 } : Room).cells ({ frames := 5, cells := 1, slots := 2752, locals := 68 } : Room).slots) := by
  refine MetFree.of_bodySF (plainFor_of_name own_pn5) hisR ?_
  intro p e s m args below meth c s₁ Bd hml0 hP hK
  obtain ⟨rfl, hZ, hh⟩ := hP
  have hx := Bd.exec
  have hby := Bd.bytes
  have hml : c.maxLocals = 5 := hml0
  have hown : s.vm.findClass "com/example/jobs_into_runs/jobsintoruns/http/ApiException" = some m.cls := findClass_of_methodNamed Bd.named
  have hnm := (name_of_methodNamed Bd.named Bd.method).1
  have hlk : meth.locks = false := Bd.notSynchronized
  have X0 : Stand p l e ({ frames := 5, cells := 1, slots := 2752, locals := 68 } : Room) s m #[(.ref x), (.int (409 : Int32)), .null, .null, (.ref lg)] below meth c s₁ [] 0 0 := Stand.of_body Bd
  have e0 : s₁.heap = h0 := by rw [← hh, Bd.state]; rfl
  have N0 := Fr.nil n0
  show own_Go p e below s (own_Q_aiN Z x lg h0 n0) ({ frames := 5, cells := 1, slots := 2752, locals := 68 } : Room).cells ({ frames := 5, cells := 1, slots := 2752, locals := 68 } : Room).slots (s₁.setTop (entryFrame m #[(.ref x), (.int (409 : Int32)), .null, .null, (.ref lg)] 5))
  refine own_st (fun t9 k9 => castTop (own_ef_aiN m x (409 : Int32) lg) k9) ?_
  show own_Go p e below s _ _ _ (s₁.setTop (mkF m 0 #[.val (.ref x), .val (.int (409 : Int32)), .val .null, .val .null, .val (.ref lg)] []))
  obtain ⟨hTK, hBelow⟩ := hK
  have hT0 : ThS Z s.heap := by rw [hh]; exact ThS.ext Od.2 ThS.start
  have Kp : Keep h0 h0 [x] := Keep.refl h0 [x]
  refine own_st (fun t9 k9 => XS.aloadN X0.here hx rfl (hb hby own_d_prog_33_method_3_0) rfl rfl k9) ?_
  show own_Go p e below s _ _ _ (s₁.setTop (mkF m 1 #[.val (.ref x), .val (.int (409 : Int32)), .val .null, .val .null, .val (.ref lg)] [(.ref x)]))
  refine own_st (fun t9 k9 => XS.aloadN X0.here hx rfl (hb hby own_d_prog_33_method_3_1) rfl rfl k9) ?_
  show own_Go p e below s _ _ _ (s₁.setTop (mkF m 2 #[.val (.ref x), .val (.int (409 : Int32)), .val .null, .val .null, .val (.ref lg)] [.null, (.ref x)]))
  obtain ⟨_, T44, h44, L44, X44, e44, ⟨rfl, Nc, Kc, E_y, G0, G1, G2, G3⟩, st44⟩ := own_backI X0 hx hZ hown rfl (hw _ (List.mem_of_getElem? (i := 32) rfl)) (hw _ (List.mem_of_getElem? (i := 33) rfl)) (hw _ (List.mem_of_getElem? (i := 36) rfl)) (by decide) (backOfKL (W := 0) (own_rm_exN l Z a0 hw [] x uu sv h0 n0 Od E_x U_x F_ca F_st F_su F_bt F_dm F0 F1 F2 ge_x hl SU hu SS hv) hZ (hw _ (List.mem_of_getElem? (i := 36) rfl)) (hw _ (List.mem_of_getElem? (i := 35) rfl)) (by decide) (by decide) hTK hBelow) e0 (a := x) (W := 0) (g := (mkF m 2 #[.val (.ref x), .val (.int (409 : Int32)), .val .null, .val .null, .val (.ref lg)] [.null, (.ref x)])) rfl (by rw [hml]; rfl) (argsL := [.null]) (rest := []) rfl (lenOf own_pd3 rfl) rfl (by show 2 * 0 + _ ≤ _; exact Nat.le_of_eq rfl) (hb hby own_d_prog_33_method_3_2) (by decide) (by decide)
  have N44 := Fr.app N0 Nc
  have E_x := E_x.keep Kc
  have Od := Od.keep Kc (allS ge_x all0)
  have Kp := Kp.trans Kc (allS (Or.inl (List.mem_of_getElem? (i := 0) rfl)) all0)
  refine own_st st44 ?_
  show own_Go p e below s _ _ _ (T44.setTop (mkF m 5 #[.val (.ref x), .val (.int (409 : Int32)), .val .null, .val .null, .val (.ref lg)] []))
  have F0 := G0
  have F1 := G1
  have F2 := G2
  refine own_st (fun t9 k9 => XS.aloadN X44.here hx rfl (hb hby own_d_prog_33_method_3_5) rfl rfl k9) ?_
  show own_Go p e below s _ _ _ (T44.setTop (mkF m 6 #[.val (.ref x), .val (.int (409 : Int32)), .val .null, .val .null, .val (.ref lg)] [(.ref x)]))
  refine own_st (fun t9 k9 => XS.iloadN X44.here hx rfl (hb hby own_d_prog_33_method_3_6) rfl  k9) ?_
  show own_Go p e below s _ _ _ (T44.setTop (mkF m 7 #[.val (.ref x), .val (.int (409 : Int32)), .val .null, .val .null, .val (.ref lg)] [(.int (409 : Int32)), (.ref x)]))
  obtain ⟨T45, h45, X45, e45, W45, st45⟩ := putF X44 hx hZ hown (host := "") (Or.inl (hw _ (List.mem_of_getElem? (i := 80) rfl))) Via.refl e44 F0 E_x (Or.inr ⟨(hw _ (List.mem_of_getElem? (i := 81) rfl)), rfl, hnm⟩) (hw _ (List.mem_of_getElem? (i := 6) rfl)) (ty := .int) (by decide) rfl rfl (g := (mkF m 7 #[.val (.ref x), .val (.int (409 : Int32)), .val .null, .val .null, .val (.ref lg)] [(.int (409 : Int32)), (.ref x)])) rfl rfl (hb hby own_d_prog_33_method_3_7)
  have N45 := Fr.snoc X45 N44 ge_x
  have E_x := E_x.wr W45
  have F0 := F0.same W45
  have F1 := F1.other W45 (Or.inr (RoadKit.slot_ne (Or.inr (hw _ (List.mem_of_getElem? (i := 83) rfl))) (Or.inr (hw _ (List.mem_of_getElem? (i := 81) rfl))) (by decide) (t := (.object "java/lang/String")) (t' := .int) (by decide) (by decide)))
  have F2 := F2.other W45 (Or.inr (RoadKit.slot_ne (Or.inr (hw _ (List.mem_of_getElem? (i := 85) rfl))) (Or.inr (hw _ (List.mem_of_getElem? (i := 81) rfl))) (by decide) (t := (.object "java/lang/Long")) (t' := .int) (by decide) (by decide)))
  have G3 := G3.other W45 (Or.inr (RoadKit.slot_ne (Or.inl (hw _ (List.mem_of_getElem? (i := 75) rfl))) (Or.inr (hw _ (List.mem_of_getElem? (i := 81) rfl))) (by decide) (t := (.object "java/lang/String")) (t' := .int) (by decide) (by decide)))
  have Od := Od.wr W45 ge_x
  have Kp := Kp.wr W45 (Or.inl (List.mem_of_getElem? (i := 0) rfl))
  refine own_st st45 ?_
  show own_Go p e below s _ _ _ (T45.setTop (mkF m 10 #[.val (.ref x), .val (.int (409 : Int32)), .val .null, .val .null, .val (.ref lg)] []))
  refine own_st (fun t9 k9 => XS.aloadN X45.here hx rfl (hb hby own_d_prog_33_method_3_10) rfl rfl k9) ?_
  show own_Go p e below s _ _ _ (T45.setTop (mkF m 11 #[.val (.ref x), .val (.int (409 : Int32)), .val .null, .val .null, .val (.ref lg)] [(.ref x)]))
  refine own_st (fun t9 k9 => XS.aloadN X45.here hx rfl (hb hby own_d_prog_33_method_3_11) rfl rfl k9) ?_
  show own_Go p e below s _ _ _ (T45.setTop (mkF m 12 #[.val (.ref x), .val (.int (409 : Int32)), .val .null, .val .null, .val (.ref lg)] [.null, (.ref x)]))
  obtain ⟨T46, h46, X46, e46, W46, st46⟩ := putF X45 hx hZ hown (host := "") (Or.inl (hw _ (List.mem_of_getElem? (i := 82) rfl))) Via.refl e45 F1 E_x (Or.inr ⟨(hw _ (List.mem_of_getElem? (i := 83) rfl)), rfl, hnm⟩) (hw _ (List.mem_of_getElem? (i := 6) rfl)) (ty := (.object "java/lang/String")) (by decide) rfl rfl (g := (mkF m 12 #[.val (.ref x), .val (.int (409 : Int32)), .val .null, .val .null, .val (.ref lg)] [.null, (.ref x)])) rfl rfl (hb hby own_d_prog_33_method_3_12)
  have N46 := Fr.snoc X46 N45 ge_x
  have E_x := E_x.wr W46
  have F0 := F0.other W46 (Or.inr (RoadKit.slot_ne (Or.inr (hw _ (List.mem_of_getElem? (i := 81) rfl))) (Or.inr (hw _ (List.mem_of_getElem? (i := 83) rfl))) (by decide) (t := .int) (t' := (.object "java/lang/String")) (by decide) (by decide)))
  have F1 := F1.same W46
  have F2 := F2.other W46 (Or.inr (RoadKit.slot_ne (Or.inr (hw _ (List.mem_of_getElem? (i := 85) rfl))) (Or.inr (hw _ (List.mem_of_getElem? (i := 83) rfl))) (by decide) (t := (.object "java/lang/Long")) (t' := (.object "java/lang/String")) (by decide) (by decide)))
  have G3 := G3.other W46 (Or.inr (RoadKit.slot_ne (Or.inl (hw _ (List.mem_of_getElem? (i := 75) rfl))) (Or.inr (hw _ (List.mem_of_getElem? (i := 83) rfl))) (by decide) (t := (.object "java/lang/String")) (t' := (.object "java/lang/String")) (by decide) (by decide)))
  have Od := Od.wr W46 ge_x
  have Kp := Kp.wr W46 (Or.inl (List.mem_of_getElem? (i := 0) rfl))
  refine own_st st46 ?_
  show own_Go p e below s _ _ _ (T46.setTop (mkF m 15 #[.val (.ref x), .val (.int (409 : Int32)), .val .null, .val .null, .val (.ref lg)] []))
  refine own_st (fun t9 k9 => XS.aloadN X46.here hx rfl (hb hby own_d_prog_33_method_3_15) rfl rfl k9) ?_
  show own_Go p e below s _ _ _ (T46.setTop (mkF m 16 #[.val (.ref x), .val (.int (409 : Int32)), .val .null, .val .null, .val (.ref lg)] [(.ref x)]))
  refine own_st (fun t9 k9 => XS.aload X46.here hx rfl (hb hby own_d_prog_33_method_3_16) rfl rfl k9) ?_
  show own_Go p e below s _ _ _ (T46.setTop (mkF m 18 #[.val (.ref x), .val (.int (409 : Int32)), .val .null, .val .null, .val (.ref lg)] [(.ref lg), (.ref x)]))
  obtain ⟨T47, h47, X47, e47, W47, st47⟩ := putF X46 hx hZ hown (host := "") (Or.inl (hw _ (List.mem_of_getElem? (i := 84) rfl))) Via.refl e46 F2 E_x (Or.inr ⟨(hw _ (List.mem_of_getElem? (i := 85) rfl)), rfl, hnm⟩) (hw _ (List.mem_of_getElem? (i := 6) rfl)) (ty := (.object "java/lang/Long")) (by decide) rfl rfl (g := (mkF m 18 #[.val (.ref x), .val (.int (409 : Int32)), .val .null, .val .null, .val (.ref lg)] [(.ref lg), (.ref x)])) rfl rfl (hb hby own_d_prog_33_method_3_18)
  have N47 := Fr.snoc X47 N46 ge_x
  have E_x := E_x.wr W47
  have F0 := F0.other W47 (Or.inr (RoadKit.slot_ne (Or.inr (hw _ (List.mem_of_getElem? (i := 81) rfl))) (Or.inr (hw _ (List.mem_of_getElem? (i := 85) rfl))) (by decide) (t := .int) (t' := (.object "java/lang/Long")) (by decide) (by decide)))
  have F1 := F1.other W47 (Or.inr (RoadKit.slot_ne (Or.inr (hw _ (List.mem_of_getElem? (i := 83) rfl))) (Or.inr (hw _ (List.mem_of_getElem? (i := 85) rfl))) (by decide) (t := (.object "java/lang/String")) (t' := (.object "java/lang/Long")) (by decide) (by decide)))
  have F2 := F2.same W47
  have G3 := G3.other W47 (Or.inr (RoadKit.slot_ne (Or.inl (hw _ (List.mem_of_getElem? (i := 75) rfl))) (Or.inr (hw _ (List.mem_of_getElem? (i := 85) rfl))) (by decide) (t := (.object "java/lang/String")) (t' := (.object "java/lang/Long")) (by decide) (by decide)))
  have Od := Od.wr W47 ge_x
  have Kp := Kp.wr W47 (Or.inl (List.mem_of_getElem? (i := 0) rfl))
  refine own_st st47 ?_
  show own_Go p e below s _ _ _ (T47.setTop (mkF m 21 #[.val (.ref x), .val (.int (409 : Int32)), .val .null, .val .null, .val (.ref lg)] []))
  exact own_retV X47 hx hlk Bd.returns (hb hby own_d_prog_33_method_3_21) (by decide) (by decide) (by rw [e47]; exact ⟨rfl, N47, Kp, E_x, F0, F1, F2, G3⟩)
theorem own_ef_thR (m : MethodId) (x0 : Addr) (x1 : Addr) : entryFrame m #[(.ref x0), (.ref x1)] 2 = mkF m 0 #[.val (.ref x0), .val (.ref x1)] [] := by first | (simp [entryFrame, mkF, argsToLocals, Value.category]; done) | rfl
def own_Q_thR (Z : State) (x : Addr) (g0 : Addr) (h0 : Heap) (n0 : Nat) (v : Option Value) (h : Heap) (L : List Loc) : Prop := v = none ∧ Fr n0 L ∧ Keep h0 h [x] ∧ Exa Z h x "com/example/jobs_into_runs/jobsintoruns/http/ApiException" ∧ Fld Z h x "com/example/jobs_into_runs/jobsintoruns/http/ApiException" "status" "I" (.int (0 : Int32)) ∧ Fld Z h x "com/example/jobs_into_runs/jobsintoruns/http/ApiException" "allowed" "Ljava/lang/String;" .null ∧ Fld Z h x "com/example/jobs_into_runs/jobsintoruns/http/ApiException" "run" "Ljava/lang/Long;" .null ∧ Fld Z h x "java/lang/Throwable" "detailMessage" "Ljava/lang/String;" (.ref g0)
set_option maxRecDepth 65536 in
set_option maxHeartbeats 40000000 in
theorem own_rm_thR (l : Launch) (Z : State) (a0 : Array Value) (hw : ∀ d ∈ tables_1, d.before a0 Z = true) (ws : List Jvm.Cond) (x : Addr) (g0 : Addr) (uu sv : Value) (h0 : Heap) (n0 : Nat) (Od : Old Z n0 h0) (E_x : Exa Z h0 x "com/example/jobs_into_runs/jobsintoruns/http/ApiException") (U_x : Unt h0 x) (F_ca : Fld Z h0 x "java/lang/Throwable" "cause" "Ljava/lang/Throwable;" .null) (F_st : Fld Z h0 x "java/lang/Throwable" "stackTrace" "[Ljava/lang/StackTraceElement;" .null) (F_su : Fld Z h0 x "java/lang/Throwable" "suppressedExceptions" "Ljava/util/List;" .null) (F_bt : Fld Z h0 x "java/lang/Throwable" "backtrace" "Ljava/lang/Object;" .null) (F_dm : Fld Z h0 x "java/lang/Throwable" "detailMessage" "Ljava/lang/String;" .null) (F0 : Fld Z h0 x "com/example/jobs_into_runs/jobsintoruns/http/ApiException" "status" "I" (.int (0 : Int32))) (F1 : Fld Z h0 x "com/example/jobs_into_runs/jobsintoruns/http/ApiException" "allowed" "Ljava/lang/String;" .null) (F2 : Fld Z h0 x "com/example/jobs_into_runs/jobsintoruns/http/ApiException" "run" "Ljava/lang/Long;" .null) (ge_x : n0 ≤ x) (hl : l.stackTraces = true) (SU : Sta Z Z.heap "java/lang/Throwable" "UNASSIGNED_STACK" "[Ljava/lang/StackTraceElement;" uu) (hu : uu.isRef = true) (SS : Sta Z Z.heap "java/lang/Throwable" "SUPPRESSED_SENTINEL" "Ljava/util/List;" sv) (hv : sv.isRef = true) :
    MetFree l (⟨"java/lang/Throwable", "<init>", "(Ljava/lang/String;)V"⟩ : MethodName) (head1 (Jvm.Cond.code (⟨"java/lang/Throwable", "<init>", "(Ljava/lang/String;)V"⟩ : MethodName) jdk_78_method_2_code 2 none :: ws) ({ frames := 3, cells := 1, slots := 2752, locals := 42 } : Room)) (fun a9 U => a9 = #[(.ref x), (.ref g0)] ∧ Z.Warmed39 U.vm ∧ U.heap = h0) (fun _ _ bl s _ => s.vm.MethodsKnown ∧ s.vm.FramesKnown bl) (fun _ U o U' => ∃ v L, o = .returned v ∧ own_Q_thR Z x g0 h0 n0 v U'.heap L ∧ FrameEnd U o U' L ({ frames := 3, cells := 1, slots := 2752, locals := 42 } : Room).cells ({ frames := 3, cells := 1, slots := 2752, locals := 42 } : Room).slots) := by
  refine MetFree.of_bodySF (plainFor_of_name own_pn3) hisR ?_
  intro p e s m args below meth c s₁ Bd hml0 hP hK
  obtain ⟨rfl, hZ, hh⟩ := hP
  have hx := Bd.exec
  have hby := Bd.bytes
  have hml : c.maxLocals = 2 := hml0
  have hown : s.vm.findClass "java/lang/Throwable" = some m.cls := findClass_of_methodNamed Bd.named
  have hnm := (name_of_methodNamed Bd.named Bd.method).1
  have hlk : meth.locks = false := Bd.notSynchronized
  have X0 : Stand p l e ({ frames := 3, cells := 1, slots := 2752, locals := 42 } : Room) s m #[(.ref x), (.ref g0)] below meth c s₁ [] 0 0 := Stand.of_body Bd
  have e0 : s₁.heap = h0 := by rw [← hh, Bd.state]; rfl
  have N0 := Fr.nil n0
  show own_Go p e below s (own_Q_thR Z x g0 h0 n0) ({ frames := 3, cells := 1, slots := 2752, locals := 42 } : Room).cells ({ frames := 3, cells := 1, slots := 2752, locals := 42 } : Room).slots (s₁.setTop (entryFrame m #[(.ref x), (.ref g0)] 2))
  refine own_st (fun t9 k9 => castTop (own_ef_thR m x g0) k9) ?_
  show own_Go p e below s _ _ _ (s₁.setTop (mkF m 0 #[.val (.ref x), .val (.ref g0)] []))
  obtain ⟨hTK, hBelow⟩ := hK
  have hT0 : ThS Z s.heap := by rw [hh]; exact ThS.ext Od.2 ThS.start
  have Kp : Keep h0 h0 [x] := Keep.refl h0 [x]
  refine own_st (fun t9 k9 => XS.aloadN X0.here hx rfl (hb hby own_d_jdk_78_method_2_0) rfl rfl k9) ?_
  show own_Go p e below s _ _ _ (s₁.setTop (mkF m 1 #[.val (.ref x), .val (.ref g0)] [(.ref x)]))
  obtain ⟨T48, X48, e48, st48⟩ := initO X0 hx hZ hown (hw _ (List.mem_of_getElem? (i := 43) rfl)) (hw _ (List.mem_of_getElem? (i := 25) rfl)) (hw _ (List.mem_of_getElem? (i := 26) rfl)) e0 (g := (mkF m 1 #[.val (.ref x), .val (.ref g0)] [(.ref x)])) rfl (by rw [hml]; rfl) rfl (hb hby own_d_jdk_78_method_2_1) (by decide) (W := 0) (by show 2 * 0 + _ ≤ _; exact Nat.le_of_eq rfl) (by decide)
  refine own_st st48 ?_
  show own_Go p e below s _ _ _ (T48.setTop (mkF m 4 #[.val (.ref x), .val (.ref g0)] []))
  refine own_st (fun t9 k9 => XS.aloadN X48.here hx rfl (hb hby own_d_jdk_78_method_2_4) rfl rfl k9) ?_
  show own_Go p e below s _ _ _ (T48.setTop (mkF m 5 #[.val (.ref x), .val (.ref g0)] [(.ref x)]))
  refine own_st (fun t9 k9 => XS.aloadN X48.here hx rfl (hb hby own_d_jdk_78_method_2_5) rfl rfl k9) ?_
  show own_Go p e below s _ _ _ (T48.setTop (mkF m 6 #[.val (.ref x), .val (.ref g0)] [(.ref x), (.ref x)]))
  obtain ⟨T49, h49, X49, e49, W49, st49⟩ := putF X48 hx hZ hown (host := "") (Or.inl (hw _ (List.mem_of_getElem? (i := 44) rfl))) Via.refl e48 F_ca E_x (Or.inl (hw _ (List.mem_of_getElem? (i := 45) rfl))) (hw _ (List.mem_of_getElem? (i := 6) rfl)) (ty := (.object "java/lang/Throwable")) (by decide) rfl rfl (g := (mkF m 6 #[.val (.ref x), .val (.ref g0)] [(.ref x), (.ref x)])) rfl rfl (hb hby own_d_jdk_78_method_2_6)
  have N49 := Fr.snoc X49 N0 ge_x
  have E_x := E_x.wr W49
  have F_ca := F_ca.same W49
  have F_st := F_st.other W49 (Or.inr (RoadKit.slot_ne (Or.inl (hw _ (List.mem_of_getElem? (i := 48) rfl))) (Or.inl (hw _ (List.mem_of_getElem? (i := 45) rfl))) (by decide) (t := (.array (.object "java/lang/StackTraceElement"))) (t' := (.object "java/lang/Throwable")) (by decide) (by decide)))
  have F_su := F_su.other W49 (Or.inr (RoadKit.slot_ne (Or.inl (hw _ (List.mem_of_getElem? (i := 51) rfl))) (Or.inl (hw _ (List.mem_of_getElem? (i := 45) rfl))) (by decide) (t := (.object "java/util/List")) (t' := (.object "java/lang/Throwable")) (by decide) (by decide)))
  have F_bt := F_bt.other W49 (Or.inr (RoadKit.slot_ne (Or.inl (hw _ (List.mem_of_getElem? (i := 76) rfl))) (Or.inl (hw _ (List.mem_of_getElem? (i := 45) rfl))) (by decide) (t := (.object "java/lang/Object")) (t' := (.object "java/lang/Throwable")) (by decide) (by decide)))
  have F_dm := F_dm.other W49 (Or.inr (RoadKit.slot_ne (Or.inl (hw _ (List.mem_of_getElem? (i := 75) rfl))) (Or.inl (hw _ (List.mem_of_getElem? (i := 45) rfl))) (by decide) (t := (.object "java/lang/String")) (t' := (.object "java/lang/Throwable")) (by decide) (by decide)))
  have F0 := F0.other W49 (Or.inr (RoadKit.slot_ne (Or.inr (hw _ (List.mem_of_getElem? (i := 81) rfl))) (Or.inl (hw _ (List.mem_of_getElem? (i := 45) rfl))) (by decide) (t := .int) (t' := (.object "java/lang/Throwable")) (by decide) (by decide)))
  have F1 := F1.other W49 (Or.inr (RoadKit.slot_ne (Or.inr (hw _ (List.mem_of_getElem? (i := 83) rfl))) (Or.inl (hw _ (List.mem_of_getElem? (i := 45) rfl))) (by decide) (t := (.object "java/lang/String")) (t' := (.object "java/lang/Throwable")) (by decide) (by decide)))
  have F2 := F2.other W49 (Or.inr (RoadKit.slot_ne (Or.inr (hw _ (List.mem_of_getElem? (i := 85) rfl))) (Or.inl (hw _ (List.mem_of_getElem? (i := 45) rfl))) (by decide) (t := (.object "java/lang/Long")) (t' := (.object "java/lang/Throwable")) (by decide) (by decide)))
  have Od := Od.wr W49 ge_x
  have Kp := Kp.wr W49 (Or.inl (List.mem_of_getElem? (i := 0) rfl))
  refine own_st st49 ?_
  show own_Go p e below s _ _ _ (T49.setTop (mkF m 9 #[.val (.ref x), .val (.ref g0)] []))
  refine own_st (fun t9 k9 => XS.aloadN X49.here hx rfl (hb hby own_d_jdk_78_method_2_9) rfl rfl k9) ?_
  show own_Go p e below s _ _ _ (T49.setTop (mkF m 10 #[.val (.ref x), .val (.ref g0)] [(.ref x)]))
  rcases ref_cases hu with rfl | ⟨u1, rfl⟩
  · skip
    rcases ref_cases hv with rfl | ⟨v1, rfl⟩
    · skip
      obtain ⟨T50, X50, e50, st50⟩ := getS (host := "") X49 hx hZ hown (hw _ (List.mem_of_getElem? (i := 46) rfl)) Via.refl e49 (SU.ext Od.2) (g := (mkF m 10 #[.val (.ref x), .val (.ref g0)] [(.ref x)])) rfl (hb hby own_d_jdk_78_method_2_10)
      refine own_st st50 ?_
      show own_Go p e below s _ _ _ (T50.setTop (mkF m 13 #[.val (.ref x), .val (.ref g0)] [.null, (.ref x)]))
      obtain ⟨T51, h51, X51, e51, W51, st51⟩ := putF X50 hx hZ hown (host := "") (Or.inl (hw _ (List.mem_of_getElem? (i := 47) rfl))) Via.refl e50 F_st E_x (Or.inl (hw _ (List.mem_of_getElem? (i := 48) rfl))) (hw _ (List.mem_of_getElem? (i := 6) rfl)) (ty := (.array (.object "java/lang/StackTraceElement"))) (by decide) rfl rfl (g := (mkF m 13 #[.val (.ref x), .val (.ref g0)] [.null, (.ref x)])) rfl rfl (hb hby own_d_jdk_78_method_2_13)
      have N51 := Fr.snoc X51 N49 ge_x
      have E_x := E_x.wr W51
      have F_ca := F_ca.other W51 (Or.inr (RoadKit.slot_ne (Or.inl (hw _ (List.mem_of_getElem? (i := 45) rfl))) (Or.inl (hw _ (List.mem_of_getElem? (i := 48) rfl))) (by decide) (t := (.object "java/lang/Throwable")) (t' := (.array (.object "java/lang/StackTraceElement"))) (by decide) (by decide)))
      have F_st := F_st.same W51
      have F_su := F_su.other W51 (Or.inr (RoadKit.slot_ne (Or.inl (hw _ (List.mem_of_getElem? (i := 51) rfl))) (Or.inl (hw _ (List.mem_of_getElem? (i := 48) rfl))) (by decide) (t := (.object "java/util/List")) (t' := (.array (.object "java/lang/StackTraceElement"))) (by decide) (by decide)))
      have F_bt := F_bt.other W51 (Or.inr (RoadKit.slot_ne (Or.inl (hw _ (List.mem_of_getElem? (i := 76) rfl))) (Or.inl (hw _ (List.mem_of_getElem? (i := 48) rfl))) (by decide) (t := (.object "java/lang/Object")) (t' := (.array (.object "java/lang/StackTraceElement"))) (by decide) (by decide)))
      have F_dm := F_dm.other W51 (Or.inr (RoadKit.slot_ne (Or.inl (hw _ (List.mem_of_getElem? (i := 75) rfl))) (Or.inl (hw _ (List.mem_of_getElem? (i := 48) rfl))) (by decide) (t := (.object "java/lang/String")) (t' := (.array (.object "java/lang/StackTraceElement"))) (by decide) (by decide)))
      have F0 := F0.other W51 (Or.inr (RoadKit.slot_ne (Or.inr (hw _ (List.mem_of_getElem? (i := 81) rfl))) (Or.inl (hw _ (List.mem_of_getElem? (i := 48) rfl))) (by decide) (t := .int) (t' := (.array (.object "java/lang/StackTraceElement"))) (by decide) (by decide)))
      have F1 := F1.other W51 (Or.inr (RoadKit.slot_ne (Or.inr (hw _ (List.mem_of_getElem? (i := 83) rfl))) (Or.inl (hw _ (List.mem_of_getElem? (i := 48) rfl))) (by decide) (t := (.object "java/lang/String")) (t' := (.array (.object "java/lang/StackTraceElement"))) (by decide) (by decide)))
      have F2 := F2.other W51 (Or.inr (RoadKit.slot_ne (Or.inr (hw _ (List.mem_of_getElem? (i := 85) rfl))) (Or.inl (hw _ (List.mem_of_getElem? (i := 48) rfl))) (by decide) (t := (.object "java/lang/Long")) (t' := (.array (.object "java/lang/StackTraceElement"))) (by decide) (by decide)))
      have Od := Od.wr W51 ge_x
      have Kp := Kp.wr W51 (Or.inl (List.mem_of_getElem? (i := 0) rfl))
      refine own_st st51 ?_
      show own_Go p e below s _ _ _ (T51.setTop (mkF m 16 #[.val (.ref x), .val (.ref g0)] []))
      refine own_st (fun t9 k9 => XS.aloadN X51.here hx rfl (hb hby own_d_jdk_78_method_2_16) rfl rfl k9) ?_
      show own_Go p e below s _ _ _ (T51.setTop (mkF m 17 #[.val (.ref x), .val (.ref g0)] [(.ref x)]))
      obtain ⟨T52, X52, e52, st52⟩ := getS (host := "") X51 hx hZ hown (hw _ (List.mem_of_getElem? (i := 49) rfl)) Via.refl e51 (SS.ext Od.2) (g := (mkF m 17 #[.val (.ref x), .val (.ref g0)] [(.ref x)])) rfl (hb hby own_d_jdk_78_method_2_17)
      refine own_st st52 ?_
      show own_Go p e below s _ _ _ (T52.setTop (mkF m 20 #[.val (.ref x), .val (.ref g0)] [.null, (.ref x)]))
      obtain ⟨T53, h53, X53, e53, W53, st53⟩ := putF X52 hx hZ hown (host := "") (Or.inl (hw _ (List.mem_of_getElem? (i := 50) rfl))) Via.refl e52 F_su E_x (Or.inl (hw _ (List.mem_of_getElem? (i := 51) rfl))) (hw _ (List.mem_of_getElem? (i := 6) rfl)) (ty := (.object "java/util/List")) (by decide) rfl rfl (g := (mkF m 20 #[.val (.ref x), .val (.ref g0)] [.null, (.ref x)])) rfl rfl (hb hby own_d_jdk_78_method_2_20)
      have N53 := Fr.snoc X53 N51 ge_x
      have E_x := E_x.wr W53
      have F_ca := F_ca.other W53 (Or.inr (RoadKit.slot_ne (Or.inl (hw _ (List.mem_of_getElem? (i := 45) rfl))) (Or.inl (hw _ (List.mem_of_getElem? (i := 51) rfl))) (by decide) (t := (.object "java/lang/Throwable")) (t' := (.object "java/util/List")) (by decide) (by decide)))
      have F_st := F_st.other W53 (Or.inr (RoadKit.slot_ne (Or.inl (hw _ (List.mem_of_getElem? (i := 48) rfl))) (Or.inl (hw _ (List.mem_of_getElem? (i := 51) rfl))) (by decide) (t := (.array (.object "java/lang/StackTraceElement"))) (t' := (.object "java/util/List")) (by decide) (by decide)))
      have F_su := F_su.same W53
      have F_bt := F_bt.other W53 (Or.inr (RoadKit.slot_ne (Or.inl (hw _ (List.mem_of_getElem? (i := 76) rfl))) (Or.inl (hw _ (List.mem_of_getElem? (i := 51) rfl))) (by decide) (t := (.object "java/lang/Object")) (t' := (.object "java/util/List")) (by decide) (by decide)))
      have F_dm := F_dm.other W53 (Or.inr (RoadKit.slot_ne (Or.inl (hw _ (List.mem_of_getElem? (i := 75) rfl))) (Or.inl (hw _ (List.mem_of_getElem? (i := 51) rfl))) (by decide) (t := (.object "java/lang/String")) (t' := (.object "java/util/List")) (by decide) (by decide)))
      have F0 := F0.other W53 (Or.inr (RoadKit.slot_ne (Or.inr (hw _ (List.mem_of_getElem? (i := 81) rfl))) (Or.inl (hw _ (List.mem_of_getElem? (i := 51) rfl))) (by decide) (t := .int) (t' := (.object "java/util/List")) (by decide) (by decide)))
      have F1 := F1.other W53 (Or.inr (RoadKit.slot_ne (Or.inr (hw _ (List.mem_of_getElem? (i := 83) rfl))) (Or.inl (hw _ (List.mem_of_getElem? (i := 51) rfl))) (by decide) (t := (.object "java/lang/String")) (t' := (.object "java/util/List")) (by decide) (by decide)))
      have F2 := F2.other W53 (Or.inr (RoadKit.slot_ne (Or.inr (hw _ (List.mem_of_getElem? (i := 85) rfl))) (Or.inl (hw _ (List.mem_of_getElem? (i := 51) rfl))) (by decide) (t := (.object "java/lang/Long")) (t' := (.object "java/util/List")) (by decide) (by decide)))
      have Od := Od.wr W53 ge_x
      have Kp := Kp.wr W53 (Or.inl (List.mem_of_getElem? (i := 0) rfl))
      refine own_st st53 ?_
      show own_Go p e below s _ _ _ (T53.setTop (mkF m 23 #[.val (.ref x), .val (.ref g0)] []))
      refine own_st (fun t9 k9 => XS.aloadN X53.here hx rfl (hb hby own_d_jdk_78_method_2_23) rfl rfl k9) ?_
      show own_Go p e below s _ _ _ (T53.setTop (mkF m 24 #[.val (.ref x), .val (.ref g0)] [(.ref x)]))
      obtain ⟨T54, h54, L54, X54, e54, B54, Kq54, E54, U54, Fq54, st54⟩ := own_fill X53 hx hl hZ (rc := "com/example/jobs_into_runs/jobsintoruns/http/ApiException") hown (fun d hd => hw d ((by decide +kernel : ∀ d ∈ own_atoms "com/example/jobs_into_runs/jobsintoruns/http/ApiException", d ∈ tables_1) d hd)) hT0 hTK hBelow e53 rfl (a := x) (fun y hy => by simp only [List.mem_append, List.mem_cons, List.not_mem_nil, or_false, false_or] at hy; rcases hy with (rfl | rfl) | rfl <;> rfl) E_x (by rw [hh]; exact U_x) (hw _ (List.mem_of_getElem? (i := 6) rfl)) (u := .null) rfl (SU.ext Od.2) F_st F_bt (g := (mkF m 24 #[.val (.ref x), .val (.ref g0)] [(.ref x)])) rfl (by rw [hml]; rfl) (rest := []) rfl (hb hby own_d_jdk_78_method_2_24) (by decide) (by show 2 * 0 + _ + 42 ≤ _; exact Nat.le_of_ble_eq_true rfl) (by decide) (by decide)
      have N54 := Fr.app N53 (fun y hy => by rw [B54 y hy]; exact ge_x)
      have QF_ca := Fq54 _ _ _ (.object "java/lang/Throwable") _ (Or.inl (hw _ (List.mem_of_getElem? (i := 45) rfl))) (by decide) (by decide) (by decide) (by decide) F_ca
      have QF_su := Fq54 _ _ _ (.object "java/util/List") _ (Or.inl (hw _ (List.mem_of_getElem? (i := 51) rfl))) (by decide) (by decide) (by decide) (by decide) F_su
      have QF_dm := Fq54 _ _ _ (.object "java/lang/String") _ (Or.inl (hw _ (List.mem_of_getElem? (i := 75) rfl))) (by decide) (by decide) (by decide) (by decide) F_dm
      have QF0 := Fq54 _ _ _ .int _ (Or.inr (hw _ (List.mem_of_getElem? (i := 81) rfl))) (by decide) (by decide) (by decide) (by decide) F0
      have QF1 := Fq54 _ _ _ (.object "java/lang/String") _ (Or.inr (hw _ (List.mem_of_getElem? (i := 83) rfl))) (by decide) (by decide) (by decide) (by decide) F1
      have QF2 := Fq54 _ _ _ (.object "java/lang/Long") _ (Or.inr (hw _ (List.mem_of_getElem? (i := 85) rfl))) (by decide) (by decide) (by decide) (by decide) F2
      have Od := Od.keep Kq54 (allS ge_x all0)
      have Kp := Kp.trans Kq54 (allS (Or.inl (List.mem_of_getElem? (i := 0) rfl)) all0)
      have F_ca := QF_ca
      have F_su := QF_su
      have F_dm := QF_dm
      have F0 := QF0
      have F1 := QF1
      have F2 := QF2
      have E_x := E54
      refine own_st st54 ?_
      show own_Go p e below s _ _ _ (T54.setTop (mkF m 27 #[.val (.ref x), .val (.ref g0)] [(.ref x)]))
      refine own_st (fun t9 k9 => XT.pop X54.here hx rfl (hb hby own_d_jdk_78_method_2_27) rfl rfl k9) ?_
      show own_Go p e below s _ _ _ (T54.setTop (mkF m 28 #[.val (.ref x), .val (.ref g0)] []))
      refine own_st (fun t9 k9 => XS.aloadN X54.here hx rfl (hb hby own_d_jdk_78_method_2_28) rfl rfl k9) ?_
      show own_Go p e below s _ _ _ (T54.setTop (mkF m 29 #[.val (.ref x), .val (.ref g0)] [(.ref x)]))
      refine own_st (fun t9 k9 => XS.aloadN X54.here hx rfl (hb hby own_d_jdk_78_method_2_29) rfl rfl k9) ?_
      show own_Go p e below s _ _ _ (T54.setTop (mkF m 30 #[.val (.ref x), .val (.ref g0)] [(.ref g0), (.ref x)]))
      obtain ⟨T55, h55, X55, e55, W55, st55⟩ := putF X54 hx hZ hown (host := "") (Or.inl (hw _ (List.mem_of_getElem? (i := 79) rfl))) Via.refl e54 F_dm E_x (Or.inl (hw _ (List.mem_of_getElem? (i := 75) rfl))) (hw _ (List.mem_of_getElem? (i := 6) rfl)) (ty := (.object "java/lang/String")) (by decide) rfl rfl (g := (mkF m 30 #[.val (.ref x), .val (.ref g0)] [(.ref g0), (.ref x)])) rfl rfl (hb hby own_d_jdk_78_method_2_30)
      have N55 := Fr.snoc X55 N54 ge_x
      have F_ca := F_ca.other W55 (Or.inr (RoadKit.slot_ne (Or.inl (hw _ (List.mem_of_getElem? (i := 45) rfl))) (Or.inl (hw _ (List.mem_of_getElem? (i := 75) rfl))) (by decide) (t := (.object "java/lang/Throwable")) (t' := (.object "java/lang/String")) (by decide) (by decide)))
      have F_su := F_su.other W55 (Or.inr (RoadKit.slot_ne (Or.inl (hw _ (List.mem_of_getElem? (i := 51) rfl))) (Or.inl (hw _ (List.mem_of_getElem? (i := 75) rfl))) (by decide) (t := (.object "java/util/List")) (t' := (.object "java/lang/String")) (by decide) (by decide)))
      have F_dm := F_dm.same W55
      have F0 := F0.other W55 (Or.inr (RoadKit.slot_ne (Or.inr (hw _ (List.mem_of_getElem? (i := 81) rfl))) (Or.inl (hw _ (List.mem_of_getElem? (i := 75) rfl))) (by decide) (t := .int) (t' := (.object "java/lang/String")) (by decide) (by decide)))
      have F1 := F1.other W55 (Or.inr (RoadKit.slot_ne (Or.inr (hw _ (List.mem_of_getElem? (i := 83) rfl))) (Or.inl (hw _ (List.mem_of_getElem? (i := 75) rfl))) (by decide) (t := (.object "java/lang/String")) (t' := (.object "java/lang/String")) (by decide) (by decide)))
      have F2 := F2.other W55 (Or.inr (RoadKit.slot_ne (Or.inr (hw _ (List.mem_of_getElem? (i := 85) rfl))) (Or.inl (hw _ (List.mem_of_getElem? (i := 75) rfl))) (by decide) (t := (.object "java/lang/Long")) (t' := (.object "java/lang/String")) (by decide) (by decide)))
      have E_x := E_x.wr W55
      have Od := Od.wr W55 ge_x
      have Kp := Kp.wr W55 (Or.inl (List.mem_of_getElem? (i := 0) rfl))
      refine own_st st55 ?_
      show own_Go p e below s _ _ _ (T55.setTop (mkF m 33 #[.val (.ref x), .val (.ref g0)] []))
      exact own_retV X55 hx hlk Bd.returns (hb hby own_d_jdk_78_method_2_33) (by decide) (by decide) (by rw [e55]; exact ⟨rfl, N55, Kp, E_x, F0, F1, F2, F_dm⟩)
    · skip
      obtain ⟨T56, X56, e56, st56⟩ := getS (host := "") X49 hx hZ hown (hw _ (List.mem_of_getElem? (i := 46) rfl)) Via.refl e49 (SU.ext Od.2) (g := (mkF m 10 #[.val (.ref x), .val (.ref g0)] [(.ref x)])) rfl (hb hby own_d_jdk_78_method_2_10)
      refine own_st st56 ?_
      show own_Go p e below s _ _ _ (T56.setTop (mkF m 13 #[.val (.ref x), .val (.ref g0)] [.null, (.ref x)]))
      obtain ⟨T57, h57, X57, e57, W57, st57⟩ := putF X56 hx hZ hown (host := "") (Or.inl (hw _ (List.mem_of_getElem? (i := 47) rfl))) Via.refl e56 F_st E_x (Or.inl (hw _ (List.mem_of_getElem? (i := 48) rfl))) (hw _ (List.mem_of_getElem? (i := 6) rfl)) (ty := (.array (.object "java/lang/StackTraceElement"))) (by decide) rfl rfl (g := (mkF m 13 #[.val (.ref x), .val (.ref g0)] [.null, (.ref x)])) rfl rfl (hb hby own_d_jdk_78_method_2_13)
      have N57 := Fr.snoc X57 N49 ge_x
      have E_x := E_x.wr W57
      have F_ca := F_ca.other W57 (Or.inr (RoadKit.slot_ne (Or.inl (hw _ (List.mem_of_getElem? (i := 45) rfl))) (Or.inl (hw _ (List.mem_of_getElem? (i := 48) rfl))) (by decide) (t := (.object "java/lang/Throwable")) (t' := (.array (.object "java/lang/StackTraceElement"))) (by decide) (by decide)))
      have F_st := F_st.same W57
      have F_su := F_su.other W57 (Or.inr (RoadKit.slot_ne (Or.inl (hw _ (List.mem_of_getElem? (i := 51) rfl))) (Or.inl (hw _ (List.mem_of_getElem? (i := 48) rfl))) (by decide) (t := (.object "java/util/List")) (t' := (.array (.object "java/lang/StackTraceElement"))) (by decide) (by decide)))
      have F_bt := F_bt.other W57 (Or.inr (RoadKit.slot_ne (Or.inl (hw _ (List.mem_of_getElem? (i := 76) rfl))) (Or.inl (hw _ (List.mem_of_getElem? (i := 48) rfl))) (by decide) (t := (.object "java/lang/Object")) (t' := (.array (.object "java/lang/StackTraceElement"))) (by decide) (by decide)))
      have F_dm := F_dm.other W57 (Or.inr (RoadKit.slot_ne (Or.inl (hw _ (List.mem_of_getElem? (i := 75) rfl))) (Or.inl (hw _ (List.mem_of_getElem? (i := 48) rfl))) (by decide) (t := (.object "java/lang/String")) (t' := (.array (.object "java/lang/StackTraceElement"))) (by decide) (by decide)))
      have F0 := F0.other W57 (Or.inr (RoadKit.slot_ne (Or.inr (hw _ (List.mem_of_getElem? (i := 81) rfl))) (Or.inl (hw _ (List.mem_of_getElem? (i := 48) rfl))) (by decide) (t := .int) (t' := (.array (.object "java/lang/StackTraceElement"))) (by decide) (by decide)))
      have F1 := F1.other W57 (Or.inr (RoadKit.slot_ne (Or.inr (hw _ (List.mem_of_getElem? (i := 83) rfl))) (Or.inl (hw _ (List.mem_of_getElem? (i := 48) rfl))) (by decide) (t := (.object "java/lang/String")) (t' := (.array (.object "java/lang/StackTraceElement"))) (by decide) (by decide)))
      have F2 := F2.other W57 (Or.inr (RoadKit.slot_ne (Or.inr (hw _ (List.mem_of_getElem? (i := 85) rfl))) (Or.inl (hw _ (List.mem_of_getElem? (i := 48) rfl))) (by decide) (t := (.object "java/lang/Long")) (t' := (.array (.object "java/lang/StackTraceElement"))) (by decide) (by decide)))
      have Od := Od.wr W57 ge_x
      have Kp := Kp.wr W57 (Or.inl (List.mem_of_getElem? (i := 0) rfl))
      refine own_st st57 ?_
      show own_Go p e below s _ _ _ (T57.setTop (mkF m 16 #[.val (.ref x), .val (.ref g0)] []))
      refine own_st (fun t9 k9 => XS.aloadN X57.here hx rfl (hb hby own_d_jdk_78_method_2_16) rfl rfl k9) ?_
      show own_Go p e below s _ _ _ (T57.setTop (mkF m 17 #[.val (.ref x), .val (.ref g0)] [(.ref x)]))
      obtain ⟨T58, X58, e58, st58⟩ := getS (host := "") X57 hx hZ hown (hw _ (List.mem_of_getElem? (i := 49) rfl)) Via.refl e57 (SS.ext Od.2) (g := (mkF m 17 #[.val (.ref x), .val (.ref g0)] [(.ref x)])) rfl (hb hby own_d_jdk_78_method_2_17)
      refine own_st st58 ?_
      show own_Go p e below s _ _ _ (T58.setTop (mkF m 20 #[.val (.ref x), .val (.ref g0)] [(.ref v1), (.ref x)]))
      obtain ⟨T59, h59, X59, e59, W59, st59⟩ := putF X58 hx hZ hown (host := "") (Or.inl (hw _ (List.mem_of_getElem? (i := 50) rfl))) Via.refl e58 F_su E_x (Or.inl (hw _ (List.mem_of_getElem? (i := 51) rfl))) (hw _ (List.mem_of_getElem? (i := 6) rfl)) (ty := (.object "java/util/List")) (by decide) rfl rfl (g := (mkF m 20 #[.val (.ref x), .val (.ref g0)] [(.ref v1), (.ref x)])) rfl rfl (hb hby own_d_jdk_78_method_2_20)
      have N59 := Fr.snoc X59 N57 ge_x
      have E_x := E_x.wr W59
      have F_ca := F_ca.other W59 (Or.inr (RoadKit.slot_ne (Or.inl (hw _ (List.mem_of_getElem? (i := 45) rfl))) (Or.inl (hw _ (List.mem_of_getElem? (i := 51) rfl))) (by decide) (t := (.object "java/lang/Throwable")) (t' := (.object "java/util/List")) (by decide) (by decide)))
      have F_st := F_st.other W59 (Or.inr (RoadKit.slot_ne (Or.inl (hw _ (List.mem_of_getElem? (i := 48) rfl))) (Or.inl (hw _ (List.mem_of_getElem? (i := 51) rfl))) (by decide) (t := (.array (.object "java/lang/StackTraceElement"))) (t' := (.object "java/util/List")) (by decide) (by decide)))
      have F_su := F_su.same W59
      have F_bt := F_bt.other W59 (Or.inr (RoadKit.slot_ne (Or.inl (hw _ (List.mem_of_getElem? (i := 76) rfl))) (Or.inl (hw _ (List.mem_of_getElem? (i := 51) rfl))) (by decide) (t := (.object "java/lang/Object")) (t' := (.object "java/util/List")) (by decide) (by decide)))
      have F_dm := F_dm.other W59 (Or.inr (RoadKit.slot_ne (Or.inl (hw _ (List.mem_of_getElem? (i := 75) rfl))) (Or.inl (hw _ (List.mem_of_getElem? (i := 51) rfl))) (by decide) (t := (.object "java/lang/String")) (t' := (.object "java/util/List")) (by decide) (by decide)))
      have F0 := F0.other W59 (Or.inr (RoadKit.slot_ne (Or.inr (hw _ (List.mem_of_getElem? (i := 81) rfl))) (Or.inl (hw _ (List.mem_of_getElem? (i := 51) rfl))) (by decide) (t := .int) (t' := (.object "java/util/List")) (by decide) (by decide)))
      have F1 := F1.other W59 (Or.inr (RoadKit.slot_ne (Or.inr (hw _ (List.mem_of_getElem? (i := 83) rfl))) (Or.inl (hw _ (List.mem_of_getElem? (i := 51) rfl))) (by decide) (t := (.object "java/lang/String")) (t' := (.object "java/util/List")) (by decide) (by decide)))
      have F2 := F2.other W59 (Or.inr (RoadKit.slot_ne (Or.inr (hw _ (List.mem_of_getElem? (i := 85) rfl))) (Or.inl (hw _ (List.mem_of_getElem? (i := 51) rfl))) (by decide) (t := (.object "java/lang/Long")) (t' := (.object "java/util/List")) (by decide) (by decide)))
      have Od := Od.wr W59 ge_x
      have Kp := Kp.wr W59 (Or.inl (List.mem_of_getElem? (i := 0) rfl))
      refine own_st st59 ?_
      show own_Go p e below s _ _ _ (T59.setTop (mkF m 23 #[.val (.ref x), .val (.ref g0)] []))
      refine own_st (fun t9 k9 => XS.aloadN X59.here hx rfl (hb hby own_d_jdk_78_method_2_23) rfl rfl k9) ?_
      show own_Go p e below s _ _ _ (T59.setTop (mkF m 24 #[.val (.ref x), .val (.ref g0)] [(.ref x)]))
      obtain ⟨T60, h60, L60, X60, e60, B60, Kq60, E60, U60, Fq60, st60⟩ := own_fill X59 hx hl hZ (rc := "com/example/jobs_into_runs/jobsintoruns/http/ApiException") hown (fun d hd => hw d ((by decide +kernel : ∀ d ∈ own_atoms "com/example/jobs_into_runs/jobsintoruns/http/ApiException", d ∈ tables_1) d hd)) hT0 hTK hBelow e59 rfl (a := x) (fun y hy => by simp only [List.mem_append, List.mem_cons, List.not_mem_nil, or_false, false_or] at hy; rcases hy with (rfl | rfl) | rfl <;> rfl) E_x (by rw [hh]; exact U_x) (hw _ (List.mem_of_getElem? (i := 6) rfl)) (u := .null) rfl (SU.ext Od.2) F_st F_bt (g := (mkF m 24 #[.val (.ref x), .val (.ref g0)] [(.ref x)])) rfl (by rw [hml]; rfl) (rest := []) rfl (hb hby own_d_jdk_78_method_2_24) (by decide) (by show 2 * 0 + _ + 42 ≤ _; exact Nat.le_of_ble_eq_true rfl) (by decide) (by decide)
      have N60 := Fr.app N59 (fun y hy => by rw [B60 y hy]; exact ge_x)
      have QF_ca := Fq60 _ _ _ (.object "java/lang/Throwable") _ (Or.inl (hw _ (List.mem_of_getElem? (i := 45) rfl))) (by decide) (by decide) (by decide) (by decide) F_ca
      have QF_su := Fq60 _ _ _ (.object "java/util/List") _ (Or.inl (hw _ (List.mem_of_getElem? (i := 51) rfl))) (by decide) (by decide) (by decide) (by decide) F_su
      have QF_dm := Fq60 _ _ _ (.object "java/lang/String") _ (Or.inl (hw _ (List.mem_of_getElem? (i := 75) rfl))) (by decide) (by decide) (by decide) (by decide) F_dm
      have QF0 := Fq60 _ _ _ .int _ (Or.inr (hw _ (List.mem_of_getElem? (i := 81) rfl))) (by decide) (by decide) (by decide) (by decide) F0
      have QF1 := Fq60 _ _ _ (.object "java/lang/String") _ (Or.inr (hw _ (List.mem_of_getElem? (i := 83) rfl))) (by decide) (by decide) (by decide) (by decide) F1
      have QF2 := Fq60 _ _ _ (.object "java/lang/Long") _ (Or.inr (hw _ (List.mem_of_getElem? (i := 85) rfl))) (by decide) (by decide) (by decide) (by decide) F2
      have Od := Od.keep Kq60 (allS ge_x all0)
      have Kp := Kp.trans Kq60 (allS (Or.inl (List.mem_of_getElem? (i := 0) rfl)) all0)
      have F_ca := QF_ca
      have F_su := QF_su
      have F_dm := QF_dm
      have F0 := QF0
      have F1 := QF1
      have F2 := QF2
      have E_x := E60
      refine own_st st60 ?_
      show own_Go p e below s _ _ _ (T60.setTop (mkF m 27 #[.val (.ref x), .val (.ref g0)] [(.ref x)]))
      refine own_st (fun t9 k9 => XT.pop X60.here hx rfl (hb hby own_d_jdk_78_method_2_27) rfl rfl k9) ?_
      show own_Go p e below s _ _ _ (T60.setTop (mkF m 28 #[.val (.ref x), .val (.ref g0)] []))
      refine own_st (fun t9 k9 => XS.aloadN X60.here hx rfl (hb hby own_d_jdk_78_method_2_28) rfl rfl k9) ?_
      show own_Go p e below s _ _ _ (T60.setTop (mkF m 29 #[.val (.ref x), .val (.ref g0)] [(.ref x)]))
      refine own_st (fun t9 k9 => XS.aloadN X60.here hx rfl (hb hby own_d_jdk_78_method_2_29) rfl rfl k9) ?_
      show own_Go p e below s _ _ _ (T60.setTop (mkF m 30 #[.val (.ref x), .val (.ref g0)] [(.ref g0), (.ref x)]))
      obtain ⟨T61, h61, X61, e61, W61, st61⟩ := putF X60 hx hZ hown (host := "") (Or.inl (hw _ (List.mem_of_getElem? (i := 79) rfl))) Via.refl e60 F_dm E_x (Or.inl (hw _ (List.mem_of_getElem? (i := 75) rfl))) (hw _ (List.mem_of_getElem? (i := 6) rfl)) (ty := (.object "java/lang/String")) (by decide) rfl rfl (g := (mkF m 30 #[.val (.ref x), .val (.ref g0)] [(.ref g0), (.ref x)])) rfl rfl (hb hby own_d_jdk_78_method_2_30)
      have N61 := Fr.snoc X61 N60 ge_x
      have F_ca := F_ca.other W61 (Or.inr (RoadKit.slot_ne (Or.inl (hw _ (List.mem_of_getElem? (i := 45) rfl))) (Or.inl (hw _ (List.mem_of_getElem? (i := 75) rfl))) (by decide) (t := (.object "java/lang/Throwable")) (t' := (.object "java/lang/String")) (by decide) (by decide)))
      have F_su := F_su.other W61 (Or.inr (RoadKit.slot_ne (Or.inl (hw _ (List.mem_of_getElem? (i := 51) rfl))) (Or.inl (hw _ (List.mem_of_getElem? (i := 75) rfl))) (by decide) (t := (.object "java/util/List")) (t' := (.object "java/lang/String")) (by decide) (by decide)))
      have F_dm := F_dm.same W61
      have F0 := F0.other W61 (Or.inr (RoadKit.slot_ne (Or.inr (hw _ (List.mem_of_getElem? (i := 81) rfl))) (Or.inl (hw _ (List.mem_of_getElem? (i := 75) rfl))) (by decide) (t := .int) (t' := (.object "java/lang/String")) (by decide) (by decide)))
      have F1 := F1.other W61 (Or.inr (RoadKit.slot_ne (Or.inr (hw _ (List.mem_of_getElem? (i := 83) rfl))) (Or.inl (hw _ (List.mem_of_getElem? (i := 75) rfl))) (by decide) (t := (.object "java/lang/String")) (t' := (.object "java/lang/String")) (by decide) (by decide)))
      have F2 := F2.other W61 (Or.inr (RoadKit.slot_ne (Or.inr (hw _ (List.mem_of_getElem? (i := 85) rfl))) (Or.inl (hw _ (List.mem_of_getElem? (i := 75) rfl))) (by decide) (t := (.object "java/lang/Long")) (t' := (.object "java/lang/String")) (by decide) (by decide)))
      have E_x := E_x.wr W61
      have Od := Od.wr W61 ge_x
      have Kp := Kp.wr W61 (Or.inl (List.mem_of_getElem? (i := 0) rfl))
      refine own_st st61 ?_
      show own_Go p e below s _ _ _ (T61.setTop (mkF m 33 #[.val (.ref x), .val (.ref g0)] []))
      exact own_retV X61 hx hlk Bd.returns (hb hby own_d_jdk_78_method_2_33) (by decide) (by decide) (by rw [e61]; exact ⟨rfl, N61, Kp, E_x, F0, F1, F2, F_dm⟩)
  · skip
    rcases ref_cases hv with rfl | ⟨v1, rfl⟩
    · skip
      obtain ⟨T62, X62, e62, st62⟩ := getS (host := "") X49 hx hZ hown (hw _ (List.mem_of_getElem? (i := 46) rfl)) Via.refl e49 (SU.ext Od.2) (g := (mkF m 10 #[.val (.ref x), .val (.ref g0)] [(.ref x)])) rfl (hb hby own_d_jdk_78_method_2_10)
      refine own_st st62 ?_
      show own_Go p e below s _ _ _ (T62.setTop (mkF m 13 #[.val (.ref x), .val (.ref g0)] [(.ref u1), (.ref x)]))
      obtain ⟨T63, h63, X63, e63, W63, st63⟩ := putF X62 hx hZ hown (host := "") (Or.inl (hw _ (List.mem_of_getElem? (i := 47) rfl))) Via.refl e62 F_st E_x (Or.inl (hw _ (List.mem_of_getElem? (i := 48) rfl))) (hw _ (List.mem_of_getElem? (i := 6) rfl)) (ty := (.array (.object "java/lang/StackTraceElement"))) (by decide) rfl rfl (g := (mkF m 13 #[.val (.ref x), .val (.ref g0)] [(.ref u1), (.ref x)])) rfl rfl (hb hby own_d_jdk_78_method_2_13)
      have N63 := Fr.snoc X63 N49 ge_x
      have E_x := E_x.wr W63
      have F_ca := F_ca.other W63 (Or.inr (RoadKit.slot_ne (Or.inl (hw _ (List.mem_of_getElem? (i := 45) rfl))) (Or.inl (hw _ (List.mem_of_getElem? (i := 48) rfl))) (by decide) (t := (.object "java/lang/Throwable")) (t' := (.array (.object "java/lang/StackTraceElement"))) (by decide) (by decide)))
      have F_st := F_st.same W63
      have F_su := F_su.other W63 (Or.inr (RoadKit.slot_ne (Or.inl (hw _ (List.mem_of_getElem? (i := 51) rfl))) (Or.inl (hw _ (List.mem_of_getElem? (i := 48) rfl))) (by decide) (t := (.object "java/util/List")) (t' := (.array (.object "java/lang/StackTraceElement"))) (by decide) (by decide)))
      have F_bt := F_bt.other W63 (Or.inr (RoadKit.slot_ne (Or.inl (hw _ (List.mem_of_getElem? (i := 76) rfl))) (Or.inl (hw _ (List.mem_of_getElem? (i := 48) rfl))) (by decide) (t := (.object "java/lang/Object")) (t' := (.array (.object "java/lang/StackTraceElement"))) (by decide) (by decide)))
      have F_dm := F_dm.other W63 (Or.inr (RoadKit.slot_ne (Or.inl (hw _ (List.mem_of_getElem? (i := 75) rfl))) (Or.inl (hw _ (List.mem_of_getElem? (i := 48) rfl))) (by decide) (t := (.object "java/lang/String")) (t' := (.array (.object "java/lang/StackTraceElement"))) (by decide) (by decide)))
      have F0 := F0.other W63 (Or.inr (RoadKit.slot_ne (Or.inr (hw _ (List.mem_of_getElem? (i := 81) rfl))) (Or.inl (hw _ (List.mem_of_getElem? (i := 48) rfl))) (by decide) (t := .int) (t' := (.array (.object "java/lang/StackTraceElement"))) (by decide) (by decide)))
      have F1 := F1.other W63 (Or.inr (RoadKit.slot_ne (Or.inr (hw _ (List.mem_of_getElem? (i := 83) rfl))) (Or.inl (hw _ (List.mem_of_getElem? (i := 48) rfl))) (by decide) (t := (.object "java/lang/String")) (t' := (.array (.object "java/lang/StackTraceElement"))) (by decide) (by decide)))
      have F2 := F2.other W63 (Or.inr (RoadKit.slot_ne (Or.inr (hw _ (List.mem_of_getElem? (i := 85) rfl))) (Or.inl (hw _ (List.mem_of_getElem? (i := 48) rfl))) (by decide) (t := (.object "java/lang/Long")) (t' := (.array (.object "java/lang/StackTraceElement"))) (by decide) (by decide)))
      have Od := Od.wr W63 ge_x
      have Kp := Kp.wr W63 (Or.inl (List.mem_of_getElem? (i := 0) rfl))
      refine own_st st63 ?_
      show own_Go p e below s _ _ _ (T63.setTop (mkF m 16 #[.val (.ref x), .val (.ref g0)] []))
      refine own_st (fun t9 k9 => XS.aloadN X63.here hx rfl (hb hby own_d_jdk_78_method_2_16) rfl rfl k9) ?_
      show own_Go p e below s _ _ _ (T63.setTop (mkF m 17 #[.val (.ref x), .val (.ref g0)] [(.ref x)]))
      obtain ⟨T64, X64, e64, st64⟩ := getS (host := "") X63 hx hZ hown (hw _ (List.mem_of_getElem? (i := 49) rfl)) Via.refl e63 (SS.ext Od.2) (g := (mkF m 17 #[.val (.ref x), .val (.ref g0)] [(.ref x)])) rfl (hb hby own_d_jdk_78_method_2_17)
      refine own_st st64 ?_
      show own_Go p e below s _ _ _ (T64.setTop (mkF m 20 #[.val (.ref x), .val (.ref g0)] [.null, (.ref x)]))
      obtain ⟨T65, h65, X65, e65, W65, st65⟩ := putF X64 hx hZ hown (host := "") (Or.inl (hw _ (List.mem_of_getElem? (i := 50) rfl))) Via.refl e64 F_su E_x (Or.inl (hw _ (List.mem_of_getElem? (i := 51) rfl))) (hw _ (List.mem_of_getElem? (i := 6) rfl)) (ty := (.object "java/util/List")) (by decide) rfl rfl (g := (mkF m 20 #[.val (.ref x), .val (.ref g0)] [.null, (.ref x)])) rfl rfl (hb hby own_d_jdk_78_method_2_20)
      have N65 := Fr.snoc X65 N63 ge_x
      have E_x := E_x.wr W65
      have F_ca := F_ca.other W65 (Or.inr (RoadKit.slot_ne (Or.inl (hw _ (List.mem_of_getElem? (i := 45) rfl))) (Or.inl (hw _ (List.mem_of_getElem? (i := 51) rfl))) (by decide) (t := (.object "java/lang/Throwable")) (t' := (.object "java/util/List")) (by decide) (by decide)))
      have F_st := F_st.other W65 (Or.inr (RoadKit.slot_ne (Or.inl (hw _ (List.mem_of_getElem? (i := 48) rfl))) (Or.inl (hw _ (List.mem_of_getElem? (i := 51) rfl))) (by decide) (t := (.array (.object "java/lang/StackTraceElement"))) (t' := (.object "java/util/List")) (by decide) (by decide)))
      have F_su := F_su.same W65
      have F_bt := F_bt.other W65 (Or.inr (RoadKit.slot_ne (Or.inl (hw _ (List.mem_of_getElem? (i := 76) rfl))) (Or.inl (hw _ (List.mem_of_getElem? (i := 51) rfl))) (by decide) (t := (.object "java/lang/Object")) (t' := (.object "java/util/List")) (by decide) (by decide)))
      have F_dm := F_dm.other W65 (Or.inr (RoadKit.slot_ne (Or.inl (hw _ (List.mem_of_getElem? (i := 75) rfl))) (Or.inl (hw _ (List.mem_of_getElem? (i := 51) rfl))) (by decide) (t := (.object "java/lang/String")) (t' := (.object "java/util/List")) (by decide) (by decide)))
      have F0 := F0.other W65 (Or.inr (RoadKit.slot_ne (Or.inr (hw _ (List.mem_of_getElem? (i := 81) rfl))) (Or.inl (hw _ (List.mem_of_getElem? (i := 51) rfl))) (by decide) (t := .int) (t' := (.object "java/util/List")) (by decide) (by decide)))
      have F1 := F1.other W65 (Or.inr (RoadKit.slot_ne (Or.inr (hw _ (List.mem_of_getElem? (i := 83) rfl))) (Or.inl (hw _ (List.mem_of_getElem? (i := 51) rfl))) (by decide) (t := (.object "java/lang/String")) (t' := (.object "java/util/List")) (by decide) (by decide)))
      have F2 := F2.other W65 (Or.inr (RoadKit.slot_ne (Or.inr (hw _ (List.mem_of_getElem? (i := 85) rfl))) (Or.inl (hw _ (List.mem_of_getElem? (i := 51) rfl))) (by decide) (t := (.object "java/lang/Long")) (t' := (.object "java/util/List")) (by decide) (by decide)))
      have Od := Od.wr W65 ge_x
      have Kp := Kp.wr W65 (Or.inl (List.mem_of_getElem? (i := 0) rfl))
      refine own_st st65 ?_
      show own_Go p e below s _ _ _ (T65.setTop (mkF m 23 #[.val (.ref x), .val (.ref g0)] []))
      refine own_st (fun t9 k9 => XS.aloadN X65.here hx rfl (hb hby own_d_jdk_78_method_2_23) rfl rfl k9) ?_
      show own_Go p e below s _ _ _ (T65.setTop (mkF m 24 #[.val (.ref x), .val (.ref g0)] [(.ref x)]))
      obtain ⟨T66, h66, L66, X66, e66, B66, Kq66, E66, U66, Fq66, st66⟩ := own_fill X65 hx hl hZ (rc := "com/example/jobs_into_runs/jobsintoruns/http/ApiException") hown (fun d hd => hw d ((by decide +kernel : ∀ d ∈ own_atoms "com/example/jobs_into_runs/jobsintoruns/http/ApiException", d ∈ tables_1) d hd)) hT0 hTK hBelow e65 rfl (a := x) (fun y hy => by simp only [List.mem_append, List.mem_cons, List.not_mem_nil, or_false, false_or] at hy; rcases hy with (rfl | rfl) | rfl <;> rfl) E_x (by rw [hh]; exact U_x) (hw _ (List.mem_of_getElem? (i := 6) rfl)) (u := (.ref u1)) rfl (SU.ext Od.2) F_st F_bt (g := (mkF m 24 #[.val (.ref x), .val (.ref g0)] [(.ref x)])) rfl (by rw [hml]; rfl) (rest := []) rfl (hb hby own_d_jdk_78_method_2_24) (by decide) (by show 2 * 0 + _ + 42 ≤ _; exact Nat.le_of_ble_eq_true rfl) (by decide) (by decide)
      have N66 := Fr.app N65 (fun y hy => by rw [B66 y hy]; exact ge_x)
      have QF_ca := Fq66 _ _ _ (.object "java/lang/Throwable") _ (Or.inl (hw _ (List.mem_of_getElem? (i := 45) rfl))) (by decide) (by decide) (by decide) (by decide) F_ca
      have QF_su := Fq66 _ _ _ (.object "java/util/List") _ (Or.inl (hw _ (List.mem_of_getElem? (i := 51) rfl))) (by decide) (by decide) (by decide) (by decide) F_su
      have QF_dm := Fq66 _ _ _ (.object "java/lang/String") _ (Or.inl (hw _ (List.mem_of_getElem? (i := 75) rfl))) (by decide) (by decide) (by decide) (by decide) F_dm
      have QF0 := Fq66 _ _ _ .int _ (Or.inr (hw _ (List.mem_of_getElem? (i := 81) rfl))) (by decide) (by decide) (by decide) (by decide) F0
      have QF1 := Fq66 _ _ _ (.object "java/lang/String") _ (Or.inr (hw _ (List.mem_of_getElem? (i := 83) rfl))) (by decide) (by decide) (by decide) (by decide) F1
      have QF2 := Fq66 _ _ _ (.object "java/lang/Long") _ (Or.inr (hw _ (List.mem_of_getElem? (i := 85) rfl))) (by decide) (by decide) (by decide) (by decide) F2
      have Od := Od.keep Kq66 (allS ge_x all0)
      have Kp := Kp.trans Kq66 (allS (Or.inl (List.mem_of_getElem? (i := 0) rfl)) all0)
      have F_ca := QF_ca
      have F_su := QF_su
      have F_dm := QF_dm
      have F0 := QF0
      have F1 := QF1
      have F2 := QF2
      have E_x := E66
      refine own_st st66 ?_
      show own_Go p e below s _ _ _ (T66.setTop (mkF m 27 #[.val (.ref x), .val (.ref g0)] [(.ref x)]))
      refine own_st (fun t9 k9 => XT.pop X66.here hx rfl (hb hby own_d_jdk_78_method_2_27) rfl rfl k9) ?_
      show own_Go p e below s _ _ _ (T66.setTop (mkF m 28 #[.val (.ref x), .val (.ref g0)] []))
      refine own_st (fun t9 k9 => XS.aloadN X66.here hx rfl (hb hby own_d_jdk_78_method_2_28) rfl rfl k9) ?_
      show own_Go p e below s _ _ _ (T66.setTop (mkF m 29 #[.val (.ref x), .val (.ref g0)] [(.ref x)]))
      refine own_st (fun t9 k9 => XS.aloadN X66.here hx rfl (hb hby own_d_jdk_78_method_2_29) rfl rfl k9) ?_
      show own_Go p e below s _ _ _ (T66.setTop (mkF m 30 #[.val (.ref x), .val (.ref g0)] [(.ref g0), (.ref x)]))
      obtain ⟨T67, h67, X67, e67, W67, st67⟩ := putF X66 hx hZ hown (host := "") (Or.inl (hw _ (List.mem_of_getElem? (i := 79) rfl))) Via.refl e66 F_dm E_x (Or.inl (hw _ (List.mem_of_getElem? (i := 75) rfl))) (hw _ (List.mem_of_getElem? (i := 6) rfl)) (ty := (.object "java/lang/String")) (by decide) rfl rfl (g := (mkF m 30 #[.val (.ref x), .val (.ref g0)] [(.ref g0), (.ref x)])) rfl rfl (hb hby own_d_jdk_78_method_2_30)
      have N67 := Fr.snoc X67 N66 ge_x
      have F_ca := F_ca.other W67 (Or.inr (RoadKit.slot_ne (Or.inl (hw _ (List.mem_of_getElem? (i := 45) rfl))) (Or.inl (hw _ (List.mem_of_getElem? (i := 75) rfl))) (by decide) (t := (.object "java/lang/Throwable")) (t' := (.object "java/lang/String")) (by decide) (by decide)))
      have F_su := F_su.other W67 (Or.inr (RoadKit.slot_ne (Or.inl (hw _ (List.mem_of_getElem? (i := 51) rfl))) (Or.inl (hw _ (List.mem_of_getElem? (i := 75) rfl))) (by decide) (t := (.object "java/util/List")) (t' := (.object "java/lang/String")) (by decide) (by decide)))
      have F_dm := F_dm.same W67
      have F0 := F0.other W67 (Or.inr (RoadKit.slot_ne (Or.inr (hw _ (List.mem_of_getElem? (i := 81) rfl))) (Or.inl (hw _ (List.mem_of_getElem? (i := 75) rfl))) (by decide) (t := .int) (t' := (.object "java/lang/String")) (by decide) (by decide)))
      have F1 := F1.other W67 (Or.inr (RoadKit.slot_ne (Or.inr (hw _ (List.mem_of_getElem? (i := 83) rfl))) (Or.inl (hw _ (List.mem_of_getElem? (i := 75) rfl))) (by decide) (t := (.object "java/lang/String")) (t' := (.object "java/lang/String")) (by decide) (by decide)))
      have F2 := F2.other W67 (Or.inr (RoadKit.slot_ne (Or.inr (hw _ (List.mem_of_getElem? (i := 85) rfl))) (Or.inl (hw _ (List.mem_of_getElem? (i := 75) rfl))) (by decide) (t := (.object "java/lang/Long")) (t' := (.object "java/lang/String")) (by decide) (by decide)))
      have E_x := E_x.wr W67
      have Od := Od.wr W67 ge_x
      have Kp := Kp.wr W67 (Or.inl (List.mem_of_getElem? (i := 0) rfl))
      refine own_st st67 ?_
      show own_Go p e below s _ _ _ (T67.setTop (mkF m 33 #[.val (.ref x), .val (.ref g0)] []))
      exact own_retV X67 hx hlk Bd.returns (hb hby own_d_jdk_78_method_2_33) (by decide) (by decide) (by rw [e67]; exact ⟨rfl, N67, Kp, E_x, F0, F1, F2, F_dm⟩)
    · skip
      obtain ⟨T68, X68, e68, st68⟩ := getS (host := "") X49 hx hZ hown (hw _ (List.mem_of_getElem? (i := 46) rfl)) Via.refl e49 (SU.ext Od.2) (g := (mkF m 10 #[.val (.ref x), .val (.ref g0)] [(.ref x)])) rfl (hb hby own_d_jdk_78_method_2_10)
      refine own_st st68 ?_
      show own_Go p e below s _ _ _ (T68.setTop (mkF m 13 #[.val (.ref x), .val (.ref g0)] [(.ref u1), (.ref x)]))
      obtain ⟨T69, h69, X69, e69, W69, st69⟩ := putF X68 hx hZ hown (host := "") (Or.inl (hw _ (List.mem_of_getElem? (i := 47) rfl))) Via.refl e68 F_st E_x (Or.inl (hw _ (List.mem_of_getElem? (i := 48) rfl))) (hw _ (List.mem_of_getElem? (i := 6) rfl)) (ty := (.array (.object "java/lang/StackTraceElement"))) (by decide) rfl rfl (g := (mkF m 13 #[.val (.ref x), .val (.ref g0)] [(.ref u1), (.ref x)])) rfl rfl (hb hby own_d_jdk_78_method_2_13)
      have N69 := Fr.snoc X69 N49 ge_x
      have E_x := E_x.wr W69
      have F_ca := F_ca.other W69 (Or.inr (RoadKit.slot_ne (Or.inl (hw _ (List.mem_of_getElem? (i := 45) rfl))) (Or.inl (hw _ (List.mem_of_getElem? (i := 48) rfl))) (by decide) (t := (.object "java/lang/Throwable")) (t' := (.array (.object "java/lang/StackTraceElement"))) (by decide) (by decide)))
      have F_st := F_st.same W69
      have F_su := F_su.other W69 (Or.inr (RoadKit.slot_ne (Or.inl (hw _ (List.mem_of_getElem? (i := 51) rfl))) (Or.inl (hw _ (List.mem_of_getElem? (i := 48) rfl))) (by decide) (t := (.object "java/util/List")) (t' := (.array (.object "java/lang/StackTraceElement"))) (by decide) (by decide)))
      have F_bt := F_bt.other W69 (Or.inr (RoadKit.slot_ne (Or.inl (hw _ (List.mem_of_getElem? (i := 76) rfl))) (Or.inl (hw _ (List.mem_of_getElem? (i := 48) rfl))) (by decide) (t := (.object "java/lang/Object")) (t' := (.array (.object "java/lang/StackTraceElement"))) (by decide) (by decide)))
      have F_dm := F_dm.other W69 (Or.inr (RoadKit.slot_ne (Or.inl (hw _ (List.mem_of_getElem? (i := 75) rfl))) (Or.inl (hw _ (List.mem_of_getElem? (i := 48) rfl))) (by decide) (t := (.object "java/lang/String")) (t' := (.array (.object "java/lang/StackTraceElement"))) (by decide) (by decide)))
      have F0 := F0.other W69 (Or.inr (RoadKit.slot_ne (Or.inr (hw _ (List.mem_of_getElem? (i := 81) rfl))) (Or.inl (hw _ (List.mem_of_getElem? (i := 48) rfl))) (by decide) (t := .int) (t' := (.array (.object "java/lang/StackTraceElement"))) (by decide) (by decide)))
      have F1 := F1.other W69 (Or.inr (RoadKit.slot_ne (Or.inr (hw _ (List.mem_of_getElem? (i := 83) rfl))) (Or.inl (hw _ (List.mem_of_getElem? (i := 48) rfl))) (by decide) (t := (.object "java/lang/String")) (t' := (.array (.object "java/lang/StackTraceElement"))) (by decide) (by decide)))
      have F2 := F2.other W69 (Or.inr (RoadKit.slot_ne (Or.inr (hw _ (List.mem_of_getElem? (i := 85) rfl))) (Or.inl (hw _ (List.mem_of_getElem? (i := 48) rfl))) (by decide) (t := (.object "java/lang/Long")) (t' := (.array (.object "java/lang/StackTraceElement"))) (by decide) (by decide)))
      have Od := Od.wr W69 ge_x
      have Kp := Kp.wr W69 (Or.inl (List.mem_of_getElem? (i := 0) rfl))
      refine own_st st69 ?_
      show own_Go p e below s _ _ _ (T69.setTop (mkF m 16 #[.val (.ref x), .val (.ref g0)] []))
      refine own_st (fun t9 k9 => XS.aloadN X69.here hx rfl (hb hby own_d_jdk_78_method_2_16) rfl rfl k9) ?_
      show own_Go p e below s _ _ _ (T69.setTop (mkF m 17 #[.val (.ref x), .val (.ref g0)] [(.ref x)]))
      obtain ⟨T70, X70, e70, st70⟩ := getS (host := "") X69 hx hZ hown (hw _ (List.mem_of_getElem? (i := 49) rfl)) Via.refl e69 (SS.ext Od.2) (g := (mkF m 17 #[.val (.ref x), .val (.ref g0)] [(.ref x)])) rfl (hb hby own_d_jdk_78_method_2_17)
      refine own_st st70 ?_
      show own_Go p e below s _ _ _ (T70.setTop (mkF m 20 #[.val (.ref x), .val (.ref g0)] [(.ref v1), (.ref x)]))
      obtain ⟨T71, h71, X71, e71, W71, st71⟩ := putF X70 hx hZ hown (host := "") (Or.inl (hw _ (List.mem_of_getElem? (i := 50) rfl))) Via.refl e70 F_su E_x (Or.inl (hw _ (List.mem_of_getElem? (i := 51) rfl))) (hw _ (List.mem_of_getElem? (i := 6) rfl)) (ty := (.object "java/util/List")) (by decide) rfl rfl (g := (mkF m 20 #[.val (.ref x), .val (.ref g0)] [(.ref v1), (.ref x)])) rfl rfl (hb hby own_d_jdk_78_method_2_20)
      have N71 := Fr.snoc X71 N69 ge_x
      have E_x := E_x.wr W71
      have F_ca := F_ca.other W71 (Or.inr (RoadKit.slot_ne (Or.inl (hw _ (List.mem_of_getElem? (i := 45) rfl))) (Or.inl (hw _ (List.mem_of_getElem? (i := 51) rfl))) (by decide) (t := (.object "java/lang/Throwable")) (t' := (.object "java/util/List")) (by decide) (by decide)))
      have F_st := F_st.other W71 (Or.inr (RoadKit.slot_ne (Or.inl (hw _ (List.mem_of_getElem? (i := 48) rfl))) (Or.inl (hw _ (List.mem_of_getElem? (i := 51) rfl))) (by decide) (t := (.array (.object "java/lang/StackTraceElement"))) (t' := (.object "java/util/List")) (by decide) (by decide)))
      have F_su := F_su.same W71
      have F_bt := F_bt.other W71 (Or.inr (RoadKit.slot_ne (Or.inl (hw _ (List.mem_of_getElem? (i := 76) rfl))) (Or.inl (hw _ (List.mem_of_getElem? (i := 51) rfl))) (by decide) (t := (.object "java/lang/Object")) (t' := (.object "java/util/List")) (by decide) (by decide)))
      have F_dm := F_dm.other W71 (Or.inr (RoadKit.slot_ne (Or.inl (hw _ (List.mem_of_getElem? (i := 75) rfl))) (Or.inl (hw _ (List.mem_of_getElem? (i := 51) rfl))) (by decide) (t := (.object "java/lang/String")) (t' := (.object "java/util/List")) (by decide) (by decide)))
      have F0 := F0.other W71 (Or.inr (RoadKit.slot_ne (Or.inr (hw _ (List.mem_of_getElem? (i := 81) rfl))) (Or.inl (hw _ (List.mem_of_getElem? (i := 51) rfl))) (by decide) (t := .int) (t' := (.object "java/util/List")) (by decide) (by decide)))
      have F1 := F1.other W71 (Or.inr (RoadKit.slot_ne (Or.inr (hw _ (List.mem_of_getElem? (i := 83) rfl))) (Or.inl (hw _ (List.mem_of_getElem? (i := 51) rfl))) (by decide) (t := (.object "java/lang/String")) (t' := (.object "java/util/List")) (by decide) (by decide)))
      have F2 := F2.other W71 (Or.inr (RoadKit.slot_ne (Or.inr (hw _ (List.mem_of_getElem? (i := 85) rfl))) (Or.inl (hw _ (List.mem_of_getElem? (i := 51) rfl))) (by decide) (t := (.object "java/lang/Long")) (t' := (.object "java/util/List")) (by decide) (by decide)))
      have Od := Od.wr W71 ge_x
      have Kp := Kp.wr W71 (Or.inl (List.mem_of_getElem? (i := 0) rfl))
      refine own_st st71 ?_
      show own_Go p e below s _ _ _ (T71.setTop (mkF m 23 #[.val (.ref x), .val (.ref g0)] []))
      refine own_st (fun t9 k9 => XS.aloadN X71.here hx rfl (hb hby own_d_jdk_78_method_2_23) rfl rfl k9) ?_
      show own_Go p e below s _ _ _ (T71.setTop (mkF m 24 #[.val (.ref x), .val (.ref g0)] [(.ref x)]))
      obtain ⟨T72, h72, L72, X72, e72, B72, Kq72, E72, U72, Fq72, st72⟩ := own_fill X71 hx hl hZ (rc := "com/example/jobs_into_runs/jobsintoruns/http/ApiException") hown (fun d hd => hw d ((by decide +kernel : ∀ d ∈ own_atoms "com/example/jobs_into_runs/jobsintoruns/http/ApiException", d ∈ tables_1) d hd)) hT0 hTK hBelow e71 rfl (a := x) (fun y hy => by simp only [List.mem_append, List.mem_cons, List.not_mem_nil, or_false, false_or] at hy; rcases hy with (rfl | rfl) | rfl <;> rfl) E_x (by rw [hh]; exact U_x) (hw _ (List.mem_of_getElem? (i := 6) rfl)) (u := (.ref u1)) rfl (SU.ext Od.2) F_st F_bt (g := (mkF m 24 #[.val (.ref x), .val (.ref g0)] [(.ref x)])) rfl (by rw [hml]; rfl) (rest := []) rfl (hb hby own_d_jdk_78_method_2_24) (by decide) (by show 2 * 0 + _ + 42 ≤ _; exact Nat.le_of_ble_eq_true rfl) (by decide) (by decide)
      have N72 := Fr.app N71 (fun y hy => by rw [B72 y hy]; exact ge_x)
      have QF_ca := Fq72 _ _ _ (.object "java/lang/Throwable") _ (Or.inl (hw _ (List.mem_of_getElem? (i := 45) rfl))) (by decide) (by decide) (by decide) (by decide) F_ca
      have QF_su := Fq72 _ _ _ (.object "java/util/List") _ (Or.inl (hw _ (List.mem_of_getElem? (i := 51) rfl))) (by decide) (by decide) (by decide) (by decide) F_su
      have QF_dm := Fq72 _ _ _ (.object "java/lang/String") _ (Or.inl (hw _ (List.mem_of_getElem? (i := 75) rfl))) (by decide) (by decide) (by decide) (by decide) F_dm
      have QF0 := Fq72 _ _ _ .int _ (Or.inr (hw _ (List.mem_of_getElem? (i := 81) rfl))) (by decide) (by decide) (by decide) (by decide) F0
      have QF1 := Fq72 _ _ _ (.object "java/lang/String") _ (Or.inr (hw _ (List.mem_of_getElem? (i := 83) rfl))) (by decide) (by decide) (by decide) (by decide) F1
      have QF2 := Fq72 _ _ _ (.object "java/lang/Long") _ (Or.inr (hw _ (List.mem_of_getElem? (i := 85) rfl))) (by decide) (by decide) (by decide) (by decide) F2
      have Od := Od.keep Kq72 (allS ge_x all0)
      have Kp := Kp.trans Kq72 (allS (Or.inl (List.mem_of_getElem? (i := 0) rfl)) all0)
      have F_ca := QF_ca
      have F_su := QF_su
      have F_dm := QF_dm
      have F0 := QF0
      have F1 := QF1
      have F2 := QF2
      have E_x := E72
      refine own_st st72 ?_
      show own_Go p e below s _ _ _ (T72.setTop (mkF m 27 #[.val (.ref x), .val (.ref g0)] [(.ref x)]))
      refine own_st (fun t9 k9 => XT.pop X72.here hx rfl (hb hby own_d_jdk_78_method_2_27) rfl rfl k9) ?_
      show own_Go p e below s _ _ _ (T72.setTop (mkF m 28 #[.val (.ref x), .val (.ref g0)] []))
      refine own_st (fun t9 k9 => XS.aloadN X72.here hx rfl (hb hby own_d_jdk_78_method_2_28) rfl rfl k9) ?_
      show own_Go p e below s _ _ _ (T72.setTop (mkF m 29 #[.val (.ref x), .val (.ref g0)] [(.ref x)]))
      refine own_st (fun t9 k9 => XS.aloadN X72.here hx rfl (hb hby own_d_jdk_78_method_2_29) rfl rfl k9) ?_
      show own_Go p e below s _ _ _ (T72.setTop (mkF m 30 #[.val (.ref x), .val (.ref g0)] [(.ref g0), (.ref x)]))
      obtain ⟨T73, h73, X73, e73, W73, st73⟩ := putF X72 hx hZ hown (host := "") (Or.inl (hw _ (List.mem_of_getElem? (i := 79) rfl))) Via.refl e72 F_dm E_x (Or.inl (hw _ (List.mem_of_getElem? (i := 75) rfl))) (hw _ (List.mem_of_getElem? (i := 6) rfl)) (ty := (.object "java/lang/String")) (by decide) rfl rfl (g := (mkF m 30 #[.val (.ref x), .val (.ref g0)] [(.ref g0), (.ref x)])) rfl rfl (hb hby own_d_jdk_78_method_2_30)
      have N73 := Fr.snoc X73 N72 ge_x
      have F_ca := F_ca.other W73 (Or.inr (RoadKit.slot_ne (Or.inl (hw _ (List.mem_of_getElem? (i := 45) rfl))) (Or.inl (hw _ (List.mem_of_getElem? (i := 75) rfl))) (by decide) (t := (.object "java/lang/Throwable")) (t' := (.object "java/lang/String")) (by decide) (by decide)))
      have F_su := F_su.other W73 (Or.inr (RoadKit.slot_ne (Or.inl (hw _ (List.mem_of_getElem? (i := 51) rfl))) (Or.inl (hw _ (List.mem_of_getElem? (i := 75) rfl))) (by decide) (t := (.object "java/util/List")) (t' := (.object "java/lang/String")) (by decide) (by decide)))
      have F_dm := F_dm.same W73
      have F0 := F0.other W73 (Or.inr (RoadKit.slot_ne (Or.inr (hw _ (List.mem_of_getElem? (i := 81) rfl))) (Or.inl (hw _ (List.mem_of_getElem? (i := 75) rfl))) (by decide) (t := .int) (t' := (.object "java/lang/String")) (by decide) (by decide)))
      have F1 := F1.other W73 (Or.inr (RoadKit.slot_ne (Or.inr (hw _ (List.mem_of_getElem? (i := 83) rfl))) (Or.inl (hw _ (List.mem_of_getElem? (i := 75) rfl))) (by decide) (t := (.object "java/lang/String")) (t' := (.object "java/lang/String")) (by decide) (by decide)))
      have F2 := F2.other W73 (Or.inr (RoadKit.slot_ne (Or.inr (hw _ (List.mem_of_getElem? (i := 85) rfl))) (Or.inl (hw _ (List.mem_of_getElem? (i := 75) rfl))) (by decide) (t := (.object "java/lang/Long")) (t' := (.object "java/lang/String")) (by decide) (by decide)))
      have E_x := E_x.wr W73
      have Od := Od.wr W73 ge_x
      have Kp := Kp.wr W73 (Or.inl (List.mem_of_getElem? (i := 0) rfl))
      refine own_st st73 ?_
      show own_Go p e below s _ _ _ (T73.setTop (mkF m 33 #[.val (.ref x), .val (.ref g0)] []))
      exact own_retV X73 hx hlk Bd.returns (hb hby own_d_jdk_78_method_2_33) (by decide) (by decide) (by rw [e73]; exact ⟨rfl, N73, Kp, E_x, F0, F1, F2, F_dm⟩)
theorem own_ef_exR (m : MethodId) (x0 : Addr) (x1 : Addr) : entryFrame m #[(.ref x0), (.ref x1)] 2 = mkF m 0 #[.val (.ref x0), .val (.ref x1)] [] := by first | (simp [entryFrame, mkF, argsToLocals, Value.category]; done) | rfl
def own_Q_exR (Z : State) (x : Addr) (g0 : Addr) (h0 : Heap) (n0 : Nat) (v : Option Value) (h : Heap) (L : List Loc) : Prop := v = none ∧ Fr n0 L ∧ Keep h0 h [x] ∧ Exa Z h x "com/example/jobs_into_runs/jobsintoruns/http/ApiException" ∧ Fld Z h x "com/example/jobs_into_runs/jobsintoruns/http/ApiException" "status" "I" (.int (0 : Int32)) ∧ Fld Z h x "com/example/jobs_into_runs/jobsintoruns/http/ApiException" "allowed" "Ljava/lang/String;" .null ∧ Fld Z h x "com/example/jobs_into_runs/jobsintoruns/http/ApiException" "run" "Ljava/lang/Long;" .null ∧ Fld Z h x "java/lang/Throwable" "detailMessage" "Ljava/lang/String;" (.ref g0)
set_option maxRecDepth 65536 in
set_option maxHeartbeats 40000000 in
theorem own_rm_exR (l : Launch) (Z : State) (a0 : Array Value) (hw : ∀ d ∈ tables_1, d.before a0 Z = true) (ws : List Jvm.Cond) (x : Addr) (g0 : Addr) (uu sv : Value) (h0 : Heap) (n0 : Nat) (Od : Old Z n0 h0) (E_x : Exa Z h0 x "com/example/jobs_into_runs/jobsintoruns/http/ApiException") (U_x : Unt h0 x) (F_ca : Fld Z h0 x "java/lang/Throwable" "cause" "Ljava/lang/Throwable;" .null) (F_st : Fld Z h0 x "java/lang/Throwable" "stackTrace" "[Ljava/lang/StackTraceElement;" .null) (F_su : Fld Z h0 x "java/lang/Throwable" "suppressedExceptions" "Ljava/util/List;" .null) (F_bt : Fld Z h0 x "java/lang/Throwable" "backtrace" "Ljava/lang/Object;" .null) (F_dm : Fld Z h0 x "java/lang/Throwable" "detailMessage" "Ljava/lang/String;" .null) (F0 : Fld Z h0 x "com/example/jobs_into_runs/jobsintoruns/http/ApiException" "status" "I" (.int (0 : Int32))) (F1 : Fld Z h0 x "com/example/jobs_into_runs/jobsintoruns/http/ApiException" "allowed" "Ljava/lang/String;" .null) (F2 : Fld Z h0 x "com/example/jobs_into_runs/jobsintoruns/http/ApiException" "run" "Ljava/lang/Long;" .null) (ge_x : n0 ≤ x) (hl : l.stackTraces = true) (SU : Sta Z Z.heap "java/lang/Throwable" "UNASSIGNED_STACK" "[Ljava/lang/StackTraceElement;" uu) (hu : uu.isRef = true) (SS : Sta Z Z.heap "java/lang/Throwable" "SUPPRESSED_SENTINEL" "Ljava/util/List;" sv) (hv : sv.isRef = true) :
    MetFree l (⟨"java/lang/Exception", "<init>", "(Ljava/lang/String;)V"⟩ : MethodName) (head1 (Jvm.Cond.code (⟨"java/lang/Exception", "<init>", "(Ljava/lang/String;)V"⟩ : MethodName) jdk_59_method_2_code 2 none :: ws) ({ frames := 4, cells := 1, slots := 2752, locals := 55 } : Room)) (fun a9 U => a9 = #[(.ref x), (.ref g0)] ∧ Z.Warmed39 U.vm ∧ U.heap = h0) (fun _ _ bl s _ => s.vm.MethodsKnown ∧ s.vm.FramesKnown bl) (fun _ U o U' => ∃ v L, o = .returned v ∧ own_Q_exR Z x g0 h0 n0 v U'.heap L ∧ FrameEnd U o U' L ({ frames := 4, cells := 1, slots := 2752, locals := 55 } : Room).cells ({ frames := 4, cells := 1, slots := 2752, locals := 55 } : Room).slots) := by
  refine MetFree.of_bodySF (plainFor_of_name own_pn4) hisR ?_
  intro p e s m args below meth c s₁ Bd hml0 hP hK
  obtain ⟨rfl, hZ, hh⟩ := hP
  have hx := Bd.exec
  have hby := Bd.bytes
  have hml : c.maxLocals = 2 := hml0
  have hown : s.vm.findClass "java/lang/Exception" = some m.cls := findClass_of_methodNamed Bd.named
  have hnm := (name_of_methodNamed Bd.named Bd.method).1
  have hlk : meth.locks = false := Bd.notSynchronized
  have X0 : Stand p l e ({ frames := 4, cells := 1, slots := 2752, locals := 55 } : Room) s m #[(.ref x), (.ref g0)] below meth c s₁ [] 0 0 := Stand.of_body Bd
  have e0 : s₁.heap = h0 := by rw [← hh, Bd.state]; rfl
  have N0 := Fr.nil n0
  show own_Go p e below s (own_Q_exR Z x g0 h0 n0) ({ frames := 4, cells := 1, slots := 2752, locals := 55 } : Room).cells ({ frames := 4, cells := 1, slots := 2752, locals := 55 } : Room).slots (s₁.setTop (entryFrame m #[(.ref x), (.ref g0)] 2))
  refine own_st (fun t9 k9 => castTop (own_ef_exR m x g0) k9) ?_
  show own_Go p e below s _ _ _ (s₁.setTop (mkF m 0 #[.val (.ref x), .val (.ref g0)] []))
  obtain ⟨hTK, hBelow⟩ := hK
  have hT0 : ThS Z s.heap := by rw [hh]; exact ThS.ext Od.2 ThS.start
  have Kp : Keep h0 h0 [x] := Keep.refl h0 [x]
  refine own_st (fun t9 k9 => XS.aloadN X0.here hx rfl (hb hby own_d_jdk_59_method_2_0) rfl rfl k9) ?_
  show own_Go p e below s _ _ _ (s₁.setTop (mkF m 1 #[.val (.ref x), .val (.ref g0)] [(.ref x)]))
  refine own_st (fun t9 k9 => XS.aloadN X0.here hx rfl (hb hby own_d_jdk_59_method_2_1) rfl rfl k9) ?_
  show own_Go p e below s _ _ _ (s₁.setTop (mkF m 2 #[.val (.ref x), .val (.ref g0)] [(.ref g0), (.ref x)]))
  obtain ⟨_, T74, h74, L74, X74, e74, ⟨rfl, Nc, Kc, E_y, G0, G1, G2, G3⟩, st74⟩ := own_backI X0 hx hZ hown rfl (hw _ (List.mem_of_getElem? (i := 37) rfl)) (hw _ (List.mem_of_getElem? (i := 38) rfl)) (hw _ (List.mem_of_getElem? (i := 42) rfl)) (by decide) (backOfKL (W := 0) (own_rm_thR l Z a0 hw [] x g0 uu sv h0 n0 Od E_x U_x F_ca F_st F_su F_bt F_dm F0 F1 F2 ge_x hl SU hu SS hv) hZ (hw _ (List.mem_of_getElem? (i := 42) rfl)) (hw _ (List.mem_of_getElem? (i := 41) rfl)) (by decide) (by decide) hTK hBelow) e0 (a := x) (W := 0) (g := (mkF m 2 #[.val (.ref x), .val (.ref g0)] [(.ref g0), (.ref x)])) rfl (by rw [hml]; rfl) (argsL := [(.ref g0)]) (rest := []) rfl (lenOf own_pd3 rfl) rfl (by show 2 * 0 + _ ≤ _; exact Nat.le_of_eq rfl) (hb hby own_d_jdk_59_method_2_2) (by decide) (by decide)
  have N74 := Fr.app N0 Nc
  have E_x := E_x.keep Kc
  have Od := Od.keep Kc (allS ge_x all0)
  have Kp := Kp.trans Kc (allS (Or.inl (List.mem_of_getElem? (i := 0) rfl)) all0)
  refine own_st st74 ?_
  show own_Go p e below s _ _ _ (T74.setTop (mkF m 5 #[.val (.ref x), .val (.ref g0)] []))
  exact own_retV X74 hx hlk Bd.returns (hb hby own_d_jdk_59_method_2_5) (by decide) (by decide) (by rw [e74]; exact ⟨rfl, N74, Kp, E_y, G0, G1, G2, G3⟩)
theorem own_ef_aiR (m : MethodId) (x0 : Addr) (x1 : Int32) (x2 : Addr) (x4 : Addr) : entryFrame m #[(.ref x0), (.int x1), (.ref x2), .null, (.ref x4)] 5 = mkF m 0 #[.val (.ref x0), .val (.int x1), .val (.ref x2), .val .null, .val (.ref x4)] [] := by first | (simp [entryFrame, mkF, argsToLocals, Value.category]; done) | rfl
def own_Q_aiR (Z : State) (x : Addr) (g0 : Addr) (lg : Addr) (h0 : Heap) (n0 : Nat) (v : Option Value) (h : Heap) (L : List Loc) : Prop := v = none ∧ Fr n0 L ∧ Keep h0 h [x] ∧ Exa Z h x "com/example/jobs_into_runs/jobsintoruns/http/ApiException" ∧ Fld Z h x "com/example/jobs_into_runs/jobsintoruns/http/ApiException" "status" "I" (.int (409 : Int32)) ∧ Fld Z h x "com/example/jobs_into_runs/jobsintoruns/http/ApiException" "allowed" "Ljava/lang/String;" .null ∧ Fld Z h x "com/example/jobs_into_runs/jobsintoruns/http/ApiException" "run" "Ljava/lang/Long;" (.ref lg) ∧ Fld Z h x "java/lang/Throwable" "detailMessage" "Ljava/lang/String;" (.ref g0)
set_option maxRecDepth 65536 in
set_option maxHeartbeats 40000000 in
theorem own_rm_aiR (l : Launch) (Z : State) (a0 : Array Value) (hw : ∀ d ∈ tables_1, d.before a0 Z = true) (ws : List Jvm.Cond) (x : Addr) (g0 : Addr) (lg : Addr) (uu sv : Value) (h0 : Heap) (n0 : Nat) (Od : Old Z n0 h0) (E_x : Exa Z h0 x "com/example/jobs_into_runs/jobsintoruns/http/ApiException") (U_x : Unt h0 x) (F_ca : Fld Z h0 x "java/lang/Throwable" "cause" "Ljava/lang/Throwable;" .null) (F_st : Fld Z h0 x "java/lang/Throwable" "stackTrace" "[Ljava/lang/StackTraceElement;" .null) (F_su : Fld Z h0 x "java/lang/Throwable" "suppressedExceptions" "Ljava/util/List;" .null) (F_bt : Fld Z h0 x "java/lang/Throwable" "backtrace" "Ljava/lang/Object;" .null) (F_dm : Fld Z h0 x "java/lang/Throwable" "detailMessage" "Ljava/lang/String;" .null) (F0 : Fld Z h0 x "com/example/jobs_into_runs/jobsintoruns/http/ApiException" "status" "I" (.int (0 : Int32))) (F1 : Fld Z h0 x "com/example/jobs_into_runs/jobsintoruns/http/ApiException" "allowed" "Ljava/lang/String;" .null) (F2 : Fld Z h0 x "com/example/jobs_into_runs/jobsintoruns/http/ApiException" "run" "Ljava/lang/Long;" .null) (ge_x : n0 ≤ x) (hl : l.stackTraces = true) (SU : Sta Z Z.heap "java/lang/Throwable" "UNASSIGNED_STACK" "[Ljava/lang/StackTraceElement;" uu) (hu : uu.isRef = true) (SS : Sta Z Z.heap "java/lang/Throwable" "SUPPRESSED_SENTINEL" "Ljava/util/List;" sv) (hv : sv.isRef = true) :
    MetFree l (⟨"com/example/jobs_into_runs/jobsintoruns/http/ApiException", "<init>", "(ILjava/lang/String;Ljava/lang/String;Ljava/lang/Long;)V"⟩ : MethodName) (head1 (Jvm.Cond.code (⟨"com/example/jobs_into_runs/jobsintoruns/http/ApiException", "<init>", "(ILjava/lang/String;Ljava/lang/String;Ljava/lang/Long;)V"⟩ : MethodName) prog_33_method_3_code 5 none :: ws) ({ frames := 5, cells := 1, slots := 2752, locals := 68 } : Room)) (fun a9 U => a9 = #[(.ref x), (.int (409 : Int32)), (.ref g0), .null, (.ref lg)] ∧ Z.Warmed39 U.vm ∧ U.heap = h0) (fun _ _ bl s _ => s.vm.MethodsKnown ∧ s.vm.FramesKnown bl) (fun _ U o U' => ∃ v L, o = .returned v ∧ own_Q_aiR Z x g0 lg h0 n0 v U'.heap L ∧ FrameEnd U o U' L ({ frames := 5, cells := 1, slots := 2752, locals := 68 } : Room).cells ({ frames := 5, cells := 1, slots := 2752, locals := 68 } : Room).slots) := by
  refine MetFree.of_bodySF (plainFor_of_name own_pn5) hisR ?_
  intro p e s m args below meth c s₁ Bd hml0 hP hK
  obtain ⟨rfl, hZ, hh⟩ := hP
  have hx := Bd.exec
  have hby := Bd.bytes
  have hml : c.maxLocals = 5 := hml0
  have hown : s.vm.findClass "com/example/jobs_into_runs/jobsintoruns/http/ApiException" = some m.cls := findClass_of_methodNamed Bd.named
  have hnm := (name_of_methodNamed Bd.named Bd.method).1
  have hlk : meth.locks = false := Bd.notSynchronized
  have X0 : Stand p l e ({ frames := 5, cells := 1, slots := 2752, locals := 68 } : Room) s m #[(.ref x), (.int (409 : Int32)), (.ref g0), .null, (.ref lg)] below meth c s₁ [] 0 0 := Stand.of_body Bd
  have e0 : s₁.heap = h0 := by rw [← hh, Bd.state]; rfl
  have N0 := Fr.nil n0
  show own_Go p e below s (own_Q_aiR Z x g0 lg h0 n0) ({ frames := 5, cells := 1, slots := 2752, locals := 68 } : Room).cells ({ frames := 5, cells := 1, slots := 2752, locals := 68 } : Room).slots (s₁.setTop (entryFrame m #[(.ref x), (.int (409 : Int32)), (.ref g0), .null, (.ref lg)] 5))
  refine own_st (fun t9 k9 => castTop (own_ef_aiR m x (409 : Int32) g0 lg) k9) ?_
  show own_Go p e below s _ _ _ (s₁.setTop (mkF m 0 #[.val (.ref x), .val (.int (409 : Int32)), .val (.ref g0), .val .null, .val (.ref lg)] []))
  obtain ⟨hTK, hBelow⟩ := hK
  have hT0 : ThS Z s.heap := by rw [hh]; exact ThS.ext Od.2 ThS.start
  have Kp : Keep h0 h0 [x] := Keep.refl h0 [x]
  refine own_st (fun t9 k9 => XS.aloadN X0.here hx rfl (hb hby own_d_prog_33_method_3_0) rfl rfl k9) ?_
  show own_Go p e below s _ _ _ (s₁.setTop (mkF m 1 #[.val (.ref x), .val (.int (409 : Int32)), .val (.ref g0), .val .null, .val (.ref lg)] [(.ref x)]))
  refine own_st (fun t9 k9 => XS.aloadN X0.here hx rfl (hb hby own_d_prog_33_method_3_1) rfl rfl k9) ?_
  show own_Go p e below s _ _ _ (s₁.setTop (mkF m 2 #[.val (.ref x), .val (.int (409 : Int32)), .val (.ref g0), .val .null, .val (.ref lg)] [(.ref g0), (.ref x)]))
  obtain ⟨_, T75, h75, L75, X75, e75, ⟨rfl, Nc, Kc, E_y, G0, G1, G2, G3⟩, st75⟩ := own_backI X0 hx hZ hown rfl (hw _ (List.mem_of_getElem? (i := 32) rfl)) (hw _ (List.mem_of_getElem? (i := 33) rfl)) (hw _ (List.mem_of_getElem? (i := 36) rfl)) (by decide) (backOfKL (W := 0) (own_rm_exR l Z a0 hw [] x g0 uu sv h0 n0 Od E_x U_x F_ca F_st F_su F_bt F_dm F0 F1 F2 ge_x hl SU hu SS hv) hZ (hw _ (List.mem_of_getElem? (i := 36) rfl)) (hw _ (List.mem_of_getElem? (i := 35) rfl)) (by decide) (by decide) hTK hBelow) e0 (a := x) (W := 0) (g := (mkF m 2 #[.val (.ref x), .val (.int (409 : Int32)), .val (.ref g0), .val .null, .val (.ref lg)] [(.ref g0), (.ref x)])) rfl (by rw [hml]; rfl) (argsL := [(.ref g0)]) (rest := []) rfl (lenOf own_pd3 rfl) rfl (by show 2 * 0 + _ ≤ _; exact Nat.le_of_eq rfl) (hb hby own_d_prog_33_method_3_2) (by decide) (by decide)
  have N75 := Fr.app N0 Nc
  have E_x := E_x.keep Kc
  have Od := Od.keep Kc (allS ge_x all0)
  have Kp := Kp.trans Kc (allS (Or.inl (List.mem_of_getElem? (i := 0) rfl)) all0)
  refine own_st st75 ?_
  show own_Go p e below s _ _ _ (T75.setTop (mkF m 5 #[.val (.ref x), .val (.int (409 : Int32)), .val (.ref g0), .val .null, .val (.ref lg)] []))
  have F0 := G0
  have F1 := G1
  have F2 := G2
  refine own_st (fun t9 k9 => XS.aloadN X75.here hx rfl (hb hby own_d_prog_33_method_3_5) rfl rfl k9) ?_
  show own_Go p e below s _ _ _ (T75.setTop (mkF m 6 #[.val (.ref x), .val (.int (409 : Int32)), .val (.ref g0), .val .null, .val (.ref lg)] [(.ref x)]))
  refine own_st (fun t9 k9 => XS.iloadN X75.here hx rfl (hb hby own_d_prog_33_method_3_6) rfl  k9) ?_
  show own_Go p e below s _ _ _ (T75.setTop (mkF m 7 #[.val (.ref x), .val (.int (409 : Int32)), .val (.ref g0), .val .null, .val (.ref lg)] [(.int (409 : Int32)), (.ref x)]))
  obtain ⟨T76, h76, X76, e76, W76, st76⟩ := putF X75 hx hZ hown (host := "") (Or.inl (hw _ (List.mem_of_getElem? (i := 80) rfl))) Via.refl e75 F0 E_x (Or.inr ⟨(hw _ (List.mem_of_getElem? (i := 81) rfl)), rfl, hnm⟩) (hw _ (List.mem_of_getElem? (i := 6) rfl)) (ty := .int) (by decide) rfl rfl (g := (mkF m 7 #[.val (.ref x), .val (.int (409 : Int32)), .val (.ref g0), .val .null, .val (.ref lg)] [(.int (409 : Int32)), (.ref x)])) rfl rfl (hb hby own_d_prog_33_method_3_7)
  have N76 := Fr.snoc X76 N75 ge_x
  have E_x := E_x.wr W76
  have F0 := F0.same W76
  have F1 := F1.other W76 (Or.inr (RoadKit.slot_ne (Or.inr (hw _ (List.mem_of_getElem? (i := 83) rfl))) (Or.inr (hw _ (List.mem_of_getElem? (i := 81) rfl))) (by decide) (t := (.object "java/lang/String")) (t' := .int) (by decide) (by decide)))
  have F2 := F2.other W76 (Or.inr (RoadKit.slot_ne (Or.inr (hw _ (List.mem_of_getElem? (i := 85) rfl))) (Or.inr (hw _ (List.mem_of_getElem? (i := 81) rfl))) (by decide) (t := (.object "java/lang/Long")) (t' := .int) (by decide) (by decide)))
  have G3 := G3.other W76 (Or.inr (RoadKit.slot_ne (Or.inl (hw _ (List.mem_of_getElem? (i := 75) rfl))) (Or.inr (hw _ (List.mem_of_getElem? (i := 81) rfl))) (by decide) (t := (.object "java/lang/String")) (t' := .int) (by decide) (by decide)))
  have Od := Od.wr W76 ge_x
  have Kp := Kp.wr W76 (Or.inl (List.mem_of_getElem? (i := 0) rfl))
  refine own_st st76 ?_
  show own_Go p e below s _ _ _ (T76.setTop (mkF m 10 #[.val (.ref x), .val (.int (409 : Int32)), .val (.ref g0), .val .null, .val (.ref lg)] []))
  refine own_st (fun t9 k9 => XS.aloadN X76.here hx rfl (hb hby own_d_prog_33_method_3_10) rfl rfl k9) ?_
  show own_Go p e below s _ _ _ (T76.setTop (mkF m 11 #[.val (.ref x), .val (.int (409 : Int32)), .val (.ref g0), .val .null, .val (.ref lg)] [(.ref x)]))
  refine own_st (fun t9 k9 => XS.aloadN X76.here hx rfl (hb hby own_d_prog_33_method_3_11) rfl rfl k9) ?_
  show own_Go p e below s _ _ _ (T76.setTop (mkF m 12 #[.val (.ref x), .val (.int (409 : Int32)), .val (.ref g0), .val .null, .val (.ref lg)] [.null, (.ref x)]))
  obtain ⟨T77, h77, X77, e77, W77, st77⟩ := putF X76 hx hZ hown (host := "") (Or.inl (hw _ (List.mem_of_getElem? (i := 82) rfl))) Via.refl e76 F1 E_x (Or.inr ⟨(hw _ (List.mem_of_getElem? (i := 83) rfl)), rfl, hnm⟩) (hw _ (List.mem_of_getElem? (i := 6) rfl)) (ty := (.object "java/lang/String")) (by decide) rfl rfl (g := (mkF m 12 #[.val (.ref x), .val (.int (409 : Int32)), .val (.ref g0), .val .null, .val (.ref lg)] [.null, (.ref x)])) rfl rfl (hb hby own_d_prog_33_method_3_12)
  have N77 := Fr.snoc X77 N76 ge_x
  have E_x := E_x.wr W77
  have F0 := F0.other W77 (Or.inr (RoadKit.slot_ne (Or.inr (hw _ (List.mem_of_getElem? (i := 81) rfl))) (Or.inr (hw _ (List.mem_of_getElem? (i := 83) rfl))) (by decide) (t := .int) (t' := (.object "java/lang/String")) (by decide) (by decide)))
  have F1 := F1.same W77
  have F2 := F2.other W77 (Or.inr (RoadKit.slot_ne (Or.inr (hw _ (List.mem_of_getElem? (i := 85) rfl))) (Or.inr (hw _ (List.mem_of_getElem? (i := 83) rfl))) (by decide) (t := (.object "java/lang/Long")) (t' := (.object "java/lang/String")) (by decide) (by decide)))
  have G3 := G3.other W77 (Or.inr (RoadKit.slot_ne (Or.inl (hw _ (List.mem_of_getElem? (i := 75) rfl))) (Or.inr (hw _ (List.mem_of_getElem? (i := 83) rfl))) (by decide) (t := (.object "java/lang/String")) (t' := (.object "java/lang/String")) (by decide) (by decide)))
  have Od := Od.wr W77 ge_x
  have Kp := Kp.wr W77 (Or.inl (List.mem_of_getElem? (i := 0) rfl))
  refine own_st st77 ?_
  show own_Go p e below s _ _ _ (T77.setTop (mkF m 15 #[.val (.ref x), .val (.int (409 : Int32)), .val (.ref g0), .val .null, .val (.ref lg)] []))
  refine own_st (fun t9 k9 => XS.aloadN X77.here hx rfl (hb hby own_d_prog_33_method_3_15) rfl rfl k9) ?_
  show own_Go p e below s _ _ _ (T77.setTop (mkF m 16 #[.val (.ref x), .val (.int (409 : Int32)), .val (.ref g0), .val .null, .val (.ref lg)] [(.ref x)]))
  refine own_st (fun t9 k9 => XS.aload X77.here hx rfl (hb hby own_d_prog_33_method_3_16) rfl rfl k9) ?_
  show own_Go p e below s _ _ _ (T77.setTop (mkF m 18 #[.val (.ref x), .val (.int (409 : Int32)), .val (.ref g0), .val .null, .val (.ref lg)] [(.ref lg), (.ref x)]))
  obtain ⟨T78, h78, X78, e78, W78, st78⟩ := putF X77 hx hZ hown (host := "") (Or.inl (hw _ (List.mem_of_getElem? (i := 84) rfl))) Via.refl e77 F2 E_x (Or.inr ⟨(hw _ (List.mem_of_getElem? (i := 85) rfl)), rfl, hnm⟩) (hw _ (List.mem_of_getElem? (i := 6) rfl)) (ty := (.object "java/lang/Long")) (by decide) rfl rfl (g := (mkF m 18 #[.val (.ref x), .val (.int (409 : Int32)), .val (.ref g0), .val .null, .val (.ref lg)] [(.ref lg), (.ref x)])) rfl rfl (hb hby own_d_prog_33_method_3_18)
  have N78 := Fr.snoc X78 N77 ge_x
  have E_x := E_x.wr W78
  have F0 := F0.other W78 (Or.inr (RoadKit.slot_ne (Or.inr (hw _ (List.mem_of_getElem? (i := 81) rfl))) (Or.inr (hw _ (List.mem_of_getElem? (i := 85) rfl))) (by decide) (t := .int) (t' := (.object "java/lang/Long")) (by decide) (by decide)))
  have F1 := F1.other W78 (Or.inr (RoadKit.slot_ne (Or.inr (hw _ (List.mem_of_getElem? (i := 83) rfl))) (Or.inr (hw _ (List.mem_of_getElem? (i := 85) rfl))) (by decide) (t := (.object "java/lang/String")) (t' := (.object "java/lang/Long")) (by decide) (by decide)))
  have F2 := F2.same W78
  have G3 := G3.other W78 (Or.inr (RoadKit.slot_ne (Or.inl (hw _ (List.mem_of_getElem? (i := 75) rfl))) (Or.inr (hw _ (List.mem_of_getElem? (i := 85) rfl))) (by decide) (t := (.object "java/lang/String")) (t' := (.object "java/lang/Long")) (by decide) (by decide)))
  have Od := Od.wr W78 ge_x
  have Kp := Kp.wr W78 (Or.inl (List.mem_of_getElem? (i := 0) rfl))
  refine own_st st78 ?_
  show own_Go p e below s _ _ _ (T78.setTop (mkF m 21 #[.val (.ref x), .val (.int (409 : Int32)), .val (.ref g0), .val .null, .val (.ref lg)] []))
  exact own_retV X78 hx hlk Bd.returns (hb hby own_d_prog_33_method_3_21) (by decide) (by decide) (by rw [e78]; exact ⟨rfl, N78, Kp, E_x, F0, F1, F2, G3⟩)
theorem own_d_prog_33_method_4_0 : decode prog_33_method_4_code 0 = .ok (.new 2, 3) := by decide +kernel
theorem own_d_prog_33_method_4_3 : decode prog_33_method_4_code 3 = .ok (.dup, 1) := by decide +kernel
theorem own_d_prog_33_method_4_4 : decode prog_33_method_4_code 4 = .ok (.sipush 409, 3) := by decide +kernel
theorem own_d_prog_33_method_4_7 : decode prog_33_method_4_code 7 = .ok (.aload_n 0, 1) := by decide +kernel
theorem own_d_prog_33_method_4_8 : decode prog_33_method_4_code 8 = .ok (.aconst_null, 1) := by decide +kernel
theorem own_d_prog_33_method_4_9 : decode prog_33_method_4_code 9 = .ok (.lload_n 1, 1) := by decide +kernel
theorem own_pd4 : parseMethodDescriptor "(J)Ljava/lang/Long;" = some ⟨[.long], some (.object "java/lang/Long")⟩ := by decide +kernel
theorem own_d_prog_33_method_4_10 : decode prog_33_method_4_code 10 = .ok (.invokestatic 24, 3) := by decide +kernel
theorem own_pd5 : parseMethodDescriptor "(ILjava/lang/String;Ljava/lang/String;Ljava/lang/Long;)V" = some ⟨[.int, (.object "java/lang/String"), (.object "java/lang/String"), (.object "java/lang/Long")], none⟩ := by decide +kernel
theorem own_d_prog_33_method_4_13 : decode prog_33_method_4_code 13 = .ok (.invokespecial 1, 3) := by decide +kernel
theorem own_d_prog_33_method_4_16 : decode prog_33_method_4_code 16 = .ok (.areturn, 1) := by decide +kernel
theorem own_ef_cfN (m : MethodId) (x1 : Int64) : entryFrame m #[.null, (.long x1)] 3 = mkF m 0 #[.val .null, .val (.long x1), .second] [] := by first | (simp [entryFrame, mkF, argsToLocals, Value.category]; done) | rfl
def own_Q_cfN (Z : State) (q : Int64) (h0 : Heap) (n0 : Nat) (v : Option Value) (h : Heap) (L : List Loc) : Prop := Fr n0 L ∧ Keep h0 h [] ∧ ∃ x lg, v = some (.ref x) ∧ h0.size ≤ x ∧ Exa Z h x "com/example/jobs_into_runs/jobsintoruns/http/ApiException" ∧ Fld Z h x "com/example/jobs_into_runs/jobsintoruns/http/ApiException" "status" "I" (.int (409 : Int32)) ∧ Fld Z h x "com/example/jobs_into_runs/jobsintoruns/http/ApiException" "allowed" "Ljava/lang/String;" .null ∧ Fld Z h x "com/example/jobs_into_runs/jobsintoruns/http/ApiException" "run" "Ljava/lang/Long;" (.ref lg) ∧ Fld Z h x "java/lang/Throwable" "detailMessage" "Ljava/lang/String;" .null ∧ Exa Z h lg "java/lang/Long" ∧ Fld Z h lg "java/lang/Long" "value" "J" (.long q)
set_option maxRecDepth 65536 in
set_option maxHeartbeats 40000000 in
theorem own_rm_cfN (l : Launch) (Z : State) (a0 : Array Value) (hw : ∀ d ∈ tables_1, d.before a0 Z = true) (ws : List Jvm.Cond) (q : Int64) (ca : Addr) (cl : Cell) (uu sv : Value) (h0 : Heap) (n0 : Nat) (Od : Old Z n0 h0) (SC : Sta Z Z.heap "java/lang/Long$LongCache" "cache" "[Ljava/lang/Long;" (.ref ca)) (AC : Arr Z Z.heap ca cl (.object "java/lang/Long")) (HC : own_Cache Z cl) (hl : l.stackTraces = true) (SU : Sta Z Z.heap "java/lang/Throwable" "UNASSIGNED_STACK" "[Ljava/lang/StackTraceElement;" uu) (hu : uu.isRef = true) (SS : Sta Z Z.heap "java/lang/Throwable" "SUPPRESSED_SENTINEL" "Ljava/util/List;" sv) (hv : sv.isRef = true) :
    MetFree l (⟨"com/example/jobs_into_runs/jobsintoruns/http/ApiException", "conflict", "(Ljava/lang/String;J)Lcom/example/jobs_into_runs/jobsintoruns/http/ApiException;"⟩ : MethodName) (head1 (Jvm.Cond.code (⟨"com/example/jobs_into_runs/jobsintoruns/http/ApiException", "conflict", "(Ljava/lang/String;J)Lcom/example/jobs_into_runs/jobsintoruns/http/ApiException;"⟩ : MethodName) prog_33_method_4_code 3 (some (.object "com/example/jobs_into_runs/jobsintoruns/http/ApiException")) :: ws) ({ frames := 6, cells := 3, slots := 2762, locals := 85 } : Room)) (fun a9 U => a9 = #[.null, (.long q)] ∧ Z.Warmed39 U.vm ∧ U.heap = h0) (fun _ _ bl s _ => s.vm.MethodsKnown ∧ s.vm.FramesKnown bl) (fun _ U o U' => ∃ v L, o = .returned v ∧ own_Q_cfN Z q h0 n0 v U'.heap L ∧ FrameEnd U o U' L ({ frames := 6, cells := 3, slots := 2762, locals := 85 } : Room).cells ({ frames := 6, cells := 3, slots := 2762, locals := 85 } : Room).slots) := by
  refine MetFree.of_bodySF (plainFor_of_name own_pn5) hisR ?_
  intro p e s m args below meth c s₁ Bd hml0 hP hK
  obtain ⟨rfl, hZ, hh⟩ := hP
  have hx := Bd.exec
  have hby := Bd.bytes
  have hml : c.maxLocals = 3 := hml0
  have hown : s.vm.findClass "com/example/jobs_into_runs/jobsintoruns/http/ApiException" = some m.cls := findClass_of_methodNamed Bd.named
  have hnm := (name_of_methodNamed Bd.named Bd.method).1
  have hlk : meth.locks = false := Bd.notSynchronized
  have X0 : Stand p l e ({ frames := 6, cells := 3, slots := 2762, locals := 85 } : Room) s m #[.null, (.long q)] below meth c s₁ [] 0 0 := Stand.of_body Bd
  have e0 : s₁.heap = h0 := by rw [← hh, Bd.state]; rfl
  have N0 := Fr.nil n0
  show own_Go p e below s (own_Q_cfN Z q h0 n0) ({ frames := 6, cells := 3, slots := 2762, locals := 85 } : Room).cells ({ frames := 6, cells := 3, slots := 2762, locals := 85 } : Room).slots (s₁.setTop (entryFrame m #[.null, (.long q)] 3))
  refine own_st (fun t9 k9 => castTop (own_ef_cfN m q) k9) ?_
  show own_Go p e below s _ _ _ (s₁.setTop (mkF m 0 #[.val .null, .val (.long q), .second] []))
  obtain ⟨hTK, hBelow⟩ := hK
  have Kp : Keep h0 h0 [] := Keep.refl h0 []
  obtain ⟨T79, h79, X79, e79, E79, A79, D79, U79, st79⟩ := newO X0 hx hZ hown (hw _ (List.mem_of_getElem? (i := 5) rfl)) (hw _ (List.mem_of_getElem? (i := 6) rfl)) (hw _ (List.mem_of_getElem? (i := 3) rfl)) e0 (g := (mkF m 0 #[.val .null, .val (.long q), .second] [])) rfl (hb hby own_d_prog_33_method_4_0) (by decide) (by decide)
  obtain ⟨x, g79⟩ : ∃ z, z = h0.size := ⟨_, rfl⟩
  rw [← g79] at A79 D79 st79 U79
  have ge_x : n0 ≤ x := Nat.le_trans (own_z0 Od) (Nat.le_of_eq g79.symm)
  have gz_x : h0.size ≤ x := Nat.le_trans Kp.1 (Nat.le_of_eq g79.symm)
  have Od := Od.ext E79
  have Kp := Kp.ext E79
  refine own_st st79 ?_
  show own_Go p e below s _ _ _ (T79.setTop (mkF m 3 #[.val .null, .val (.long q), .second] [(.ref x)]))
  have E_x : Exa Z h79 x "com/example/jobs_into_runs/jobsintoruns/http/ApiException" := A79
  have U_x : Unt h79 x := U79
  have F_ca : Fld Z h79 x "java/lang/Throwable" "cause" "Ljava/lang/Throwable;" .null := D79 (Or.inl (hw _ (List.mem_of_getElem? (i := 45) rfl))) (ty := (.object "java/lang/Throwable")) (by decide)
  have F_st : Fld Z h79 x "java/lang/Throwable" "stackTrace" "[Ljava/lang/StackTraceElement;" .null := D79 (Or.inl (hw _ (List.mem_of_getElem? (i := 48) rfl))) (ty := (.array (.object "java/lang/StackTraceElement"))) (by decide)
  have F_su : Fld Z h79 x "java/lang/Throwable" "suppressedExceptions" "Ljava/util/List;" .null := D79 (Or.inl (hw _ (List.mem_of_getElem? (i := 51) rfl))) (ty := (.object "java/util/List")) (by decide)
  have F_bt : Fld Z h79 x "java/lang/Throwable" "backtrace" "Ljava/lang/Object;" .null := D79 (Or.inl (hw _ (List.mem_of_getElem? (i := 76) rfl))) (ty := (.object "java/lang/Object")) (by decide)
  have F_dm : Fld Z h79 x "java/lang/Throwable" "detailMessage" "Ljava/lang/String;" .null := D79 (Or.inl (hw _ (List.mem_of_getElem? (i := 75) rfl))) (ty := (.object "java/lang/String")) (by decide)
  have F0 : Fld Z h79 x "com/example/jobs_into_runs/jobsintoruns/http/ApiException" "status" "I" (.int (0 : Int32)) := D79 (Or.inr (hw _ (List.mem_of_getElem? (i := 81) rfl))) (ty := .int) (by decide)
  have F1 : Fld Z h79 x "com/example/jobs_into_runs/jobsintoruns/http/ApiException" "allowed" "Ljava/lang/String;" .null := D79 (Or.inr (hw _ (List.mem_of_getElem? (i := 83) rfl))) (ty := (.object "java/lang/String")) (by decide)
  have F2 : Fld Z h79 x "com/example/jobs_into_runs/jobsintoruns/http/ApiException" "run" "Ljava/lang/Long;" .null := D79 (Or.inr (hw _ (List.mem_of_getElem? (i := 85) rfl))) (ty := (.object "java/lang/Long")) (by decide)
  refine own_st (fun t9 k9 => XS.dup X79.here hx rfl (hb hby own_d_prog_33_method_4_3) rfl rfl k9) ?_
  show own_Go p e below s _ _ _ (T79.setTop (mkF m 4 #[.val .null, .val (.long q), .second] [(.ref x), (.ref x)]))
  refine own_st (fun t9 k9 => XS.sipush X79.here hx rfl (hb hby own_d_prog_33_method_4_4) k9) ?_
  show own_Go p e below s _ _ _ (T79.setTop (mkF m 7 #[.val .null, .val (.long q), .second] [(.int (409 : Int32)), (.ref x), (.ref x)]))
  refine own_st (fun t9 k9 => XS.aloadN X79.here hx rfl (hb hby own_d_prog_33_method_4_7) rfl rfl k9) ?_
  show own_Go p e below s _ _ _ (T79.setTop (mkF m 8 #[.val .null, .val (.long q), .second] [.null, (.int (409 : Int32)), (.ref x), (.ref x)]))
  refine own_st (fun t9 k9 => XS.aconstNull X79.here hx rfl (hb hby own_d_prog_33_method_4_8) k9) ?_
  show own_Go p e below s _ _ _ (T79.setTop (mkF m 9 #[.val .null, .val (.long q), .second] [.null, .null, (.int (409 : Int32)), (.ref x), (.ref x)]))
  refine own_st (fun t9 k9 => XT.lloadN X79.here hx rfl (hb hby own_d_prog_33_method_4_9) rfl  k9) ?_
  show own_Go p e below s _ _ _ (T79.setTop (mkF m 10 #[.val .null, .val (.long q), .second] [(.long q), .null, .null, (.int (409 : Int32)), (.ref x), (.ref x)]))
  obtain ⟨_, T80, h80, L80, X80, e80, ⟨Nc, Kc, lg, rfl, E_g, F_g⟩, st80⟩ := own_callS X79 hx hZ hown (hw _ (List.mem_of_getElem? (i := 7) rfl)) (hw _ (List.mem_of_getElem? (i := 8) rfl)) (hw _ (List.mem_of_getElem? (i := 9) rfl)) (hw _ (List.mem_of_getElem? (i := 10) rfl)) (by decide) (own_rm_lgv l Z a0 hw [] q ca cl h79 n0 Od SC AC HC) (by decide) (by decide) e79 (W := 5) (g := (mkF m 10 #[.val .null, .val (.long q), .second] [(.long q), .null, .null, (.int (409 : Int32)), (.ref x), (.ref x)])) rfl (by rw [hml]; rfl) (argsL := [(.long q)]) (rest := [.null, .null, (.int (409 : Int32)), (.ref x), (.ref x)]) rfl (lenOf own_pd4 rfl) rfl (by show 2 * 0 + _ ≤ _; exact Nat.le_of_eq rfl) (hb hby own_d_prog_33_method_4_10) (by decide) (by decide)
  have N80 := Fr.app N0 Nc
  have E_x := E_x.keep Kc
  have U_x := U_x.keep Kc nin0
  have F_ca := F_ca.keep Kc nin0
  have F_st := F_st.keep Kc nin0
  have F_su := F_su.keep Kc nin0
  have F_bt := F_bt.keep Kc nin0
  have F_dm := F_dm.keep Kc nin0
  have F0 := F0.keep Kc nin0
  have F1 := F1.keep Kc nin0
  have F2 := F2.keep Kc nin0
  have Od := Od.keep Kc all0
  have Kp := Kp.trans Kc all0
  refine own_st st80 ?_
  show own_Go p e below s _ _ _ (T80.setTop (mkF m 13 #[.val .null, .val (.long q), .second] [(.ref lg), .null, .null, (.int (409 : Int32)), (.ref x), (.ref x)]))
  have ne_lg_x : lg ≠ x := Exa.ne E_g E_x (by decide)
  obtain ⟨_, T81, h81, L81, X81, e81, ⟨rfl, Nd, Kd, E_y, G0, G1, G2, G3⟩, st81⟩ := own_backI X80 hx hZ hown rfl (hw _ (List.mem_of_getElem? (i := 29) rfl)) (hw _ (List.mem_of_getElem? (i := 30) rfl)) (hw _ (List.mem_of_getElem? (i := 31) rfl)) (by decide) (backOfKL (W := 1) (own_rm_aiN l Z a0 hw [] x lg uu sv h80 n0 Od E_x U_x F_ca F_st F_su F_bt F_dm F0 F1 F2 ge_x hl SU hu SS hv) hZ (hw _ (List.mem_of_getElem? (i := 31) rfl)) (hw _ (List.mem_of_getElem? (i := 3) rfl)) (by decide) (by decide) hTK hBelow) e80 (a := x) (W := 1) (g := (mkF m 13 #[.val .null, .val (.long q), .second] [(.ref lg), .null, .null, (.int (409 : Int32)), (.ref x), (.ref x)])) rfl (by rw [hml]; rfl) (argsL := [(.int (409 : Int32)), .null, .null, (.ref lg)]) (rest := [(.ref x)]) rfl (lenOf own_pd5 rfl) rfl (by show 2 * 0 + _ ≤ _; exact Nat.le_of_eq rfl) (hb hby own_d_prog_33_method_4_13) (by decide) (by decide)
  have N81 := Fr.app N80 Nd
  have E_x := E_x.keep Kd
  have E_g := E_g.keep Kd
  have F_g := F_g.keep Kd (ninS ne_lg_x nin0)
  have Od := Od.keep Kd (allS ge_x all0)
  have Kp := Kp.trans Kd (allS (Or.inr gz_x) all0)
  refine own_st st81 ?_
  show own_Go p e below s _ _ _ (T81.setTop (mkF m 16 #[.val .null, .val (.long q), .second] [(.ref x)]))
  exact own_retR X81 hx hlk Bd.returns rfl rfl (hb hby own_d_prog_33_method_4_16) (by decide) (by decide) (by rw [e81]; exact ⟨N81, Kp, x, lg, rfl, gz_x, E_y, G0, G1, G2, G3, E_g, F_g⟩)
theorem own_ef_cfR (m : MethodId) (x0 : Addr) (x1 : Int64) : entryFrame m #[(.ref x0), (.long x1)] 3 = mkF m 0 #[.val (.ref x0), .val (.long x1), .second] [] := by first | (simp [entryFrame, mkF, argsToLocals, Value.category]; done) | rfl
def own_Q_cfR (Z : State) (g0 : Addr) (q : Int64) (h0 : Heap) (n0 : Nat) (v : Option Value) (h : Heap) (L : List Loc) : Prop := Fr n0 L ∧ Keep h0 h [] ∧ ∃ x lg, v = some (.ref x) ∧ h0.size ≤ x ∧ Exa Z h x "com/example/jobs_into_runs/jobsintoruns/http/ApiException" ∧ Fld Z h x "com/example/jobs_into_runs/jobsintoruns/http/ApiException" "status" "I" (.int (409 : Int32)) ∧ Fld Z h x "com/example/jobs_into_runs/jobsintoruns/http/ApiException" "allowed" "Ljava/lang/String;" .null ∧ Fld Z h x "com/example/jobs_into_runs/jobsintoruns/http/ApiException" "run" "Ljava/lang/Long;" (.ref lg) ∧ Fld Z h x "java/lang/Throwable" "detailMessage" "Ljava/lang/String;" (.ref g0) ∧ Exa Z h lg "java/lang/Long" ∧ Fld Z h lg "java/lang/Long" "value" "J" (.long q)
set_option maxRecDepth 65536 in
set_option maxHeartbeats 40000000 in
theorem own_rm_cfR (l : Launch) (Z : State) (a0 : Array Value) (hw : ∀ d ∈ tables_1, d.before a0 Z = true) (ws : List Jvm.Cond) (g0 : Addr) (q : Int64) (ca : Addr) (cl : Cell) (uu sv : Value) (h0 : Heap) (n0 : Nat) (Od : Old Z n0 h0) (SC : Sta Z Z.heap "java/lang/Long$LongCache" "cache" "[Ljava/lang/Long;" (.ref ca)) (AC : Arr Z Z.heap ca cl (.object "java/lang/Long")) (HC : own_Cache Z cl) (hl : l.stackTraces = true) (SU : Sta Z Z.heap "java/lang/Throwable" "UNASSIGNED_STACK" "[Ljava/lang/StackTraceElement;" uu) (hu : uu.isRef = true) (SS : Sta Z Z.heap "java/lang/Throwable" "SUPPRESSED_SENTINEL" "Ljava/util/List;" sv) (hv : sv.isRef = true) :
    MetFree l (⟨"com/example/jobs_into_runs/jobsintoruns/http/ApiException", "conflict", "(Ljava/lang/String;J)Lcom/example/jobs_into_runs/jobsintoruns/http/ApiException;"⟩ : MethodName) (head1 (Jvm.Cond.code (⟨"com/example/jobs_into_runs/jobsintoruns/http/ApiException", "conflict", "(Ljava/lang/String;J)Lcom/example/jobs_into_runs/jobsintoruns/http/ApiException;"⟩ : MethodName) prog_33_method_4_code 3 (some (.object "com/example/jobs_into_runs/jobsintoruns/http/ApiException")) :: ws) ({ frames := 6, cells := 3, slots := 2762, locals := 85 } : Room)) (fun a9 U => a9 = #[(.ref g0), (.long q)] ∧ Z.Warmed39 U.vm ∧ U.heap = h0) (fun _ _ bl s _ => s.vm.MethodsKnown ∧ s.vm.FramesKnown bl) (fun _ U o U' => ∃ v L, o = .returned v ∧ own_Q_cfR Z g0 q h0 n0 v U'.heap L ∧ FrameEnd U o U' L ({ frames := 6, cells := 3, slots := 2762, locals := 85 } : Room).cells ({ frames := 6, cells := 3, slots := 2762, locals := 85 } : Room).slots) := by
  refine MetFree.of_bodySF (plainFor_of_name own_pn5) hisR ?_
  intro p e s m args below meth c s₁ Bd hml0 hP hK
  obtain ⟨rfl, hZ, hh⟩ := hP
  have hx := Bd.exec
  have hby := Bd.bytes
  have hml : c.maxLocals = 3 := hml0
  have hown : s.vm.findClass "com/example/jobs_into_runs/jobsintoruns/http/ApiException" = some m.cls := findClass_of_methodNamed Bd.named
  have hnm := (name_of_methodNamed Bd.named Bd.method).1
  have hlk : meth.locks = false := Bd.notSynchronized
  have X0 : Stand p l e ({ frames := 6, cells := 3, slots := 2762, locals := 85 } : Room) s m #[(.ref g0), (.long q)] below meth c s₁ [] 0 0 := Stand.of_body Bd
  have e0 : s₁.heap = h0 := by rw [← hh, Bd.state]; rfl
  have N0 := Fr.nil n0
  show own_Go p e below s (own_Q_cfR Z g0 q h0 n0) ({ frames := 6, cells := 3, slots := 2762, locals := 85 } : Room).cells ({ frames := 6, cells := 3, slots := 2762, locals := 85 } : Room).slots (s₁.setTop (entryFrame m #[(.ref g0), (.long q)] 3))
  refine own_st (fun t9 k9 => castTop (own_ef_cfR m g0 q) k9) ?_
  show own_Go p e below s _ _ _ (s₁.setTop (mkF m 0 #[.val (.ref g0), .val (.long q), .second] []))
  obtain ⟨hTK, hBelow⟩ := hK
  have Kp : Keep h0 h0 [] := Keep.refl h0 []
  obtain ⟨T82, h82, X82, e82, E82, A82, D82, U82, st82⟩ := newO X0 hx hZ hown (hw _ (List.mem_of_getElem? (i := 5) rfl)) (hw _ (List.mem_of_getElem? (i := 6) rfl)) (hw _ (List.mem_of_getElem? (i := 3) rfl)) e0 (g := (mkF m 0 #[.val (.ref g0), .val (.long q), .second] [])) rfl (hb hby own_d_prog_33_method_4_0) (by decide) (by decide)
  obtain ⟨x, g82⟩ : ∃ z, z = h0.size := ⟨_, rfl⟩
  rw [← g82] at A82 D82 st82 U82
  have ge_x : n0 ≤ x := Nat.le_trans (own_z0 Od) (Nat.le_of_eq g82.symm)
  have gz_x : h0.size ≤ x := Nat.le_trans Kp.1 (Nat.le_of_eq g82.symm)
  have Od := Od.ext E82
  have Kp := Kp.ext E82
  refine own_st st82 ?_
  show own_Go p e below s _ _ _ (T82.setTop (mkF m 3 #[.val (.ref g0), .val (.long q), .second] [(.ref x)]))
  have E_x : Exa Z h82 x "com/example/jobs_into_runs/jobsintoruns/http/ApiException" := A82
  have U_x : Unt h82 x := U82
  have F_ca : Fld Z h82 x "java/lang/Throwable" "cause" "Ljava/lang/Throwable;" .null := D82 (Or.inl (hw _ (List.mem_of_getElem? (i := 45) rfl))) (ty := (.object "java/lang/Throwable")) (by decide)
  have F_st : Fld Z h82 x "java/lang/Throwable" "stackTrace" "[Ljava/lang/StackTraceElement;" .null := D82 (Or.inl (hw _ (List.mem_of_getElem? (i := 48) rfl))) (ty := (.array (.object "java/lang/StackTraceElement"))) (by decide)
  have F_su : Fld Z h82 x "java/lang/Throwable" "suppressedExceptions" "Ljava/util/List;" .null := D82 (Or.inl (hw _ (List.mem_of_getElem? (i := 51) rfl))) (ty := (.object "java/util/List")) (by decide)
  have F_bt : Fld Z h82 x "java/lang/Throwable" "backtrace" "Ljava/lang/Object;" .null := D82 (Or.inl (hw _ (List.mem_of_getElem? (i := 76) rfl))) (ty := (.object "java/lang/Object")) (by decide)
  have F_dm : Fld Z h82 x "java/lang/Throwable" "detailMessage" "Ljava/lang/String;" .null := D82 (Or.inl (hw _ (List.mem_of_getElem? (i := 75) rfl))) (ty := (.object "java/lang/String")) (by decide)
  have F0 : Fld Z h82 x "com/example/jobs_into_runs/jobsintoruns/http/ApiException" "status" "I" (.int (0 : Int32)) := D82 (Or.inr (hw _ (List.mem_of_getElem? (i := 81) rfl))) (ty := .int) (by decide)
  have F1 : Fld Z h82 x "com/example/jobs_into_runs/jobsintoruns/http/ApiException" "allowed" "Ljava/lang/String;" .null := D82 (Or.inr (hw _ (List.mem_of_getElem? (i := 83) rfl))) (ty := (.object "java/lang/String")) (by decide)
  have F2 : Fld Z h82 x "com/example/jobs_into_runs/jobsintoruns/http/ApiException" "run" "Ljava/lang/Long;" .null := D82 (Or.inr (hw _ (List.mem_of_getElem? (i := 85) rfl))) (ty := (.object "java/lang/Long")) (by decide)
  refine own_st (fun t9 k9 => XS.dup X82.here hx rfl (hb hby own_d_prog_33_method_4_3) rfl rfl k9) ?_
  show own_Go p e below s _ _ _ (T82.setTop (mkF m 4 #[.val (.ref g0), .val (.long q), .second] [(.ref x), (.ref x)]))
  refine own_st (fun t9 k9 => XS.sipush X82.here hx rfl (hb hby own_d_prog_33_method_4_4) k9) ?_
  show own_Go p e below s _ _ _ (T82.setTop (mkF m 7 #[.val (.ref g0), .val (.long q), .second] [(.int (409 : Int32)), (.ref x), (.ref x)]))
  refine own_st (fun t9 k9 => XS.aloadN X82.here hx rfl (hb hby own_d_prog_33_method_4_7) rfl rfl k9) ?_
  show own_Go p e below s _ _ _ (T82.setTop (mkF m 8 #[.val (.ref g0), .val (.long q), .second] [(.ref g0), (.int (409 : Int32)), (.ref x), (.ref x)]))
  refine own_st (fun t9 k9 => XS.aconstNull X82.here hx rfl (hb hby own_d_prog_33_method_4_8) k9) ?_
  show own_Go p e below s _ _ _ (T82.setTop (mkF m 9 #[.val (.ref g0), .val (.long q), .second] [.null, (.ref g0), (.int (409 : Int32)), (.ref x), (.ref x)]))
  refine own_st (fun t9 k9 => XT.lloadN X82.here hx rfl (hb hby own_d_prog_33_method_4_9) rfl  k9) ?_
  show own_Go p e below s _ _ _ (T82.setTop (mkF m 10 #[.val (.ref g0), .val (.long q), .second] [(.long q), .null, (.ref g0), (.int (409 : Int32)), (.ref x), (.ref x)]))
  obtain ⟨_, T83, h83, L83, X83, e83, ⟨Nc, Kc, lg, rfl, E_g, F_g⟩, st83⟩ := own_callS X82 hx hZ hown (hw _ (List.mem_of_getElem? (i := 7) rfl)) (hw _ (List.mem_of_getElem? (i := 8) rfl)) (hw _ (List.mem_of_getElem? (i := 9) rfl)) (hw _ (List.mem_of_getElem? (i := 10) rfl)) (by decide) (own_rm_lgv l Z a0 hw [] q ca cl h82 n0 Od SC AC HC) (by decide) (by decide) e82 (W := 5) (g := (mkF m 10 #[.val (.ref g0), .val (.long q), .second] [(.long q), .null, (.ref g0), (.int (409 : Int32)), (.ref x), (.ref x)])) rfl (by rw [hml]; rfl) (argsL := [(.long q)]) (rest := [.null, (.ref g0), (.int (409 : Int32)), (.ref x), (.ref x)]) rfl (lenOf own_pd4 rfl) rfl (by show 2 * 0 + _ ≤ _; exact Nat.le_of_eq rfl) (hb hby own_d_prog_33_method_4_10) (by decide) (by decide)
  have N83 := Fr.app N0 Nc
  have E_x := E_x.keep Kc
  have U_x := U_x.keep Kc nin0
  have F_ca := F_ca.keep Kc nin0
  have F_st := F_st.keep Kc nin0
  have F_su := F_su.keep Kc nin0
  have F_bt := F_bt.keep Kc nin0
  have F_dm := F_dm.keep Kc nin0
  have F0 := F0.keep Kc nin0
  have F1 := F1.keep Kc nin0
  have F2 := F2.keep Kc nin0
  have Od := Od.keep Kc all0
  have Kp := Kp.trans Kc all0
  refine own_st st83 ?_
  show own_Go p e below s _ _ _ (T83.setTop (mkF m 13 #[.val (.ref g0), .val (.long q), .second] [(.ref lg), .null, (.ref g0), (.int (409 : Int32)), (.ref x), (.ref x)]))
  have ne_lg_x : lg ≠ x := Exa.ne E_g E_x (by decide)
  obtain ⟨_, T84, h84, L84, X84, e84, ⟨rfl, Nd, Kd, E_y, G0, G1, G2, G3⟩, st84⟩ := own_backI X83 hx hZ hown rfl (hw _ (List.mem_of_getElem? (i := 29) rfl)) (hw _ (List.mem_of_getElem? (i := 30) rfl)) (hw _ (List.mem_of_getElem? (i := 31) rfl)) (by decide) (backOfKL (W := 1) (own_rm_aiR l Z a0 hw [] x g0 lg uu sv h83 n0 Od E_x U_x F_ca F_st F_su F_bt F_dm F0 F1 F2 ge_x hl SU hu SS hv) hZ (hw _ (List.mem_of_getElem? (i := 31) rfl)) (hw _ (List.mem_of_getElem? (i := 3) rfl)) (by decide) (by decide) hTK hBelow) e83 (a := x) (W := 1) (g := (mkF m 13 #[.val (.ref g0), .val (.long q), .second] [(.ref lg), .null, (.ref g0), (.int (409 : Int32)), (.ref x), (.ref x)])) rfl (by rw [hml]; rfl) (argsL := [(.int (409 : Int32)), (.ref g0), .null, (.ref lg)]) (rest := [(.ref x)]) rfl (lenOf own_pd5 rfl) rfl (by show 2 * 0 + _ ≤ _; exact Nat.le_of_eq rfl) (hb hby own_d_prog_33_method_4_13) (by decide) (by decide)
  have N84 := Fr.app N83 Nd
  have E_x := E_x.keep Kd
  have E_g := E_g.keep Kd
  have F_g := F_g.keep Kd (ninS ne_lg_x nin0)
  have Od := Od.keep Kd (allS ge_x all0)
  have Kp := Kp.trans Kd (allS (Or.inr gz_x) all0)
  refine own_st st84 ?_
  show own_Go p e below s _ _ _ (T84.setTop (mkF m 16 #[.val (.ref g0), .val (.long q), .second] [(.ref x)]))
  exact own_retR X84 hx hlk Bd.returns rfl rfl (hb hby own_d_prog_33_method_4_16) (by decide) (by decide) (by rw [e84]; exact ⟨N84, Kp, x, lg, rfl, gz_x, E_y, G0, G1, G2, G3, E_g, F_g⟩)
theorem own_d_prog_33_method_5_0 : decode prog_33_method_5_code 0 = .ok (.aload_n 0, 1) := by decide +kernel
theorem own_d_prog_33_method_5_1 : decode prog_33_method_5_code 1 = .ok (.getfield 12, 3) := by decide +kernel
theorem own_d_prog_33_method_5_4 : decode prog_33_method_5_code 4 = .ok (.ireturn, 1) := by decide +kernel
theorem own_ef_rst (m : MethodId) (x0 : Addr) : entryFrame m #[(.ref x0)] 1 = mkF m 0 #[.val (.ref x0)] [] := by first | (simp [entryFrame, mkF, argsToLocals, Value.category]; done) | rfl
def own_Q_rst (Z : State)  (h0 : Heap) (n0 : Nat) (v : Option Value) (h : Heap) (L : List Loc) : Prop := v = some (.int (409 : Int32)) ∧ Fr n0 L ∧ h = h0
set_option maxRecDepth 65536 in
set_option maxHeartbeats 40000000 in
theorem own_rm_rst (l : Launch) (Z : State) (a0 : Array Value) (hw : ∀ d ∈ tables_1, d.before a0 Z = true) (ws : List Jvm.Cond) (x : Addr) (h0 : Heap) (n0 : Nat) (Od : Old Z n0 h0) (F : Fld Z h0 x "com/example/jobs_into_runs/jobsintoruns/http/ApiException" "status" "I" (.int (409 : Int32))) :
    MetFree l (⟨"com/example/jobs_into_runs/jobsintoruns/http/ApiException", "status", "()I"⟩ : MethodName) (head1 (Jvm.Cond.code (⟨"com/example/jobs_into_runs/jobsintoruns/http/ApiException", "status", "()I"⟩ : MethodName) prog_33_method_5_code 1 (some .int) :: ws) ({ frames := 0, cells := 0, slots := 0, locals := 0 } : Room)) (fun a9 U => a9 = #[(.ref x)] ∧ Z.Warmed39 U.vm ∧ U.heap = h0) (fun _ _ _ _ _ => True) (fun _ U o U' => ∃ v L, o = .returned v ∧ own_Q_rst Z  h0 n0 v U'.heap L ∧ FrameEnd U o U' L ({ frames := 0, cells := 0, slots := 0, locals := 0 } : Room).cells ({ frames := 0, cells := 0, slots := 0, locals := 0 } : Room).slots) := by
  refine MetFree.of_bodySF (plainFor_of_name own_pn5) hisR ?_
  intro p e s m args below meth c s₁ Bd hml0 hP hK
  obtain ⟨rfl, hZ, hh⟩ := hP
  have hx := Bd.exec
  have hby := Bd.bytes
  have hml : c.maxLocals = 1 := hml0
  have hown : s.vm.findClass "com/example/jobs_into_runs/jobsintoruns/http/ApiException" = some m.cls := findClass_of_methodNamed Bd.named
  have hnm := (name_of_methodNamed Bd.named Bd.method).1
  have hlk : meth.locks = false := Bd.notSynchronized
  have X0 : Stand p l e ({ frames := 0, cells := 0, slots := 0, locals := 0 } : Room) s m #[(.ref x)] below meth c s₁ [] 0 0 := Stand.of_body Bd
  have e0 : s₁.heap = h0 := by rw [← hh, Bd.state]; rfl
  have N0 := Fr.nil n0
  show own_Go p e below s (own_Q_rst Z  h0 n0) ({ frames := 0, cells := 0, slots := 0, locals := 0 } : Room).cells ({ frames := 0, cells := 0, slots := 0, locals := 0 } : Room).slots (s₁.setTop (entryFrame m #[(.ref x)] 1))
  refine own_st (fun t9 k9 => castTop (own_ef_rst m x) k9) ?_
  show own_Go p e below s _ _ _ (s₁.setTop (mkF m 0 #[.val (.ref x)] []))
  refine own_st (fun t9 k9 => XS.aloadN X0.here hx rfl (hb hby own_d_prog_33_method_5_0) rfl rfl k9) ?_
  show own_Go p e below s _ _ _ (s₁.setTop (mkF m 1 #[.val (.ref x)] [(.ref x)]))
  obtain ⟨T85, X85, e85, st85⟩ := getF X0 hx hZ hown (host := "") (Or.inl (hw _ (List.mem_of_getElem? (i := 80) rfl))) Via.refl e0 F (g := (mkF m 1 #[.val (.ref x)] [(.ref x)])) rfl rfl (hb hby own_d_prog_33_method_5_1)
  refine own_st st85 ?_
  show own_Go p e below s _ _ _ (T85.setTop (mkF m 4 #[.val (.ref x)] [(.int (409 : Int32))]))
  exact own_retI X85 hx hlk Bd.returns (hb hby own_d_prog_33_method_5_4) (by decide) (by decide) (by rw [e85]; exact ⟨rfl, N0, rfl⟩)
theorem own_d_prog_33_method_6_0 : decode prog_33_method_6_code 0 = .ok (.aload_n 0, 1) := by decide +kernel
theorem own_d_prog_33_method_6_1 : decode prog_33_method_6_code 1 = .ok (.getfield 16, 3) := by decide +kernel
theorem own_d_prog_33_method_6_4 : decode prog_33_method_6_code 4 = .ok (.areturn, 1) := by decide +kernel
theorem own_ef_ral (m : MethodId) (x0 : Addr) : entryFrame m #[(.ref x0)] 1 = mkF m 0 #[.val (.ref x0)] [] := by first | (simp [entryFrame, mkF, argsToLocals, Value.category]; done) | rfl
def own_Q_ral (Z : State)  (h0 : Heap) (n0 : Nat) (v : Option Value) (h : Heap) (L : List Loc) : Prop := v = some .null ∧ Fr n0 L ∧ h = h0
set_option maxRecDepth 65536 in
set_option maxHeartbeats 40000000 in
theorem own_rm_ral (l : Launch) (Z : State) (a0 : Array Value) (hw : ∀ d ∈ tables_1, d.before a0 Z = true) (ws : List Jvm.Cond) (x : Addr) (h0 : Heap) (n0 : Nat) (Od : Old Z n0 h0) (F : Fld Z h0 x "com/example/jobs_into_runs/jobsintoruns/http/ApiException" "allowed" "Ljava/lang/String;" .null) :
    MetFree l (⟨"com/example/jobs_into_runs/jobsintoruns/http/ApiException", "allowed", "()Ljava/lang/String;"⟩ : MethodName) (head1 (Jvm.Cond.code (⟨"com/example/jobs_into_runs/jobsintoruns/http/ApiException", "allowed", "()Ljava/lang/String;"⟩ : MethodName) prog_33_method_6_code 1 (some (.object "java/lang/String")) :: ws) ({ frames := 0, cells := 0, slots := 0, locals := 0 } : Room)) (fun a9 U => a9 = #[(.ref x)] ∧ Z.Warmed39 U.vm ∧ U.heap = h0) (fun _ _ _ _ _ => True) (fun _ U o U' => ∃ v L, o = .returned v ∧ own_Q_ral Z  h0 n0 v U'.heap L ∧ FrameEnd U o U' L ({ frames := 0, cells := 0, slots := 0, locals := 0 } : Room).cells ({ frames := 0, cells := 0, slots := 0, locals := 0 } : Room).slots) := by
  refine MetFree.of_bodySF (plainFor_of_name own_pn5) hisR ?_
  intro p e s m args below meth c s₁ Bd hml0 hP hK
  obtain ⟨rfl, hZ, hh⟩ := hP
  have hx := Bd.exec
  have hby := Bd.bytes
  have hml : c.maxLocals = 1 := hml0
  have hown : s.vm.findClass "com/example/jobs_into_runs/jobsintoruns/http/ApiException" = some m.cls := findClass_of_methodNamed Bd.named
  have hnm := (name_of_methodNamed Bd.named Bd.method).1
  have hlk : meth.locks = false := Bd.notSynchronized
  have X0 : Stand p l e ({ frames := 0, cells := 0, slots := 0, locals := 0 } : Room) s m #[(.ref x)] below meth c s₁ [] 0 0 := Stand.of_body Bd
  have e0 : s₁.heap = h0 := by rw [← hh, Bd.state]; rfl
  have N0 := Fr.nil n0
  show own_Go p e below s (own_Q_ral Z  h0 n0) ({ frames := 0, cells := 0, slots := 0, locals := 0 } : Room).cells ({ frames := 0, cells := 0, slots := 0, locals := 0 } : Room).slots (s₁.setTop (entryFrame m #[(.ref x)] 1))
  refine own_st (fun t9 k9 => castTop (own_ef_ral m x) k9) ?_
  show own_Go p e below s _ _ _ (s₁.setTop (mkF m 0 #[.val (.ref x)] []))
  refine own_st (fun t9 k9 => XS.aloadN X0.here hx rfl (hb hby own_d_prog_33_method_6_0) rfl rfl k9) ?_
  show own_Go p e below s _ _ _ (s₁.setTop (mkF m 1 #[.val (.ref x)] [(.ref x)]))
  obtain ⟨T86, X86, e86, st86⟩ := getF X0 hx hZ hown (host := "") (Or.inl (hw _ (List.mem_of_getElem? (i := 82) rfl))) Via.refl e0 F (g := (mkF m 1 #[.val (.ref x)] [(.ref x)])) rfl rfl (hb hby own_d_prog_33_method_6_1)
  refine own_st st86 ?_
  show own_Go p e below s _ _ _ (T86.setTop (mkF m 4 #[.val (.ref x)] [.null]))
  exact own_retR X86 hx hlk Bd.returns rfl rfl (hb hby own_d_prog_33_method_6_4) (by decide) (by decide) (by rw [e86]; exact ⟨rfl, N0, rfl⟩)
theorem own_d_prog_33_method_7_0 : decode prog_33_method_7_code 0 = .ok (.aload_n 0, 1) := by decide +kernel
theorem own_d_prog_33_method_7_1 : decode prog_33_method_7_code 1 = .ok (.getfield 20, 3) := by decide +kernel
theorem own_d_prog_33_method_7_4 : decode prog_33_method_7_code 4 = .ok (.areturn, 1) := by decide +kernel
theorem own_ef_rru (m : MethodId) (x0 : Addr) : entryFrame m #[(.ref x0)] 1 = mkF m 0 #[.val (.ref x0)] [] := by first | (simp [entryFrame, mkF, argsToLocals, Value.category]; done) | rfl
def own_Q_rru (Z : State) (lg : Addr) (h0 : Heap) (n0 : Nat) (v : Option Value) (h : Heap) (L : List Loc) : Prop := v = some (.ref lg) ∧ Fr n0 L ∧ h = h0
set_option maxRecDepth 65536 in
set_option maxHeartbeats 40000000 in
theorem own_rm_rru (l : Launch) (Z : State) (a0 : Array Value) (hw : ∀ d ∈ tables_1, d.before a0 Z = true) (ws : List Jvm.Cond) (x : Addr) (lg : Addr) (h0 : Heap) (n0 : Nat) (Od : Old Z n0 h0) (F : Fld Z h0 x "com/example/jobs_into_runs/jobsintoruns/http/ApiException" "run" "Ljava/lang/Long;" (.ref lg)) :
    MetFree l (⟨"com/example/jobs_into_runs/jobsintoruns/http/ApiException", "run", "()Ljava/lang/Long;"⟩ : MethodName) (head1 (Jvm.Cond.code (⟨"com/example/jobs_into_runs/jobsintoruns/http/ApiException", "run", "()Ljava/lang/Long;"⟩ : MethodName) prog_33_method_7_code 1 (some (.object "java/lang/Long")) :: ws) ({ frames := 0, cells := 0, slots := 0, locals := 0 } : Room)) (fun a9 U => a9 = #[(.ref x)] ∧ Z.Warmed39 U.vm ∧ U.heap = h0) (fun _ _ _ _ _ => True) (fun _ U o U' => ∃ v L, o = .returned v ∧ own_Q_rru Z lg h0 n0 v U'.heap L ∧ FrameEnd U o U' L ({ frames := 0, cells := 0, slots := 0, locals := 0 } : Room).cells ({ frames := 0, cells := 0, slots := 0, locals := 0 } : Room).slots) := by
  refine MetFree.of_bodySF (plainFor_of_name own_pn5) hisR ?_
  intro p e s m args below meth c s₁ Bd hml0 hP hK
  obtain ⟨rfl, hZ, hh⟩ := hP
  have hx := Bd.exec
  have hby := Bd.bytes
  have hml : c.maxLocals = 1 := hml0
  have hown : s.vm.findClass "com/example/jobs_into_runs/jobsintoruns/http/ApiException" = some m.cls := findClass_of_methodNamed Bd.named
  have hnm := (name_of_methodNamed Bd.named Bd.method).1
  have hlk : meth.locks = false := Bd.notSynchronized
  have X0 : Stand p l e ({ frames := 0, cells := 0, slots := 0, locals := 0 } : Room) s m #[(.ref x)] below meth c s₁ [] 0 0 := Stand.of_body Bd
  have e0 : s₁.heap = h0 := by rw [← hh, Bd.state]; rfl
  have N0 := Fr.nil n0
  show own_Go p e below s (own_Q_rru Z lg h0 n0) ({ frames := 0, cells := 0, slots := 0, locals := 0 } : Room).cells ({ frames := 0, cells := 0, slots := 0, locals := 0 } : Room).slots (s₁.setTop (entryFrame m #[(.ref x)] 1))
  refine own_st (fun t9 k9 => castTop (own_ef_rru m x) k9) ?_
  show own_Go p e below s _ _ _ (s₁.setTop (mkF m 0 #[.val (.ref x)] []))
  refine own_st (fun t9 k9 => XS.aloadN X0.here hx rfl (hb hby own_d_prog_33_method_7_0) rfl rfl k9) ?_
  show own_Go p e below s _ _ _ (s₁.setTop (mkF m 1 #[.val (.ref x)] [(.ref x)]))
  obtain ⟨T87, X87, e87, st87⟩ := getF X0 hx hZ hown (host := "") (Or.inl (hw _ (List.mem_of_getElem? (i := 84) rfl))) Via.refl e0 F (g := (mkF m 1 #[.val (.ref x)] [(.ref x)])) rfl rfl (hb hby own_d_prog_33_method_7_1)
  refine own_st st87 ?_
  show own_Go p e below s _ _ _ (T87.setTop (mkF m 4 #[.val (.ref x)] [(.ref lg)]))
  exact own_retR X87 hx hlk Bd.returns rfl rfl (hb hby own_d_prog_33_method_7_4) (by decide) (by decide) (by rw [e87]; exact ⟨rfl, N0, rfl⟩)
theorem own_d_jdk_35_method_31_0 : decode jdk_35_method_31_code 0 = .ok (.aload_n 0, 1) := by decide +kernel
theorem own_d_jdk_35_method_31_1 : decode jdk_35_method_31_code 1 = .ok (.getfield 273, 3) := by decide +kernel
theorem own_d_jdk_35_method_31_4 : decode jdk_35_method_31_code 4 = .ok (.lreturn, 1) := by decide +kernel
theorem own_ef_rlv (m : MethodId) (x0 : Addr) : entryFrame m #[(.ref x0)] 1 = mkF m 0 #[.val (.ref x0)] [] := by first | (simp [entryFrame, mkF, argsToLocals, Value.category]; done) | rfl
def own_Q_rlv (Z : State) (q : Int64) (h0 : Heap) (n0 : Nat) (v : Option Value) (h : Heap) (L : List Loc) : Prop := v = some (.long q) ∧ Fr n0 L ∧ h = h0
set_option maxRecDepth 65536 in
set_option maxHeartbeats 40000000 in
theorem own_rm_rlv (l : Launch) (Z : State) (a0 : Array Value) (hw : ∀ d ∈ tables_1, d.before a0 Z = true) (ws : List Jvm.Cond) (x : Addr) (q : Int64) (h0 : Heap) (n0 : Nat) (Od : Old Z n0 h0) (F : Fld Z h0 x "java/lang/Long" "value" "J" (.long q)) :
    MetFree l (⟨"java/lang/Long", "longValue", "()J"⟩ : MethodName) (head1 (Jvm.Cond.code (⟨"java/lang/Long", "longValue", "()J"⟩ : MethodName) jdk_35_method_31_code 1 (some .long) :: ws) ({ frames := 0, cells := 0, slots := 0, locals := 0 } : Room)) (fun a9 U => a9 = #[(.ref x)] ∧ Z.Warmed39 U.vm ∧ U.heap = h0) (fun _ _ _ _ _ => True) (fun _ U o U' => ∃ v L, o = .returned v ∧ own_Q_rlv Z q h0 n0 v U'.heap L ∧ FrameEnd U o U' L ({ frames := 0, cells := 0, slots := 0, locals := 0 } : Room).cells ({ frames := 0, cells := 0, slots := 0, locals := 0 } : Room).slots) := by
  refine MetFree.of_bodySF (plainFor_of_name own_pn2) hisR ?_
  intro p e s m args below meth c s₁ Bd hml0 hP hK
  obtain ⟨rfl, hZ, hh⟩ := hP
  have hx := Bd.exec
  have hby := Bd.bytes
  have hml : c.maxLocals = 1 := hml0
  have hown : s.vm.findClass "java/lang/Long" = some m.cls := findClass_of_methodNamed Bd.named
  have hnm := (name_of_methodNamed Bd.named Bd.method).1
  have hlk : meth.locks = false := Bd.notSynchronized
  have X0 : Stand p l e ({ frames := 0, cells := 0, slots := 0, locals := 0 } : Room) s m #[(.ref x)] below meth c s₁ [] 0 0 := Stand.of_body Bd
  have e0 : s₁.heap = h0 := by rw [← hh, Bd.state]; rfl
  have N0 := Fr.nil n0
  show own_Go p e below s (own_Q_rlv Z q h0 n0) ({ frames := 0, cells := 0, slots := 0, locals := 0 } : Room).cells ({ frames := 0, cells := 0, slots := 0, locals := 0 } : Room).slots (s₁.setTop (entryFrame m #[(.ref x)] 1))
  refine own_st (fun t9 k9 => castTop (own_ef_rlv m x) k9) ?_
  show own_Go p e below s _ _ _ (s₁.setTop (mkF m 0 #[.val (.ref x)] []))
  refine own_st (fun t9 k9 => XS.aloadN X0.here hx rfl (hb hby own_d_jdk_35_method_31_0) rfl rfl k9) ?_
  show own_Go p e below s _ _ _ (s₁.setTop (mkF m 1 #[.val (.ref x)] [(.ref x)]))
  obtain ⟨T88, X88, e88, st88⟩ := getF X0 hx hZ hown (host := "") (Or.inl (hw _ (List.mem_of_getElem? (i := 27) rfl))) Via.refl e0 F (g := (mkF m 1 #[.val (.ref x)] [(.ref x)])) rfl rfl (hb hby own_d_jdk_35_method_31_1)
  refine own_st st88 ?_
  show own_Go p e below s _ _ _ (T88.setTop (mkF m 4 #[.val (.ref x)] [(.long q)]))
  exact own_retJ X88 hx hlk Bd.returns (hb hby own_d_jdk_35_method_31_4) (by decide) (by decide) (by rw [e88]; exact ⟨rfl, N0, rfl⟩)
theorem own_d_jdk_78_method_6_0 : decode jdk_78_method_6_code 0 = .ok (.aload_n 0, 1) := by decide +kernel
theorem own_d_jdk_78_method_6_1 : decode jdk_78_method_6_code 1 = .ok (.getfield 31, 3) := by decide +kernel
theorem own_d_jdk_78_method_6_4 : decode jdk_78_method_6_code 4 = .ok (.areturn, 1) := by decide +kernel
theorem own_ef_rgN (m : MethodId) (x0 : Addr) : entryFrame m #[(.ref x0)] 1 = mkF m 0 #[.val (.ref x0)] [] := by first | (simp [entryFrame, mkF, argsToLocals, Value.category]; done) | rfl
def own_Q_rgN (Z : State)  (h0 : Heap) (n0 : Nat) (v : Option Value) (h : Heap) (L : List Loc) : Prop := v = some .null ∧ Fr n0 L ∧ h = h0
set_option maxRecDepth 65536 in
set_option maxHeartbeats 40000000 in
theorem own_rm_rgN (l : Launch) (Z : State) (a0 : Array Value) (hw : ∀ d ∈ tables_1, d.before a0 Z = true) (ws : List Jvm.Cond) (x : Addr) (h0 : Heap) (n0 : Nat) (Od : Old Z n0 h0) (F : Fld Z h0 x "java/lang/Throwable" "detailMessage" "Ljava/lang/String;" .null) :
    MetFree l (⟨"java/lang/Throwable", "getMessage", "()Ljava/lang/String;"⟩ : MethodName) (head1 (Jvm.Cond.code (⟨"java/lang/Throwable", "getMessage", "()Ljava/lang/String;"⟩ : MethodName) jdk_78_method_6_code 1 (some (.object "java/lang/String")) :: ws) ({ frames := 0, cells := 0, slots := 0, locals := 0 } : Room)) (fun a9 U => a9 = #[(.ref x)] ∧ Z.Warmed39 U.vm ∧ U.heap = h0) (fun _ _ _ _ _ => True) (fun _ U o U' => ∃ v L, o = .returned v ∧ own_Q_rgN Z  h0 n0 v U'.heap L ∧ FrameEnd U o U' L ({ frames := 0, cells := 0, slots := 0, locals := 0 } : Room).cells ({ frames := 0, cells := 0, slots := 0, locals := 0 } : Room).slots) := by
  refine MetFree.of_bodySF (plainFor_of_name own_pn3) hisR ?_
  intro p e s m args below meth c s₁ Bd hml0 hP hK
  obtain ⟨rfl, hZ, hh⟩ := hP
  have hx := Bd.exec
  have hby := Bd.bytes
  have hml : c.maxLocals = 1 := hml0
  have hown : s.vm.findClass "java/lang/Throwable" = some m.cls := findClass_of_methodNamed Bd.named
  have hnm := (name_of_methodNamed Bd.named Bd.method).1
  have hlk : meth.locks = false := Bd.notSynchronized
  have X0 : Stand p l e ({ frames := 0, cells := 0, slots := 0, locals := 0 } : Room) s m #[(.ref x)] below meth c s₁ [] 0 0 := Stand.of_body Bd
  have e0 : s₁.heap = h0 := by rw [← hh, Bd.state]; rfl
  have N0 := Fr.nil n0
  show own_Go p e below s (own_Q_rgN Z  h0 n0) ({ frames := 0, cells := 0, slots := 0, locals := 0 } : Room).cells ({ frames := 0, cells := 0, slots := 0, locals := 0 } : Room).slots (s₁.setTop (entryFrame m #[(.ref x)] 1))
  refine own_st (fun t9 k9 => castTop (own_ef_rgN m x) k9) ?_
  show own_Go p e below s _ _ _ (s₁.setTop (mkF m 0 #[.val (.ref x)] []))
  refine own_st (fun t9 k9 => XS.aloadN X0.here hx rfl (hb hby own_d_jdk_78_method_6_0) rfl rfl k9) ?_
  show own_Go p e below s _ _ _ (s₁.setTop (mkF m 1 #[.val (.ref x)] [(.ref x)]))
  obtain ⟨T89, X89, e89, st89⟩ := getF X0 hx hZ hown (host := "") (Or.inl (hw _ (List.mem_of_getElem? (i := 79) rfl))) Via.refl e0 F (g := (mkF m 1 #[.val (.ref x)] [(.ref x)])) rfl rfl (hb hby own_d_jdk_78_method_6_1)
  refine own_st st89 ?_
  show own_Go p e below s _ _ _ (T89.setTop (mkF m 4 #[.val (.ref x)] [.null]))
  exact own_retR X89 hx hlk Bd.returns rfl rfl (hb hby own_d_jdk_78_method_6_4) (by decide) (by decide) (by rw [e89]; exact ⟨rfl, N0, rfl⟩)
theorem own_ef_rgR (m : MethodId) (x0 : Addr) : entryFrame m #[(.ref x0)] 1 = mkF m 0 #[.val (.ref x0)] [] := by first | (simp [entryFrame, mkF, argsToLocals, Value.category]; done) | rfl
def own_Q_rgR (Z : State) (g0 : Addr) (h0 : Heap) (n0 : Nat) (v : Option Value) (h : Heap) (L : List Loc) : Prop := v = some (.ref g0) ∧ Fr n0 L ∧ h = h0
set_option maxRecDepth 65536 in
set_option maxHeartbeats 40000000 in
theorem own_rm_rgR (l : Launch) (Z : State) (a0 : Array Value) (hw : ∀ d ∈ tables_1, d.before a0 Z = true) (ws : List Jvm.Cond) (x : Addr) (g0 : Addr) (h0 : Heap) (n0 : Nat) (Od : Old Z n0 h0) (F : Fld Z h0 x "java/lang/Throwable" "detailMessage" "Ljava/lang/String;" (.ref g0)) :
    MetFree l (⟨"java/lang/Throwable", "getMessage", "()Ljava/lang/String;"⟩ : MethodName) (head1 (Jvm.Cond.code (⟨"java/lang/Throwable", "getMessage", "()Ljava/lang/String;"⟩ : MethodName) jdk_78_method_6_code 1 (some (.object "java/lang/String")) :: ws) ({ frames := 0, cells := 0, slots := 0, locals := 0 } : Room)) (fun a9 U => a9 = #[(.ref x)] ∧ Z.Warmed39 U.vm ∧ U.heap = h0) (fun _ _ _ _ _ => True) (fun _ U o U' => ∃ v L, o = .returned v ∧ own_Q_rgR Z g0 h0 n0 v U'.heap L ∧ FrameEnd U o U' L ({ frames := 0, cells := 0, slots := 0, locals := 0 } : Room).cells ({ frames := 0, cells := 0, slots := 0, locals := 0 } : Room).slots) := by
  refine MetFree.of_bodySF (plainFor_of_name own_pn3) hisR ?_
  intro p e s m args below meth c s₁ Bd hml0 hP hK
  obtain ⟨rfl, hZ, hh⟩ := hP
  have hx := Bd.exec
  have hby := Bd.bytes
  have hml : c.maxLocals = 1 := hml0
  have hown : s.vm.findClass "java/lang/Throwable" = some m.cls := findClass_of_methodNamed Bd.named
  have hnm := (name_of_methodNamed Bd.named Bd.method).1
  have hlk : meth.locks = false := Bd.notSynchronized
  have X0 : Stand p l e ({ frames := 0, cells := 0, slots := 0, locals := 0 } : Room) s m #[(.ref x)] below meth c s₁ [] 0 0 := Stand.of_body Bd
  have e0 : s₁.heap = h0 := by rw [← hh, Bd.state]; rfl
  have N0 := Fr.nil n0
  show own_Go p e below s (own_Q_rgR Z g0 h0 n0) ({ frames := 0, cells := 0, slots := 0, locals := 0 } : Room).cells ({ frames := 0, cells := 0, slots := 0, locals := 0 } : Room).slots (s₁.setTop (entryFrame m #[(.ref x)] 1))
  refine own_st (fun t9 k9 => castTop (own_ef_rgR m x) k9) ?_
  show own_Go p e below s _ _ _ (s₁.setTop (mkF m 0 #[.val (.ref x)] []))
  refine own_st (fun t9 k9 => XS.aloadN X0.here hx rfl (hb hby own_d_jdk_78_method_6_0) rfl rfl k9) ?_
  show own_Go p e below s _ _ _ (s₁.setTop (mkF m 1 #[.val (.ref x)] [(.ref x)]))
  obtain ⟨T90, X90, e90, st90⟩ := getF X0 hx hZ hown (host := "") (Or.inl (hw _ (List.mem_of_getElem? (i := 79) rfl))) Via.refl e0 F (g := (mkF m 1 #[.val (.ref x)] [(.ref x)])) rfl rfl (hb hby own_d_jdk_78_method_6_1)
  refine own_st st90 ?_
  show own_Go p e below s _ _ _ (T90.setTop (mkF m 4 #[.val (.ref x)] [(.ref g0)]))
  exact own_retR X90 hx hlk Bd.returns rfl rfl (hb hby own_d_jdk_78_method_6_4) (by decide) (by decide) (by rw [e90]; exact ⟨rfl, N0, rfl⟩)
theorem own_d_jdk_42_method_66_0 : decode jdk_42_method_66_code 0 = .ok (.aload_n 0, 1) := by decide +kernel
theorem own_d_jdk_42_method_66_1 : decode jdk_42_method_66_code 1 = .ok (.aload_n 1, 1) := by decide +kernel
theorem own_d_jdk_42_method_66_2 : decode jdk_42_method_66_code 2 = .ok (.if_acmp .ne 5, 3) := by decide +kernel
theorem own_d_jdk_42_method_66_5 : decode jdk_42_method_66_code 5 = .ok (.iconst 1, 1) := by decide +kernel
theorem own_d_jdk_42_method_66_6 : decode jdk_42_method_66_code 6 = .ok (.ireturn, 1) := by decide +kernel
theorem own_ef_seq (m : MethodId) (x0 : Addr) (x1 : Addr) : entryFrame m #[(.ref x0), (.ref x1)] 3 = mkF m 0 #[.val (.ref x0), .val (.ref x1), .unset] [] := by first | (simp [entryFrame, mkF, argsToLocals, Value.category]; done) | rfl
def own_Q_seq (Z : State)  (h0 : Heap) (n0 : Nat) (v : Option Value) (h : Heap) (L : List Loc) : Prop := v = some (.int (1 : Int32)) ∧ Fr n0 L ∧ h = h0
set_option maxRecDepth 65536 in
set_option maxHeartbeats 40000000 in
theorem own_rm_seq (l : Launch) (Z : State) (a0 : Array Value) (hw : ∀ d ∈ tables_1, d.before a0 Z = true) (ws : List Jvm.Cond) (x : Addr) (h0 : Heap) (n0 : Nat) (Od : Old Z n0 h0) :
    MetFree l (⟨"java/lang/String", "equals", "(Ljava/lang/Object;)Z"⟩ : MethodName) (head1 (Jvm.Cond.code (⟨"java/lang/String", "equals", "(Ljava/lang/Object;)Z"⟩ : MethodName) jdk_42_method_66_code 3 (some .boolean) :: ws) ({ frames := 0, cells := 0, slots := 0, locals := 0 } : Room)) (fun a9 U => a9 = #[(.ref x), (.ref x)] ∧ Z.Warmed39 U.vm ∧ U.heap = h0) (fun _ _ _ _ _ => True) (fun _ U o U' => ∃ v L, o = .returned v ∧ own_Q_seq Z  h0 n0 v U'.heap L ∧ FrameEnd U o U' L ({ frames := 0, cells := 0, slots := 0, locals := 0 } : Room).cells ({ frames := 0, cells := 0, slots := 0, locals := 0 } : Room).slots) := by
  refine MetFree.of_bodySF (plainFor_of_name own_pn0) hisR ?_
  intro p e s m args below meth c s₁ Bd hml0 hP hK
  obtain ⟨rfl, hZ, hh⟩ := hP
  have hx := Bd.exec
  have hby := Bd.bytes
  have hml : c.maxLocals = 3 := hml0
  have hown : s.vm.findClass "java/lang/String" = some m.cls := findClass_of_methodNamed Bd.named
  have hnm := (name_of_methodNamed Bd.named Bd.method).1
  have hlk : meth.locks = false := Bd.notSynchronized
  have X0 : Stand p l e ({ frames := 0, cells := 0, slots := 0, locals := 0 } : Room) s m #[(.ref x), (.ref x)] below meth c s₁ [] 0 0 := Stand.of_body Bd
  have e0 : s₁.heap = h0 := by rw [← hh, Bd.state]; rfl
  have N0 := Fr.nil n0
  show own_Go p e below s (own_Q_seq Z  h0 n0) ({ frames := 0, cells := 0, slots := 0, locals := 0 } : Room).cells ({ frames := 0, cells := 0, slots := 0, locals := 0 } : Room).slots (s₁.setTop (entryFrame m #[(.ref x), (.ref x)] 3))
  refine own_st (fun t9 k9 => castTop (own_ef_seq m x x) k9) ?_
  show own_Go p e below s _ _ _ (s₁.setTop (mkF m 0 #[.val (.ref x), .val (.ref x), .unset] []))
  refine own_st (fun t9 k9 => XS.aloadN X0.here hx rfl (hb hby own_d_jdk_42_method_66_0) rfl rfl k9) ?_
  show own_Go p e below s _ _ _ (s₁.setTop (mkF m 1 #[.val (.ref x), .val (.ref x), .unset] [(.ref x)]))
  refine own_st (fun t9 k9 => XS.aloadN X0.here hx rfl (hb hby own_d_jdk_42_method_66_1) rfl rfl k9) ?_
  show own_Go p e below s _ _ _ (s₁.setTop (mkF m 2 #[.val (.ref x), .val (.ref x), .unset] [(.ref x), (.ref x)]))
  refine own_st (fun t9 k9 => XT.acmpNo X0.here hx rfl (hb hby own_d_jdk_42_method_66_2) rfl rfl rfl (by simp [XT.acmp]) k9) ?_
  show own_Go p e below s _ _ _ (s₁.setTop (mkF m 5 #[.val (.ref x), .val (.ref x), .unset] []))
  refine own_st (fun t9 k9 => XS.iconst X0.here hx rfl (hb hby own_d_jdk_42_method_66_5) k9) ?_
  show own_Go p e below s _ _ _ (s₁.setTop (mkF m 6 #[.val (.ref x), .val (.ref x), .unset] [(.int (1 : Int32))]))
  exact own_retN X0 hx hlk (t := .boolean) Bd.returns (by simp) (hb hby own_d_jdk_42_method_66_6) (by decide) (by decide) (by rw [e0]; exact ⟨rfl, N0, rfl⟩)
theorem own_pn6 : plainName "com/example/jobs_into_runs/jobsintoruns/http/ApiExceptionConflictPinLaw" = true := by first | (simp [plainName, overriddenIn]; done) | decide +kernel
theorem own_pd6 : parseMethodDescriptor "(Ljava/lang/String;J)Lcom/example/jobs_into_runs/jobsintoruns/http/ApiException;" = some ⟨[(.object "java/lang/String"), .long], some (.object "com/example/jobs_into_runs/jobsintoruns/http/ApiException")⟩ := by decide +kernel
theorem own_pd7 : parseMethodDescriptor "()I" = some ⟨[], some .int⟩ := by decide +kernel
theorem own_pd8 : parseMethodDescriptor "()Ljava/lang/String;" = some ⟨[], some (.object "java/lang/String")⟩ := by decide +kernel
theorem own_pd9 : parseMethodDescriptor "()Ljava/lang/Long;" = some ⟨[], some (.object "java/lang/Long")⟩ := by decide +kernel
theorem own_pd10 : parseMethodDescriptor "()J" = some ⟨[], some .long⟩ := by decide +kernel
theorem own_pd11 : parseMethodDescriptor "([C)V" = some ⟨[(.array .char)], none⟩ := by decide +kernel
theorem own_pd12 : parseMethodDescriptor "(Ljava/lang/Object;)Z" = some ⟨[(.object "java/lang/Object")], some .boolean⟩ := by decide +kernel
theorem own_ef_law (m : MethodId) (x0 : Int32) (x1 : Int32) (x2 : Int32) (x3 : Int64) : entryFrame m #[(.int x0), (.int x1), (.int x2), (.long x3)] maxLocals = mkF m 0 #[.val (.int x0), .val (.int x1), .val (.int x2), .val (.long x3), .second, .unset, .unset, .unset, .unset, .unset, .unset, .unset] [] := by first | (simp [entryFrame, mkF, argsToLocals, Value.category, maxLocals]; done) | rfl
def own_Q_law (Z : State)  (h0 : Heap) (n0 : Nat) (v : Option Value) (h : Heap) (L : List Loc) : Prop := v = some (.int 1) ∧ Fr n0 L
set_option maxRecDepth 65536 in
set_option maxHeartbeats 40000000 in
theorem own_rm_law (l : Launch) (Z : State) (a0 : Array Value) (hw : ∀ d ∈ tables_1, d.before a0 Z = true) (hEL : EW Z a0 consts_1) (ws : List Jvm.Cond) (p0 p1 p2 : Int32) (p3 : Int64) (G : Int32) (ca : Addr) (cl : Cell) (uu sv : Value) (h0 : Heap) (n0 : Nat) (Od : Old Z n0 h0) (O2 : Sta Z Z.heap "java/lang/String" "COMPACT_STRINGS" "Z" (.int G)) (P5 : ¬ (G = (0 : Int32))) (SC : Sta Z Z.heap "java/lang/Long$LongCache" "cache" "[Ljava/lang/Long;" (.ref ca)) (AC : Arr Z Z.heap ca cl (.object "java/lang/Long")) (HC : own_Cache Z cl) (hl : l.stackTraces = true) (SU : Sta Z Z.heap "java/lang/Throwable" "UNASSIGNED_STACK" "[Ljava/lang/StackTraceElement;" uu) (hu : uu.isRef = true) (SS : Sta Z Z.heap "java/lang/Throwable" "SUPPRESSED_SENTINEL" "Ljava/util/List;" sv) (hv : sv.isRef = true) :
    MetFree l x (head1 (Jvm.Cond.code x code maxLocals ret :: ws) room_1) (fun a9 U => a9 = #[(.int p0), (.int p1), (.int p2), (.long p3)] ∧ Z.Warmed39 U.vm ∧ U.heap = h0 ∧ CHv Z consts_1 U.vm h0 ∧ ∀ x9 ∈ ([] : List Addr), Safe Z consts_1 U.vm h0 x9) (fun _ _ bl s _ => s.vm.MethodsKnown ∧ s.vm.FramesKnown bl) (fun _ U o U' => ∃ v L, o = .returned v ∧ own_Q_law Z  h0 n0 v U'.heap L ∧ CHr Z consts_1 U.vm U.heap U'.vm U'.heap ∧ ReturnedEndW U o U' L 24 6656) := by
  refine MetFree.of_bodySF (plainFor_of_name own_pn6) hisR ?_
  intro p e s m args below meth c s₁ Bd hml0 hP hK
  obtain ⟨rfl, hZ, hh, Hc, Hs⟩ := hP
  have hx := Bd.exec
  have hby := Bd.bytes
  have hml : c.maxLocals = 12 := hml0
  have hown : s.vm.findClass "com/example/jobs_into_runs/jobsintoruns/http/ApiExceptionConflictPinLaw" = some m.cls := findClass_of_methodNamed Bd.named
  have hnm := (name_of_methodNamed Bd.named Bd.method).1
  have hlk : meth.locks = false := Bd.notSynchronized
  have X0 : Stand p l e room_1 (s.setVm s.vm) m #[(.int p0), (.int p1), (.int p2), (.long p3)] below meth c s₁ [] 0 0 := Stand.of_body Bd
  have e0 : s₁.heap = h0 := by rw [← hh, Bd.state]; rfl
  have N0 := Fr.nil n0
  have hS : s.Since s.vm h0.size := (State.WarmedH.refl s).since _
  have hk : h0.size ≤ h0.size := Nat.le_refl _
  have Hr : CHr Z consts_1 s.vm h0 s.vm h0 := CHr.refl Hc
  skip
  show own_GoW p e below s Z consts_1 (own_Q_law Z  h0 n0) 24 6656 (s₁.setTop (entryFrame m #[(.int p0), (.int p1), (.int p2), (.long p3)] maxLocals))
  refine own_stW (fun t9 k9 => castTop (own_ef_law m p0 p1 p2 p3) k9) ?_
  show own_GoW p e below s Z consts_1 _ _ _ (s₁.setTop (mkF m 0 #[.val (.int p0), .val (.int p1), .val (.int p2), .val (.long p3), .second, .unset, .unset, .unset, .unset, .unset, .unset, .unset] []))
  obtain ⟨hTK0, hBelow0⟩ := hK
  have hws : ∀ d ∈ StrChars.Road.words, d.before a0 Z = true := fun d hd => hw d ((by decide +kernel : ∀ d ∈ StrChars.Road.words, d ∈ tables_1) d hd)
  refine own_stW (fun t9 k9 => XS.iloadN X0.here hx rfl (hb hby at_0) rfl  k9) ?_
  show own_GoW p e below s Z consts_1 _ _ _ (s₁.setTop (mkF m 1 #[.val (.int p0), .val (.int p1), .val (.int p2), .val (.long p3), .second, .unset, .unset, .unset, .unset, .unset, .unset, .unset] [(.int p0)]))
  refine own_stW (fun t9 k9 => XS.iconst X0.here hx rfl (hb hby at_1) k9) ?_
  show own_GoW p e below s Z consts_1 _ _ _ (s₁.setTop (mkF m 2 #[.val (.int p0), .val (.int p1), .val (.int p2), .val (.long p3), .second, .unset, .unset, .unset, .unset, .unset, .unset, .unset] [(.int (3 : Int32)), (.int p0)]))
  refine own_stW (fun t9 k9 => XS.iand X0.here hx rfl (hb hby at_2) rfl k9) ?_
  show own_GoW p e below s Z consts_1 _ _ _ (s₁.setTop (mkF m 3 #[.val (.int p0), .val (.int p1), .val (.int p2), .val (.long p3), .second, .unset, .unset, .unset, .unset, .unset, .unset, .unset] [(.int (p0 &&& (3 : Int32)))]))
  refine own_stW (fun t9 k9 => XS.istore X0.here hx rfl (hb hby at_3) rfl (l' := #[.val (.int p0), .val (.int p1), .val (.int p2), .val (.long p3), .second, .val (.int (p0 &&& (3 : Int32))), .unset, .unset, .unset, .unset, .unset, .unset]) rfl k9) ?_
  show own_GoW p e below s Z consts_1 _ _ _ (s₁.setTop (mkF m 5 #[.val (.int p0), .val (.int p1), .val (.int p2), .val (.long p3), .second, .val (.int (p0 &&& (3 : Int32))), .unset, .unset, .unset, .unset, .unset, .unset] []))
  refine own_stW (fun t9 k9 => XS.iconst X0.here hx rfl (hb hby at_5) k9) ?_
  show own_GoW p e below s Z consts_1 _ _ _ (s₁.setTop (mkF m 6 #[.val (.int p0), .val (.int p1), .val (.int p2), .val (.long p3), .second, .val (.int (p0 &&& (3 : Int32))), .unset, .unset, .unset, .unset, .unset, .unset] [(.int (1 : Int32))]))
  obtain ⟨T91, h91, k91, X91, e91, E91, A91, st91⟩ := newP X0 hx hZ (hw _ (List.mem_of_getElem? (i := 0) rfl)) e0 (g := (mkF m 6 #[.val (.int p0), .val (.int p1), .val (.int p2), .val (.long p3), .second, .val (.int (p0 &&& (3 : Int32))), .unset, .unset, .unset, .unset, .unset, .unset] [(.int (1 : Int32))])) rfl (hb hby at_6) rfl (by decide) (cap := 1) (by decide) (by decide) (by decide) (by decide)
  obtain ⟨c1, g91⟩ : ∃ z, z = h0.size := ⟨_, rfl⟩
  rw [← g91] at A91 st91
  have ge_c1 : n0 ≤ c1 := Nat.le_trans (own_z0 Od) (Nat.le_of_eq g91.symm)
  have Sf_c1 : Safe Z consts_1 s.vm h0 c1 := Safe.new (Nat.le_of_eq g91.symm)
  have Sf_c1 := Safe.ext E91 Hr.1 Sf_c1
  have Od := Od.ext E91
  have Hr := Hr.trans (CHr.ext E91 Hr.1)
  have hk := Nat.le_trans hk E91.1
  refine own_stW st91 ?_
  show own_GoW p e below s Z consts_1 _ _ _ (T91.setTop (mkF m 8 #[.val (.int p0), .val (.int p1), .val (.int p2), .val (.long p3), .second, .val (.int (p0 &&& (3 : Int32))), .unset, .unset, .unset, .unset, .unset, .unset] [(.ref c1)]))
  have V_1 : Arv Z h91 c1 k91 .char (1 : Int32) [(.int (0 : Int32))] (.int (0 : Int32)) := (Arv.new A91 (by decide)).pad (pad_rep [] (.int (0 : Int32)) 1)
  refine own_stW (fun t9 k9 => XS.astore X91.here hx rfl (hb hby at_8) rfl rfl (l' := #[.val (.int p0), .val (.int p1), .val (.int p2), .val (.long p3), .second, .val (.int (p0 &&& (3 : Int32))), .val (.ref c1), .unset, .unset, .unset, .unset, .unset]) rfl k9) ?_
  show own_GoW p e below s Z consts_1 _ _ _ (T91.setTop (mkF m 10 #[.val (.int p0), .val (.int p1), .val (.int p2), .val (.long p3), .second, .val (.int (p0 &&& (3 : Int32))), .val (.ref c1), .unset, .unset, .unset, .unset, .unset] []))
  refine own_stW (fun t9 k9 => XS.aload X91.here hx rfl (hb hby at_10) rfl rfl k9) ?_
  show own_GoW p e below s Z consts_1 _ _ _ (T91.setTop (mkF m 12 #[.val (.int p0), .val (.int p1), .val (.int p2), .val (.long p3), .second, .val (.int (p0 &&& (3 : Int32))), .val (.ref c1), .unset, .unset, .unset, .unset, .unset] [(.ref c1)]))
  refine own_stW (fun t9 k9 => XS.iconst X91.here hx rfl (hb hby at_12) k9) ?_
  show own_GoW p e below s Z consts_1 _ _ _ (T91.setTop (mkF m 13 #[.val (.int p0), .val (.int p1), .val (.int p2), .val (.long p3), .second, .val (.int (p0 &&& (3 : Int32))), .val (.ref c1), .unset, .unset, .unset, .unset, .unset] [(.int (0 : Int32)), (.ref c1)]))
  refine own_stW (fun t9 k9 => XS.iloadN X91.here hx rfl (hb hby at_13) rfl  k9) ?_
  show own_GoW p e below s Z consts_1 _ _ _ (T91.setTop (mkF m 14 #[.val (.int p0), .val (.int p1), .val (.int p2), .val (.long p3), .second, .val (.int (p0 &&& (3 : Int32))), .val (.ref c1), .unset, .unset, .unset, .unset, .unset] [(.int p1), (.int (0 : Int32)), (.ref c1)]))
  refine own_stW (fun t9 k9 => XS.sipush X91.here hx rfl (hb hby at_14) k9) ?_
  show own_GoW p e below s Z consts_1 _ _ _ (T91.setTop (mkF m 17 #[.val (.int p0), .val (.int p1), .val (.int p2), .val (.long p3), .second, .val (.int (p0 &&& (3 : Int32))), .val (.ref c1), .unset, .unset, .unset, .unset, .unset] [(.int (255 : Int32)), (.int p1), (.int (0 : Int32)), (.ref c1)]))
  refine own_stW (fun t9 k9 => XS.iand X91.here hx rfl (hb hby at_17) rfl k9) ?_
  show own_GoW p e below s Z consts_1 _ _ _ (T91.setTop (mkF m 18 #[.val (.int p0), .val (.int p1), .val (.int p2), .val (.long p3), .second, .val (.int (p0 &&& (3 : Int32))), .val (.ref c1), .unset, .unset, .unset, .unset, .unset] [(.int (p1 &&& (255 : Int32))), (.int (0 : Int32)), (.ref c1)]))
  refine own_stW (fun t9 k9 => XT.i2c X91.here hx rfl (hb hby at_18) rfl k9) ?_
  show own_GoW p e below s Z consts_1 _ _ _ (T91.setTop (mkF m 19 #[.val (.int p0), .val (.int p1), .val (.int p2), .val (.long p3), .second, .val (.int (p0 &&& (3 : Int32))), .val (.ref c1), .unset, .unset, .unset, .unset, .unset] [(.int ((p1 &&& (255 : Int32)).toUInt32.toUInt16.toUInt32.toInt32)), (.int (0 : Int32)), (.ref c1)]))
  obtain ⟨cl92, Ar92, q92, S92, M92, H92, G92⟩ := id V_1
  obtain ⟨T92, h92, X92, e92, W92, st92⟩ := stC X91 hx hZ e91 Ar92 (j := (0 : Int32)) (inb_of S92 ⟨by decide, by decide⟩) (g := (mkF m 19 #[.val (.int p0), .val (.int p1), .val (.int p2), .val (.long p3), .second, .val (.int (p0 &&& (3 : Int32))), .val (.ref c1), .unset, .unset, .unset, .unset, .unset] [(.int ((p1 &&& (255 : Int32)).toUInt32.toUInt16.toUInt32.toInt32)), (.int (0 : Int32)), (.ref c1)])) rfl rfl (hb hby at_19)
  have N92 := Fr.snoc X92 N0 ge_c1
  have QSf_c1 := Safe.wr W92 Sf_c1 Hr.1 Sf_c1
  have Od := Od.wr W92 ge_c1
  have Hr := Hr.trans (CHr.wr W92 Sf_c1 Hr.1)
  have hk := Nat.le_trans hk (Keep.of_wr W92).1
  have Sf_c1 := QSf_c1
  refine own_stW st92 ?_
  show own_GoW p e below s Z consts_1 _ _ _ (T92.setTop (mkF m 20 #[.val (.int p0), .val (.int p1), .val (.int p2), .val (.long p3), .second, .val (.int (p0 &&& (3 : Int32))), .val (.ref c1), .unset, .unset, .unset, .unset, .unset] []))
  have V_1 : Arv Z h92 c1 k91 .char (1 : Int32) [(.int (nar .char ((p1 &&& (255 : Int32)).toUInt32.toUInt16.toUInt32.toInt32)))] (.int (0 : Int32)) := Arv.set Ar92 q92 S92 M92 H92 G92 (fits_nar_char _) W92 0 rfl (Nat.le_of_ble_eq_true rfl)
  refine own_stW (fun t9 k9 => XS.iconst X92.here hx rfl (hb hby at_20) k9) ?_
  show own_GoW p e below s Z consts_1 _ _ _ (T92.setTop (mkF m 21 #[.val (.int p0), .val (.int p1), .val (.int p2), .val (.long p3), .second, .val (.int (p0 &&& (3 : Int32))), .val (.ref c1), .unset, .unset, .unset, .unset, .unset] [(.int (2 : Int32))]))
  obtain ⟨T93, h93, k93, X93, e93, E93, A93, st93⟩ := newP X92 hx hZ (hw _ (List.mem_of_getElem? (i := 0) rfl)) e92 (g := (mkF m 21 #[.val (.int p0), .val (.int p1), .val (.int p2), .val (.long p3), .second, .val (.int (p0 &&& (3 : Int32))), .val (.ref c1), .unset, .unset, .unset, .unset, .unset] [(.int (2 : Int32))])) rfl (hb hby at_21) rfl (by decide) (cap := 2) (by decide) (by decide) (by decide) (by decide)
  obtain ⟨c2, g93⟩ : ∃ z, z = h92.size := ⟨_, rfl⟩
  rw [← g93] at A93 st93
  have ne_c1_c2 : c1 ≠ c2 := Nat.ne_of_lt (Nat.lt_of_lt_of_le V_1.lt (Nat.le_of_eq g93.symm))
  have ge_c2 : n0 ≤ c2 := Nat.le_trans (own_z0 Od) (Nat.le_of_eq g93.symm)
  have Sf_c2 : Safe Z consts_1 s.vm h92 c2 := Safe.new (Nat.le_of_eq g93.symm)
  have Sf_c1 := Safe.ext E93 Hr.1 Sf_c1
  have V_1 := V_1.ext E93
  have Sf_c2 := Safe.ext E93 Hr.1 Sf_c2
  have Od := Od.ext E93
  have Hr := Hr.trans (CHr.ext E93 Hr.1)
  have hk := Nat.le_trans hk E93.1
  refine own_stW st93 ?_
  show own_GoW p e below s Z consts_1 _ _ _ (T93.setTop (mkF m 23 #[.val (.int p0), .val (.int p1), .val (.int p2), .val (.long p3), .second, .val (.int (p0 &&& (3 : Int32))), .val (.ref c1), .unset, .unset, .unset, .unset, .unset] [(.ref c2)]))
  have V_2 : Arv Z h93 c2 k93 .char (2 : Int32) [(.int (0 : Int32)), (.int (0 : Int32))] (.int (0 : Int32)) := (Arv.new A93 (by decide)).pad (pad_rep [] (.int (0 : Int32)) 2)
  refine own_stW (fun t9 k9 => XS.astore X93.here hx rfl (hb hby at_23) rfl rfl (l' := #[.val (.int p0), .val (.int p1), .val (.int p2), .val (.long p3), .second, .val (.int (p0 &&& (3 : Int32))), .val (.ref c1), .val (.ref c2), .unset, .unset, .unset, .unset]) rfl k9) ?_
  show own_GoW p e below s Z consts_1 _ _ _ (T93.setTop (mkF m 25 #[.val (.int p0), .val (.int p1), .val (.int p2), .val (.long p3), .second, .val (.int (p0 &&& (3 : Int32))), .val (.ref c1), .val (.ref c2), .unset, .unset, .unset, .unset] []))
  refine own_stW (fun t9 k9 => XS.aload X93.here hx rfl (hb hby at_25) rfl rfl k9) ?_
  show own_GoW p e below s Z consts_1 _ _ _ (T93.setTop (mkF m 27 #[.val (.int p0), .val (.int p1), .val (.int p2), .val (.long p3), .second, .val (.int (p0 &&& (3 : Int32))), .val (.ref c1), .val (.ref c2), .unset, .unset, .unset, .unset] [(.ref c2)]))
  refine own_stW (fun t9 k9 => XS.iconst X93.here hx rfl (hb hby at_27) k9) ?_
  show own_GoW p e below s Z consts_1 _ _ _ (T93.setTop (mkF m 28 #[.val (.int p0), .val (.int p1), .val (.int p2), .val (.long p3), .second, .val (.int (p0 &&& (3 : Int32))), .val (.ref c1), .val (.ref c2), .unset, .unset, .unset, .unset] [(.int (0 : Int32)), (.ref c2)]))
  refine own_stW (fun t9 k9 => XS.iloadN X93.here hx rfl (hb hby at_28) rfl  k9) ?_
  show own_GoW p e below s Z consts_1 _ _ _ (T93.setTop (mkF m 29 #[.val (.int p0), .val (.int p1), .val (.int p2), .val (.long p3), .second, .val (.int (p0 &&& (3 : Int32))), .val (.ref c1), .val (.ref c2), .unset, .unset, .unset, .unset] [(.int p1), (.int (0 : Int32)), (.ref c2)]))
  refine own_stW (fun t9 k9 => XS.sipush X93.here hx rfl (hb hby at_29) k9) ?_
  show own_GoW p e below s Z consts_1 _ _ _ (T93.setTop (mkF m 32 #[.val (.int p0), .val (.int p1), .val (.int p2), .val (.long p3), .second, .val (.int (p0 &&& (3 : Int32))), .val (.ref c1), .val (.ref c2), .unset, .unset, .unset, .unset] [(.int (255 : Int32)), (.int p1), (.int (0 : Int32)), (.ref c2)]))
  refine own_stW (fun t9 k9 => XS.iand X93.here hx rfl (hb hby at_32) rfl k9) ?_
  show own_GoW p e below s Z consts_1 _ _ _ (T93.setTop (mkF m 33 #[.val (.int p0), .val (.int p1), .val (.int p2), .val (.long p3), .second, .val (.int (p0 &&& (3 : Int32))), .val (.ref c1), .val (.ref c2), .unset, .unset, .unset, .unset] [(.int (p1 &&& (255 : Int32))), (.int (0 : Int32)), (.ref c2)]))
  refine own_stW (fun t9 k9 => XT.i2c X93.here hx rfl (hb hby at_33) rfl k9) ?_
  show own_GoW p e below s Z consts_1 _ _ _ (T93.setTop (mkF m 34 #[.val (.int p0), .val (.int p1), .val (.int p2), .val (.long p3), .second, .val (.int (p0 &&& (3 : Int32))), .val (.ref c1), .val (.ref c2), .unset, .unset, .unset, .unset] [(.int ((p1 &&& (255 : Int32)).toUInt32.toUInt16.toUInt32.toInt32)), (.int (0 : Int32)), (.ref c2)]))
  obtain ⟨cl94, Ar94, q94, S94, M94, H94, G94⟩ := id V_2
  obtain ⟨T94, h94, X94, e94, W94, st94⟩ := stC X93 hx hZ e93 Ar94 (j := (0 : Int32)) (inb_of S94 ⟨by decide, by decide⟩) (g := (mkF m 34 #[.val (.int p0), .val (.int p1), .val (.int p2), .val (.long p3), .second, .val (.int (p0 &&& (3 : Int32))), .val (.ref c1), .val (.ref c2), .unset, .unset, .unset, .unset] [(.int ((p1 &&& (255 : Int32)).toUInt32.toUInt16.toUInt32.toInt32)), (.int (0 : Int32)), (.ref c2)])) rfl rfl (hb hby at_34)
  have N94 := Fr.snoc X94 N92 ge_c2
  have QSf_c1 := Safe.wr W94 Sf_c2 Hr.1 Sf_c1
  have V_1 := V_1.other W94 ne_c1_c2
  have QSf_c2 := Safe.wr W94 Sf_c2 Hr.1 Sf_c2
  have Od := Od.wr W94 ge_c2
  have Hr := Hr.trans (CHr.wr W94 Sf_c2 Hr.1)
  have hk := Nat.le_trans hk (Keep.of_wr W94).1
  have Sf_c1 := QSf_c1
  have Sf_c2 := QSf_c2
  refine own_stW st94 ?_
  show own_GoW p e below s Z consts_1 _ _ _ (T94.setTop (mkF m 35 #[.val (.int p0), .val (.int p1), .val (.int p2), .val (.long p3), .second, .val (.int (p0 &&& (3 : Int32))), .val (.ref c1), .val (.ref c2), .unset, .unset, .unset, .unset] []))
  have V_2 : Arv Z h94 c2 k93 .char (2 : Int32) [(.int (nar .char ((p1 &&& (255 : Int32)).toUInt32.toUInt16.toUInt32.toInt32))), (.int (0 : Int32))] (.int (0 : Int32)) := Arv.set Ar94 q94 S94 M94 H94 G94 (fits_nar_char _) W94 0 rfl (Nat.le_of_ble_eq_true rfl)
  refine own_stW (fun t9 k9 => XS.aload X94.here hx rfl (hb hby at_35) rfl rfl k9) ?_
  show own_GoW p e below s Z consts_1 _ _ _ (T94.setTop (mkF m 37 #[.val (.int p0), .val (.int p1), .val (.int p2), .val (.long p3), .second, .val (.int (p0 &&& (3 : Int32))), .val (.ref c1), .val (.ref c2), .unset, .unset, .unset, .unset] [(.ref c2)]))
  refine own_stW (fun t9 k9 => XS.iconst X94.here hx rfl (hb hby at_37) k9) ?_
  show own_GoW p e below s Z consts_1 _ _ _ (T94.setTop (mkF m 38 #[.val (.int p0), .val (.int p1), .val (.int p2), .val (.long p3), .second, .val (.int (p0 &&& (3 : Int32))), .val (.ref c1), .val (.ref c2), .unset, .unset, .unset, .unset] [(.int (1 : Int32)), (.ref c2)]))
  refine own_stW (fun t9 k9 => XS.iloadN X94.here hx rfl (hb hby at_38) rfl  k9) ?_
  show own_GoW p e below s Z consts_1 _ _ _ (T94.setTop (mkF m 39 #[.val (.int p0), .val (.int p1), .val (.int p2), .val (.long p3), .second, .val (.int (p0 &&& (3 : Int32))), .val (.ref c1), .val (.ref c2), .unset, .unset, .unset, .unset] [(.int p2), (.int (1 : Int32)), (.ref c2)]))
  refine own_stW (fun t9 k9 => XS.sipush X94.here hx rfl (hb hby at_39) k9) ?_
  show own_GoW p e below s Z consts_1 _ _ _ (T94.setTop (mkF m 42 #[.val (.int p0), .val (.int p1), .val (.int p2), .val (.long p3), .second, .val (.int (p0 &&& (3 : Int32))), .val (.ref c1), .val (.ref c2), .unset, .unset, .unset, .unset] [(.int (255 : Int32)), (.int p2), (.int (1 : Int32)), (.ref c2)]))
  refine own_stW (fun t9 k9 => XS.iand X94.here hx rfl (hb hby at_42) rfl k9) ?_
  show own_GoW p e below s Z consts_1 _ _ _ (T94.setTop (mkF m 43 #[.val (.int p0), .val (.int p1), .val (.int p2), .val (.long p3), .second, .val (.int (p0 &&& (3 : Int32))), .val (.ref c1), .val (.ref c2), .unset, .unset, .unset, .unset] [(.int (p2 &&& (255 : Int32))), (.int (1 : Int32)), (.ref c2)]))
  refine own_stW (fun t9 k9 => XT.i2c X94.here hx rfl (hb hby at_43) rfl k9) ?_
  show own_GoW p e below s Z consts_1 _ _ _ (T94.setTop (mkF m 44 #[.val (.int p0), .val (.int p1), .val (.int p2), .val (.long p3), .second, .val (.int (p0 &&& (3 : Int32))), .val (.ref c1), .val (.ref c2), .unset, .unset, .unset, .unset] [(.int ((p2 &&& (255 : Int32)).toUInt32.toUInt16.toUInt32.toInt32)), (.int (1 : Int32)), (.ref c2)]))
  obtain ⟨cl95, Ar95, q95, S95, M95, H95, G95⟩ := id V_2
  obtain ⟨T95, h95, X95, e95, W95, st95⟩ := stC X94 hx hZ e94 Ar95 (j := (1 : Int32)) (inb_of S95 ⟨by decide, by decide⟩) (g := (mkF m 44 #[.val (.int p0), .val (.int p1), .val (.int p2), .val (.long p3), .second, .val (.int (p0 &&& (3 : Int32))), .val (.ref c1), .val (.ref c2), .unset, .unset, .unset, .unset] [(.int ((p2 &&& (255 : Int32)).toUInt32.toUInt16.toUInt32.toInt32)), (.int (1 : Int32)), (.ref c2)])) rfl rfl (hb hby at_44)
  have N95 := Fr.snoc X95 N94 ge_c2
  have QSf_c1 := Safe.wr W95 Sf_c2 Hr.1 Sf_c1
  have V_1 := V_1.other W95 ne_c1_c2
  have QSf_c2 := Safe.wr W95 Sf_c2 Hr.1 Sf_c2
  have Od := Od.wr W95 ge_c2
  have Hr := Hr.trans (CHr.wr W95 Sf_c2 Hr.1)
  have hk := Nat.le_trans hk (Keep.of_wr W95).1
  have Sf_c1 := QSf_c1
  have Sf_c2 := QSf_c2
  refine own_stW st95 ?_
  show own_GoW p e below s Z consts_1 _ _ _ (T95.setTop (mkF m 45 #[.val (.int p0), .val (.int p1), .val (.int p2), .val (.long p3), .second, .val (.int (p0 &&& (3 : Int32))), .val (.ref c1), .val (.ref c2), .unset, .unset, .unset, .unset] []))
  have V_2 : Arv Z h95 c2 k93 .char (2 : Int32) [(.int (nar .char ((p1 &&& (255 : Int32)).toUInt32.toUInt16.toUInt32.toInt32))), (.int (nar .char ((p2 &&& (255 : Int32)).toUInt32.toUInt16.toUInt32.toInt32)))] (.int (0 : Int32)) := Arv.set Ar95 q95 S95 M95 H95 G95 (fits_nar_char _) W95 1 rfl (Nat.le_of_ble_eq_true rfl)
  refine own_stW (fun t9 k9 => XS.iload X95.here hx rfl (hb hby at_45) rfl  k9) ?_
  show own_GoW p e below s Z consts_1 _ _ _ (T95.setTop (mkF m 47 #[.val (.int p0), .val (.int p1), .val (.int p2), .val (.long p3), .second, .val (.int (p0 &&& (3 : Int32))), .val (.ref c1), .val (.ref c2), .unset, .unset, .unset, .unset] [(.int (p0 &&& (3 : Int32)))]))
  by_cases h0n : (p0 &&& (3 : Int32)) = (0 : Int32)
  · skip
    refine own_stW (fun t9 k9 => XS.ifNo X95.here hx rfl (hb hby at_47) rfl ((if0 _ _).trans (teq (h0n : (p0 &&& (3 : Int32)) = (0 : Int32))).2) k9) ?_
    show own_GoW p e below s Z consts_1 _ _ _ (T95.setTop (mkF m 50 #[.val (.int p0), .val (.int p1), .val (.int p2), .val (.long p3), .second, .val (.int (p0 &&& (3 : Int32))), .val (.ref c1), .val (.ref c2), .unset, .unset, .unset, .unset] []))
    refine own_stW (fun t9 k9 => XS.aconstNull X95.here hx rfl (hb hby at_50) k9) ?_
    show own_GoW p e below s Z consts_1 _ _ _ (T95.setTop (mkF m 51 #[.val (.int p0), .val (.int p1), .val (.int p2), .val (.long p3), .second, .val (.int (p0 &&& (3 : Int32))), .val (.ref c1), .val (.ref c2), .unset, .unset, .unset, .unset] [.null]))
    refine own_stW (fun t9 k9 => XS.astore X95.here hx rfl (hb hby at_51) rfl rfl (l' := #[.val (.int p0), .val (.int p1), .val (.int p2), .val (.long p3), .second, .val (.int (p0 &&& (3 : Int32))), .val (.ref c1), .val (.ref c2), .val .null, .unset, .unset, .unset]) rfl k9) ?_
    show own_GoW p e below s Z consts_1 _ _ _ (T95.setTop (mkF m 53 #[.val (.int p0), .val (.int p1), .val (.int p2), .val (.long p3), .second, .val (.int (p0 &&& (3 : Int32))), .val (.ref c1), .val (.ref c2), .val .null, .unset, .unset, .unset] []))
    refine own_stW (fun t9 k9 => XS.goto X95.here hx rfl (pc0 := 53) (pc' := 108) rfl (hb hby at_53) (by decide) (by decide) k9) ?_
    show own_GoW p e below s Z consts_1 _ _ _ (T95.setTop (mkF m 108 #[.val (.int p0), .val (.int p1), .val (.int p2), .val (.long p3), .second, .val (.int (p0 &&& (3 : Int32))), .val (.ref c1), .val (.ref c2), .val .null, .unset, .unset, .unset] []))
    refine own_stW (fun t9 k9 => XS.aload X95.here hx rfl (hb hby at_108) rfl rfl k9) ?_
    show own_GoW p e below s Z consts_1 _ _ _ (T95.setTop (mkF m 110 #[.val (.int p0), .val (.int p1), .val (.int p2), .val (.long p3), .second, .val (.int (p0 &&& (3 : Int32))), .val (.ref c1), .val (.ref c2), .val .null, .unset, .unset, .unset] [.null]))
    refine own_stW (fun t9 k9 => XT.lloadN X95.here hx rfl (hb hby at_110) rfl  k9) ?_
    show own_GoW p e below s Z consts_1 _ _ _ (T95.setTop (mkF m 111 #[.val (.int p0), .val (.int p1), .val (.int p2), .val (.long p3), .second, .val (.int (p0 &&& (3 : Int32))), .val (.ref c1), .val (.ref c2), .val .null, .unset, .unset, .unset] [(.long p3), .null]))
    have hTK := Vm.MethodsKnown.alikeC hS.1.alike hTK0
    have hBelow := Vm.FramesKnown.alikeC hS.1.alike hBelow0
    obtain ⟨_, T96, h96, L96, X96, e96, ⟨Nc, Kc, x, lg, rfl, gx, E_x, F0, F1, F2, F3, E_g, F_g⟩, st96⟩ := own_backS X95 hx hZ hown (hw _ (List.mem_of_getElem? (i := 1) rfl)) (hw _ (List.mem_of_getElem? (i := 2) rfl)) (hw _ (List.mem_of_getElem? (i := 3) rfl)) (hw _ (List.mem_of_getElem? (i := 4) rfl)) (by decide) (backOfKL (W := 0) (own_rm_cfN l Z a0 hw [] p3 ca cl uu sv h95 n0 Od SC AC HC hl SU hu SS hv) hZ (hw _ (List.mem_of_getElem? (i := 4) rfl)) (hw _ (List.mem_of_getElem? (i := 3) rfl)) (by decide) (by decide) hTK hBelow) e95 (W := 0) (g := (mkF m 111 #[.val (.int p0), .val (.int p1), .val (.int p2), .val (.long p3), .second, .val (.int (p0 &&& (3 : Int32))), .val (.ref c1), .val (.ref c2), .val .null, .unset, .unset, .unset] [(.long p3), .null])) rfl (by rw [hml]; rfl) (argsL := [.null, (.long p3)]) (rest := []) rfl (lenOf own_pd6 rfl) rfl (by show 2 * 0 + _ ≤ _; exact Nat.le_of_eq rfl) (hb hby at_111) (by decide) (by decide)
    have N96 := Fr.app N95 Nc
    have ge_x : n0 ≤ x := Nat.le_trans (own_z0 Od) gx
    have Od := Od.keep Kc all0
    have Hr0 := Hr.1
    have Hr := Hr.trans (CHr.keep Kc sf0 Hr.1)
    have hk := Nat.le_trans hk Kc.1
    have Sf_x := Safe.keep Kc sf0 Hr0 (Safe.new gx)
    refine own_stW st96 ?_
    show own_GoW p e below s Z consts_1 _ _ _ (T96.setTop (mkF m 114 #[.val (.int p0), .val (.int p1), .val (.int p2), .val (.long p3), .second, .val (.int (p0 &&& (3 : Int32))), .val (.ref c1), .val (.ref c2), .val .null, .unset, .unset, .unset] [(.ref x)]))
    refine own_stW (fun t9 k9 => XS.astore X96.here hx rfl (hb hby at_114) rfl rfl (l' := #[.val (.int p0), .val (.int p1), .val (.int p2), .val (.long p3), .second, .val (.int (p0 &&& (3 : Int32))), .val (.ref c1), .val (.ref c2), .val .null, .val (.ref x), .unset, .unset]) rfl k9) ?_
    show own_GoW p e below s Z consts_1 _ _ _ (T96.setTop (mkF m 116 #[.val (.int p0), .val (.int p1), .val (.int p2), .val (.long p3), .second, .val (.int (p0 &&& (3 : Int32))), .val (.ref c1), .val (.ref c2), .val .null, .val (.ref x), .unset, .unset] []))
    refine own_stW (fun t9 k9 => XS.aload X96.here hx rfl (hb hby at_116) rfl rfl k9) ?_
    show own_GoW p e below s Z consts_1 _ _ _ (T96.setTop (mkF m 118 #[.val (.int p0), .val (.int p1), .val (.int p2), .val (.long p3), .second, .val (.int (p0 &&& (3 : Int32))), .val (.ref c1), .val (.ref c2), .val .null, .val (.ref x), .unset, .unset] [(.ref x)]))
    refine own_stW (fun t9 k9 => XT.ifnonnullYes X96.here hx rfl (pc0 := 118) (pc' := 123) rfl (hb hby at_118) rfl (by decide) (by decide) k9) ?_
    show own_GoW p e below s Z consts_1 _ _ _ (T96.setTop (mkF m 123 #[.val (.int p0), .val (.int p1), .val (.int p2), .val (.long p3), .second, .val (.int (p0 &&& (3 : Int32))), .val (.ref c1), .val (.ref c2), .val .null, .val (.ref x), .unset, .unset] []))
    refine own_stW (fun t9 k9 => XS.aload X96.here hx rfl (hb hby at_123) rfl rfl k9) ?_
    show own_GoW p e below s Z consts_1 _ _ _ (T96.setTop (mkF m 125 #[.val (.int p0), .val (.int p1), .val (.int p2), .val (.long p3), .second, .val (.int (p0 &&& (3 : Int32))), .val (.ref c1), .val (.ref c2), .val .null, .val (.ref x), .unset, .unset] [(.ref x)]))
    obtain ⟨_, T97, h97, L97, X97, e97, ⟨rfl, Nd, hu⟩, st97⟩ := own_callV X96 hx hZ hown (hw _ (List.mem_of_getElem? (i := 86) rfl)) (hw _ (List.mem_of_getElem? (i := 87) rfl)) (hw _ (List.mem_of_getElem? (i := 89) rfl)) (hw _ (List.mem_of_getElem? (i := 88) rfl)) (hw _ (List.mem_of_getElem? (i := 3) rfl)) (hw _ (List.mem_of_getElem? (i := 90) rfl)) (by decide) (own_rm_rst l Z a0 hw [] x h96 n0 Od F0) (by decide) (by decide) e96 (b := x) E_x (W := 0) (g := (mkF m 125 #[.val (.int p0), .val (.int p1), .val (.int p2), .val (.long p3), .second, .val (.int (p0 &&& (3 : Int32))), .val (.ref c1), .val (.ref c2), .val .null, .val (.ref x), .unset, .unset] [(.ref x)])) rfl (by rw [hml]; rfl) (argsL := []) (rest := []) rfl (lenOf own_pd7 rfl) rfl (by show 2 * 0 + _ ≤ _; exact Nat.le_of_eq rfl) (hb hby at_125) (by decide) (by decide)
    have N97 := Fr.app N96 Nd
    refine own_stW st97 ?_
    show own_GoW p e below s Z consts_1 _ _ _ (T97.setTop (mkF m 128 #[.val (.int p0), .val (.int p1), .val (.int p2), .val (.long p3), .second, .val (.int (p0 &&& (3 : Int32))), .val (.ref c1), .val (.ref c2), .val .null, .val (.ref x), .unset, .unset] [(.int (409 : Int32))]))
    refine own_stW (fun t9 k9 => XS.sipush X97.here hx rfl (hb hby at_128) k9) ?_
    show own_GoW p e below s Z consts_1 _ _ _ (T97.setTop (mkF m 131 #[.val (.int p0), .val (.int p1), .val (.int p2), .val (.long p3), .second, .val (.int (p0 &&& (3 : Int32))), .val (.ref c1), .val (.ref c2), .val .null, .val (.ref x), .unset, .unset] [(.int (409 : Int32)), (.int (409 : Int32))]))
    refine own_stW (fun t9 k9 => XS.icmpYes X97.here hx rfl (pc0 := 131) (pc' := 136) rfl (hb hby at_131) rfl (by decide) (by decide) (by decide) k9) ?_
    show own_GoW p e below s Z consts_1 _ _ _ (T97.setTop (mkF m 136 #[.val (.int p0), .val (.int p1), .val (.int p2), .val (.long p3), .second, .val (.int (p0 &&& (3 : Int32))), .val (.ref c1), .val (.ref c2), .val .null, .val (.ref x), .unset, .unset] []))
    refine own_stW (fun t9 k9 => XS.aload X97.here hx rfl (hb hby at_136) rfl rfl k9) ?_
    show own_GoW p e below s Z consts_1 _ _ _ (T97.setTop (mkF m 138 #[.val (.int p0), .val (.int p1), .val (.int p2), .val (.long p3), .second, .val (.int (p0 &&& (3 : Int32))), .val (.ref c1), .val (.ref c2), .val .null, .val (.ref x), .unset, .unset] [(.ref x)]))
    obtain ⟨_, T98, h98, L98, X98, e98, ⟨rfl, Nd, hu⟩, st98⟩ := own_callV X97 hx hZ hown (hw _ (List.mem_of_getElem? (i := 91) rfl)) (hw _ (List.mem_of_getElem? (i := 92) rfl)) (hw _ (List.mem_of_getElem? (i := 94) rfl)) (hw _ (List.mem_of_getElem? (i := 93) rfl)) (hw _ (List.mem_of_getElem? (i := 3) rfl)) (hw _ (List.mem_of_getElem? (i := 95) rfl)) (by decide) (own_rm_ral l Z a0 hw [] x h96 n0 Od F1) (by decide) (by decide) (e97.trans hu) (b := x) E_x (W := 0) (g := (mkF m 138 #[.val (.int p0), .val (.int p1), .val (.int p2), .val (.long p3), .second, .val (.int (p0 &&& (3 : Int32))), .val (.ref c1), .val (.ref c2), .val .null, .val (.ref x), .unset, .unset] [(.ref x)])) rfl (by rw [hml]; rfl) (argsL := []) (rest := []) rfl (lenOf own_pd8 rfl) rfl (by show 2 * 0 + _ ≤ _; exact Nat.le_of_eq rfl) (hb hby at_138) (by decide) (by decide)
    have N98 := Fr.app N97 Nd
    refine own_stW st98 ?_
    show own_GoW p e below s Z consts_1 _ _ _ (T98.setTop (mkF m 141 #[.val (.int p0), .val (.int p1), .val (.int p2), .val (.long p3), .second, .val (.int (p0 &&& (3 : Int32))), .val (.ref c1), .val (.ref c2), .val .null, .val (.ref x), .unset, .unset] [.null]))
    refine own_stW (fun t9 k9 => XS.ifnullYes X98.here hx rfl (pc0 := 141) (pc' := 146) rfl (hb hby at_141) rfl (by decide) (by decide) k9) ?_
    show own_GoW p e below s Z consts_1 _ _ _ (T98.setTop (mkF m 146 #[.val (.int p0), .val (.int p1), .val (.int p2), .val (.long p3), .second, .val (.int (p0 &&& (3 : Int32))), .val (.ref c1), .val (.ref c2), .val .null, .val (.ref x), .unset, .unset] []))
    refine own_stW (fun t9 k9 => XS.aload X98.here hx rfl (hb hby at_146) rfl rfl k9) ?_
    show own_GoW p e below s Z consts_1 _ _ _ (T98.setTop (mkF m 148 #[.val (.int p0), .val (.int p1), .val (.int p2), .val (.long p3), .second, .val (.int (p0 &&& (3 : Int32))), .val (.ref c1), .val (.ref c2), .val .null, .val (.ref x), .unset, .unset] [(.ref x)]))
    obtain ⟨_, T99, h99, L99, X99, e99, ⟨rfl, Nd, hu⟩, st99⟩ := own_callV X98 hx hZ hown (hw _ (List.mem_of_getElem? (i := 96) rfl)) (hw _ (List.mem_of_getElem? (i := 97) rfl)) (hw _ (List.mem_of_getElem? (i := 99) rfl)) (hw _ (List.mem_of_getElem? (i := 98) rfl)) (hw _ (List.mem_of_getElem? (i := 3) rfl)) (hw _ (List.mem_of_getElem? (i := 100) rfl)) (by decide) (own_rm_rru l Z a0 hw [] x lg h96 n0 Od F2) (by decide) (by decide) (e98.trans hu) (b := x) E_x (W := 0) (g := (mkF m 148 #[.val (.int p0), .val (.int p1), .val (.int p2), .val (.long p3), .second, .val (.int (p0 &&& (3 : Int32))), .val (.ref c1), .val (.ref c2), .val .null, .val (.ref x), .unset, .unset] [(.ref x)])) rfl (by rw [hml]; rfl) (argsL := []) (rest := []) rfl (lenOf own_pd9 rfl) rfl (by show 2 * 0 + _ ≤ _; exact Nat.le_of_eq rfl) (hb hby at_148) (by decide) (by decide)
    have N99 := Fr.app N98 Nd
    refine own_stW st99 ?_
    show own_GoW p e below s Z consts_1 _ _ _ (T99.setTop (mkF m 151 #[.val (.int p0), .val (.int p1), .val (.int p2), .val (.long p3), .second, .val (.int (p0 &&& (3 : Int32))), .val (.ref c1), .val (.ref c2), .val .null, .val (.ref x), .unset, .unset] [(.ref lg)]))
    refine own_stW (fun t9 k9 => XS.astore X99.here hx rfl (hb hby at_151) rfl rfl (l' := #[.val (.int p0), .val (.int p1), .val (.int p2), .val (.long p3), .second, .val (.int (p0 &&& (3 : Int32))), .val (.ref c1), .val (.ref c2), .val .null, .val (.ref x), .val (.ref lg), .unset]) rfl k9) ?_
    show own_GoW p e below s Z consts_1 _ _ _ (T99.setTop (mkF m 153 #[.val (.int p0), .val (.int p1), .val (.int p2), .val (.long p3), .second, .val (.int (p0 &&& (3 : Int32))), .val (.ref c1), .val (.ref c2), .val .null, .val (.ref x), .val (.ref lg), .unset] []))
    refine own_stW (fun t9 k9 => XS.aload X99.here hx rfl (hb hby at_153) rfl rfl k9) ?_
    show own_GoW p e below s Z consts_1 _ _ _ (T99.setTop (mkF m 155 #[.val (.int p0), .val (.int p1), .val (.int p2), .val (.long p3), .second, .val (.int (p0 &&& (3 : Int32))), .val (.ref c1), .val (.ref c2), .val .null, .val (.ref x), .val (.ref lg), .unset] [(.ref lg)]))
    refine own_stW (fun t9 k9 => XS.ifnullNo X99.here hx rfl (hb hby at_155) rfl k9) ?_
    show own_GoW p e below s Z consts_1 _ _ _ (T99.setTop (mkF m 158 #[.val (.int p0), .val (.int p1), .val (.int p2), .val (.long p3), .second, .val (.int (p0 &&& (3 : Int32))), .val (.ref c1), .val (.ref c2), .val .null, .val (.ref x), .val (.ref lg), .unset] []))
    refine own_stW (fun t9 k9 => XS.aload X99.here hx rfl (hb hby at_158) rfl rfl k9) ?_
    show own_GoW p e below s Z consts_1 _ _ _ (T99.setTop (mkF m 160 #[.val (.int p0), .val (.int p1), .val (.int p2), .val (.long p3), .second, .val (.int (p0 &&& (3 : Int32))), .val (.ref c1), .val (.ref c2), .val .null, .val (.ref x), .val (.ref lg), .unset] [(.ref lg)]))
    obtain ⟨_, T100, h100, L100, X100, e100, ⟨rfl, Nd, hu⟩, st100⟩ := own_callV X99 hx hZ hown (hw _ (List.mem_of_getElem? (i := 101) rfl)) (hw _ (List.mem_of_getElem? (i := 102) rfl)) (hw _ (List.mem_of_getElem? (i := 104) rfl)) (hw _ (List.mem_of_getElem? (i := 103) rfl)) (hw _ (List.mem_of_getElem? (i := 9) rfl)) (hw _ (List.mem_of_getElem? (i := 105) rfl)) (by decide) (own_rm_rlv l Z a0 hw [] lg p3 h96 n0 Od F_g) (by decide) (by decide) (e99.trans hu) (b := lg) E_g (W := 0) (g := (mkF m 160 #[.val (.int p0), .val (.int p1), .val (.int p2), .val (.long p3), .second, .val (.int (p0 &&& (3 : Int32))), .val (.ref c1), .val (.ref c2), .val .null, .val (.ref x), .val (.ref lg), .unset] [(.ref lg)])) rfl (by rw [hml]; rfl) (argsL := []) (rest := []) rfl (lenOf own_pd10 rfl) rfl (by show 2 * 0 + _ ≤ _; exact Nat.le_of_eq rfl) (hb hby at_160) (by decide) (by decide)
    have N100 := Fr.app N99 Nd
    refine own_stW st100 ?_
    show own_GoW p e below s Z consts_1 _ _ _ (T100.setTop (mkF m 163 #[.val (.int p0), .val (.int p1), .val (.int p2), .val (.long p3), .second, .val (.int (p0 &&& (3 : Int32))), .val (.ref c1), .val (.ref c2), .val .null, .val (.ref x), .val (.ref lg), .unset] [(.long p3)]))
    refine own_stW (fun t9 k9 => XT.lloadN X100.here hx rfl (hb hby at_163) rfl  k9) ?_
    show own_GoW p e below s Z consts_1 _ _ _ (T100.setTop (mkF m 164 #[.val (.int p0), .val (.int p1), .val (.int p2), .val (.long p3), .second, .val (.int (p0 &&& (3 : Int32))), .val (.ref c1), .val (.ref c2), .val .null, .val (.ref x), .val (.ref lg), .unset] [(.long p3), (.long p3)]))
    refine own_stW (fun t9 k9 => XT.lcmp X100.here hx rfl (hb hby at_164) rfl k9) ?_
    show own_GoW p e below s Z consts_1 _ _ _ (T100.setTop (mkF m 165 #[.val (.int p0), .val (.int p1), .val (.int p2), .val (.long p3), .second, .val (.int (p0 &&& (3 : Int32))), .val (.ref c1), .val (.ref c2), .val .null, .val (.ref x), .val (.ref lg), .unset] [(.int (XT.cmpL p3 p3))]))
    refine own_stW (fun t9 k9 => XS.ifYes X100.here hx rfl (pc0 := 165) (pc' := 170) rfl (hb hby at_165) rfl ((if0 _ _).trans (teq (((lw_eq _ _).mpr rfl) : (XT.cmpL p3 p3) = (0 : Int32))).1) (by decide) (by decide) k9) ?_
    show own_GoW p e below s Z consts_1 _ _ _ (T100.setTop (mkF m 170 #[.val (.int p0), .val (.int p1), .val (.int p2), .val (.long p3), .second, .val (.int (p0 &&& (3 : Int32))), .val (.ref c1), .val (.ref c2), .val .null, .val (.ref x), .val (.ref lg), .unset] []))
    refine own_stW (fun t9 k9 => XS.aload X100.here hx rfl (hb hby at_170) rfl rfl k9) ?_
    show own_GoW p e below s Z consts_1 _ _ _ (T100.setTop (mkF m 172 #[.val (.int p0), .val (.int p1), .val (.int p2), .val (.long p3), .second, .val (.int (p0 &&& (3 : Int32))), .val (.ref c1), .val (.ref c2), .val .null, .val (.ref x), .val (.ref lg), .unset] [(.ref x)]))
    obtain ⟨_, T101, h101, L101, X101, e101, ⟨rfl, Nd, hu⟩, st101⟩ := own_callVU X100 hx hZ hown (hw _ (List.mem_of_getElem? (i := 106) rfl)) (hw _ (List.mem_of_getElem? (i := 107) rfl)) (hw _ (List.mem_of_getElem? (i := 108) rfl)) (hw _ (List.mem_of_getElem? (i := 110) rfl)) (hw _ (List.mem_of_getElem? (i := 109) rfl)) (hw _ (List.mem_of_getElem? (i := 41) rfl)) (hw _ (List.mem_of_getElem? (i := 111) rfl)) (by decide) (own_rm_rgN l Z a0 hw [] x h96 n0 Od F3) (by decide) (by decide) (e100.trans hu) (b := x) E_x (W := 0) (g := (mkF m 172 #[.val (.int p0), .val (.int p1), .val (.int p2), .val (.long p3), .second, .val (.int (p0 &&& (3 : Int32))), .val (.ref c1), .val (.ref c2), .val .null, .val (.ref x), .val (.ref lg), .unset] [(.ref x)])) rfl (by rw [hml]; rfl) (argsL := []) (rest := []) rfl (lenOf own_pd8 rfl) rfl (by show 2 * 0 + _ ≤ _; exact Nat.le_of_eq rfl) (hb hby at_172) (by decide) (by decide)
    have N101 := Fr.app N100 Nd
    refine own_stW st101 ?_
    show own_GoW p e below s Z consts_1 _ _ _ (T101.setTop (mkF m 175 #[.val (.int p0), .val (.int p1), .val (.int p2), .val (.long p3), .second, .val (.int (p0 &&& (3 : Int32))), .val (.ref c1), .val (.ref c2), .val .null, .val (.ref x), .val (.ref lg), .unset] [.null]))
    refine own_stW (fun t9 k9 => XS.astore X101.here hx rfl (hb hby at_175) rfl rfl (l' := #[.val (.int p0), .val (.int p1), .val (.int p2), .val (.long p3), .second, .val (.int (p0 &&& (3 : Int32))), .val (.ref c1), .val (.ref c2), .val .null, .val (.ref x), .val (.ref lg), .val .null]) rfl k9) ?_
    show own_GoW p e below s Z consts_1 _ _ _ (T101.setTop (mkF m 177 #[.val (.int p0), .val (.int p1), .val (.int p2), .val (.long p3), .second, .val (.int (p0 &&& (3 : Int32))), .val (.ref c1), .val (.ref c2), .val .null, .val (.ref x), .val (.ref lg), .val .null] []))
    refine own_stW (fun t9 k9 => XS.aload X101.here hx rfl (hb hby at_177) rfl rfl k9) ?_
    show own_GoW p e below s Z consts_1 _ _ _ (T101.setTop (mkF m 179 #[.val (.int p0), .val (.int p1), .val (.int p2), .val (.long p3), .second, .val (.int (p0 &&& (3 : Int32))), .val (.ref c1), .val (.ref c2), .val .null, .val (.ref x), .val (.ref lg), .val .null] [.null]))
    refine own_stW (fun t9 k9 => XT.ifnonnullNo X101.here hx rfl (hb hby at_179) rfl k9) ?_
    show own_GoW p e below s Z consts_1 _ _ _ (T101.setTop (mkF m 182 #[.val (.int p0), .val (.int p1), .val (.int p2), .val (.long p3), .second, .val (.int (p0 &&& (3 : Int32))), .val (.ref c1), .val (.ref c2), .val .null, .val (.ref x), .val (.ref lg), .val .null] []))
    refine own_stW (fun t9 k9 => XS.aload X101.here hx rfl (hb hby at_182) rfl rfl k9) ?_
    show own_GoW p e below s Z consts_1 _ _ _ (T101.setTop (mkF m 184 #[.val (.int p0), .val (.int p1), .val (.int p2), .val (.long p3), .second, .val (.int (p0 &&& (3 : Int32))), .val (.ref c1), .val (.ref c2), .val .null, .val (.ref x), .val (.ref lg), .val .null] [.null]))
    refine own_stW (fun t9 k9 => XT.ifnonnullNo X101.here hx rfl (hb hby at_184) rfl k9) ?_
    show own_GoW p e below s Z consts_1 _ _ _ (T101.setTop (mkF m 187 #[.val (.int p0), .val (.int p1), .val (.int p2), .val (.long p3), .second, .val (.int (p0 &&& (3 : Int32))), .val (.ref c1), .val (.ref c2), .val .null, .val (.ref x), .val (.ref lg), .val .null] []))
    refine own_stW (fun t9 k9 => XS.iconst X101.here hx rfl (hb hby at_187) k9) ?_
    show own_GoW p e below s Z consts_1 _ _ _ (T101.setTop (mkF m 188 #[.val (.int p0), .val (.int p1), .val (.int p2), .val (.long p3), .second, .val (.int (p0 &&& (3 : Int32))), .val (.ref c1), .val (.ref c2), .val .null, .val (.ref x), .val (.ref lg), .val .null] [(.int (1 : Int32))]))
    refine own_stW (fun t9 k9 => XS.goto X101.here hx rfl (pc0 := 188) (pc' := 192) rfl (hb hby at_188) (by decide) (by decide) k9) ?_
    show own_GoW p e below s Z consts_1 _ _ _ (T101.setTop (mkF m 192 #[.val (.int p0), .val (.int p1), .val (.int p2), .val (.long p3), .second, .val (.int (p0 &&& (3 : Int32))), .val (.ref c1), .val (.ref c2), .val .null, .val (.ref x), .val (.ref lg), .val .null] [(.int (1 : Int32))]))
    exact own_retNW X101 hx hlk hS (by rw [(e101.trans hu)]; exact hk) hZ hEL (by rw [hh, (e101.trans hu)]; exact Hr) (t := .boolean) Bd.returns (by simp) (hb hby at_192) (by decide) (by decide) (by rw [(e101.trans hu)]; exact ⟨rfl, N101⟩)
  · skip
    refine own_stW (fun t9 k9 => XS.ifYes X95.here hx rfl (pc0 := 47) (pc' := 56) rfl (hb hby at_47) rfl ((if0 _ _).trans (feq (h0n : ¬ ((p0 &&& (3 : Int32)) = (0 : Int32)))).2) (by decide) (by decide) k9) ?_
    show own_GoW p e below s Z consts_1 _ _ _ (T95.setTop (mkF m 56 #[.val (.int p0), .val (.int p1), .val (.int p2), .val (.long p3), .second, .val (.int (p0 &&& (3 : Int32))), .val (.ref c1), .val (.ref c2), .unset, .unset, .unset, .unset] []))
    refine own_stW (fun t9 k9 => XS.iload X95.here hx rfl (hb hby at_56) rfl  k9) ?_
    show own_GoW p e below s Z consts_1 _ _ _ (T95.setTop (mkF m 58 #[.val (.int p0), .val (.int p1), .val (.int p2), .val (.long p3), .second, .val (.int (p0 &&& (3 : Int32))), .val (.ref c1), .val (.ref c2), .unset, .unset, .unset, .unset] [(.int (p0 &&& (3 : Int32)))]))
    refine own_stW (fun t9 k9 => XS.iconst X95.here hx rfl (hb hby at_58) k9) ?_
    show own_GoW p e below s Z consts_1 _ _ _ (T95.setTop (mkF m 59 #[.val (.int p0), .val (.int p1), .val (.int p2), .val (.long p3), .second, .val (.int (p0 &&& (3 : Int32))), .val (.ref c1), .val (.ref c2), .unset, .unset, .unset, .unset] [(.int (1 : Int32)), (.int (p0 &&& (3 : Int32)))]))
    by_cases h1n : (p0 &&& (3 : Int32)) = (1 : Int32)
    · skip
      refine own_stW (fun t9 k9 => XS.icmpNo X95.here hx rfl (hb hby at_59) rfl (teq (h1n : (p0 &&& (3 : Int32)) = (1 : Int32))).2 k9) ?_
      show own_GoW p e below s Z consts_1 _ _ _ (T95.setTop (mkF m 62 #[.val (.int p0), .val (.int p1), .val (.int p2), .val (.long p3), .second, .val (.int (p0 &&& (3 : Int32))), .val (.ref c1), .val (.ref c2), .unset, .unset, .unset, .unset] []))
      obtain ⟨T102, h102, X102, e102, E102, A102, D102, U102, st102⟩ := newO X95 hx hZ hown (hw _ (List.mem_of_getElem? (i := 115) rfl)) (hw _ (List.mem_of_getElem? (i := 116) rfl)) (hw _ (List.mem_of_getElem? (i := 117) rfl)) e95 (g := (mkF m 62 #[.val (.int p0), .val (.int p1), .val (.int p2), .val (.long p3), .second, .val (.int (p0 &&& (3 : Int32))), .val (.ref c1), .val (.ref c2), .unset, .unset, .unset, .unset] [])) rfl (hb hby at_62) (by decide) (by decide)
      obtain ⟨g0, g102⟩ : ∃ z, z = h95.size := ⟨_, rfl⟩
      rw [← g102] at A102 D102 st102 U102
      have ne_c1_g0 : c1 ≠ g0 := Nat.ne_of_lt (Nat.lt_of_lt_of_le V_1.lt (Nat.le_of_eq g102.symm))
      have ne_c2_g0 : c2 ≠ g0 := Nat.ne_of_lt (Nat.lt_of_lt_of_le V_2.lt (Nat.le_of_eq g102.symm))
      have ge_g0 : n0 ≤ g0 := Nat.le_trans (own_z0 Od) (Nat.le_of_eq g102.symm)
      have Sf_g0 : Safe Z consts_1 s.vm h95 g0 := Safe.new (Nat.le_of_eq g102.symm)
      have Sf_c1 := Safe.ext E102 Hr.1 Sf_c1
      have V_1 := V_1.ext E102
      have Sf_c2 := Safe.ext E102 Hr.1 Sf_c2
      have V_2 := V_2.ext E102
      have Sf_g0 := Safe.ext E102 Hr.1 Sf_g0
      have Od := Od.ext E102
      have Hr := Hr.trans (CHr.ext E102 Hr.1)
      have hk := Nat.le_trans hk E102.1
      refine own_stW st102 ?_
      show own_GoW p e below s Z consts_1 _ _ _ (T102.setTop (mkF m 65 #[.val (.int p0), .val (.int p1), .val (.int p2), .val (.long p3), .second, .val (.int (p0 &&& (3 : Int32))), .val (.ref c1), .val (.ref c2), .unset, .unset, .unset, .unset] [(.ref g0)]))
      have E_g0 : Exa Z h102 g0 "java/lang/String" := A102
      have F_v : Fld Z h102 g0 "java/lang/String" "value" "[B" .null := D102 (Or.inr (hw _ (List.mem_of_getElem? (i := 141) rfl))) (ty := (.array .byte)) (by decide)
      have F_k : Fld Z h102 g0 "java/lang/String" "coder" "B" (.int (0 : Int32)) := D102 (Or.inr (hw _ (List.mem_of_getElem? (i := 139) rfl))) (ty := .byte) (by decide)
      refine own_stW (fun t9 k9 => XS.dup X102.here hx rfl (hb hby at_65) rfl rfl k9) ?_
      show own_GoW p e below s Z consts_1 _ _ _ (T102.setTop (mkF m 66 #[.val (.int p0), .val (.int p1), .val (.int p2), .val (.long p3), .second, .val (.int (p0 &&& (3 : Int32))), .val (.ref c1), .val (.ref c2), .unset, .unset, .unset, .unset] [(.ref g0), (.ref g0)]))
      refine own_stW (fun t9 k9 => XS.iconst X102.here hx rfl (hb hby at_66) k9) ?_
      show own_GoW p e below s Z consts_1 _ _ _ (T102.setTop (mkF m 67 #[.val (.int p0), .val (.int p1), .val (.int p2), .val (.long p3), .second, .val (.int (p0 &&& (3 : Int32))), .val (.ref c1), .val (.ref c2), .unset, .unset, .unset, .unset] [(.int (0 : Int32)), (.ref g0), (.ref g0)]))
      obtain ⟨T103, h103, k103, X103, e103, E103, A103, st103⟩ := newP X102 hx hZ (hw _ (List.mem_of_getElem? (i := 0) rfl)) e102 (g := (mkF m 67 #[.val (.int p0), .val (.int p1), .val (.int p2), .val (.long p3), .second, .val (.int (p0 &&& (3 : Int32))), .val (.ref c1), .val (.ref c2), .unset, .unset, .unset, .unset] [(.int (0 : Int32)), (.ref g0), (.ref g0)])) rfl (hb hby at_67) rfl (by decide) (cap := 0) (by decide) (by decide) (by decide) (by decide)
      obtain ⟨b, g103⟩ : ∃ z, z = h102.size := ⟨_, rfl⟩
      rw [← g103] at A103 st103
      have ne_c1_b : c1 ≠ b := Nat.ne_of_lt (Nat.lt_of_lt_of_le V_1.lt (Nat.le_of_eq g103.symm))
      have ne_c2_b : c2 ≠ b := Nat.ne_of_lt (Nat.lt_of_lt_of_le V_2.lt (Nat.le_of_eq g103.symm))
      have ne_g0_b : g0 ≠ b := Nat.ne_of_lt (Nat.lt_of_lt_of_le E_g0.lt (Nat.le_of_eq g103.symm))
      have ge_b : n0 ≤ b := Nat.le_trans (own_z0 Od) (Nat.le_of_eq g103.symm)
      have Sf_b : Safe Z consts_1 s.vm h102 b := Safe.new (Nat.le_of_eq g103.symm)
      have Sf_c1 := Safe.ext E103 Hr.1 Sf_c1
      have V_1 := V_1.ext E103
      have Sf_c2 := Safe.ext E103 Hr.1 Sf_c2
      have V_2 := V_2.ext E103
      have Sf_g0 := Safe.ext E103 Hr.1 Sf_g0
      have E_g0 := E_g0.ext E103
      have F_v := F_v.ext E103
      have F_k := F_k.ext E103
      have Sf_b := Safe.ext E103 Hr.1 Sf_b
      have Od := Od.ext E103
      have Hr := Hr.trans (CHr.ext E103 Hr.1)
      have hk := Nat.le_trans hk E103.1
      refine own_stW st103 ?_
      show own_GoW p e below s Z consts_1 _ _ _ (T103.setTop (mkF m 69 #[.val (.int p0), .val (.int p1), .val (.int p2), .val (.long p3), .second, .val (.int (p0 &&& (3 : Int32))), .val (.ref c1), .val (.ref c2), .unset, .unset, .unset, .unset] [(.ref b), (.ref g0), (.ref g0)]))
      have V_b : Arv Z h103 b k103 .char (0 : Int32) [] (.int (0 : Int32)) := (Arv.new A103 (by decide)).pad (pad_rep [] (.int (0 : Int32)) 0)
      obtain ⟨_, T104, h104, L104, X104, e104, ⟨rfl, Nc, Kc, E_y, F_c, t, kt, F_u, V_t⟩, hS104, hg104, hZ104, hown104, R104, st104⟩ := own_callIW X103 hx hZ hown hS hk rfl (hw _ (List.mem_of_getElem? (i := 118) rfl)) (hw _ (List.mem_of_getElem? (i := 119) rfl)) (hw _ (List.mem_of_getElem? (i := 120) rfl)) (by decide) (own_payW (W := 1) (K := (fun _ _ _ _ _ => True)) (own_rm_si1_0 l Z a0 hw hEL [] g0 b _ .null (.int (0 : Int32)) h103 n0 Od E_g0 F_v F_k V_b ge_g0 (Ne.symm ne_g0_b)) (fun _ _ _ _ _ _ _ _ _ => trivial) hZ (hw _ (List.mem_of_getElem? (i := 120) rfl)) (hw _ (List.mem_of_getElem? (i := 117) rfl)) (by decide) (by decide) hEL Hr.1 (own_sfS E_g0.lt Sf_g0 own_sf0)) e103 (a := g0) (g := (mkF m 69 #[.val (.int p0), .val (.int p1), .val (.int p2), .val (.long p3), .second, .val (.int (p0 &&& (3 : Int32))), .val (.ref c1), .val (.ref c2), .unset, .unset, .unset, .unset] [(.ref b), (.ref g0), (.ref g0)])) rfl (by rw [hml]; rfl) (argsL := [(.ref b)]) (rest := [(.ref g0)]) rfl (lenOf own_pd11 rfl) rfl (by show 2 * 0 + _ ≤ _; exact Nat.le_of_eq rfl) (hb hby at_69) (by decide) (by decide)
      have N104 := Fr.app N95 Nc
      have QSf_c1 := CHr.safe R104 V_1.lt Sf_c1
      have QSf_c2 := CHr.safe R104 V_2.lt Sf_c2
      have QSf_g0 := CHr.safe R104 E_g0.lt Sf_g0
      have QSf_b := CHr.safe R104 V_b.lt Sf_b
      have V_1 := V_1.keep Kc (ninS ne_c1_g0 nin0)
      have V_2 := V_2.keep Kc (ninS ne_c2_g0 nin0)
      have E_g0 := E_g0.keep Kc
      have V_b := V_b.keep Kc (ninS (Ne.symm ne_g0_b) nin0)
      have Od := Od.keep Kc (allS ge_g0 all0)
      have Sf_c1 := QSf_c1
      have Sf_c2 := QSf_c2
      have Sf_g0 := QSf_g0
      have Sf_b := QSf_b
      have Hr := Hr.trans R104
      have hS := hS104
      have hk : h104.size ≤ h104.size := Nat.le_refl _
      have hZ := hZ104
      have hown := hown104
      refine own_stW st104 ?_
      show own_GoW p e below s Z consts_1 _ _ _ (T104.setTop (mkF m 72 #[.val (.int p0), .val (.int p1), .val (.int p2), .val (.long p3), .second, .val (.int (p0 &&& (3 : Int32))), .val (.ref c1), .val (.ref c2), .unset, .unset, .unset, .unset] [(.ref g0)]))
      refine own_stW (fun t9 k9 => XS.astore X104.here hx rfl (hb hby at_72) rfl rfl (l' := #[.val (.int p0), .val (.int p1), .val (.int p2), .val (.long p3), .second, .val (.int (p0 &&& (3 : Int32))), .val (.ref c1), .val (.ref c2), .val (.ref g0), .unset, .unset, .unset]) rfl k9) ?_
      show own_GoW p e below s Z consts_1 _ _ _ (T104.setTop (mkF m 74 #[.val (.int p0), .val (.int p1), .val (.int p2), .val (.long p3), .second, .val (.int (p0 &&& (3 : Int32))), .val (.ref c1), .val (.ref c2), .val (.ref g0), .unset, .unset, .unset] []))
      refine own_stW (fun t9 k9 => XS.goto X104.here hx rfl (pc0 := 74) (pc' := 108) rfl (hb hby at_74) (by decide) (by decide) k9) ?_
      show own_GoW p e below s Z consts_1 _ _ _ (T104.setTop (mkF m 108 #[.val (.int p0), .val (.int p1), .val (.int p2), .val (.long p3), .second, .val (.int (p0 &&& (3 : Int32))), .val (.ref c1), .val (.ref c2), .val (.ref g0), .unset, .unset, .unset] []))
      refine own_stW (fun t9 k9 => XS.aload X104.here hx rfl (hb hby at_108) rfl rfl k9) ?_
      show own_GoW p e below s Z consts_1 _ _ _ (T104.setTop (mkF m 110 #[.val (.int p0), .val (.int p1), .val (.int p2), .val (.long p3), .second, .val (.int (p0 &&& (3 : Int32))), .val (.ref c1), .val (.ref c2), .val (.ref g0), .unset, .unset, .unset] [(.ref g0)]))
      refine own_stW (fun t9 k9 => XT.lloadN X104.here hx rfl (hb hby at_110) rfl  k9) ?_
      show own_GoW p e below s Z consts_1 _ _ _ (T104.setTop (mkF m 111 #[.val (.int p0), .val (.int p1), .val (.int p2), .val (.long p3), .second, .val (.int (p0 &&& (3 : Int32))), .val (.ref c1), .val (.ref c2), .val (.ref g0), .unset, .unset, .unset] [(.long p3), (.ref g0)]))
      have hTK := Vm.MethodsKnown.alikeC hS.1.alike hTK0
      have hBelow := Vm.FramesKnown.alikeC hS.1.alike hBelow0
      obtain ⟨_, T105, h105, L105, X105, e105, ⟨Nc, Kc, x, lg, rfl, gx, E_x, F0, F1, F2, F3, E_g, F_g⟩, st105⟩ := own_backS X104 hx hZ hown (hw _ (List.mem_of_getElem? (i := 1) rfl)) (hw _ (List.mem_of_getElem? (i := 2) rfl)) (hw _ (List.mem_of_getElem? (i := 3) rfl)) (hw _ (List.mem_of_getElem? (i := 4) rfl)) (by decide) (backOfKL (W := 0) (own_rm_cfR l Z a0 hw [] g0 p3 ca cl uu sv h104 n0 Od SC AC HC hl SU hu SS hv) hZ (hw _ (List.mem_of_getElem? (i := 4) rfl)) (hw _ (List.mem_of_getElem? (i := 3) rfl)) (by decide) (by decide) hTK hBelow) e104 (W := 0) (g := (mkF m 111 #[.val (.int p0), .val (.int p1), .val (.int p2), .val (.long p3), .second, .val (.int (p0 &&& (3 : Int32))), .val (.ref c1), .val (.ref c2), .val (.ref g0), .unset, .unset, .unset] [(.long p3), (.ref g0)])) rfl (by rw [hml]; rfl) (argsL := [(.ref g0), (.long p3)]) (rest := []) rfl (lenOf own_pd6 rfl) rfl (by show 2 * 0 + _ ≤ _; exact Nat.le_of_eq rfl) (hb hby at_111) (by decide) (by decide)
      have N105 := Fr.app N104 Nc
      have ne_g0_x : g0 ≠ x := Nat.ne_of_lt (Nat.lt_of_lt_of_le E_g0.lt gx)
      have ge_x : n0 ≤ x := Nat.le_trans (own_z0 Od) gx
      have QSf_g0 := Safe.keep Kc sf0 Hr.1 Sf_g0
      have E_g0 := E_g0.keep Kc
      have Od := Od.keep Kc all0
      have Hr0 := Hr.1
      have Hr := Hr.trans (CHr.keep Kc sf0 Hr.1)
      have hk := Nat.le_trans hk Kc.1
      have Sf_g0 := QSf_g0
      have Sf_x := Safe.keep Kc sf0 Hr0 (Safe.new gx)
      refine own_stW st105 ?_
      show own_GoW p e below s Z consts_1 _ _ _ (T105.setTop (mkF m 114 #[.val (.int p0), .val (.int p1), .val (.int p2), .val (.long p3), .second, .val (.int (p0 &&& (3 : Int32))), .val (.ref c1), .val (.ref c2), .val (.ref g0), .unset, .unset, .unset] [(.ref x)]))
      refine own_stW (fun t9 k9 => XS.astore X105.here hx rfl (hb hby at_114) rfl rfl (l' := #[.val (.int p0), .val (.int p1), .val (.int p2), .val (.long p3), .second, .val (.int (p0 &&& (3 : Int32))), .val (.ref c1), .val (.ref c2), .val (.ref g0), .val (.ref x), .unset, .unset]) rfl k9) ?_
      show own_GoW p e below s Z consts_1 _ _ _ (T105.setTop (mkF m 116 #[.val (.int p0), .val (.int p1), .val (.int p2), .val (.long p3), .second, .val (.int (p0 &&& (3 : Int32))), .val (.ref c1), .val (.ref c2), .val (.ref g0), .val (.ref x), .unset, .unset] []))
      refine own_stW (fun t9 k9 => XS.aload X105.here hx rfl (hb hby at_116) rfl rfl k9) ?_
      show own_GoW p e below s Z consts_1 _ _ _ (T105.setTop (mkF m 118 #[.val (.int p0), .val (.int p1), .val (.int p2), .val (.long p3), .second, .val (.int (p0 &&& (3 : Int32))), .val (.ref c1), .val (.ref c2), .val (.ref g0), .val (.ref x), .unset, .unset] [(.ref x)]))
      refine own_stW (fun t9 k9 => XT.ifnonnullYes X105.here hx rfl (pc0 := 118) (pc' := 123) rfl (hb hby at_118) rfl (by decide) (by decide) k9) ?_
      show own_GoW p e below s Z consts_1 _ _ _ (T105.setTop (mkF m 123 #[.val (.int p0), .val (.int p1), .val (.int p2), .val (.long p3), .second, .val (.int (p0 &&& (3 : Int32))), .val (.ref c1), .val (.ref c2), .val (.ref g0), .val (.ref x), .unset, .unset] []))
      refine own_stW (fun t9 k9 => XS.aload X105.here hx rfl (hb hby at_123) rfl rfl k9) ?_
      show own_GoW p e below s Z consts_1 _ _ _ (T105.setTop (mkF m 125 #[.val (.int p0), .val (.int p1), .val (.int p2), .val (.long p3), .second, .val (.int (p0 &&& (3 : Int32))), .val (.ref c1), .val (.ref c2), .val (.ref g0), .val (.ref x), .unset, .unset] [(.ref x)]))
      obtain ⟨_, T106, h106, L106, X106, e106, ⟨rfl, Nd, hu⟩, st106⟩ := own_callV X105 hx hZ hown (hw _ (List.mem_of_getElem? (i := 86) rfl)) (hw _ (List.mem_of_getElem? (i := 87) rfl)) (hw _ (List.mem_of_getElem? (i := 89) rfl)) (hw _ (List.mem_of_getElem? (i := 88) rfl)) (hw _ (List.mem_of_getElem? (i := 3) rfl)) (hw _ (List.mem_of_getElem? (i := 90) rfl)) (by decide) (own_rm_rst l Z a0 hw [] x h105 n0 Od F0) (by decide) (by decide) e105 (b := x) E_x (W := 0) (g := (mkF m 125 #[.val (.int p0), .val (.int p1), .val (.int p2), .val (.long p3), .second, .val (.int (p0 &&& (3 : Int32))), .val (.ref c1), .val (.ref c2), .val (.ref g0), .val (.ref x), .unset, .unset] [(.ref x)])) rfl (by rw [hml]; rfl) (argsL := []) (rest := []) rfl (lenOf own_pd7 rfl) rfl (by show 2 * 0 + _ ≤ _; exact Nat.le_of_eq rfl) (hb hby at_125) (by decide) (by decide)
      have N106 := Fr.app N105 Nd
      refine own_stW st106 ?_
      show own_GoW p e below s Z consts_1 _ _ _ (T106.setTop (mkF m 128 #[.val (.int p0), .val (.int p1), .val (.int p2), .val (.long p3), .second, .val (.int (p0 &&& (3 : Int32))), .val (.ref c1), .val (.ref c2), .val (.ref g0), .val (.ref x), .unset, .unset] [(.int (409 : Int32))]))
      refine own_stW (fun t9 k9 => XS.sipush X106.here hx rfl (hb hby at_128) k9) ?_
      show own_GoW p e below s Z consts_1 _ _ _ (T106.setTop (mkF m 131 #[.val (.int p0), .val (.int p1), .val (.int p2), .val (.long p3), .second, .val (.int (p0 &&& (3 : Int32))), .val (.ref c1), .val (.ref c2), .val (.ref g0), .val (.ref x), .unset, .unset] [(.int (409 : Int32)), (.int (409 : Int32))]))
      refine own_stW (fun t9 k9 => XS.icmpYes X106.here hx rfl (pc0 := 131) (pc' := 136) rfl (hb hby at_131) rfl (by decide) (by decide) (by decide) k9) ?_
      show own_GoW p e below s Z consts_1 _ _ _ (T106.setTop (mkF m 136 #[.val (.int p0), .val (.int p1), .val (.int p2), .val (.long p3), .second, .val (.int (p0 &&& (3 : Int32))), .val (.ref c1), .val (.ref c2), .val (.ref g0), .val (.ref x), .unset, .unset] []))
      refine own_stW (fun t9 k9 => XS.aload X106.here hx rfl (hb hby at_136) rfl rfl k9) ?_
      show own_GoW p e below s Z consts_1 _ _ _ (T106.setTop (mkF m 138 #[.val (.int p0), .val (.int p1), .val (.int p2), .val (.long p3), .second, .val (.int (p0 &&& (3 : Int32))), .val (.ref c1), .val (.ref c2), .val (.ref g0), .val (.ref x), .unset, .unset] [(.ref x)]))
      obtain ⟨_, T107, h107, L107, X107, e107, ⟨rfl, Nd, hu⟩, st107⟩ := own_callV X106 hx hZ hown (hw _ (List.mem_of_getElem? (i := 91) rfl)) (hw _ (List.mem_of_getElem? (i := 92) rfl)) (hw _ (List.mem_of_getElem? (i := 94) rfl)) (hw _ (List.mem_of_getElem? (i := 93) rfl)) (hw _ (List.mem_of_getElem? (i := 3) rfl)) (hw _ (List.mem_of_getElem? (i := 95) rfl)) (by decide) (own_rm_ral l Z a0 hw [] x h105 n0 Od F1) (by decide) (by decide) (e106.trans hu) (b := x) E_x (W := 0) (g := (mkF m 138 #[.val (.int p0), .val (.int p1), .val (.int p2), .val (.long p3), .second, .val (.int (p0 &&& (3 : Int32))), .val (.ref c1), .val (.ref c2), .val (.ref g0), .val (.ref x), .unset, .unset] [(.ref x)])) rfl (by rw [hml]; rfl) (argsL := []) (rest := []) rfl (lenOf own_pd8 rfl) rfl (by show 2 * 0 + _ ≤ _; exact Nat.le_of_eq rfl) (hb hby at_138) (by decide) (by decide)
      have N107 := Fr.app N106 Nd
      refine own_stW st107 ?_
      show own_GoW p e below s Z consts_1 _ _ _ (T107.setTop (mkF m 141 #[.val (.int p0), .val (.int p1), .val (.int p2), .val (.long p3), .second, .val (.int (p0 &&& (3 : Int32))), .val (.ref c1), .val (.ref c2), .val (.ref g0), .val (.ref x), .unset, .unset] [.null]))
      refine own_stW (fun t9 k9 => XS.ifnullYes X107.here hx rfl (pc0 := 141) (pc' := 146) rfl (hb hby at_141) rfl (by decide) (by decide) k9) ?_
      show own_GoW p e below s Z consts_1 _ _ _ (T107.setTop (mkF m 146 #[.val (.int p0), .val (.int p1), .val (.int p2), .val (.long p3), .second, .val (.int (p0 &&& (3 : Int32))), .val (.ref c1), .val (.ref c2), .val (.ref g0), .val (.ref x), .unset, .unset] []))
      refine own_stW (fun t9 k9 => XS.aload X107.here hx rfl (hb hby at_146) rfl rfl k9) ?_
      show own_GoW p e below s Z consts_1 _ _ _ (T107.setTop (mkF m 148 #[.val (.int p0), .val (.int p1), .val (.int p2), .val (.long p3), .second, .val (.int (p0 &&& (3 : Int32))), .val (.ref c1), .val (.ref c2), .val (.ref g0), .val (.ref x), .unset, .unset] [(.ref x)]))
      obtain ⟨_, T108, h108, L108, X108, e108, ⟨rfl, Nd, hu⟩, st108⟩ := own_callV X107 hx hZ hown (hw _ (List.mem_of_getElem? (i := 96) rfl)) (hw _ (List.mem_of_getElem? (i := 97) rfl)) (hw _ (List.mem_of_getElem? (i := 99) rfl)) (hw _ (List.mem_of_getElem? (i := 98) rfl)) (hw _ (List.mem_of_getElem? (i := 3) rfl)) (hw _ (List.mem_of_getElem? (i := 100) rfl)) (by decide) (own_rm_rru l Z a0 hw [] x lg h105 n0 Od F2) (by decide) (by decide) (e107.trans hu) (b := x) E_x (W := 0) (g := (mkF m 148 #[.val (.int p0), .val (.int p1), .val (.int p2), .val (.long p3), .second, .val (.int (p0 &&& (3 : Int32))), .val (.ref c1), .val (.ref c2), .val (.ref g0), .val (.ref x), .unset, .unset] [(.ref x)])) rfl (by rw [hml]; rfl) (argsL := []) (rest := []) rfl (lenOf own_pd9 rfl) rfl (by show 2 * 0 + _ ≤ _; exact Nat.le_of_eq rfl) (hb hby at_148) (by decide) (by decide)
      have N108 := Fr.app N107 Nd
      refine own_stW st108 ?_
      show own_GoW p e below s Z consts_1 _ _ _ (T108.setTop (mkF m 151 #[.val (.int p0), .val (.int p1), .val (.int p2), .val (.long p3), .second, .val (.int (p0 &&& (3 : Int32))), .val (.ref c1), .val (.ref c2), .val (.ref g0), .val (.ref x), .unset, .unset] [(.ref lg)]))
      refine own_stW (fun t9 k9 => XS.astore X108.here hx rfl (hb hby at_151) rfl rfl (l' := #[.val (.int p0), .val (.int p1), .val (.int p2), .val (.long p3), .second, .val (.int (p0 &&& (3 : Int32))), .val (.ref c1), .val (.ref c2), .val (.ref g0), .val (.ref x), .val (.ref lg), .unset]) rfl k9) ?_
      show own_GoW p e below s Z consts_1 _ _ _ (T108.setTop (mkF m 153 #[.val (.int p0), .val (.int p1), .val (.int p2), .val (.long p3), .second, .val (.int (p0 &&& (3 : Int32))), .val (.ref c1), .val (.ref c2), .val (.ref g0), .val (.ref x), .val (.ref lg), .unset] []))
      refine own_stW (fun t9 k9 => XS.aload X108.here hx rfl (hb hby at_153) rfl rfl k9) ?_
      show own_GoW p e below s Z consts_1 _ _ _ (T108.setTop (mkF m 155 #[.val (.int p0), .val (.int p1), .val (.int p2), .val (.long p3), .second, .val (.int (p0 &&& (3 : Int32))), .val (.ref c1), .val (.ref c2), .val (.ref g0), .val (.ref x), .val (.ref lg), .unset] [(.ref lg)]))
      refine own_stW (fun t9 k9 => XS.ifnullNo X108.here hx rfl (hb hby at_155) rfl k9) ?_
      show own_GoW p e below s Z consts_1 _ _ _ (T108.setTop (mkF m 158 #[.val (.int p0), .val (.int p1), .val (.int p2), .val (.long p3), .second, .val (.int (p0 &&& (3 : Int32))), .val (.ref c1), .val (.ref c2), .val (.ref g0), .val (.ref x), .val (.ref lg), .unset] []))
      refine own_stW (fun t9 k9 => XS.aload X108.here hx rfl (hb hby at_158) rfl rfl k9) ?_
      show own_GoW p e below s Z consts_1 _ _ _ (T108.setTop (mkF m 160 #[.val (.int p0), .val (.int p1), .val (.int p2), .val (.long p3), .second, .val (.int (p0 &&& (3 : Int32))), .val (.ref c1), .val (.ref c2), .val (.ref g0), .val (.ref x), .val (.ref lg), .unset] [(.ref lg)]))
      obtain ⟨_, T109, h109, L109, X109, e109, ⟨rfl, Nd, hu⟩, st109⟩ := own_callV X108 hx hZ hown (hw _ (List.mem_of_getElem? (i := 101) rfl)) (hw _ (List.mem_of_getElem? (i := 102) rfl)) (hw _ (List.mem_of_getElem? (i := 104) rfl)) (hw _ (List.mem_of_getElem? (i := 103) rfl)) (hw _ (List.mem_of_getElem? (i := 9) rfl)) (hw _ (List.mem_of_getElem? (i := 105) rfl)) (by decide) (own_rm_rlv l Z a0 hw [] lg p3 h105 n0 Od F_g) (by decide) (by decide) (e108.trans hu) (b := lg) E_g (W := 0) (g := (mkF m 160 #[.val (.int p0), .val (.int p1), .val (.int p2), .val (.long p3), .second, .val (.int (p0 &&& (3 : Int32))), .val (.ref c1), .val (.ref c2), .val (.ref g0), .val (.ref x), .val (.ref lg), .unset] [(.ref lg)])) rfl (by rw [hml]; rfl) (argsL := []) (rest := []) rfl (lenOf own_pd10 rfl) rfl (by show 2 * 0 + _ ≤ _; exact Nat.le_of_eq rfl) (hb hby at_160) (by decide) (by decide)
      have N109 := Fr.app N108 Nd
      refine own_stW st109 ?_
      show own_GoW p e below s Z consts_1 _ _ _ (T109.setTop (mkF m 163 #[.val (.int p0), .val (.int p1), .val (.int p2), .val (.long p3), .second, .val (.int (p0 &&& (3 : Int32))), .val (.ref c1), .val (.ref c2), .val (.ref g0), .val (.ref x), .val (.ref lg), .unset] [(.long p3)]))
      refine own_stW (fun t9 k9 => XT.lloadN X109.here hx rfl (hb hby at_163) rfl  k9) ?_
      show own_GoW p e below s Z consts_1 _ _ _ (T109.setTop (mkF m 164 #[.val (.int p0), .val (.int p1), .val (.int p2), .val (.long p3), .second, .val (.int (p0 &&& (3 : Int32))), .val (.ref c1), .val (.ref c2), .val (.ref g0), .val (.ref x), .val (.ref lg), .unset] [(.long p3), (.long p3)]))
      refine own_stW (fun t9 k9 => XT.lcmp X109.here hx rfl (hb hby at_164) rfl k9) ?_
      show own_GoW p e below s Z consts_1 _ _ _ (T109.setTop (mkF m 165 #[.val (.int p0), .val (.int p1), .val (.int p2), .val (.long p3), .second, .val (.int (p0 &&& (3 : Int32))), .val (.ref c1), .val (.ref c2), .val (.ref g0), .val (.ref x), .val (.ref lg), .unset] [(.int (XT.cmpL p3 p3))]))
      refine own_stW (fun t9 k9 => XS.ifYes X109.here hx rfl (pc0 := 165) (pc' := 170) rfl (hb hby at_165) rfl ((if0 _ _).trans (teq (((lw_eq _ _).mpr rfl) : (XT.cmpL p3 p3) = (0 : Int32))).1) (by decide) (by decide) k9) ?_
      show own_GoW p e below s Z consts_1 _ _ _ (T109.setTop (mkF m 170 #[.val (.int p0), .val (.int p1), .val (.int p2), .val (.long p3), .second, .val (.int (p0 &&& (3 : Int32))), .val (.ref c1), .val (.ref c2), .val (.ref g0), .val (.ref x), .val (.ref lg), .unset] []))
      refine own_stW (fun t9 k9 => XS.aload X109.here hx rfl (hb hby at_170) rfl rfl k9) ?_
      show own_GoW p e below s Z consts_1 _ _ _ (T109.setTop (mkF m 172 #[.val (.int p0), .val (.int p1), .val (.int p2), .val (.long p3), .second, .val (.int (p0 &&& (3 : Int32))), .val (.ref c1), .val (.ref c2), .val (.ref g0), .val (.ref x), .val (.ref lg), .unset] [(.ref x)]))
      obtain ⟨_, T110, h110, L110, X110, e110, ⟨rfl, Nd, hu⟩, st110⟩ := own_callVU X109 hx hZ hown (hw _ (List.mem_of_getElem? (i := 106) rfl)) (hw _ (List.mem_of_getElem? (i := 107) rfl)) (hw _ (List.mem_of_getElem? (i := 108) rfl)) (hw _ (List.mem_of_getElem? (i := 110) rfl)) (hw _ (List.mem_of_getElem? (i := 109) rfl)) (hw _ (List.mem_of_getElem? (i := 41) rfl)) (hw _ (List.mem_of_getElem? (i := 111) rfl)) (by decide) (own_rm_rgR l Z a0 hw [] x g0 h105 n0 Od F3) (by decide) (by decide) (e109.trans hu) (b := x) E_x (W := 0) (g := (mkF m 172 #[.val (.int p0), .val (.int p1), .val (.int p2), .val (.long p3), .second, .val (.int (p0 &&& (3 : Int32))), .val (.ref c1), .val (.ref c2), .val (.ref g0), .val (.ref x), .val (.ref lg), .unset] [(.ref x)])) rfl (by rw [hml]; rfl) (argsL := []) (rest := []) rfl (lenOf own_pd8 rfl) rfl (by show 2 * 0 + _ ≤ _; exact Nat.le_of_eq rfl) (hb hby at_172) (by decide) (by decide)
      have N110 := Fr.app N109 Nd
      refine own_stW st110 ?_
      show own_GoW p e below s Z consts_1 _ _ _ (T110.setTop (mkF m 175 #[.val (.int p0), .val (.int p1), .val (.int p2), .val (.long p3), .second, .val (.int (p0 &&& (3 : Int32))), .val (.ref c1), .val (.ref c2), .val (.ref g0), .val (.ref x), .val (.ref lg), .unset] [(.ref g0)]))
      refine own_stW (fun t9 k9 => XS.astore X110.here hx rfl (hb hby at_175) rfl rfl (l' := #[.val (.int p0), .val (.int p1), .val (.int p2), .val (.long p3), .second, .val (.int (p0 &&& (3 : Int32))), .val (.ref c1), .val (.ref c2), .val (.ref g0), .val (.ref x), .val (.ref lg), .val (.ref g0)]) rfl k9) ?_
      show own_GoW p e below s Z consts_1 _ _ _ (T110.setTop (mkF m 177 #[.val (.int p0), .val (.int p1), .val (.int p2), .val (.long p3), .second, .val (.int (p0 &&& (3 : Int32))), .val (.ref c1), .val (.ref c2), .val (.ref g0), .val (.ref x), .val (.ref lg), .val (.ref g0)] []))
      refine own_stW (fun t9 k9 => XS.aload X110.here hx rfl (hb hby at_177) rfl rfl k9) ?_
      show own_GoW p e below s Z consts_1 _ _ _ (T110.setTop (mkF m 179 #[.val (.int p0), .val (.int p1), .val (.int p2), .val (.long p3), .second, .val (.int (p0 &&& (3 : Int32))), .val (.ref c1), .val (.ref c2), .val (.ref g0), .val (.ref x), .val (.ref lg), .val (.ref g0)] [(.ref g0)]))
      refine own_stW (fun t9 k9 => XT.ifnonnullYes X110.here hx rfl (pc0 := 179) (pc' := 193) rfl (hb hby at_179) rfl (by decide) (by decide) k9) ?_
      show own_GoW p e below s Z consts_1 _ _ _ (T110.setTop (mkF m 193 #[.val (.int p0), .val (.int p1), .val (.int p2), .val (.long p3), .second, .val (.int (p0 &&& (3 : Int32))), .val (.ref c1), .val (.ref c2), .val (.ref g0), .val (.ref x), .val (.ref lg), .val (.ref g0)] []))
      refine own_stW (fun t9 k9 => XS.aload X110.here hx rfl (hb hby at_193) rfl rfl k9) ?_
      show own_GoW p e below s Z consts_1 _ _ _ (T110.setTop (mkF m 195 #[.val (.int p0), .val (.int p1), .val (.int p2), .val (.long p3), .second, .val (.int (p0 &&& (3 : Int32))), .val (.ref c1), .val (.ref c2), .val (.ref g0), .val (.ref x), .val (.ref lg), .val (.ref g0)] [(.ref g0)]))
      refine own_stW (fun t9 k9 => XS.ifnullNo X110.here hx rfl (hb hby at_195) rfl k9) ?_
      show own_GoW p e below s Z consts_1 _ _ _ (T110.setTop (mkF m 198 #[.val (.int p0), .val (.int p1), .val (.int p2), .val (.long p3), .second, .val (.int (p0 &&& (3 : Int32))), .val (.ref c1), .val (.ref c2), .val (.ref g0), .val (.ref x), .val (.ref lg), .val (.ref g0)] []))
      refine own_stW (fun t9 k9 => XS.aload X110.here hx rfl (hb hby at_198) rfl rfl k9) ?_
      show own_GoW p e below s Z consts_1 _ _ _ (T110.setTop (mkF m 200 #[.val (.int p0), .val (.int p1), .val (.int p2), .val (.long p3), .second, .val (.int (p0 &&& (3 : Int32))), .val (.ref c1), .val (.ref c2), .val (.ref g0), .val (.ref x), .val (.ref lg), .val (.ref g0)] [(.ref g0)]))
      refine own_stW (fun t9 k9 => XS.aload X110.here hx rfl (hb hby at_200) rfl rfl k9) ?_
      show own_GoW p e below s Z consts_1 _ _ _ (T110.setTop (mkF m 202 #[.val (.int p0), .val (.int p1), .val (.int p2), .val (.long p3), .second, .val (.int (p0 &&& (3 : Int32))), .val (.ref c1), .val (.ref c2), .val (.ref g0), .val (.ref x), .val (.ref lg), .val (.ref g0)] [(.ref g0), (.ref g0)]))
      obtain ⟨_, T111, h111, L111, X111, e111, ⟨rfl, Nd, hu⟩, st111⟩ := own_callV X110 hx hZ hown (hw _ (List.mem_of_getElem? (i := 142) rfl)) (hw _ (List.mem_of_getElem? (i := 143) rfl)) (hw _ (List.mem_of_getElem? (i := 145) rfl)) (hw _ (List.mem_of_getElem? (i := 144) rfl)) (hw _ (List.mem_of_getElem? (i := 117) rfl)) (hw _ (List.mem_of_getElem? (i := 146) rfl)) (by decide) (own_rm_seq l Z a0 hw [] g0 h105 n0 Od) (by decide) (by decide) (e110.trans hu) (b := g0) E_g0 (W := 0) (g := (mkF m 202 #[.val (.int p0), .val (.int p1), .val (.int p2), .val (.long p3), .second, .val (.int (p0 &&& (3 : Int32))), .val (.ref c1), .val (.ref c2), .val (.ref g0), .val (.ref x), .val (.ref lg), .val (.ref g0)] [(.ref g0), (.ref g0)])) rfl (by rw [hml]; rfl) (argsL := [(.ref g0)]) (rest := []) rfl (lenOf own_pd12 rfl) rfl (by show 2 * 0 + _ ≤ _; exact Nat.le_of_eq rfl) (hb hby at_202) (by decide) (by decide)
      have N111 := Fr.app N110 Nd
      refine own_stW st111 ?_
      show own_GoW p e below s Z consts_1 _ _ _ (T111.setTop (mkF m 205 #[.val (.int p0), .val (.int p1), .val (.int p2), .val (.long p3), .second, .val (.int (p0 &&& (3 : Int32))), .val (.ref c1), .val (.ref c2), .val (.ref g0), .val (.ref x), .val (.ref lg), .val (.ref g0)] [(.int (1 : Int32))]))
      refine own_stW (fun t9 k9 => XS.ifNo X111.here hx rfl (hb hby at_205) rfl (by decide) k9) ?_
      show own_GoW p e below s Z consts_1 _ _ _ (T111.setTop (mkF m 208 #[.val (.int p0), .val (.int p1), .val (.int p2), .val (.long p3), .second, .val (.int (p0 &&& (3 : Int32))), .val (.ref c1), .val (.ref c2), .val (.ref g0), .val (.ref x), .val (.ref lg), .val (.ref g0)] []))
      refine own_stW (fun t9 k9 => XS.iconst X111.here hx rfl (hb hby at_208) k9) ?_
      show own_GoW p e below s Z consts_1 _ _ _ (T111.setTop (mkF m 209 #[.val (.int p0), .val (.int p1), .val (.int p2), .val (.long p3), .second, .val (.int (p0 &&& (3 : Int32))), .val (.ref c1), .val (.ref c2), .val (.ref g0), .val (.ref x), .val (.ref lg), .val (.ref g0)] [(.int (1 : Int32))]))
      refine own_stW (fun t9 k9 => XS.goto X111.here hx rfl (pc0 := 209) (pc' := 213) rfl (hb hby at_209) (by decide) (by decide) k9) ?_
      show own_GoW p e below s Z consts_1 _ _ _ (T111.setTop (mkF m 213 #[.val (.int p0), .val (.int p1), .val (.int p2), .val (.long p3), .second, .val (.int (p0 &&& (3 : Int32))), .val (.ref c1), .val (.ref c2), .val (.ref g0), .val (.ref x), .val (.ref lg), .val (.ref g0)] [(.int (1 : Int32))]))
      exact own_retNW X111 hx hlk hS (by rw [(e111.trans hu)]; exact hk) hZ hEL (by rw [hh, (e111.trans hu)]; exact Hr) (t := .boolean) Bd.returns (by simp) (hb hby at_213) (by decide) (by decide) (by rw [(e111.trans hu)]; exact ⟨rfl, N111⟩)
    · skip
      refine own_stW (fun t9 k9 => XS.icmpYes X95.here hx rfl (pc0 := 59) (pc' := 77) rfl (hb hby at_59) rfl (feq (h1n : ¬ ((p0 &&& (3 : Int32)) = (1 : Int32)))).2 (by decide) (by decide) k9) ?_
      show own_GoW p e below s Z consts_1 _ _ _ (T95.setTop (mkF m 77 #[.val (.int p0), .val (.int p1), .val (.int p2), .val (.long p3), .second, .val (.int (p0 &&& (3 : Int32))), .val (.ref c1), .val (.ref c2), .unset, .unset, .unset, .unset] []))
      refine own_stW (fun t9 k9 => XS.iload X95.here hx rfl (hb hby at_77) rfl  k9) ?_
      show own_GoW p e below s Z consts_1 _ _ _ (T95.setTop (mkF m 79 #[.val (.int p0), .val (.int p1), .val (.int p2), .val (.long p3), .second, .val (.int (p0 &&& (3 : Int32))), .val (.ref c1), .val (.ref c2), .unset, .unset, .unset, .unset] [(.int (p0 &&& (3 : Int32)))]))
      refine own_stW (fun t9 k9 => XS.iconst X95.here hx rfl (hb hby at_79) k9) ?_
      show own_GoW p e below s Z consts_1 _ _ _ (T95.setTop (mkF m 80 #[.val (.int p0), .val (.int p1), .val (.int p2), .val (.long p3), .second, .val (.int (p0 &&& (3 : Int32))), .val (.ref c1), .val (.ref c2), .unset, .unset, .unset, .unset] [(.int (2 : Int32)), (.int (p0 &&& (3 : Int32)))]))
      by_cases h2n : (p0 &&& (3 : Int32)) = (2 : Int32)
      · skip
        refine own_stW (fun t9 k9 => XS.icmpNo X95.here hx rfl (hb hby at_80) rfl (teq (h2n : (p0 &&& (3 : Int32)) = (2 : Int32))).2 k9) ?_
        show own_GoW p e below s Z consts_1 _ _ _ (T95.setTop (mkF m 83 #[.val (.int p0), .val (.int p1), .val (.int p2), .val (.long p3), .second, .val (.int (p0 &&& (3 : Int32))), .val (.ref c1), .val (.ref c2), .unset, .unset, .unset, .unset] []))
        obtain ⟨T112, h112, X112, e112, E112, A112, D112, U112, st112⟩ := newO X95 hx hZ hown (hw _ (List.mem_of_getElem? (i := 115) rfl)) (hw _ (List.mem_of_getElem? (i := 116) rfl)) (hw _ (List.mem_of_getElem? (i := 117) rfl)) e95 (g := (mkF m 83 #[.val (.int p0), .val (.int p1), .val (.int p2), .val (.long p3), .second, .val (.int (p0 &&& (3 : Int32))), .val (.ref c1), .val (.ref c2), .unset, .unset, .unset, .unset] [])) rfl (hb hby at_83) (by decide) (by decide)
        obtain ⟨g0, g112⟩ : ∃ z, z = h95.size := ⟨_, rfl⟩
        rw [← g112] at A112 D112 st112 U112
        have ne_c1_g0 : c1 ≠ g0 := Nat.ne_of_lt (Nat.lt_of_lt_of_le V_1.lt (Nat.le_of_eq g112.symm))
        have ne_c2_g0 : c2 ≠ g0 := Nat.ne_of_lt (Nat.lt_of_lt_of_le V_2.lt (Nat.le_of_eq g112.symm))
        have ge_g0 : n0 ≤ g0 := Nat.le_trans (own_z0 Od) (Nat.le_of_eq g112.symm)
        have Sf_g0 : Safe Z consts_1 s.vm h95 g0 := Safe.new (Nat.le_of_eq g112.symm)
        have Sf_c1 := Safe.ext E112 Hr.1 Sf_c1
        have V_1 := V_1.ext E112
        have Sf_c2 := Safe.ext E112 Hr.1 Sf_c2
        have V_2 := V_2.ext E112
        have Sf_g0 := Safe.ext E112 Hr.1 Sf_g0
        have Od := Od.ext E112
        have Hr := Hr.trans (CHr.ext E112 Hr.1)
        have hk := Nat.le_trans hk E112.1
        refine own_stW st112 ?_
        show own_GoW p e below s Z consts_1 _ _ _ (T112.setTop (mkF m 86 #[.val (.int p0), .val (.int p1), .val (.int p2), .val (.long p3), .second, .val (.int (p0 &&& (3 : Int32))), .val (.ref c1), .val (.ref c2), .unset, .unset, .unset, .unset] [(.ref g0)]))
        have E_g0 : Exa Z h112 g0 "java/lang/String" := A112
        have F_v : Fld Z h112 g0 "java/lang/String" "value" "[B" .null := D112 (Or.inr (hw _ (List.mem_of_getElem? (i := 141) rfl))) (ty := (.array .byte)) (by decide)
        have F_k : Fld Z h112 g0 "java/lang/String" "coder" "B" (.int (0 : Int32)) := D112 (Or.inr (hw _ (List.mem_of_getElem? (i := 139) rfl))) (ty := .byte) (by decide)
        refine own_stW (fun t9 k9 => XS.dup X112.here hx rfl (hb hby at_86) rfl rfl k9) ?_
        show own_GoW p e below s Z consts_1 _ _ _ (T112.setTop (mkF m 87 #[.val (.int p0), .val (.int p1), .val (.int p2), .val (.long p3), .second, .val (.int (p0 &&& (3 : Int32))), .val (.ref c1), .val (.ref c2), .unset, .unset, .unset, .unset] [(.ref g0), (.ref g0)]))
        refine own_stW (fun t9 k9 => XS.aload X112.here hx rfl (hb hby at_87) rfl rfl k9) ?_
        show own_GoW p e below s Z consts_1 _ _ _ (T112.setTop (mkF m 89 #[.val (.int p0), .val (.int p1), .val (.int p2), .val (.long p3), .second, .val (.int (p0 &&& (3 : Int32))), .val (.ref c1), .val (.ref c2), .unset, .unset, .unset, .unset] [(.ref c1), (.ref g0), (.ref g0)]))
        have hp : ∀ c ∈ ([nar .char ((p1 &&& (255 : Int32)).toUInt32.toUInt16.toUInt32.toInt32)] : List Int32), ¬ c < 0 ∧ ¬ (255 : Int32) < c := by
          intro c hc
          simp only [List.mem_cons, List.not_mem_nil, or_false] at hc
          rcases hc with rfl <;> exact own_and255 _
        obtain ⟨_, T113, h113, L113, X113, e113, ⟨rfl, Nb, Kb, Eb, Fk, tt, kb, gt, gt2, ntb, Fv, Vb⟩, st113⟩ := own_backI X112 hx hZ hown rfl (hw _ (List.mem_of_getElem? (i := 118) rfl)) (hw _ (List.mem_of_getElem? (i := 119) rfl)) (hw _ (List.mem_of_getElem? (i := 120) rfl)) (by decide) (StrChars.Road.backV (W := 1) hZ hws (kI := 4) (hw _ (List.mem_of_getElem? (i := 116) rfl)) (cs := [nar .char ((p1 &&& (255 : Int32)).toUInt32.toUInt16.toUInt32.toInt32)]) (bs := ([nar .char ((p1 &&& (255 : Int32)).toUInt32.toUInt16.toUInt32.toInt32)] : List Int32).map (fun c => c.toInt8.toInt32)) (n := 1) ge_g0 (own_z0 Od) E_g0 F_v F_k V_1 (O2.ext Od.2) P5 rfl rfl (by decide) (by decide) hp rfl (by decide) (by decide)) e112 (a := g0) (W := 1) (g := (mkF m 89 #[.val (.int p0), .val (.int p1), .val (.int p2), .val (.long p3), .second, .val (.int (p0 &&& (3 : Int32))), .val (.ref c1), .val (.ref c2), .unset, .unset, .unset, .unset] [(.ref c1), (.ref g0), (.ref g0)])) rfl (by rw [hml]; rfl) (argsL := [(.ref c1)]) (rest := [(.ref g0)]) rfl (lenOf own_pd11 rfl) rfl (by show 2 * 0 + _ ≤ _; exact Nat.le_of_eq rfl) (hb hby at_89) (by decide) (by decide)
        have N113 := Fr.app N95 Nb
        have QSf_c1 := Safe.keep Kb (sfS Sf_g0 sf0) Hr.1 Sf_c1
        have V_1 := V_1.keep Kb (ninS ne_c1_g0 nin0)
        have QSf_c2 := Safe.keep Kb (sfS Sf_g0 sf0) Hr.1 Sf_c2
        have V_2 := V_2.keep Kb (ninS ne_c2_g0 nin0)
        have QSf_g0 := Safe.keep Kb (sfS Sf_g0 sf0) Hr.1 Sf_g0
        have E_g0 := E_g0.keep Kb
        have Od := Od.keep Kb (allS ge_g0 all0)
        have Hr0 := Hr.1
        have Hr := Hr.trans (CHr.keep Kb (sfS Sf_g0 sf0) Hr.1)
        have hk := Nat.le_trans hk Kb.1
        have Sf_c1 := QSf_c1
        have Sf_c2 := QSf_c2
        have Sf_g0 := QSf_g0
        refine own_stW st113 ?_
        show own_GoW p e below s Z consts_1 _ _ _ (T113.setTop (mkF m 92 #[.val (.int p0), .val (.int p1), .val (.int p2), .val (.long p3), .second, .val (.int (p0 &&& (3 : Int32))), .val (.ref c1), .val (.ref c2), .unset, .unset, .unset, .unset] [(.ref g0)]))
        refine own_stW (fun t9 k9 => XS.astore X113.here hx rfl (hb hby at_92) rfl rfl (l' := #[.val (.int p0), .val (.int p1), .val (.int p2), .val (.long p3), .second, .val (.int (p0 &&& (3 : Int32))), .val (.ref c1), .val (.ref c2), .val (.ref g0), .unset, .unset, .unset]) rfl k9) ?_
        show own_GoW p e below s Z consts_1 _ _ _ (T113.setTop (mkF m 94 #[.val (.int p0), .val (.int p1), .val (.int p2), .val (.long p3), .second, .val (.int (p0 &&& (3 : Int32))), .val (.ref c1), .val (.ref c2), .val (.ref g0), .unset, .unset, .unset] []))
        refine own_stW (fun t9 k9 => XS.goto X113.here hx rfl (pc0 := 94) (pc' := 108) rfl (hb hby at_94) (by decide) (by decide) k9) ?_
        show own_GoW p e below s Z consts_1 _ _ _ (T113.setTop (mkF m 108 #[.val (.int p0), .val (.int p1), .val (.int p2), .val (.long p3), .second, .val (.int (p0 &&& (3 : Int32))), .val (.ref c1), .val (.ref c2), .val (.ref g0), .unset, .unset, .unset] []))
        refine own_stW (fun t9 k9 => XS.aload X113.here hx rfl (hb hby at_108) rfl rfl k9) ?_
        show own_GoW p e below s Z consts_1 _ _ _ (T113.setTop (mkF m 110 #[.val (.int p0), .val (.int p1), .val (.int p2), .val (.long p3), .second, .val (.int (p0 &&& (3 : Int32))), .val (.ref c1), .val (.ref c2), .val (.ref g0), .unset, .unset, .unset] [(.ref g0)]))
        refine own_stW (fun t9 k9 => XT.lloadN X113.here hx rfl (hb hby at_110) rfl  k9) ?_
        show own_GoW p e below s Z consts_1 _ _ _ (T113.setTop (mkF m 111 #[.val (.int p0), .val (.int p1), .val (.int p2), .val (.long p3), .second, .val (.int (p0 &&& (3 : Int32))), .val (.ref c1), .val (.ref c2), .val (.ref g0), .unset, .unset, .unset] [(.long p3), (.ref g0)]))
        have hTK := Vm.MethodsKnown.alikeC hS.1.alike hTK0
        have hBelow := Vm.FramesKnown.alikeC hS.1.alike hBelow0
        obtain ⟨_, T114, h114, L114, X114, e114, ⟨Nc, Kc, x, lg, rfl, gx, E_x, F0, F1, F2, F3, E_g, F_g⟩, st114⟩ := own_backS X113 hx hZ hown (hw _ (List.mem_of_getElem? (i := 1) rfl)) (hw _ (List.mem_of_getElem? (i := 2) rfl)) (hw _ (List.mem_of_getElem? (i := 3) rfl)) (hw _ (List.mem_of_getElem? (i := 4) rfl)) (by decide) (backOfKL (W := 0) (own_rm_cfR l Z a0 hw [] g0 p3 ca cl uu sv h113 n0 Od SC AC HC hl SU hu SS hv) hZ (hw _ (List.mem_of_getElem? (i := 4) rfl)) (hw _ (List.mem_of_getElem? (i := 3) rfl)) (by decide) (by decide) hTK hBelow) e113 (W := 0) (g := (mkF m 111 #[.val (.int p0), .val (.int p1), .val (.int p2), .val (.long p3), .second, .val (.int (p0 &&& (3 : Int32))), .val (.ref c1), .val (.ref c2), .val (.ref g0), .unset, .unset, .unset] [(.long p3), (.ref g0)])) rfl (by rw [hml]; rfl) (argsL := [(.ref g0), (.long p3)]) (rest := []) rfl (lenOf own_pd6 rfl) rfl (by show 2 * 0 + _ ≤ _; exact Nat.le_of_eq rfl) (hb hby at_111) (by decide) (by decide)
        have N114 := Fr.app N113 Nc
        have ne_g0_x : g0 ≠ x := Nat.ne_of_lt (Nat.lt_of_lt_of_le E_g0.lt gx)
        have ge_x : n0 ≤ x := Nat.le_trans (own_z0 Od) gx
        have QSf_g0 := Safe.keep Kc sf0 Hr.1 Sf_g0
        have E_g0 := E_g0.keep Kc
        have Od := Od.keep Kc all0
        have Hr0 := Hr.1
        have Hr := Hr.trans (CHr.keep Kc sf0 Hr.1)
        have hk := Nat.le_trans hk Kc.1
        have Sf_g0 := QSf_g0
        have Sf_x := Safe.keep Kc sf0 Hr0 (Safe.new gx)
        refine own_stW st114 ?_
        show own_GoW p e below s Z consts_1 _ _ _ (T114.setTop (mkF m 114 #[.val (.int p0), .val (.int p1), .val (.int p2), .val (.long p3), .second, .val (.int (p0 &&& (3 : Int32))), .val (.ref c1), .val (.ref c2), .val (.ref g0), .unset, .unset, .unset] [(.ref x)]))
        refine own_stW (fun t9 k9 => XS.astore X114.here hx rfl (hb hby at_114) rfl rfl (l' := #[.val (.int p0), .val (.int p1), .val (.int p2), .val (.long p3), .second, .val (.int (p0 &&& (3 : Int32))), .val (.ref c1), .val (.ref c2), .val (.ref g0), .val (.ref x), .unset, .unset]) rfl k9) ?_
        show own_GoW p e below s Z consts_1 _ _ _ (T114.setTop (mkF m 116 #[.val (.int p0), .val (.int p1), .val (.int p2), .val (.long p3), .second, .val (.int (p0 &&& (3 : Int32))), .val (.ref c1), .val (.ref c2), .val (.ref g0), .val (.ref x), .unset, .unset] []))
        refine own_stW (fun t9 k9 => XS.aload X114.here hx rfl (hb hby at_116) rfl rfl k9) ?_
        show own_GoW p e below s Z consts_1 _ _ _ (T114.setTop (mkF m 118 #[.val (.int p0), .val (.int p1), .val (.int p2), .val (.long p3), .second, .val (.int (p0 &&& (3 : Int32))), .val (.ref c1), .val (.ref c2), .val (.ref g0), .val (.ref x), .unset, .unset] [(.ref x)]))
        refine own_stW (fun t9 k9 => XT.ifnonnullYes X114.here hx rfl (pc0 := 118) (pc' := 123) rfl (hb hby at_118) rfl (by decide) (by decide) k9) ?_
        show own_GoW p e below s Z consts_1 _ _ _ (T114.setTop (mkF m 123 #[.val (.int p0), .val (.int p1), .val (.int p2), .val (.long p3), .second, .val (.int (p0 &&& (3 : Int32))), .val (.ref c1), .val (.ref c2), .val (.ref g0), .val (.ref x), .unset, .unset] []))
        refine own_stW (fun t9 k9 => XS.aload X114.here hx rfl (hb hby at_123) rfl rfl k9) ?_
        show own_GoW p e below s Z consts_1 _ _ _ (T114.setTop (mkF m 125 #[.val (.int p0), .val (.int p1), .val (.int p2), .val (.long p3), .second, .val (.int (p0 &&& (3 : Int32))), .val (.ref c1), .val (.ref c2), .val (.ref g0), .val (.ref x), .unset, .unset] [(.ref x)]))
        obtain ⟨_, T115, h115, L115, X115, e115, ⟨rfl, Nd, hu⟩, st115⟩ := own_callV X114 hx hZ hown (hw _ (List.mem_of_getElem? (i := 86) rfl)) (hw _ (List.mem_of_getElem? (i := 87) rfl)) (hw _ (List.mem_of_getElem? (i := 89) rfl)) (hw _ (List.mem_of_getElem? (i := 88) rfl)) (hw _ (List.mem_of_getElem? (i := 3) rfl)) (hw _ (List.mem_of_getElem? (i := 90) rfl)) (by decide) (own_rm_rst l Z a0 hw [] x h114 n0 Od F0) (by decide) (by decide) e114 (b := x) E_x (W := 0) (g := (mkF m 125 #[.val (.int p0), .val (.int p1), .val (.int p2), .val (.long p3), .second, .val (.int (p0 &&& (3 : Int32))), .val (.ref c1), .val (.ref c2), .val (.ref g0), .val (.ref x), .unset, .unset] [(.ref x)])) rfl (by rw [hml]; rfl) (argsL := []) (rest := []) rfl (lenOf own_pd7 rfl) rfl (by show 2 * 0 + _ ≤ _; exact Nat.le_of_eq rfl) (hb hby at_125) (by decide) (by decide)
        have N115 := Fr.app N114 Nd
        refine own_stW st115 ?_
        show own_GoW p e below s Z consts_1 _ _ _ (T115.setTop (mkF m 128 #[.val (.int p0), .val (.int p1), .val (.int p2), .val (.long p3), .second, .val (.int (p0 &&& (3 : Int32))), .val (.ref c1), .val (.ref c2), .val (.ref g0), .val (.ref x), .unset, .unset] [(.int (409 : Int32))]))
        refine own_stW (fun t9 k9 => XS.sipush X115.here hx rfl (hb hby at_128) k9) ?_
        show own_GoW p e below s Z consts_1 _ _ _ (T115.setTop (mkF m 131 #[.val (.int p0), .val (.int p1), .val (.int p2), .val (.long p3), .second, .val (.int (p0 &&& (3 : Int32))), .val (.ref c1), .val (.ref c2), .val (.ref g0), .val (.ref x), .unset, .unset] [(.int (409 : Int32)), (.int (409 : Int32))]))
        refine own_stW (fun t9 k9 => XS.icmpYes X115.here hx rfl (pc0 := 131) (pc' := 136) rfl (hb hby at_131) rfl (by decide) (by decide) (by decide) k9) ?_
        show own_GoW p e below s Z consts_1 _ _ _ (T115.setTop (mkF m 136 #[.val (.int p0), .val (.int p1), .val (.int p2), .val (.long p3), .second, .val (.int (p0 &&& (3 : Int32))), .val (.ref c1), .val (.ref c2), .val (.ref g0), .val (.ref x), .unset, .unset] []))
        refine own_stW (fun t9 k9 => XS.aload X115.here hx rfl (hb hby at_136) rfl rfl k9) ?_
        show own_GoW p e below s Z consts_1 _ _ _ (T115.setTop (mkF m 138 #[.val (.int p0), .val (.int p1), .val (.int p2), .val (.long p3), .second, .val (.int (p0 &&& (3 : Int32))), .val (.ref c1), .val (.ref c2), .val (.ref g0), .val (.ref x), .unset, .unset] [(.ref x)]))
        obtain ⟨_, T116, h116, L116, X116, e116, ⟨rfl, Nd, hu⟩, st116⟩ := own_callV X115 hx hZ hown (hw _ (List.mem_of_getElem? (i := 91) rfl)) (hw _ (List.mem_of_getElem? (i := 92) rfl)) (hw _ (List.mem_of_getElem? (i := 94) rfl)) (hw _ (List.mem_of_getElem? (i := 93) rfl)) (hw _ (List.mem_of_getElem? (i := 3) rfl)) (hw _ (List.mem_of_getElem? (i := 95) rfl)) (by decide) (own_rm_ral l Z a0 hw [] x h114 n0 Od F1) (by decide) (by decide) (e115.trans hu) (b := x) E_x (W := 0) (g := (mkF m 138 #[.val (.int p0), .val (.int p1), .val (.int p2), .val (.long p3), .second, .val (.int (p0 &&& (3 : Int32))), .val (.ref c1), .val (.ref c2), .val (.ref g0), .val (.ref x), .unset, .unset] [(.ref x)])) rfl (by rw [hml]; rfl) (argsL := []) (rest := []) rfl (lenOf own_pd8 rfl) rfl (by show 2 * 0 + _ ≤ _; exact Nat.le_of_eq rfl) (hb hby at_138) (by decide) (by decide)
        have N116 := Fr.app N115 Nd
        refine own_stW st116 ?_
        show own_GoW p e below s Z consts_1 _ _ _ (T116.setTop (mkF m 141 #[.val (.int p0), .val (.int p1), .val (.int p2), .val (.long p3), .second, .val (.int (p0 &&& (3 : Int32))), .val (.ref c1), .val (.ref c2), .val (.ref g0), .val (.ref x), .unset, .unset] [.null]))
        refine own_stW (fun t9 k9 => XS.ifnullYes X116.here hx rfl (pc0 := 141) (pc' := 146) rfl (hb hby at_141) rfl (by decide) (by decide) k9) ?_
        show own_GoW p e below s Z consts_1 _ _ _ (T116.setTop (mkF m 146 #[.val (.int p0), .val (.int p1), .val (.int p2), .val (.long p3), .second, .val (.int (p0 &&& (3 : Int32))), .val (.ref c1), .val (.ref c2), .val (.ref g0), .val (.ref x), .unset, .unset] []))
        refine own_stW (fun t9 k9 => XS.aload X116.here hx rfl (hb hby at_146) rfl rfl k9) ?_
        show own_GoW p e below s Z consts_1 _ _ _ (T116.setTop (mkF m 148 #[.val (.int p0), .val (.int p1), .val (.int p2), .val (.long p3), .second, .val (.int (p0 &&& (3 : Int32))), .val (.ref c1), .val (.ref c2), .val (.ref g0), .val (.ref x), .unset, .unset] [(.ref x)]))
        obtain ⟨_, T117, h117, L117, X117, e117, ⟨rfl, Nd, hu⟩, st117⟩ := own_callV X116 hx hZ hown (hw _ (List.mem_of_getElem? (i := 96) rfl)) (hw _ (List.mem_of_getElem? (i := 97) rfl)) (hw _ (List.mem_of_getElem? (i := 99) rfl)) (hw _ (List.mem_of_getElem? (i := 98) rfl)) (hw _ (List.mem_of_getElem? (i := 3) rfl)) (hw _ (List.mem_of_getElem? (i := 100) rfl)) (by decide) (own_rm_rru l Z a0 hw [] x lg h114 n0 Od F2) (by decide) (by decide) (e116.trans hu) (b := x) E_x (W := 0) (g := (mkF m 148 #[.val (.int p0), .val (.int p1), .val (.int p2), .val (.long p3), .second, .val (.int (p0 &&& (3 : Int32))), .val (.ref c1), .val (.ref c2), .val (.ref g0), .val (.ref x), .unset, .unset] [(.ref x)])) rfl (by rw [hml]; rfl) (argsL := []) (rest := []) rfl (lenOf own_pd9 rfl) rfl (by show 2 * 0 + _ ≤ _; exact Nat.le_of_eq rfl) (hb hby at_148) (by decide) (by decide)
        have N117 := Fr.app N116 Nd
        refine own_stW st117 ?_
        show own_GoW p e below s Z consts_1 _ _ _ (T117.setTop (mkF m 151 #[.val (.int p0), .val (.int p1), .val (.int p2), .val (.long p3), .second, .val (.int (p0 &&& (3 : Int32))), .val (.ref c1), .val (.ref c2), .val (.ref g0), .val (.ref x), .unset, .unset] [(.ref lg)]))
        refine own_stW (fun t9 k9 => XS.astore X117.here hx rfl (hb hby at_151) rfl rfl (l' := #[.val (.int p0), .val (.int p1), .val (.int p2), .val (.long p3), .second, .val (.int (p0 &&& (3 : Int32))), .val (.ref c1), .val (.ref c2), .val (.ref g0), .val (.ref x), .val (.ref lg), .unset]) rfl k9) ?_
        show own_GoW p e below s Z consts_1 _ _ _ (T117.setTop (mkF m 153 #[.val (.int p0), .val (.int p1), .val (.int p2), .val (.long p3), .second, .val (.int (p0 &&& (3 : Int32))), .val (.ref c1), .val (.ref c2), .val (.ref g0), .val (.ref x), .val (.ref lg), .unset] []))
        refine own_stW (fun t9 k9 => XS.aload X117.here hx rfl (hb hby at_153) rfl rfl k9) ?_
        show own_GoW p e below s Z consts_1 _ _ _ (T117.setTop (mkF m 155 #[.val (.int p0), .val (.int p1), .val (.int p2), .val (.long p3), .second, .val (.int (p0 &&& (3 : Int32))), .val (.ref c1), .val (.ref c2), .val (.ref g0), .val (.ref x), .val (.ref lg), .unset] [(.ref lg)]))
        refine own_stW (fun t9 k9 => XS.ifnullNo X117.here hx rfl (hb hby at_155) rfl k9) ?_
        show own_GoW p e below s Z consts_1 _ _ _ (T117.setTop (mkF m 158 #[.val (.int p0), .val (.int p1), .val (.int p2), .val (.long p3), .second, .val (.int (p0 &&& (3 : Int32))), .val (.ref c1), .val (.ref c2), .val (.ref g0), .val (.ref x), .val (.ref lg), .unset] []))
        refine own_stW (fun t9 k9 => XS.aload X117.here hx rfl (hb hby at_158) rfl rfl k9) ?_
        show own_GoW p e below s Z consts_1 _ _ _ (T117.setTop (mkF m 160 #[.val (.int p0), .val (.int p1), .val (.int p2), .val (.long p3), .second, .val (.int (p0 &&& (3 : Int32))), .val (.ref c1), .val (.ref c2), .val (.ref g0), .val (.ref x), .val (.ref lg), .unset] [(.ref lg)]))
        obtain ⟨_, T118, h118, L118, X118, e118, ⟨rfl, Nd, hu⟩, st118⟩ := own_callV X117 hx hZ hown (hw _ (List.mem_of_getElem? (i := 101) rfl)) (hw _ (List.mem_of_getElem? (i := 102) rfl)) (hw _ (List.mem_of_getElem? (i := 104) rfl)) (hw _ (List.mem_of_getElem? (i := 103) rfl)) (hw _ (List.mem_of_getElem? (i := 9) rfl)) (hw _ (List.mem_of_getElem? (i := 105) rfl)) (by decide) (own_rm_rlv l Z a0 hw [] lg p3 h114 n0 Od F_g) (by decide) (by decide) (e117.trans hu) (b := lg) E_g (W := 0) (g := (mkF m 160 #[.val (.int p0), .val (.int p1), .val (.int p2), .val (.long p3), .second, .val (.int (p0 &&& (3 : Int32))), .val (.ref c1), .val (.ref c2), .val (.ref g0), .val (.ref x), .val (.ref lg), .unset] [(.ref lg)])) rfl (by rw [hml]; rfl) (argsL := []) (rest := []) rfl (lenOf own_pd10 rfl) rfl (by show 2 * 0 + _ ≤ _; exact Nat.le_of_eq rfl) (hb hby at_160) (by decide) (by decide)
        have N118 := Fr.app N117 Nd
        refine own_stW st118 ?_
        show own_GoW p e below s Z consts_1 _ _ _ (T118.setTop (mkF m 163 #[.val (.int p0), .val (.int p1), .val (.int p2), .val (.long p3), .second, .val (.int (p0 &&& (3 : Int32))), .val (.ref c1), .val (.ref c2), .val (.ref g0), .val (.ref x), .val (.ref lg), .unset] [(.long p3)]))
        refine own_stW (fun t9 k9 => XT.lloadN X118.here hx rfl (hb hby at_163) rfl  k9) ?_
        show own_GoW p e below s Z consts_1 _ _ _ (T118.setTop (mkF m 164 #[.val (.int p0), .val (.int p1), .val (.int p2), .val (.long p3), .second, .val (.int (p0 &&& (3 : Int32))), .val (.ref c1), .val (.ref c2), .val (.ref g0), .val (.ref x), .val (.ref lg), .unset] [(.long p3), (.long p3)]))
        refine own_stW (fun t9 k9 => XT.lcmp X118.here hx rfl (hb hby at_164) rfl k9) ?_
        show own_GoW p e below s Z consts_1 _ _ _ (T118.setTop (mkF m 165 #[.val (.int p0), .val (.int p1), .val (.int p2), .val (.long p3), .second, .val (.int (p0 &&& (3 : Int32))), .val (.ref c1), .val (.ref c2), .val (.ref g0), .val (.ref x), .val (.ref lg), .unset] [(.int (XT.cmpL p3 p3))]))
        refine own_stW (fun t9 k9 => XS.ifYes X118.here hx rfl (pc0 := 165) (pc' := 170) rfl (hb hby at_165) rfl ((if0 _ _).trans (teq (((lw_eq _ _).mpr rfl) : (XT.cmpL p3 p3) = (0 : Int32))).1) (by decide) (by decide) k9) ?_
        show own_GoW p e below s Z consts_1 _ _ _ (T118.setTop (mkF m 170 #[.val (.int p0), .val (.int p1), .val (.int p2), .val (.long p3), .second, .val (.int (p0 &&& (3 : Int32))), .val (.ref c1), .val (.ref c2), .val (.ref g0), .val (.ref x), .val (.ref lg), .unset] []))
        refine own_stW (fun t9 k9 => XS.aload X118.here hx rfl (hb hby at_170) rfl rfl k9) ?_
        show own_GoW p e below s Z consts_1 _ _ _ (T118.setTop (mkF m 172 #[.val (.int p0), .val (.int p1), .val (.int p2), .val (.long p3), .second, .val (.int (p0 &&& (3 : Int32))), .val (.ref c1), .val (.ref c2), .val (.ref g0), .val (.ref x), .val (.ref lg), .unset] [(.ref x)]))
        obtain ⟨_, T119, h119, L119, X119, e119, ⟨rfl, Nd, hu⟩, st119⟩ := own_callVU X118 hx hZ hown (hw _ (List.mem_of_getElem? (i := 106) rfl)) (hw _ (List.mem_of_getElem? (i := 107) rfl)) (hw _ (List.mem_of_getElem? (i := 108) rfl)) (hw _ (List.mem_of_getElem? (i := 110) rfl)) (hw _ (List.mem_of_getElem? (i := 109) rfl)) (hw _ (List.mem_of_getElem? (i := 41) rfl)) (hw _ (List.mem_of_getElem? (i := 111) rfl)) (by decide) (own_rm_rgR l Z a0 hw [] x g0 h114 n0 Od F3) (by decide) (by decide) (e118.trans hu) (b := x) E_x (W := 0) (g := (mkF m 172 #[.val (.int p0), .val (.int p1), .val (.int p2), .val (.long p3), .second, .val (.int (p0 &&& (3 : Int32))), .val (.ref c1), .val (.ref c2), .val (.ref g0), .val (.ref x), .val (.ref lg), .unset] [(.ref x)])) rfl (by rw [hml]; rfl) (argsL := []) (rest := []) rfl (lenOf own_pd8 rfl) rfl (by show 2 * 0 + _ ≤ _; exact Nat.le_of_eq rfl) (hb hby at_172) (by decide) (by decide)
        have N119 := Fr.app N118 Nd
        refine own_stW st119 ?_
        show own_GoW p e below s Z consts_1 _ _ _ (T119.setTop (mkF m 175 #[.val (.int p0), .val (.int p1), .val (.int p2), .val (.long p3), .second, .val (.int (p0 &&& (3 : Int32))), .val (.ref c1), .val (.ref c2), .val (.ref g0), .val (.ref x), .val (.ref lg), .unset] [(.ref g0)]))
        refine own_stW (fun t9 k9 => XS.astore X119.here hx rfl (hb hby at_175) rfl rfl (l' := #[.val (.int p0), .val (.int p1), .val (.int p2), .val (.long p3), .second, .val (.int (p0 &&& (3 : Int32))), .val (.ref c1), .val (.ref c2), .val (.ref g0), .val (.ref x), .val (.ref lg), .val (.ref g0)]) rfl k9) ?_
        show own_GoW p e below s Z consts_1 _ _ _ (T119.setTop (mkF m 177 #[.val (.int p0), .val (.int p1), .val (.int p2), .val (.long p3), .second, .val (.int (p0 &&& (3 : Int32))), .val (.ref c1), .val (.ref c2), .val (.ref g0), .val (.ref x), .val (.ref lg), .val (.ref g0)] []))
        refine own_stW (fun t9 k9 => XS.aload X119.here hx rfl (hb hby at_177) rfl rfl k9) ?_
        show own_GoW p e below s Z consts_1 _ _ _ (T119.setTop (mkF m 179 #[.val (.int p0), .val (.int p1), .val (.int p2), .val (.long p3), .second, .val (.int (p0 &&& (3 : Int32))), .val (.ref c1), .val (.ref c2), .val (.ref g0), .val (.ref x), .val (.ref lg), .val (.ref g0)] [(.ref g0)]))
        refine own_stW (fun t9 k9 => XT.ifnonnullYes X119.here hx rfl (pc0 := 179) (pc' := 193) rfl (hb hby at_179) rfl (by decide) (by decide) k9) ?_
        show own_GoW p e below s Z consts_1 _ _ _ (T119.setTop (mkF m 193 #[.val (.int p0), .val (.int p1), .val (.int p2), .val (.long p3), .second, .val (.int (p0 &&& (3 : Int32))), .val (.ref c1), .val (.ref c2), .val (.ref g0), .val (.ref x), .val (.ref lg), .val (.ref g0)] []))
        refine own_stW (fun t9 k9 => XS.aload X119.here hx rfl (hb hby at_193) rfl rfl k9) ?_
        show own_GoW p e below s Z consts_1 _ _ _ (T119.setTop (mkF m 195 #[.val (.int p0), .val (.int p1), .val (.int p2), .val (.long p3), .second, .val (.int (p0 &&& (3 : Int32))), .val (.ref c1), .val (.ref c2), .val (.ref g0), .val (.ref x), .val (.ref lg), .val (.ref g0)] [(.ref g0)]))
        refine own_stW (fun t9 k9 => XS.ifnullNo X119.here hx rfl (hb hby at_195) rfl k9) ?_
        show own_GoW p e below s Z consts_1 _ _ _ (T119.setTop (mkF m 198 #[.val (.int p0), .val (.int p1), .val (.int p2), .val (.long p3), .second, .val (.int (p0 &&& (3 : Int32))), .val (.ref c1), .val (.ref c2), .val (.ref g0), .val (.ref x), .val (.ref lg), .val (.ref g0)] []))
        refine own_stW (fun t9 k9 => XS.aload X119.here hx rfl (hb hby at_198) rfl rfl k9) ?_
        show own_GoW p e below s Z consts_1 _ _ _ (T119.setTop (mkF m 200 #[.val (.int p0), .val (.int p1), .val (.int p2), .val (.long p3), .second, .val (.int (p0 &&& (3 : Int32))), .val (.ref c1), .val (.ref c2), .val (.ref g0), .val (.ref x), .val (.ref lg), .val (.ref g0)] [(.ref g0)]))
        refine own_stW (fun t9 k9 => XS.aload X119.here hx rfl (hb hby at_200) rfl rfl k9) ?_
        show own_GoW p e below s Z consts_1 _ _ _ (T119.setTop (mkF m 202 #[.val (.int p0), .val (.int p1), .val (.int p2), .val (.long p3), .second, .val (.int (p0 &&& (3 : Int32))), .val (.ref c1), .val (.ref c2), .val (.ref g0), .val (.ref x), .val (.ref lg), .val (.ref g0)] [(.ref g0), (.ref g0)]))
        obtain ⟨_, T120, h120, L120, X120, e120, ⟨rfl, Nd, hu⟩, st120⟩ := own_callV X119 hx hZ hown (hw _ (List.mem_of_getElem? (i := 142) rfl)) (hw _ (List.mem_of_getElem? (i := 143) rfl)) (hw _ (List.mem_of_getElem? (i := 145) rfl)) (hw _ (List.mem_of_getElem? (i := 144) rfl)) (hw _ (List.mem_of_getElem? (i := 117) rfl)) (hw _ (List.mem_of_getElem? (i := 146) rfl)) (by decide) (own_rm_seq l Z a0 hw [] g0 h114 n0 Od) (by decide) (by decide) (e119.trans hu) (b := g0) E_g0 (W := 0) (g := (mkF m 202 #[.val (.int p0), .val (.int p1), .val (.int p2), .val (.long p3), .second, .val (.int (p0 &&& (3 : Int32))), .val (.ref c1), .val (.ref c2), .val (.ref g0), .val (.ref x), .val (.ref lg), .val (.ref g0)] [(.ref g0), (.ref g0)])) rfl (by rw [hml]; rfl) (argsL := [(.ref g0)]) (rest := []) rfl (lenOf own_pd12 rfl) rfl (by show 2 * 0 + _ ≤ _; exact Nat.le_of_eq rfl) (hb hby at_202) (by decide) (by decide)
        have N120 := Fr.app N119 Nd
        refine own_stW st120 ?_
        show own_GoW p e below s Z consts_1 _ _ _ (T120.setTop (mkF m 205 #[.val (.int p0), .val (.int p1), .val (.int p2), .val (.long p3), .second, .val (.int (p0 &&& (3 : Int32))), .val (.ref c1), .val (.ref c2), .val (.ref g0), .val (.ref x), .val (.ref lg), .val (.ref g0)] [(.int (1 : Int32))]))
        refine own_stW (fun t9 k9 => XS.ifNo X120.here hx rfl (hb hby at_205) rfl (by decide) k9) ?_
        show own_GoW p e below s Z consts_1 _ _ _ (T120.setTop (mkF m 208 #[.val (.int p0), .val (.int p1), .val (.int p2), .val (.long p3), .second, .val (.int (p0 &&& (3 : Int32))), .val (.ref c1), .val (.ref c2), .val (.ref g0), .val (.ref x), .val (.ref lg), .val (.ref g0)] []))
        refine own_stW (fun t9 k9 => XS.iconst X120.here hx rfl (hb hby at_208) k9) ?_
        show own_GoW p e below s Z consts_1 _ _ _ (T120.setTop (mkF m 209 #[.val (.int p0), .val (.int p1), .val (.int p2), .val (.long p3), .second, .val (.int (p0 &&& (3 : Int32))), .val (.ref c1), .val (.ref c2), .val (.ref g0), .val (.ref x), .val (.ref lg), .val (.ref g0)] [(.int (1 : Int32))]))
        refine own_stW (fun t9 k9 => XS.goto X120.here hx rfl (pc0 := 209) (pc' := 213) rfl (hb hby at_209) (by decide) (by decide) k9) ?_
        show own_GoW p e below s Z consts_1 _ _ _ (T120.setTop (mkF m 213 #[.val (.int p0), .val (.int p1), .val (.int p2), .val (.long p3), .second, .val (.int (p0 &&& (3 : Int32))), .val (.ref c1), .val (.ref c2), .val (.ref g0), .val (.ref x), .val (.ref lg), .val (.ref g0)] [(.int (1 : Int32))]))
        exact own_retNW X120 hx hlk hS (by rw [(e120.trans hu)]; exact hk) hZ hEL (by rw [hh, (e120.trans hu)]; exact Hr) (t := .boolean) Bd.returns (by simp) (hb hby at_213) (by decide) (by decide) (by rw [(e120.trans hu)]; exact ⟨rfl, N120⟩)
      · skip
        refine own_stW (fun t9 k9 => XS.icmpYes X95.here hx rfl (pc0 := 80) (pc' := 97) rfl (hb hby at_80) rfl (feq (h2n : ¬ ((p0 &&& (3 : Int32)) = (2 : Int32)))).2 (by decide) (by decide) k9) ?_
        show own_GoW p e below s Z consts_1 _ _ _ (T95.setTop (mkF m 97 #[.val (.int p0), .val (.int p1), .val (.int p2), .val (.long p3), .second, .val (.int (p0 &&& (3 : Int32))), .val (.ref c1), .val (.ref c2), .unset, .unset, .unset, .unset] []))
        obtain ⟨T121, h121, X121, e121, E121, A121, D121, U121, st121⟩ := newO X95 hx hZ hown (hw _ (List.mem_of_getElem? (i := 115) rfl)) (hw _ (List.mem_of_getElem? (i := 116) rfl)) (hw _ (List.mem_of_getElem? (i := 117) rfl)) e95 (g := (mkF m 97 #[.val (.int p0), .val (.int p1), .val (.int p2), .val (.long p3), .second, .val (.int (p0 &&& (3 : Int32))), .val (.ref c1), .val (.ref c2), .unset, .unset, .unset, .unset] [])) rfl (hb hby at_97) (by decide) (by decide)
        obtain ⟨g0, g121⟩ : ∃ z, z = h95.size := ⟨_, rfl⟩
        rw [← g121] at A121 D121 st121 U121
        have ne_c1_g0 : c1 ≠ g0 := Nat.ne_of_lt (Nat.lt_of_lt_of_le V_1.lt (Nat.le_of_eq g121.symm))
        have ne_c2_g0 : c2 ≠ g0 := Nat.ne_of_lt (Nat.lt_of_lt_of_le V_2.lt (Nat.le_of_eq g121.symm))
        have ge_g0 : n0 ≤ g0 := Nat.le_trans (own_z0 Od) (Nat.le_of_eq g121.symm)
        have Sf_g0 : Safe Z consts_1 s.vm h95 g0 := Safe.new (Nat.le_of_eq g121.symm)
        have Sf_c1 := Safe.ext E121 Hr.1 Sf_c1
        have V_1 := V_1.ext E121
        have Sf_c2 := Safe.ext E121 Hr.1 Sf_c2
        have V_2 := V_2.ext E121
        have Sf_g0 := Safe.ext E121 Hr.1 Sf_g0
        have Od := Od.ext E121
        have Hr := Hr.trans (CHr.ext E121 Hr.1)
        have hk := Nat.le_trans hk E121.1
        refine own_stW st121 ?_
        show own_GoW p e below s Z consts_1 _ _ _ (T121.setTop (mkF m 100 #[.val (.int p0), .val (.int p1), .val (.int p2), .val (.long p3), .second, .val (.int (p0 &&& (3 : Int32))), .val (.ref c1), .val (.ref c2), .unset, .unset, .unset, .unset] [(.ref g0)]))
        have E_g0 : Exa Z h121 g0 "java/lang/String" := A121
        have F_v : Fld Z h121 g0 "java/lang/String" "value" "[B" .null := D121 (Or.inr (hw _ (List.mem_of_getElem? (i := 141) rfl))) (ty := (.array .byte)) (by decide)
        have F_k : Fld Z h121 g0 "java/lang/String" "coder" "B" (.int (0 : Int32)) := D121 (Or.inr (hw _ (List.mem_of_getElem? (i := 139) rfl))) (ty := .byte) (by decide)
        refine own_stW (fun t9 k9 => XS.dup X121.here hx rfl (hb hby at_100) rfl rfl k9) ?_
        show own_GoW p e below s Z consts_1 _ _ _ (T121.setTop (mkF m 101 #[.val (.int p0), .val (.int p1), .val (.int p2), .val (.long p3), .second, .val (.int (p0 &&& (3 : Int32))), .val (.ref c1), .val (.ref c2), .unset, .unset, .unset, .unset] [(.ref g0), (.ref g0)]))
        refine own_stW (fun t9 k9 => XS.aload X121.here hx rfl (hb hby at_101) rfl rfl k9) ?_
        show own_GoW p e below s Z consts_1 _ _ _ (T121.setTop (mkF m 103 #[.val (.int p0), .val (.int p1), .val (.int p2), .val (.long p3), .second, .val (.int (p0 &&& (3 : Int32))), .val (.ref c1), .val (.ref c2), .unset, .unset, .unset, .unset] [(.ref c2), (.ref g0), (.ref g0)]))
        have hp : ∀ c ∈ ([nar .char ((p1 &&& (255 : Int32)).toUInt32.toUInt16.toUInt32.toInt32), nar .char ((p2 &&& (255 : Int32)).toUInt32.toUInt16.toUInt32.toInt32)] : List Int32), ¬ c < 0 ∧ ¬ (255 : Int32) < c := by
          intro c hc
          simp only [List.mem_cons, List.not_mem_nil, or_false] at hc
          rcases hc with rfl | rfl <;> exact own_and255 _
        obtain ⟨_, T122, h122, L122, X122, e122, ⟨rfl, Nb, Kb, Eb, Fk, tt, kb, gt, gt2, ntb, Fv, Vb⟩, st122⟩ := own_backI X121 hx hZ hown rfl (hw _ (List.mem_of_getElem? (i := 118) rfl)) (hw _ (List.mem_of_getElem? (i := 119) rfl)) (hw _ (List.mem_of_getElem? (i := 120) rfl)) (by decide) (StrChars.Road.backV (W := 1) hZ hws (kI := 4) (hw _ (List.mem_of_getElem? (i := 116) rfl)) (cs := [nar .char ((p1 &&& (255 : Int32)).toUInt32.toUInt16.toUInt32.toInt32), nar .char ((p2 &&& (255 : Int32)).toUInt32.toUInt16.toUInt32.toInt32)]) (bs := ([nar .char ((p1 &&& (255 : Int32)).toUInt32.toUInt16.toUInt32.toInt32), nar .char ((p2 &&& (255 : Int32)).toUInt32.toUInt16.toUInt32.toInt32)] : List Int32).map (fun c => c.toInt8.toInt32)) (n := 2) ge_g0 (own_z0 Od) E_g0 F_v F_k V_2 (O2.ext Od.2) P5 rfl rfl (by decide) (by decide) hp rfl (by decide) (by decide)) e121 (a := g0) (W := 1) (g := (mkF m 103 #[.val (.int p0), .val (.int p1), .val (.int p2), .val (.long p3), .second, .val (.int (p0 &&& (3 : Int32))), .val (.ref c1), .val (.ref c2), .unset, .unset, .unset, .unset] [(.ref c2), (.ref g0), (.ref g0)])) rfl (by rw [hml]; rfl) (argsL := [(.ref c2)]) (rest := [(.ref g0)]) rfl (lenOf own_pd11 rfl) rfl (by show 2 * 0 + _ ≤ _; exact Nat.le_of_eq rfl) (hb hby at_103) (by decide) (by decide)
        have N122 := Fr.app N95 Nb
        have QSf_c1 := Safe.keep Kb (sfS Sf_g0 sf0) Hr.1 Sf_c1
        have V_1 := V_1.keep Kb (ninS ne_c1_g0 nin0)
        have QSf_c2 := Safe.keep Kb (sfS Sf_g0 sf0) Hr.1 Sf_c2
        have V_2 := V_2.keep Kb (ninS ne_c2_g0 nin0)
        have QSf_g0 := Safe.keep Kb (sfS Sf_g0 sf0) Hr.1 Sf_g0
        have E_g0 := E_g0.keep Kb
        have Od := Od.keep Kb (allS ge_g0 all0)
        have Hr0 := Hr.1
        have Hr := Hr.trans (CHr.keep Kb (sfS Sf_g0 sf0) Hr.1)
        have hk := Nat.le_trans hk Kb.1
        have Sf_c1 := QSf_c1
        have Sf_c2 := QSf_c2
        have Sf_g0 := QSf_g0
        refine own_stW st122 ?_
        show own_GoW p e below s Z consts_1 _ _ _ (T122.setTop (mkF m 106 #[.val (.int p0), .val (.int p1), .val (.int p2), .val (.long p3), .second, .val (.int (p0 &&& (3 : Int32))), .val (.ref c1), .val (.ref c2), .unset, .unset, .unset, .unset] [(.ref g0)]))
        refine own_stW (fun t9 k9 => XS.astore X122.here hx rfl (hb hby at_106) rfl rfl (l' := #[.val (.int p0), .val (.int p1), .val (.int p2), .val (.long p3), .second, .val (.int (p0 &&& (3 : Int32))), .val (.ref c1), .val (.ref c2), .val (.ref g0), .unset, .unset, .unset]) rfl k9) ?_
        show own_GoW p e below s Z consts_1 _ _ _ (T122.setTop (mkF m 108 #[.val (.int p0), .val (.int p1), .val (.int p2), .val (.long p3), .second, .val (.int (p0 &&& (3 : Int32))), .val (.ref c1), .val (.ref c2), .val (.ref g0), .unset, .unset, .unset] []))
        refine own_stW (fun t9 k9 => XS.aload X122.here hx rfl (hb hby at_108) rfl rfl k9) ?_
        show own_GoW p e below s Z consts_1 _ _ _ (T122.setTop (mkF m 110 #[.val (.int p0), .val (.int p1), .val (.int p2), .val (.long p3), .second, .val (.int (p0 &&& (3 : Int32))), .val (.ref c1), .val (.ref c2), .val (.ref g0), .unset, .unset, .unset] [(.ref g0)]))
        refine own_stW (fun t9 k9 => XT.lloadN X122.here hx rfl (hb hby at_110) rfl  k9) ?_
        show own_GoW p e below s Z consts_1 _ _ _ (T122.setTop (mkF m 111 #[.val (.int p0), .val (.int p1), .val (.int p2), .val (.long p3), .second, .val (.int (p0 &&& (3 : Int32))), .val (.ref c1), .val (.ref c2), .val (.ref g0), .unset, .unset, .unset] [(.long p3), (.ref g0)]))
        have hTK := Vm.MethodsKnown.alikeC hS.1.alike hTK0
        have hBelow := Vm.FramesKnown.alikeC hS.1.alike hBelow0
        obtain ⟨_, T123, h123, L123, X123, e123, ⟨Nc, Kc, x, lg, rfl, gx, E_x, F0, F1, F2, F3, E_g, F_g⟩, st123⟩ := own_backS X122 hx hZ hown (hw _ (List.mem_of_getElem? (i := 1) rfl)) (hw _ (List.mem_of_getElem? (i := 2) rfl)) (hw _ (List.mem_of_getElem? (i := 3) rfl)) (hw _ (List.mem_of_getElem? (i := 4) rfl)) (by decide) (backOfKL (W := 0) (own_rm_cfR l Z a0 hw [] g0 p3 ca cl uu sv h122 n0 Od SC AC HC hl SU hu SS hv) hZ (hw _ (List.mem_of_getElem? (i := 4) rfl)) (hw _ (List.mem_of_getElem? (i := 3) rfl)) (by decide) (by decide) hTK hBelow) e122 (W := 0) (g := (mkF m 111 #[.val (.int p0), .val (.int p1), .val (.int p2), .val (.long p3), .second, .val (.int (p0 &&& (3 : Int32))), .val (.ref c1), .val (.ref c2), .val (.ref g0), .unset, .unset, .unset] [(.long p3), (.ref g0)])) rfl (by rw [hml]; rfl) (argsL := [(.ref g0), (.long p3)]) (rest := []) rfl (lenOf own_pd6 rfl) rfl (by show 2 * 0 + _ ≤ _; exact Nat.le_of_eq rfl) (hb hby at_111) (by decide) (by decide)
        have N123 := Fr.app N122 Nc
        have ne_g0_x : g0 ≠ x := Nat.ne_of_lt (Nat.lt_of_lt_of_le E_g0.lt gx)
        have ge_x : n0 ≤ x := Nat.le_trans (own_z0 Od) gx
        have QSf_g0 := Safe.keep Kc sf0 Hr.1 Sf_g0
        have E_g0 := E_g0.keep Kc
        have Od := Od.keep Kc all0
        have Hr0 := Hr.1
        have Hr := Hr.trans (CHr.keep Kc sf0 Hr.1)
        have hk := Nat.le_trans hk Kc.1
        have Sf_g0 := QSf_g0
        have Sf_x := Safe.keep Kc sf0 Hr0 (Safe.new gx)
        refine own_stW st123 ?_
        show own_GoW p e below s Z consts_1 _ _ _ (T123.setTop (mkF m 114 #[.val (.int p0), .val (.int p1), .val (.int p2), .val (.long p3), .second, .val (.int (p0 &&& (3 : Int32))), .val (.ref c1), .val (.ref c2), .val (.ref g0), .unset, .unset, .unset] [(.ref x)]))
        refine own_stW (fun t9 k9 => XS.astore X123.here hx rfl (hb hby at_114) rfl rfl (l' := #[.val (.int p0), .val (.int p1), .val (.int p2), .val (.long p3), .second, .val (.int (p0 &&& (3 : Int32))), .val (.ref c1), .val (.ref c2), .val (.ref g0), .val (.ref x), .unset, .unset]) rfl k9) ?_
        show own_GoW p e below s Z consts_1 _ _ _ (T123.setTop (mkF m 116 #[.val (.int p0), .val (.int p1), .val (.int p2), .val (.long p3), .second, .val (.int (p0 &&& (3 : Int32))), .val (.ref c1), .val (.ref c2), .val (.ref g0), .val (.ref x), .unset, .unset] []))
        refine own_stW (fun t9 k9 => XS.aload X123.here hx rfl (hb hby at_116) rfl rfl k9) ?_
        show own_GoW p e below s Z consts_1 _ _ _ (T123.setTop (mkF m 118 #[.val (.int p0), .val (.int p1), .val (.int p2), .val (.long p3), .second, .val (.int (p0 &&& (3 : Int32))), .val (.ref c1), .val (.ref c2), .val (.ref g0), .val (.ref x), .unset, .unset] [(.ref x)]))
        refine own_stW (fun t9 k9 => XT.ifnonnullYes X123.here hx rfl (pc0 := 118) (pc' := 123) rfl (hb hby at_118) rfl (by decide) (by decide) k9) ?_
        show own_GoW p e below s Z consts_1 _ _ _ (T123.setTop (mkF m 123 #[.val (.int p0), .val (.int p1), .val (.int p2), .val (.long p3), .second, .val (.int (p0 &&& (3 : Int32))), .val (.ref c1), .val (.ref c2), .val (.ref g0), .val (.ref x), .unset, .unset] []))
        refine own_stW (fun t9 k9 => XS.aload X123.here hx rfl (hb hby at_123) rfl rfl k9) ?_
        show own_GoW p e below s Z consts_1 _ _ _ (T123.setTop (mkF m 125 #[.val (.int p0), .val (.int p1), .val (.int p2), .val (.long p3), .second, .val (.int (p0 &&& (3 : Int32))), .val (.ref c1), .val (.ref c2), .val (.ref g0), .val (.ref x), .unset, .unset] [(.ref x)]))
        obtain ⟨_, T124, h124, L124, X124, e124, ⟨rfl, Nd, hu⟩, st124⟩ := own_callV X123 hx hZ hown (hw _ (List.mem_of_getElem? (i := 86) rfl)) (hw _ (List.mem_of_getElem? (i := 87) rfl)) (hw _ (List.mem_of_getElem? (i := 89) rfl)) (hw _ (List.mem_of_getElem? (i := 88) rfl)) (hw _ (List.mem_of_getElem? (i := 3) rfl)) (hw _ (List.mem_of_getElem? (i := 90) rfl)) (by decide) (own_rm_rst l Z a0 hw [] x h123 n0 Od F0) (by decide) (by decide) e123 (b := x) E_x (W := 0) (g := (mkF m 125 #[.val (.int p0), .val (.int p1), .val (.int p2), .val (.long p3), .second, .val (.int (p0 &&& (3 : Int32))), .val (.ref c1), .val (.ref c2), .val (.ref g0), .val (.ref x), .unset, .unset] [(.ref x)])) rfl (by rw [hml]; rfl) (argsL := []) (rest := []) rfl (lenOf own_pd7 rfl) rfl (by show 2 * 0 + _ ≤ _; exact Nat.le_of_eq rfl) (hb hby at_125) (by decide) (by decide)
        have N124 := Fr.app N123 Nd
        refine own_stW st124 ?_
        show own_GoW p e below s Z consts_1 _ _ _ (T124.setTop (mkF m 128 #[.val (.int p0), .val (.int p1), .val (.int p2), .val (.long p3), .second, .val (.int (p0 &&& (3 : Int32))), .val (.ref c1), .val (.ref c2), .val (.ref g0), .val (.ref x), .unset, .unset] [(.int (409 : Int32))]))
        refine own_stW (fun t9 k9 => XS.sipush X124.here hx rfl (hb hby at_128) k9) ?_
        show own_GoW p e below s Z consts_1 _ _ _ (T124.setTop (mkF m 131 #[.val (.int p0), .val (.int p1), .val (.int p2), .val (.long p3), .second, .val (.int (p0 &&& (3 : Int32))), .val (.ref c1), .val (.ref c2), .val (.ref g0), .val (.ref x), .unset, .unset] [(.int (409 : Int32)), (.int (409 : Int32))]))
        refine own_stW (fun t9 k9 => XS.icmpYes X124.here hx rfl (pc0 := 131) (pc' := 136) rfl (hb hby at_131) rfl (by decide) (by decide) (by decide) k9) ?_
        show own_GoW p e below s Z consts_1 _ _ _ (T124.setTop (mkF m 136 #[.val (.int p0), .val (.int p1), .val (.int p2), .val (.long p3), .second, .val (.int (p0 &&& (3 : Int32))), .val (.ref c1), .val (.ref c2), .val (.ref g0), .val (.ref x), .unset, .unset] []))
        refine own_stW (fun t9 k9 => XS.aload X124.here hx rfl (hb hby at_136) rfl rfl k9) ?_
        show own_GoW p e below s Z consts_1 _ _ _ (T124.setTop (mkF m 138 #[.val (.int p0), .val (.int p1), .val (.int p2), .val (.long p3), .second, .val (.int (p0 &&& (3 : Int32))), .val (.ref c1), .val (.ref c2), .val (.ref g0), .val (.ref x), .unset, .unset] [(.ref x)]))
        obtain ⟨_, T125, h125, L125, X125, e125, ⟨rfl, Nd, hu⟩, st125⟩ := own_callV X124 hx hZ hown (hw _ (List.mem_of_getElem? (i := 91) rfl)) (hw _ (List.mem_of_getElem? (i := 92) rfl)) (hw _ (List.mem_of_getElem? (i := 94) rfl)) (hw _ (List.mem_of_getElem? (i := 93) rfl)) (hw _ (List.mem_of_getElem? (i := 3) rfl)) (hw _ (List.mem_of_getElem? (i := 95) rfl)) (by decide) (own_rm_ral l Z a0 hw [] x h123 n0 Od F1) (by decide) (by decide) (e124.trans hu) (b := x) E_x (W := 0) (g := (mkF m 138 #[.val (.int p0), .val (.int p1), .val (.int p2), .val (.long p3), .second, .val (.int (p0 &&& (3 : Int32))), .val (.ref c1), .val (.ref c2), .val (.ref g0), .val (.ref x), .unset, .unset] [(.ref x)])) rfl (by rw [hml]; rfl) (argsL := []) (rest := []) rfl (lenOf own_pd8 rfl) rfl (by show 2 * 0 + _ ≤ _; exact Nat.le_of_eq rfl) (hb hby at_138) (by decide) (by decide)
        have N125 := Fr.app N124 Nd
        refine own_stW st125 ?_
        show own_GoW p e below s Z consts_1 _ _ _ (T125.setTop (mkF m 141 #[.val (.int p0), .val (.int p1), .val (.int p2), .val (.long p3), .second, .val (.int (p0 &&& (3 : Int32))), .val (.ref c1), .val (.ref c2), .val (.ref g0), .val (.ref x), .unset, .unset] [.null]))
        refine own_stW (fun t9 k9 => XS.ifnullYes X125.here hx rfl (pc0 := 141) (pc' := 146) rfl (hb hby at_141) rfl (by decide) (by decide) k9) ?_
        show own_GoW p e below s Z consts_1 _ _ _ (T125.setTop (mkF m 146 #[.val (.int p0), .val (.int p1), .val (.int p2), .val (.long p3), .second, .val (.int (p0 &&& (3 : Int32))), .val (.ref c1), .val (.ref c2), .val (.ref g0), .val (.ref x), .unset, .unset] []))
        refine own_stW (fun t9 k9 => XS.aload X125.here hx rfl (hb hby at_146) rfl rfl k9) ?_
        show own_GoW p e below s Z consts_1 _ _ _ (T125.setTop (mkF m 148 #[.val (.int p0), .val (.int p1), .val (.int p2), .val (.long p3), .second, .val (.int (p0 &&& (3 : Int32))), .val (.ref c1), .val (.ref c2), .val (.ref g0), .val (.ref x), .unset, .unset] [(.ref x)]))
        obtain ⟨_, T126, h126, L126, X126, e126, ⟨rfl, Nd, hu⟩, st126⟩ := own_callV X125 hx hZ hown (hw _ (List.mem_of_getElem? (i := 96) rfl)) (hw _ (List.mem_of_getElem? (i := 97) rfl)) (hw _ (List.mem_of_getElem? (i := 99) rfl)) (hw _ (List.mem_of_getElem? (i := 98) rfl)) (hw _ (List.mem_of_getElem? (i := 3) rfl)) (hw _ (List.mem_of_getElem? (i := 100) rfl)) (by decide) (own_rm_rru l Z a0 hw [] x lg h123 n0 Od F2) (by decide) (by decide) (e125.trans hu) (b := x) E_x (W := 0) (g := (mkF m 148 #[.val (.int p0), .val (.int p1), .val (.int p2), .val (.long p3), .second, .val (.int (p0 &&& (3 : Int32))), .val (.ref c1), .val (.ref c2), .val (.ref g0), .val (.ref x), .unset, .unset] [(.ref x)])) rfl (by rw [hml]; rfl) (argsL := []) (rest := []) rfl (lenOf own_pd9 rfl) rfl (by show 2 * 0 + _ ≤ _; exact Nat.le_of_eq rfl) (hb hby at_148) (by decide) (by decide)
        have N126 := Fr.app N125 Nd
        refine own_stW st126 ?_
        show own_GoW p e below s Z consts_1 _ _ _ (T126.setTop (mkF m 151 #[.val (.int p0), .val (.int p1), .val (.int p2), .val (.long p3), .second, .val (.int (p0 &&& (3 : Int32))), .val (.ref c1), .val (.ref c2), .val (.ref g0), .val (.ref x), .unset, .unset] [(.ref lg)]))
        refine own_stW (fun t9 k9 => XS.astore X126.here hx rfl (hb hby at_151) rfl rfl (l' := #[.val (.int p0), .val (.int p1), .val (.int p2), .val (.long p3), .second, .val (.int (p0 &&& (3 : Int32))), .val (.ref c1), .val (.ref c2), .val (.ref g0), .val (.ref x), .val (.ref lg), .unset]) rfl k9) ?_
        show own_GoW p e below s Z consts_1 _ _ _ (T126.setTop (mkF m 153 #[.val (.int p0), .val (.int p1), .val (.int p2), .val (.long p3), .second, .val (.int (p0 &&& (3 : Int32))), .val (.ref c1), .val (.ref c2), .val (.ref g0), .val (.ref x), .val (.ref lg), .unset] []))
        refine own_stW (fun t9 k9 => XS.aload X126.here hx rfl (hb hby at_153) rfl rfl k9) ?_
        show own_GoW p e below s Z consts_1 _ _ _ (T126.setTop (mkF m 155 #[.val (.int p0), .val (.int p1), .val (.int p2), .val (.long p3), .second, .val (.int (p0 &&& (3 : Int32))), .val (.ref c1), .val (.ref c2), .val (.ref g0), .val (.ref x), .val (.ref lg), .unset] [(.ref lg)]))
        refine own_stW (fun t9 k9 => XS.ifnullNo X126.here hx rfl (hb hby at_155) rfl k9) ?_
        show own_GoW p e below s Z consts_1 _ _ _ (T126.setTop (mkF m 158 #[.val (.int p0), .val (.int p1), .val (.int p2), .val (.long p3), .second, .val (.int (p0 &&& (3 : Int32))), .val (.ref c1), .val (.ref c2), .val (.ref g0), .val (.ref x), .val (.ref lg), .unset] []))
        refine own_stW (fun t9 k9 => XS.aload X126.here hx rfl (hb hby at_158) rfl rfl k9) ?_
        show own_GoW p e below s Z consts_1 _ _ _ (T126.setTop (mkF m 160 #[.val (.int p0), .val (.int p1), .val (.int p2), .val (.long p3), .second, .val (.int (p0 &&& (3 : Int32))), .val (.ref c1), .val (.ref c2), .val (.ref g0), .val (.ref x), .val (.ref lg), .unset] [(.ref lg)]))
        obtain ⟨_, T127, h127, L127, X127, e127, ⟨rfl, Nd, hu⟩, st127⟩ := own_callV X126 hx hZ hown (hw _ (List.mem_of_getElem? (i := 101) rfl)) (hw _ (List.mem_of_getElem? (i := 102) rfl)) (hw _ (List.mem_of_getElem? (i := 104) rfl)) (hw _ (List.mem_of_getElem? (i := 103) rfl)) (hw _ (List.mem_of_getElem? (i := 9) rfl)) (hw _ (List.mem_of_getElem? (i := 105) rfl)) (by decide) (own_rm_rlv l Z a0 hw [] lg p3 h123 n0 Od F_g) (by decide) (by decide) (e126.trans hu) (b := lg) E_g (W := 0) (g := (mkF m 160 #[.val (.int p0), .val (.int p1), .val (.int p2), .val (.long p3), .second, .val (.int (p0 &&& (3 : Int32))), .val (.ref c1), .val (.ref c2), .val (.ref g0), .val (.ref x), .val (.ref lg), .unset] [(.ref lg)])) rfl (by rw [hml]; rfl) (argsL := []) (rest := []) rfl (lenOf own_pd10 rfl) rfl (by show 2 * 0 + _ ≤ _; exact Nat.le_of_eq rfl) (hb hby at_160) (by decide) (by decide)
        have N127 := Fr.app N126 Nd
        refine own_stW st127 ?_
        show own_GoW p e below s Z consts_1 _ _ _ (T127.setTop (mkF m 163 #[.val (.int p0), .val (.int p1), .val (.int p2), .val (.long p3), .second, .val (.int (p0 &&& (3 : Int32))), .val (.ref c1), .val (.ref c2), .val (.ref g0), .val (.ref x), .val (.ref lg), .unset] [(.long p3)]))
        refine own_stW (fun t9 k9 => XT.lloadN X127.here hx rfl (hb hby at_163) rfl  k9) ?_
        show own_GoW p e below s Z consts_1 _ _ _ (T127.setTop (mkF m 164 #[.val (.int p0), .val (.int p1), .val (.int p2), .val (.long p3), .second, .val (.int (p0 &&& (3 : Int32))), .val (.ref c1), .val (.ref c2), .val (.ref g0), .val (.ref x), .val (.ref lg), .unset] [(.long p3), (.long p3)]))
        refine own_stW (fun t9 k9 => XT.lcmp X127.here hx rfl (hb hby at_164) rfl k9) ?_
        show own_GoW p e below s Z consts_1 _ _ _ (T127.setTop (mkF m 165 #[.val (.int p0), .val (.int p1), .val (.int p2), .val (.long p3), .second, .val (.int (p0 &&& (3 : Int32))), .val (.ref c1), .val (.ref c2), .val (.ref g0), .val (.ref x), .val (.ref lg), .unset] [(.int (XT.cmpL p3 p3))]))
        refine own_stW (fun t9 k9 => XS.ifYes X127.here hx rfl (pc0 := 165) (pc' := 170) rfl (hb hby at_165) rfl ((if0 _ _).trans (teq (((lw_eq _ _).mpr rfl) : (XT.cmpL p3 p3) = (0 : Int32))).1) (by decide) (by decide) k9) ?_
        show own_GoW p e below s Z consts_1 _ _ _ (T127.setTop (mkF m 170 #[.val (.int p0), .val (.int p1), .val (.int p2), .val (.long p3), .second, .val (.int (p0 &&& (3 : Int32))), .val (.ref c1), .val (.ref c2), .val (.ref g0), .val (.ref x), .val (.ref lg), .unset] []))
        refine own_stW (fun t9 k9 => XS.aload X127.here hx rfl (hb hby at_170) rfl rfl k9) ?_
        show own_GoW p e below s Z consts_1 _ _ _ (T127.setTop (mkF m 172 #[.val (.int p0), .val (.int p1), .val (.int p2), .val (.long p3), .second, .val (.int (p0 &&& (3 : Int32))), .val (.ref c1), .val (.ref c2), .val (.ref g0), .val (.ref x), .val (.ref lg), .unset] [(.ref x)]))
        obtain ⟨_, T128, h128, L128, X128, e128, ⟨rfl, Nd, hu⟩, st128⟩ := own_callVU X127 hx hZ hown (hw _ (List.mem_of_getElem? (i := 106) rfl)) (hw _ (List.mem_of_getElem? (i := 107) rfl)) (hw _ (List.mem_of_getElem? (i := 108) rfl)) (hw _ (List.mem_of_getElem? (i := 110) rfl)) (hw _ (List.mem_of_getElem? (i := 109) rfl)) (hw _ (List.mem_of_getElem? (i := 41) rfl)) (hw _ (List.mem_of_getElem? (i := 111) rfl)) (by decide) (own_rm_rgR l Z a0 hw [] x g0 h123 n0 Od F3) (by decide) (by decide) (e127.trans hu) (b := x) E_x (W := 0) (g := (mkF m 172 #[.val (.int p0), .val (.int p1), .val (.int p2), .val (.long p3), .second, .val (.int (p0 &&& (3 : Int32))), .val (.ref c1), .val (.ref c2), .val (.ref g0), .val (.ref x), .val (.ref lg), .unset] [(.ref x)])) rfl (by rw [hml]; rfl) (argsL := []) (rest := []) rfl (lenOf own_pd8 rfl) rfl (by show 2 * 0 + _ ≤ _; exact Nat.le_of_eq rfl) (hb hby at_172) (by decide) (by decide)
        have N128 := Fr.app N127 Nd
        refine own_stW st128 ?_
        show own_GoW p e below s Z consts_1 _ _ _ (T128.setTop (mkF m 175 #[.val (.int p0), .val (.int p1), .val (.int p2), .val (.long p3), .second, .val (.int (p0 &&& (3 : Int32))), .val (.ref c1), .val (.ref c2), .val (.ref g0), .val (.ref x), .val (.ref lg), .unset] [(.ref g0)]))
        refine own_stW (fun t9 k9 => XS.astore X128.here hx rfl (hb hby at_175) rfl rfl (l' := #[.val (.int p0), .val (.int p1), .val (.int p2), .val (.long p3), .second, .val (.int (p0 &&& (3 : Int32))), .val (.ref c1), .val (.ref c2), .val (.ref g0), .val (.ref x), .val (.ref lg), .val (.ref g0)]) rfl k9) ?_
        show own_GoW p e below s Z consts_1 _ _ _ (T128.setTop (mkF m 177 #[.val (.int p0), .val (.int p1), .val (.int p2), .val (.long p3), .second, .val (.int (p0 &&& (3 : Int32))), .val (.ref c1), .val (.ref c2), .val (.ref g0), .val (.ref x), .val (.ref lg), .val (.ref g0)] []))
        refine own_stW (fun t9 k9 => XS.aload X128.here hx rfl (hb hby at_177) rfl rfl k9) ?_
        show own_GoW p e below s Z consts_1 _ _ _ (T128.setTop (mkF m 179 #[.val (.int p0), .val (.int p1), .val (.int p2), .val (.long p3), .second, .val (.int (p0 &&& (3 : Int32))), .val (.ref c1), .val (.ref c2), .val (.ref g0), .val (.ref x), .val (.ref lg), .val (.ref g0)] [(.ref g0)]))
        refine own_stW (fun t9 k9 => XT.ifnonnullYes X128.here hx rfl (pc0 := 179) (pc' := 193) rfl (hb hby at_179) rfl (by decide) (by decide) k9) ?_
        show own_GoW p e below s Z consts_1 _ _ _ (T128.setTop (mkF m 193 #[.val (.int p0), .val (.int p1), .val (.int p2), .val (.long p3), .second, .val (.int (p0 &&& (3 : Int32))), .val (.ref c1), .val (.ref c2), .val (.ref g0), .val (.ref x), .val (.ref lg), .val (.ref g0)] []))
        refine own_stW (fun t9 k9 => XS.aload X128.here hx rfl (hb hby at_193) rfl rfl k9) ?_
        show own_GoW p e below s Z consts_1 _ _ _ (T128.setTop (mkF m 195 #[.val (.int p0), .val (.int p1), .val (.int p2), .val (.long p3), .second, .val (.int (p0 &&& (3 : Int32))), .val (.ref c1), .val (.ref c2), .val (.ref g0), .val (.ref x), .val (.ref lg), .val (.ref g0)] [(.ref g0)]))
        refine own_stW (fun t9 k9 => XS.ifnullNo X128.here hx rfl (hb hby at_195) rfl k9) ?_
        show own_GoW p e below s Z consts_1 _ _ _ (T128.setTop (mkF m 198 #[.val (.int p0), .val (.int p1), .val (.int p2), .val (.long p3), .second, .val (.int (p0 &&& (3 : Int32))), .val (.ref c1), .val (.ref c2), .val (.ref g0), .val (.ref x), .val (.ref lg), .val (.ref g0)] []))
        refine own_stW (fun t9 k9 => XS.aload X128.here hx rfl (hb hby at_198) rfl rfl k9) ?_
        show own_GoW p e below s Z consts_1 _ _ _ (T128.setTop (mkF m 200 #[.val (.int p0), .val (.int p1), .val (.int p2), .val (.long p3), .second, .val (.int (p0 &&& (3 : Int32))), .val (.ref c1), .val (.ref c2), .val (.ref g0), .val (.ref x), .val (.ref lg), .val (.ref g0)] [(.ref g0)]))
        refine own_stW (fun t9 k9 => XS.aload X128.here hx rfl (hb hby at_200) rfl rfl k9) ?_
        show own_GoW p e below s Z consts_1 _ _ _ (T128.setTop (mkF m 202 #[.val (.int p0), .val (.int p1), .val (.int p2), .val (.long p3), .second, .val (.int (p0 &&& (3 : Int32))), .val (.ref c1), .val (.ref c2), .val (.ref g0), .val (.ref x), .val (.ref lg), .val (.ref g0)] [(.ref g0), (.ref g0)]))
        obtain ⟨_, T129, h129, L129, X129, e129, ⟨rfl, Nd, hu⟩, st129⟩ := own_callV X128 hx hZ hown (hw _ (List.mem_of_getElem? (i := 142) rfl)) (hw _ (List.mem_of_getElem? (i := 143) rfl)) (hw _ (List.mem_of_getElem? (i := 145) rfl)) (hw _ (List.mem_of_getElem? (i := 144) rfl)) (hw _ (List.mem_of_getElem? (i := 117) rfl)) (hw _ (List.mem_of_getElem? (i := 146) rfl)) (by decide) (own_rm_seq l Z a0 hw [] g0 h123 n0 Od) (by decide) (by decide) (e128.trans hu) (b := g0) E_g0 (W := 0) (g := (mkF m 202 #[.val (.int p0), .val (.int p1), .val (.int p2), .val (.long p3), .second, .val (.int (p0 &&& (3 : Int32))), .val (.ref c1), .val (.ref c2), .val (.ref g0), .val (.ref x), .val (.ref lg), .val (.ref g0)] [(.ref g0), (.ref g0)])) rfl (by rw [hml]; rfl) (argsL := [(.ref g0)]) (rest := []) rfl (lenOf own_pd12 rfl) rfl (by show 2 * 0 + _ ≤ _; exact Nat.le_of_eq rfl) (hb hby at_202) (by decide) (by decide)
        have N129 := Fr.app N128 Nd
        refine own_stW st129 ?_
        show own_GoW p e below s Z consts_1 _ _ _ (T129.setTop (mkF m 205 #[.val (.int p0), .val (.int p1), .val (.int p2), .val (.long p3), .second, .val (.int (p0 &&& (3 : Int32))), .val (.ref c1), .val (.ref c2), .val (.ref g0), .val (.ref x), .val (.ref lg), .val (.ref g0)] [(.int (1 : Int32))]))
        refine own_stW (fun t9 k9 => XS.ifNo X129.here hx rfl (hb hby at_205) rfl (by decide) k9) ?_
        show own_GoW p e below s Z consts_1 _ _ _ (T129.setTop (mkF m 208 #[.val (.int p0), .val (.int p1), .val (.int p2), .val (.long p3), .second, .val (.int (p0 &&& (3 : Int32))), .val (.ref c1), .val (.ref c2), .val (.ref g0), .val (.ref x), .val (.ref lg), .val (.ref g0)] []))
        refine own_stW (fun t9 k9 => XS.iconst X129.here hx rfl (hb hby at_208) k9) ?_
        show own_GoW p e below s Z consts_1 _ _ _ (T129.setTop (mkF m 209 #[.val (.int p0), .val (.int p1), .val (.int p2), .val (.long p3), .second, .val (.int (p0 &&& (3 : Int32))), .val (.ref c1), .val (.ref c2), .val (.ref g0), .val (.ref x), .val (.ref lg), .val (.ref g0)] [(.int (1 : Int32))]))
        refine own_stW (fun t9 k9 => XS.goto X129.here hx rfl (pc0 := 209) (pc' := 213) rfl (hb hby at_209) (by decide) (by decide) k9) ?_
        show own_GoW p e below s Z consts_1 _ _ _ (T129.setTop (mkF m 213 #[.val (.int p0), .val (.int p1), .val (.int p2), .val (.long p3), .second, .val (.int (p0 &&& (3 : Int32))), .val (.ref c1), .val (.ref c2), .val (.ref g0), .val (.ref x), .val (.ref lg), .val (.ref g0)] [(.int (1 : Int32))]))
        exact own_retNW X129 hx hlk hS (by rw [(e129.trans hu)]; exact hk) hZ hEL (by rw [hh, (e129.trans hu)]; exact Hr) (t := .boolean) Bd.returns (by simp) (hb hby at_213) (by decide) (by decide) (by rw [(e129.trans hu)]; exact ⟨rfl, N129⟩)
section OwnCache
open Jvm.Free.IntBox Jvm.Free.LongBox
theorem own_cache {s : State} {args : Array Value} (hS : ∀ d ∈ Jvm.Free.LongBox.longClinit, d.before args s = true) (wl : (Jvm.Cond.laysFinal "java/lang/Long" "java/lang/Long" "value" "J").before args s = true) :
    ∃ (ca : Addr) (cl : Cell), Sta s s.heap "java/lang/Long$LongCache" "cache" "[Ljava/lang/Long;" (.ref ca) ∧ Arr s s.heap ca cl (.object "java/lang/Long") ∧ own_Cache s cl := by
  obtain ⟨cL, kL, cf, kf, iV, fV, a1, a2, hfV, hstV, -, a6, a7, -⟩ := Cond.laysFinal_spec (show (Jvm.Cond.laysFinal "java/lang/Long" "java/lang/Long" "value" "J").holds args s none s [] = true from wl)
  cases a1.symm.trans a7
  obtain ⟨c, k, i, fCa, st, cellS, hc, hfCa, hsCa, hkst, hS1, hvmS, -, hslotC, -⟩ := Cond.laysStatic_spec (show (Cond.laysStatic LCC "cache" LAD).holds args s none s [] = true from hS _ (by simp [longClinit]))
  have hinit : k.init = .initialized := Cond.initializedFor_spec hfCa (show (Cond.initializedFor LCC "cache" LAD).holds args s none s [] = true from hS _ (by simp [longClinit]))
  have evalC0 := IntBox.static_eval (args := args) (idx := []) hfCa hsCa hkst hS1 hvmS
  have evalC : LongBox.cacheT.eval args s none [] s = some (cellS.slots[fCa.slot]'hslotC) := by rw [LongBox.cacheT, evalC0]; exact Array.getElem?_eq_getElem hslotC
  obtain ⟨arr, cellA, hvC, hA, harr, hvmA⟩ := IntBox.arrayOf_fwd (hS (.arrayOf LongBox.cacheT (.object LC)) (by simp [longClinit])) evalC
  rw [hvC] at evalC
  have hCa : cellS.slots[fCa.slot]? = some (.ref arr) := by rw [Array.getElem?_eq_getElem hslotC, hvC]
  have hat := IntBox.arrayAt_of hA harr hvmA
  obtain ⟨hsz, hsize⟩ := IntBox.length_fwd (hS (.eq (.length LongBox.cacheT) (.int 256)) (by simp [longClinit])) evalC hA harr hvmA
  have hsz256 : cellA.slots.size = 256 := by
    have e : (cellA.slots.size.toInt32).toInt = cellA.slots.size := by
      have : (cellA.slots.size.toInt32).toInt = (cellA.slots.size : Int).bmod (2 ^ 32) := by simp [Nat.toInt32, Int32.size]
      rw [this]; simp [Int.bmod]; omega
    rw [hsize] at e
    have : ((256 : Int32)).toInt = 256 := by decide
    omega
  have hallAtom := hS (Cond.all LongBox.cacheT (.and (.exactly (.elem LongBox.cacheT (.index 0)) LC) (.eq (.field (.elem LongBox.cacheT (.index 0)) LC "value" "J") (.op1 .i2l (.sub (.index 0) (.int 128)))))) (by simp [longClinit])
  have hall := Cond.all_elim (c := .and (.exactly (.elem LongBox.cacheT (.index 0)) LC) (.eq (.field (.elem LongBox.cacheT (.index 0)) LC "value" "J") (.op1 .i2l (.sub (.index 0) (.int 128))))) evalC hat
    (by simpa [Cond.holds, Cond.before] using hallAtom)
  refine ⟨arr, cellA, ⟨c, i, k, fCa, st, cellS, hfCa, hsCa, hinit, hkst, hS1, hvmS, hCa⟩, ⟨hA, harr, hvmA⟩, fun w hw1 hw2 => ?_⟩
  have hw2 : ¬ w > 127 := hw2
  obtain ⟨hbnd, hlt⟩ := place_okL w hw1 hw2
  have hj := hall _ (by rw [hsz256]; exact hlt)
  have hval : (Cond.and (.exactly (.elem LongBox.cacheT (.index 0)) LC) (.eq (.field (.elem LongBox.cacheT (.index 0)) LC "value" "J") (.op1 .i2l (.sub (.index 0) (.int 128))))).holds args s none s [(w.toInt32 + 128).toNatClampNeg] = true := by simpa [Cond.holds] using hj
  rw [Cond.holds_and, Bool.and_eq_true] at hval
  obtain ⟨hex, heq⟩ := hval
  obtain ⟨hnn, hback⟩ := IntBox.place_nonneg _ hlt
  have evalCi : LongBox.cacheT.eval args s none [(w.toInt32 + 128).toNatClampNeg] s = some (.ref arr) := by rw [LongBox.cacheT, IntBox.static_eval (args := args) (idx := [(w.toInt32 + 128).toNatClampNeg]) hfCa hsCa hkst hS1 hvmS, hCa]
  have hltA : (w.toInt32 + 128).toNatClampNeg < cellA.slots.size := by rw [hsz256]; exact hlt
  have evalE0 : (Term.elem LongBox.cacheT (.index 0)).eval args s none [(w.toInt32 + 128).toNatClampNeg] s = cellA.slots[(w.toInt32 + 128).toNatClampNeg]? := by
    simp [Term.eval, evalCi, hnn, hat, hback]
  have evalE : (Term.elem LongBox.cacheT (.index 0)).eval args s none [(w.toInt32 + 128).toNatClampNeg] s = some (cellA.slots[(w.toInt32 + 128).toNatClampNeg]'hltA) := by
    rw [evalE0]; exact Array.getElem?_eq_getElem hltA
  obtain ⟨box, cB, cellB, kB, heB, hcB, hcellB, hkB, hnsB, hclsB, hszB⟩ := Cond.exactly_spec hex
  rw [evalE] at heB
  have hslot : cellA.slots[(w.toInt32 + 128).toNatClampNeg]? = some (.ref box) := by rw [Array.getElem?_eq_getElem hltA, Option.some.inj heB]
  have hsub : (Term.op1 .i2l (.sub (.index 0) (.int 128))).eval args s none [(w.toInt32 + 128).toNatClampNeg] s = some (.long w) := by
    conv => rhs; rw [← place_valL w hw1 hw2]
    rfl
  obtain ⟨box', cellB', hbe, hB', hknB, hnsB', hasB, gB⟩ := fieldLong_fwd heq evalE hsub hfV hstV
  rw [Option.some.inj heB] at hbe; cases hbe
  rw [hcellB] at hB'; cases hB'
  subst hclsB
  exact ⟨box, by rw [hsz256]; exact hbnd, hslot, ⟨cellB, kB, hcellB, hcB, hkB, hnsB, hszB⟩, ⟨cellB, _, kf, iV, fV, hcellB, hfV, hstV, hknB, hnsB', hasB, gB⟩⟩
end OwnCache

set_option maxRecDepth 65536 in
set_option maxHeartbeats 40000000 in
theorem comes_1 {Post : Tables → Env → Array Value → State → Outcome → State → Prop} (hpost : ∀ tb e args s v u, (limb_1_1.after args s (.returned v) u = true ∧ limb_1_2.after args s (.returned v) u = true ∧ True) → ReturnedEndW s (.returned v) u (Jvm.fieldLocs frame_1_writes args s ++ Jvm.arrayLocs frame_1_arrays args s ++ Jvm.staticLocs frame_1_statics s) 24 6656 → Post tb e args s (.returned v) u) :
    ArmFor flags0 classFile x code maxLocals ret World_1 tables_1 room_1 Calls_1 rest_1 Pre_1 Post := by
  intro l hfl _ _ p e ha hc hk s m args below hf hA hF happ hP
  obtain ⟨hcalls, hrest, hpre⟩ := hP
  obtain ⟨-, -, -, hnamed, -, -, -, hat⟩ := (Spec.applies_iff hf).mp happ
  obtain ⟨hg, hn⟩ := and_e (Cond.before_iff.mp (show (Jvm.Cond.and given_1 narrow_1).before args s = true from hpre))
  obtain ⟨gc, g0⟩ := and_e hg
  obtain ⟨ga0, g1⟩ := and_e g0
  obtain ⟨ga1, g2⟩ := and_e g1
  obtain ⟨ga2, g3⟩ := and_e g2
  obtain ⟨w0, w1, w2, w3, rfl⟩ : ∃ w0 w1 w2 w3 : Value, args = #[w0, w1, w2, w3] := by
    have hs : args.size = 4 := by simpa [Cond.value, given_1] using gc
    obtain ⟨L⟩ := args
    match L, hs with
    | [w0, w1, w2, w3], _ => exact ⟨w0, w1, w2, w3, rfl⟩
  have hw := fun d (hd : d ∈ tables_1) => atoms_spec (ws := Jvm.Cond.code x code maxLocals ret :: tables_1) hat d (List.mem_cons_of_mem _ hd)
  have hfit : Fit s := fun {y c} hc i hi => by
    obtain ⟨ha, rfl⟩ := Array.getElem?_eq_some_iff.mp hc
    have q := List.all_eq_true.mp ((Array.all_eq_true_iff_forall_mem.mp hF) _ (Array.getElem_mem ha)) i (List.mem_range.mpr hi)
    simpa [Array.getElem?_eq_getElem hi] using q
  obtain ⟨hsets, hown0⟩ := atoms_of _ (rest_1_c_eq ▸ (show rest_1_c.before _ s = true from hrest))
  have s0 := hsets _ (List.mem_of_getElem? (i := 26) rfl)
  obtain ⟨G, eG⟩ := is_v (Cond.before_iff.mp (hsets _ (List.mem_of_getElem? (i := 27) rfl)))
  have hcw := hsets _ (List.mem_of_getElem? (i := 28) rfl)
  have hG := not_v (Cond.before_iff.mp hcw)
  have O2 := Sta.start eG (Or.inl s0)
  have P5 : ¬ (G = (0 : Int32)) := fun q => by
    subst q
    rw [eq_i eG (Term.int_eval (0)) rfl] at hG
    cases hG
  obtain ⟨i0, ei0⟩ := is_v ga0
  obtain rfl : w0 = (.int i0) := Option.some.inj ei0
  obtain ⟨i1, ei1⟩ := is_v ga1
  obtain rfl : w1 = (.int i1) := Option.some.inj ei1
  obtain ⟨i2, ei2⟩ := is_v ga2
  obtain rfl : w2 = (.int i2) := Option.some.inj ei2
  obtain ⟨i3, ei3⟩ := isL_v g3
  obtain rfl : w3 = (.long i3) := Option.some.inj ei3
  have hheld := hcalls.2.2.1
  have hTK := MethodsKnown_of_tablesKnown hcalls.2.1
  have hBelow := FramesKnown_of_framesKnown hcalls.1 hf
  have hEL : EW s _ consts_1 := (EW.cons (hw _ (List.mem_of_getElem? (i := 147) rfl)) (by decide) EW.nil)
  have hCH : CHv s consts_1 s.vm s.heap := CHv.start hEL (fun p hp => hheld p hp) (show Jvm.Lit.compactW.before _ s = true from hcw) (hw _ (List.mem_of_getElem? (i := 131) rfl)) (hw _ (List.mem_of_getElem? (i := 116) rfl))
  have hl : l.stackTraces = true := by rw [Launch.stackTraces, hfl]; decide
  obtain ⟨uu, hu, SU⟩ := own_staR (hsets _ (List.mem_of_getElem? (i := 7) rfl)) (hsets _ (List.mem_of_getElem? (i := 6) rfl))
  obtain ⟨sv, hv, SS⟩ := own_staR (hsets _ (List.mem_of_getElem? (i := 12) rfl)) (hsets _ (List.mem_of_getElem? (i := 11) rfl))
  obtain ⟨ca, cl, SC, AC, HC⟩ := own_cache (args := #[.int i0, .int i1, .int i2, .long i3]) (fun d hd => hsets d ((by decide +kernel : ∀ d ∈ Jvm.Free.LongBox.longClinit, d ∈ jdkStatics_1) d hd)) (hw _ (List.mem_of_getElem? (i := 28) rfl))
  obtain ⟨n, o, h1, h2, h3, _, L, rfl, ⟨rfl, N⟩, -, hq⟩ := own_rm_law l s _ hw hEL tables_1 i0 i1 i2 i3 G ca cl uu sv  s.heap s.heap.size (Old.start s) O2 P5 SC AC HC hl SU hu SS hv p e ha hc hk s m _ below hf ((Spec.applies_iff_loose hf).mp happ).1 ⟨rfl, State.Warmed39.refl s, rfl, hCH, own_nosf⟩ ⟨hTK, hBelow⟩
  refine ⟨n, _, h1, h2, h3, hpost _ _ _ _ _ _ ⟨Cond.after_iff.mpr rfl, Cond.after_iff.mpr (eq_i res_at (Term.int_eval (1)) rfl), trivial⟩ ⟨hq.1, hq.2.1, hq.2.2.1, (hq.2.2.2.sift fun y hy => Or.inr (N y hy)).mono (by decide) (by decide)⟩⟩
theorem main_1_1 : Claimed_1_1 := comes_1 fun _ _ _ _ _ _ h hF => ⟨h.1, hF⟩
theorem main_1_2 : Claimed_1_2 := comes_1 fun _ _ _ _ _ _ h hF => ⟨h.2.1, hF⟩
end Jvm.Pilot.@@N@@
namespace Jvm.Pilot.@@N@@
open Jvm Jvm.ClassFile Sem Op Lib Jvm.Free Jvm.Stand Jvm.Pilot.@@N@@.Jvm.D
/-! MADE BY PROGRAM (witnessworld.py) out of the Statement's table words and the real class files: 39 classes; the members and pool entries that the words name. The judged class is class 1, her method 1. -/
namespace start1
open Jvm.ClassFile
def u (s : String) : CpInfo := .utf8 (stringToUtf16 s)
/-- a pool by its gaps: so many unusable entries, then the entry; so many at the end -/
def gap : Nat → List CpInfo → List CpInfo
  | 0, r => r
  | n + 1, r => .unusable :: gap n r
def poolList (es : List (Nat × CpInfo)) (last : Nat) : List CpInfo := es.foldr (fun e r => gap e.1 (e.2 :: r)) (gap last [])
def pool (es : List (Nat × CpInfo)) (last : Nat) : Array CpInfo := ⟨poolList es last⟩
def fileOf (pool : Array CpInfo) (this : Nat) (attrs : Array Attribute := #[]) (ms : Array MethodInfo := #[]) (fl : Nat := 33) (sup : Nat := 0) (ifs : Array Nat := #[]) (fds : Array FieldInfo := #[]) : ClassFile where
  minorVersion := 0
  majorVersion := 65
  constantPool := pool
  accessFlags := fl
  thisClass := this
  superClass := sup
  interfaces := ifs
  fields := fds
  methods := ms
  attributes := attrs
def plain (name : String) (sup : Option ClassId) : Class where
  name := name
  kind := .ordinary
  loader := none
  accessFlags := 33
  super := sup
  interfaces := #[]
  cf := none
  fields := #[]
  methods := #[]
  instanceTypes := #[]
  staticTypes := #[]
  resolved := #[]
  callSites := []
  init := .initialized
  statics := none
  mirror := none

def pool0 : Array CpInfo := pool [(5, u "<init>"), (0, u "()V"), (1, .class_ 10), (1, u "java/lang/Object")] 113

def k0c0 : Code := { maxStack := 0, maxLocals := 1, code := object_method_1_code, exceptionTable := #[], attributes := #[] }
def k0m0 : Method := { name := "<init>", desc := "()V", sig := { parameters := [], returnType := none }, accessFlags := 1, code := some k0c0 }
/-- java/lang/Object -/
def k0 : Class := { plain "java/lang/Object" none with
  accessFlags := 33
  interfaces := #[]
  cf := some (fileOf pool0 8 #[] #[{ accessFlags := 1, nameIndex := 5, descriptorIndex := 6, attributes := #[] }] 33 0 #[] #[])
  fields := #[]
  methods := #[k0m0]
  instanceTypes := #[]
  staticTypes := #[]
  resolved := Array.replicate 124 none
  statics := none }

def pool1 : Array CpInfo := pool [(2, .class_ 4), (1, u "java/lang/Object"), (0, u "<init>"), (0, u "()V"), (0, .class_ 8), (0, u "java/lang/String"), (0, .methodref 7 10), (0, .nameAndType 5 11), (0, u "([C)V"), (0, .methodref 13 14), (0, .class_ 15), (0, .nameAndType 16 17), (0, u "com/example/jobs_into_runs/jobsintoruns/http/ApiException"), (0, u "conflict"), (0, u "(Ljava/lang/String;J)Lcom/example/jobs_into_runs/jobsintoruns/http/ApiException;"), (0, .methodref 13 19), (0, .nameAndType 20 21), (0, u "status"), (0, u "()I"), (0, .methodref 13 23), (0, .nameAndType 24 25), (0, u "allowed"), (0, u "()Ljava/lang/String;"), (0, .methodref 13 27), (0, .nameAndType 28 29), (0, u "run"), (0, u "()Ljava/lang/Long;"), (0, .methodref 31 32), (0, .class_ 33), (0, .nameAndType 34 35), (0, u "java/lang/Long"), (0, u "longValue"), (0, u "()J"), (0, .methodref 13 37), (0, .nameAndType 38 25), (0, u "getMessage"), (0, .methodref 7 40), (0, .nameAndType 41 42), (0, u "equals"), (0, u "(Ljava/lang/Object;)Z"), (0, .class_ 44), (0, u "com/example/jobs_into_runs/jobsintoruns/http/ApiExceptionConflictPinLaw"), (2, u "law"), (0, u "(IIIJ)Z")] 5

def k1m0 : Method := { name := "<init>", desc := "()V", sig := { parameters := [], returnType := none }, accessFlags := 2, code := none }
def k1c1 : Code := { maxStack := 4, maxLocals := 12, code := code, exceptionTable := #[], attributes := #[] }
def k1m1 : Method := { name := "law", desc := "(IIIJ)Z", sig := { parameters := [.int, .int, .int, .long], returnType := some .boolean }, accessFlags := 9, code := some k1c1 }
/-- com/example/jobs_into_runs/jobsintoruns/http/ApiExceptionConflictPinLaw -/
def k1 : Class := { plain "com/example/jobs_into_runs/jobsintoruns/http/ApiExceptionConflictPinLaw" (some 0) with
  accessFlags := 49
  interfaces := #[]
  cf := some (fileOf pool1 43 #[] #[{ accessFlags := 2, nameIndex := 5, descriptorIndex := 6, attributes := #[] }, { accessFlags := 9, nameIndex := 47, descriptorIndex := 48, attributes := #[] }] 49 2 #[] #[])
  fields := #[]
  methods := #[k1m0, k1m1]
  instanceTypes := #[]
  staticTypes := #[]
  resolved := Array.replicate 54 none
  statics := none }

def pool2 : Array CpInfo := pool [(1, .class_ 2), (0, u "java/io/Serializable"), (0, .class_ 4), (0, u "java/lang/Object")] 2

/-- java/io/Serializable -/
def k2 : Class := { plain "java/io/Serializable" (some 0) with
  accessFlags := 1537
  interfaces := #[]
  cf := some (fileOf pool2 1 #[] #[] 1537 3 #[] #[])
  fields := #[]
  methods := #[]
  instanceTypes := #[]
  staticTypes := #[]
  resolved := Array.replicate 7 none
  statics := none }

def pool3 : Array CpInfo := pool [(1, .methodref 2 3), (0, .class_ 4), (0, .nameAndType 5 6), (0, u "java/lang/Object"), (0, u "<init>"), (0, u "()V"), (0, .fieldref 8 9), (0, .class_ 10), (0, .nameAndType 11 12), (0, u "java/lang/Throwable"), (0, u "cause"), (0, u "Ljava/lang/Throwable;"), (0, .fieldref 8 14), (0, .nameAndType 15 16), (0, u "UNASSIGNED_STACK"), (0, u "[Ljava/lang/StackTraceElement;"), (0, .fieldref 8 18), (0, .nameAndType 19 16), (0, u "stackTrace"), (0, .fieldref 8 21), (0, .nameAndType 22 23), (0, u "SUPPRESSED_SENTINEL"), (0, u "Ljava/util/List;"), (0, .fieldref 8 25), (0, .nameAndType 26 23), (0, u "suppressedExceptions"), (0, .methodref 8 28), (0, .nameAndType 29 30), (0, u "fillInStackTrace"), (0, u "()Ljava/lang/Throwable;"), (0, .fieldref 8 32), (0, .nameAndType 33 34), (0, u "detailMessage"), (0, u "Ljava/lang/String;"), (3, u "()Ljava/lang/String;"), (2, u "getMessage"), (51, .class_ 94), (0, u "java/lang/Throwable$WrappedPrintStream"), (6, .class_ 103), (1, u "java/lang/Throwable$PrintStreamOrWriter"), (61, u "$assertionsDisabled"), (0, u "Z"), (26, .class_ 194), (0, u "java/lang/Throwable$WrappedPrintWriter"), (3, .fieldref 8 199), (0, .nameAndType 200 201), (0, u "backtrace"), (0, u "Ljava/lang/Object;"), (0, .methodref 8 203), (0, .nameAndType 29 204), (0, u "(I)Ljava/lang/Throwable;"), (6, u "depth"), (0, u "I"), (10, u "(Ljava/lang/String;)V"), (45, .class_ 271), (1, u "java/lang/Throwable$SentinelHolder"), (32, u "EMPTY_THROWABLE_ARRAY"), (0, u "[Ljava/lang/Throwable;"), (12, .class_ 319), (0, u "java/io/Serializable"), (0, u "serialVersionUID"), (0, u "J"), (5, u "NULL_CAUSE_MESSAGE"), (0, u "SELF_SUPPRESSION_MESSAGE"), (0, u "CAUSE_CAPTION"), (0, u "SUPPRESSED_CAPTION")] 73

def k3c0 : Code := { maxStack := 2, maxLocals := 1, code := jdk_78_method_1_code, exceptionTable := #[], attributes := #[] }
def k3m0 : Method := { name := "<init>", desc := "()V", sig := { parameters := [], returnType := none }, accessFlags := 1, code := some k3c0 }
def k3c1 : Code := { maxStack := 2, maxLocals := 2, code := jdk_78_method_2_code, exceptionTable := #[], attributes := #[] }
def k3m1 : Method := { name := "<init>", desc := "(Ljava/lang/String;)V", sig := { parameters := [(.object "java/lang/String")], returnType := none }, accessFlags := 1, code := some k3c1 }
def k3c2 : Code := { maxStack := 1, maxLocals := 1, code := jdk_78_method_6_code, exceptionTable := #[], attributes := #[] }
def k3m2 : Method := { name := "getMessage", desc := "()Ljava/lang/String;", sig := { parameters := [], returnType := some (.object "java/lang/String") }, accessFlags := 1, code := some k3c2 }
def k3c3 : Code := { maxStack := 2, maxLocals := 1, code := ⟨#[0x2a, 0xb4, 0x00, 0x11, 0xc7, 0x00, 0x0a, 0x2a, 0xb4, 0x00, 0xc6, 0xc6, 0x00, 0x10, 0x2a, 0x03, 0xb6, 0x00, 0xca, 0x57, 0x2a, 0xb2, 0x00, 0x0d, 0xb5, 0x00, 0x11, 0x2a, 0xb0]⟩, exceptionTable := #[], attributes := #[] }
def k3m3 : Method := { name := "fillInStackTrace", desc := "()Ljava/lang/Throwable;", sig := { parameters := [], returnType := some (.object "java/lang/Throwable") }, accessFlags := 33, code := some k3c3 }
def k3m4 : Method := { name := "fillInStackTrace", desc := "(I)Ljava/lang/Throwable;", sig := { parameters := [.int], returnType := some (.object "java/lang/Throwable") }, accessFlags := 258, code := none }
/-- java/lang/Throwable -/
def k3 : Class := { plain "java/lang/Throwable" (some 0) with
  accessFlags := 33
  interfaces := #[2]
  cf := some (fileOf pool3 8 #[.nestMembers #[193, 93, 101, 269]] #[{ accessFlags := 1, nameIndex := 5, descriptorIndex := 6, attributes := #[] }, { accessFlags := 1, nameIndex := 5, descriptorIndex := 223, attributes := #[] }, { accessFlags := 1, nameIndex := 41, descriptorIndex := 38, attributes := #[] }, { accessFlags := 33, nameIndex := 29, descriptorIndex := 30, attributes := #[] }, { accessFlags := 258, nameIndex := 29, descriptorIndex := 204, attributes := #[] }] 33 2 #[318] #[{ accessFlags := 26, nameIndex := 320, descriptorIndex := 321, attributes := #[] }, { accessFlags := 130, nameIndex := 200, descriptorIndex := 201, attributes := #[] }, { accessFlags := 2, nameIndex := 33, descriptorIndex := 34, attributes := #[] }, { accessFlags := 26, nameIndex := 15, descriptorIndex := 16, attributes := #[] }, { accessFlags := 2, nameIndex := 11, descriptorIndex := 12, attributes := #[] }, { accessFlags := 2, nameIndex := 19, descriptorIndex := 16, attributes := #[] }, { accessFlags := 130, nameIndex := 211, descriptorIndex := 212, attributes := #[] }, { accessFlags := 26, nameIndex := 22, descriptorIndex := 23, attributes := #[] }, { accessFlags := 2, nameIndex := 26, descriptorIndex := 23, attributes := #[] }, { accessFlags := 26, nameIndex := 327, descriptorIndex := 34, attributes := #[] }, { accessFlags := 26, nameIndex := 328, descriptorIndex := 34, attributes := #[] }, { accessFlags := 26, nameIndex := 329, descriptorIndex := 34, attributes := #[] }, { accessFlags := 26, nameIndex := 330, descriptorIndex := 34, attributes := #[] }, { accessFlags := 26, nameIndex := 304, descriptorIndex := 305, attributes := #[] }, { accessFlags := 4120, nameIndex := 165, descriptorIndex := 166, attributes := #[] }])
  fields := #[{ name := "serialVersionUID", type := .long, accessFlags := 26, slot := 0, constantValue := 0 }, { name := "backtrace", type := (.object "java/lang/Object"), accessFlags := 130, slot := 0, constantValue := 0 }, { name := "detailMessage", type := (.object "java/lang/String"), accessFlags := 2, slot := 1, constantValue := 0 }, { name := "UNASSIGNED_STACK", type := (.array (.object "java/lang/StackTraceElement")), accessFlags := 26, slot := 1, constantValue := 0 }, { name := "cause", type := (.object "java/lang/Throwable"), accessFlags := 2, slot := 2, constantValue := 0 }, { name := "stackTrace", type := (.array (.object "java/lang/StackTraceElement")), accessFlags := 2, slot := 3, constantValue := 0 }, { name := "depth", type := .int, accessFlags := 130, slot := 4, constantValue := 0 }, { name := "SUPPRESSED_SENTINEL", type := (.object "java/util/List"), accessFlags := 26, slot := 2, constantValue := 0 }, { name := "suppressedExceptions", type := (.object "java/util/List"), accessFlags := 2, slot := 5, constantValue := 0 }, { name := "NULL_CAUSE_MESSAGE", type := (.object "java/lang/String"), accessFlags := 26, slot := 3, constantValue := 0 }, { name := "SELF_SUPPRESSION_MESSAGE", type := (.object "java/lang/String"), accessFlags := 26, slot := 4, constantValue := 0 }, { name := "CAUSE_CAPTION", type := (.object "java/lang/String"), accessFlags := 26, slot := 5, constantValue := 0 }, { name := "SUPPRESSED_CAPTION", type := (.object "java/lang/String"), accessFlags := 26, slot := 6, constantValue := 0 }, { name := "EMPTY_THROWABLE_ARRAY", type := (.array (.object "java/lang/Throwable")), accessFlags := 26, slot := 7, constantValue := 0 }, { name := "$assertionsDisabled", type := .boolean, accessFlags := 4120, slot := 8, constantValue := 0 }]
  methods := #[k3m0, k3m1, k3m2, k3m3, k3m4]
  instanceTypes := #[(.object "java/lang/Object"), (.object "java/lang/String"), (.object "java/lang/Throwable"), (.array (.object "java/lang/StackTraceElement")), .int, (.object "java/util/List")]
  staticTypes := #[.long, (.array (.object "java/lang/StackTraceElement")), (.object "java/util/List"), (.object "java/lang/String"), (.object "java/lang/String"), (.object "java/lang/String"), (.object "java/lang/String"), (.array (.object "java/lang/Throwable")), .boolean]
  resolved := Array.replicate 404 none
  statics := some 0 }

def pool4 : Array CpInfo := pool [(2, .class_ 4), (1, u "java/lang/Throwable"), (0, u "<init>"), (0, u "()V"), (0, .methodref 2 8), (0, .nameAndType 5 9), (0, u "(Ljava/lang/String;)V"), (9, .class_ 20), (0, u "java/lang/Exception"), (0, u "serialVersionUID"), (0, u "J")] 17

def k4m0 : Method := { name := "<init>", desc := "()V", sig := { parameters := [], returnType := none }, accessFlags := 1, code := none }
def k4c1 : Code := { maxStack := 2, maxLocals := 2, code := jdk_59_method_2_code, exceptionTable := #[], attributes := #[] }
def k4m1 : Method := { name := "<init>", desc := "(Ljava/lang/String;)V", sig := { parameters := [(.object "java/lang/String")], returnType := none }, accessFlags := 1, code := some k4c1 }
/-- java/lang/Exception -/
def k4 : Class := { plain "java/lang/Exception" (some 3) with
  accessFlags := 33
  interfaces := #[]
  cf := some (fileOf pool4 19 #[] #[{ accessFlags := 1, nameIndex := 5, descriptorIndex := 6, attributes := #[] }, { accessFlags := 1, nameIndex := 5, descriptorIndex := 9, attributes := #[] }] 33 2 #[] #[{ accessFlags := 24, nameIndex := 21, descriptorIndex := 22, attributes := #[] }])
  fields := #[{ name := "serialVersionUID", type := .long, accessFlags := 24, slot := 0, constantValue := 0 }]
  methods := #[k4m0, k4m1]
  instanceTypes := #[(.object "java/lang/Object"), (.object "java/lang/String"), (.object "java/lang/Throwable"), (.array (.object "java/lang/StackTraceElement")), .int, (.object "java/util/List")]
  staticTypes := #[.long]
  resolved := Array.replicate 40 none
  statics := none }

def pool5 : Array CpInfo := pool [(1, .methodref 2 3), (0, .class_ 4), (0, .nameAndType 5 6), (0, u "com/example/jobs_into_runs/jobsintoruns/http/ApiException"), (0, u "<init>"), (0, u "(ILjava/lang/String;Ljava/lang/String;Ljava/lang/Long;)V"), (0, .methodref 8 9), (0, .class_ 10), (0, .nameAndType 5 11), (0, u "java/lang/Exception"), (0, u "(Ljava/lang/String;)V"), (0, .fieldref 2 13), (0, .nameAndType 14 15), (0, u "status"), (0, u "I"), (0, .fieldref 2 17), (0, .nameAndType 18 19), (0, u "allowed"), (0, u "Ljava/lang/String;"), (0, .fieldref 2 21), (0, .nameAndType 22 23), (0, u "run"), (0, u "Ljava/lang/Long;"), (0, .methodref 25 26), (0, .class_ 27), (0, .nameAndType 28 29), (0, u "java/lang/Long"), (0, u "valueOf"), (0, u "(J)Ljava/lang/Long;"), (0, u "serialVersionUID"), (0, u "J"), (7, u "conflict"), (0, u "(Ljava/lang/String;J)Lcom/example/jobs_into_runs/jobsintoruns/http/ApiException;"), (0, u "()I"), (0, u "()Ljava/lang/String;"), (0, u "()Ljava/lang/Long;")] 2

def k5c0 : Code := { maxStack := 2, maxLocals := 5, code := prog_33_method_3_code, exceptionTable := #[], attributes := #[] }
def k5m0 : Method := { name := "<init>", desc := "(ILjava/lang/String;Ljava/lang/String;Ljava/lang/Long;)V", sig := { parameters := [.int, (.object "java/lang/String"), (.object "java/lang/String"), (.object "java/lang/Long")], returnType := none }, accessFlags := 2, code := some k5c0 }
def k5c1 : Code := { maxStack := 7, maxLocals := 3, code := prog_33_method_4_code, exceptionTable := #[], attributes := #[] }
def k5m1 : Method := { name := "conflict", desc := "(Ljava/lang/String;J)Lcom/example/jobs_into_runs/jobsintoruns/http/ApiException;", sig := { parameters := [(.object "java/lang/String"), .long], returnType := some (.object "com/example/jobs_into_runs/jobsintoruns/http/ApiException") }, accessFlags := 8, code := some k5c1 }
def k5c2 : Code := { maxStack := 1, maxLocals := 1, code := prog_33_method_5_code, exceptionTable := #[], attributes := #[] }
def k5m2 : Method := { name := "status", desc := "()I", sig := { parameters := [], returnType := some .int }, accessFlags := 0, code := some k5c2 }
def k5c3 : Code := { maxStack := 1, maxLocals := 1, code := prog_33_method_6_code, exceptionTable := #[], attributes := #[] }
def k5m3 : Method := { name := "allowed", desc := "()Ljava/lang/String;", sig := { parameters := [], returnType := some (.object "java/lang/String") }, accessFlags := 0, code := some k5c3 }
def k5c4 : Code := { maxStack := 1, maxLocals := 1, code := prog_33_method_7_code, exceptionTable := #[], attributes := #[] }
def k5m4 : Method := { name := "run", desc := "()Ljava/lang/Long;", sig := { parameters := [], returnType := some (.object "java/lang/Long") }, accessFlags := 0, code := some k5c4 }
/-- com/example/jobs_into_runs/jobsintoruns/http/ApiException -/
def k5 : Class := { plain "com/example/jobs_into_runs/jobsintoruns/http/ApiException" (some 4) with
  accessFlags := 48
  interfaces := #[]
  cf := some (fileOf pool5 2 #[] #[{ accessFlags := 2, nameIndex := 5, descriptorIndex := 6, attributes := #[] }, { accessFlags := 8, nameIndex := 39, descriptorIndex := 40, attributes := #[] }, { accessFlags := 0, nameIndex := 14, descriptorIndex := 41, attributes := #[] }, { accessFlags := 0, nameIndex := 18, descriptorIndex := 42, attributes := #[] }, { accessFlags := 0, nameIndex := 22, descriptorIndex := 43, attributes := #[] }] 48 8 #[] #[{ accessFlags := 26, nameIndex := 30, descriptorIndex := 31, attributes := #[] }, { accessFlags := 18, nameIndex := 14, descriptorIndex := 15, attributes := #[] }, { accessFlags := 18, nameIndex := 18, descriptorIndex := 19, attributes := #[] }, { accessFlags := 18, nameIndex := 22, descriptorIndex := 23, attributes := #[] }])
  fields := #[{ name := "serialVersionUID", type := .long, accessFlags := 26, slot := 0, constantValue := 0 }, { name := "status", type := .int, accessFlags := 18, slot := 6, constantValue := 0 }, { name := "allowed", type := (.object "java/lang/String"), accessFlags := 18, slot := 7, constantValue := 0 }, { name := "run", type := (.object "java/lang/Long"), accessFlags := 18, slot := 8, constantValue := 0 }]
  methods := #[k5m0, k5m1, k5m2, k5m3, k5m4]
  instanceTypes := #[(.object "java/lang/Object"), (.object "java/lang/String"), (.object "java/lang/Throwable"), (.array (.object "java/lang/StackTraceElement")), .int, (.object "java/util/List"), .int, (.object "java/lang/String"), (.object "java/lang/Long")]
  staticTypes := #[.long]
  resolved := Array.replicate 46 none
  statics := none }

def pool6 : Array CpInfo := pool [(1, .methodref 2 3), (0, .class_ 4), (0, .nameAndType 5 6), (0, u "java/lang/Object"), (0, u "<init>"), (0, u "()V"), (1, .class_ 10), (1, u "java/lang/Number"), (2, .class_ 14), (0, u "java/io/Serializable"), (0, u "serialVersionUID"), (0, u "J")] 20

def k6c0 : Code := { maxStack := 1, maxLocals := 1, code := jdk_18_method_1_code, exceptionTable := #[], attributes := #[] }
def k6m0 : Method := { name := "<init>", desc := "()V", sig := { parameters := [], returnType := none }, accessFlags := 1, code := some k6c0 }
/-- java/lang/Number -/
def k6 : Class := { plain "java/lang/Number" (some 0) with
  accessFlags := 1057
  interfaces := #[2]
  cf := some (fileOf pool6 8 #[] #[{ accessFlags := 1, nameIndex := 5, descriptorIndex := 6, attributes := #[] }] 1057 2 #[13] #[{ accessFlags := 26, nameIndex := 15, descriptorIndex := 16, attributes := #[] }])
  fields := #[{ name := "serialVersionUID", type := .long, accessFlags := 26, slot := 0, constantValue := 0 }]
  methods := #[k6m0]
  instanceTypes := #[]
  staticTypes := #[.long]
  resolved := Array.replicate 37 none
  statics := none }

def pool7 : Array CpInfo := pool [(1, .class_ 2), (0, u "java/lang/Comparable"), (0, .class_ 4), (0, u "java/lang/Object")] 7

/-- java/lang/Comparable -/
def k7 : Class := { plain "java/lang/Comparable" (some 0) with
  accessFlags := 1537
  interfaces := #[]
  cf := some (fileOf pool7 1 #[] #[] 1537 3 #[] #[])
  fields := #[]
  methods := #[]
  instanceTypes := #[]
  staticTypes := #[]
  resolved := Array.replicate 12 none
  statics := none }

def pool8 : Array CpInfo := pool [(1, .class_ 2), (0, u "java/lang/constant/Constable"), (0, .class_ 4), (0, u "java/lang/Object")] 6

/-- java/lang/constant/Constable -/
def k8 : Class := { plain "java/lang/constant/Constable" (some 0) with
  accessFlags := 1537
  interfaces := #[]
  cf := some (fileOf pool8 1 #[] #[] 1537 3 #[] #[])
  fields := #[]
  methods := #[]
  instanceTypes := #[]
  staticTypes := #[]
  resolved := Array.replicate 11 none
  statics := none }

def pool9 : Array CpInfo := pool [(1, .class_ 2), (0, u "java/lang/constant/ConstantDesc"), (0, .class_ 4), (0, u "java/lang/Object")] 32

/-- java/lang/constant/ConstantDesc -/
def k9 : Class := { plain "java/lang/constant/ConstantDesc" (some 0) with
  accessFlags := 1537
  interfaces := #[]
  cf := some (fileOf pool9 1 #[] #[] 1537 3 #[] #[])
  fields := #[]
  methods := #[]
  instanceTypes := #[]
  staticTypes := #[]
  resolved := Array.replicate 37 none
  statics := none }

def pool10 : Array CpInfo := pool [(1, .class_ 2), (0, u "java/lang/Long"), (55, .nameAndType 59 60), (0, u "<init>"), (0, u "()V"), (24, u "valueOf"), (143, u "(J)Ljava/lang/Long;"), (0, .long 18446744073709551488), (1, .long 127), (1, .fieldref 235 236), (0, .class_ 237), (0, .nameAndType 238 239), (0, u "java/lang/Long$LongCache"), (0, u "cache"), (0, u "[Ljava/lang/Long;"), (0, .methodref 1 241), (0, .nameAndType 59 242), (0, u "(J)V"), (27, .methodref 271 58), (0, .class_ 272), (0, u "java/lang/Number"), (0, .fieldref 1 274), (0, .nameAndType 275 276), (0, u "value"), (0, u "J"), (5, u "longValue"), (0, u "()J"), (77, u "TYPE"), (0, u "Ljava/lang/Class;"), (0, .class_ 364), (0, u "java/lang/Comparable"), (0, .class_ 366), (0, u "java/lang/constant/Constable"), (0, .class_ 368), (0, u "java/lang/constant/ConstantDesc"), (0, u "MIN_VALUE"), (1, u "MAX_VALUE"), (4, u "SIZE"), (0, u "I"), (1, u "BYTES"), (1, u "serialVersionUID")] 142

def k10c0 : Code := { maxStack := 4, maxLocals := 3, code := jdk_35_method_24_code, exceptionTable := #[], attributes := #[] }
def k10m0 : Method := { name := "valueOf", desc := "(J)Ljava/lang/Long;", sig := { parameters := [.long], returnType := some (.object "java/lang/Long") }, accessFlags := 9, code := some k10c0 }
def k10c1 : Code := { maxStack := 3, maxLocals := 3, code := jdk_35_method_26_code, exceptionTable := #[], attributes := #[] }
def k10m1 : Method := { name := "<init>", desc := "(J)V", sig := { parameters := [.long], returnType := none }, accessFlags := 1, code := some k10c1 }
def k10c2 : Code := { maxStack := 2, maxLocals := 1, code := jdk_35_method_31_code, exceptionTable := #[], attributes := #[] }
def k10m2 : Method := { name := "longValue", desc := "()J", sig := { parameters := [], returnType := some .long }, accessFlags := 1, code := some k10c2 }
/-- java/lang/Long -/
def k10 : Class := { plain "java/lang/Long" (some 6) with
  accessFlags := 49
  interfaces := #[7, 8, 9]
  cf := some (fileOf pool10 1 #[.nestMembers #[235]] #[{ accessFlags := 9, nameIndex := 85, descriptorIndex := 229, attributes := #[] }, { accessFlags := 1, nameIndex := 59, descriptorIndex := 242, attributes := #[] }, { accessFlags := 1, nameIndex := 282, descriptorIndex := 283, attributes := #[] }] 49 271 #[363, 365, 367] #[{ accessFlags := 25, nameIndex := 369, descriptorIndex := 276, attributes := #[] }, { accessFlags := 25, nameIndex := 371, descriptorIndex := 276, attributes := #[] }, { accessFlags := 25, nameIndex := 361, descriptorIndex := 362, attributes := #[] }, { accessFlags := 18, nameIndex := 275, descriptorIndex := 276, attributes := #[] }, { accessFlags := 25, nameIndex := 376, descriptorIndex := 377, attributes := #[] }, { accessFlags := 25, nameIndex := 379, descriptorIndex := 377, attributes := #[] }, { accessFlags := 26, nameIndex := 381, descriptorIndex := 276, attributes := #[] }])
  fields := #[{ name := "MIN_VALUE", type := .long, accessFlags := 25, slot := 0, constantValue := 0 }, { name := "MAX_VALUE", type := .long, accessFlags := 25, slot := 1, constantValue := 0 }, { name := "TYPE", type := (.object "java/lang/Class"), accessFlags := 25, slot := 2, constantValue := 0 }, { name := "value", type := .long, accessFlags := 18, slot := 0, constantValue := 0 }, { name := "SIZE", type := .int, accessFlags := 25, slot := 3, constantValue := 0 }, { name := "BYTES", type := .int, accessFlags := 25, slot := 4, constantValue := 0 }, { name := "serialVersionUID", type := .long, accessFlags := 26, slot := 5, constantValue := 0 }]
  methods := #[k10m0, k10m1, k10m2]
  instanceTypes := #[.long]
  staticTypes := #[.long, .long, (.object "java/lang/Class"), .int, .int, .long]
  resolved := Array.replicate 524 none
  statics := none }

def pool11 : Array CpInfo := pool [(2, .class_ 4), (1, u "java/lang/Object"), (0, u "<init>"), (0, u "()V"), (0, .class_ 8), (0, u "java/lang/Long"), (7, .class_ 18), (1, u "java/lang/Long$LongCache"), (0, u "$assertionsDisabled"), (0, u "Z"), (8, u "archivedCache"), (0, u "[Ljava/lang/Long;"), (7, u "cache")] 24

def k11m0 : Method := { name := "<init>", desc := "()V", sig := { parameters := [], returnType := none }, accessFlags := 2, code := none }
/-- java/lang/Long$LongCache -/
def k11 : Class := { plain "java/lang/Long$LongCache" (some 0) with
  accessFlags := 48
  interfaces := #[]
  cf := some (fileOf pool11 16 #[.nestHost 7] #[{ accessFlags := 2, nameIndex := 5, descriptorIndex := 6, attributes := #[] }] 48 2 #[] #[{ accessFlags := 24, nameIndex := 38, descriptorIndex := 30, attributes := #[] }, { accessFlags := 8, nameIndex := 29, descriptorIndex := 30, attributes := #[] }, { accessFlags := 4120, nameIndex := 19, descriptorIndex := 20, attributes := #[] }])
  fields := #[{ name := "cache", type := (.array (.object "java/lang/Long")), accessFlags := 24, slot := 0, constantValue := 0 }, { name := "archivedCache", type := (.array (.object "java/lang/Long")), accessFlags := 8, slot := 1, constantValue := 0 }, { name := "$assertionsDisabled", type := .boolean, accessFlags := 4120, slot := 2, constantValue := 0 }]
  methods := #[k11m0]
  instanceTypes := #[]
  staticTypes := #[(.array (.object "java/lang/Long")), (.array (.object "java/lang/Long")), .boolean]
  resolved := Array.replicate 63 none
  statics := some 1 }

def pool12 : Array CpInfo := pool [(2, .class_ 4), (1, u "java/lang/CharSequence"), (42, .class_ 48), (0, u "java/lang/CharSequence$1CodePointIterator"), (10, .class_ 60), (0, u "java/lang/CharSequence$1CharIterator"), (5, .class_ 67), (0, u "java/lang/Object")] 63

/-- java/lang/CharSequence -/
def k12 : Class := { plain "java/lang/CharSequence" (some 0) with
  accessFlags := 1537
  interfaces := #[]
  cf := some (fileOf pool12 2 #[.nestMembers #[47, 59]] #[] 1537 66 #[] #[])
  fields := #[]
  methods := #[]
  instanceTypes := #[]
  staticTypes := #[]
  resolved := Array.replicate 131 none
  statics := none }

def pool13 : Array CpInfo := pool [(1, .methodref 2 3), (0, .class_ 4), (0, .nameAndType 5 6), (0, u "java/lang/Object"), (0, u "<init>"), (0, u "()V"), (0, .string 8), (0, u ""), (0, .fieldref 10 11), (0, .class_ 12), (0, .nameAndType 13 14), (0, u "java/lang/String"), (0, u "value"), (0, u "[B"), (0, .fieldref 10 16), (0, .nameAndType 17 18), (0, u "coder"), (0, u "B"), (2, u "hash"), (0, u "I"), (2, u "hashIsZero"), (0, u "Z"), (0, .methodref 10 28), (0, .nameAndType 5 29), (0, u "([CIILjava/lang/Void;)V"), (8, .fieldref 10 39), (0, .nameAndType 40 26), (0, u "COMPACT_STRINGS"), (1, .class_ 44), (1, u "java/lang/StringUTF16"), (0, u "compress"), (1, .methodref 42 48), (0, .nameAndType 49 50), (0, u "coderFromArrayLen"), (0, u "([BI)B"), (126, .methodref 42 178), (0, .nameAndType 45 179), (0, u "([CII)[B"), (363, u "equals"), (29, u "(Ljava/lang/Object;)Z"), (1, .class_ 576), (0, u "java/lang/CharSequence"), (22, u "CASE_INSENSITIVE_ORDER"), (0, u "Ljava/util/Comparator;"), (409, u "([C)V"), (90, u "serialPersistentFields"), (0, u "[Ljava/io/ObjectStreamField;"), (0, .class_ 1104), (0, u "java/lang/String$CaseInsensitiveComparator"), (1, .class_ 1107), (0, u "java/io/Serializable"), (0, .class_ 1109), (0, u "java/lang/Comparable"), (0, .class_ 1111), (0, u "java/lang/constant/Constable"), (0, .class_ 1113), (0, u "java/lang/constant/ConstantDesc"), (2, u "serialVersionUID"), (0, u "J"), (3, u "REPL"), (0, u "C"), (2, u "LATIN1"), (1, u "UTF16")] 323

def k13m0 : Method := { name := "<init>", desc := "()V", sig := { parameters := [], returnType := none }, accessFlags := 1, code := none }
def k13c1 : Code := { maxStack := 5, maxLocals := 2, code := jdk_42_method_3_code, exceptionTable := #[], attributes := #[] }
def k13m1 : Method := { name := "<init>", desc := "([C)V", sig := { parameters := [(.array .char)], returnType := none }, accessFlags := 1, code := some k13c1 }
def k13c2 : Code := { maxStack := 2, maxLocals := 3, code := jdk_42_method_66_code, exceptionTable := #[], attributes := #[] }
def k13m2 : Method := { name := "equals", desc := "(Ljava/lang/Object;)Z", sig := { parameters := [(.object "java/lang/Object")], returnType := some .boolean }, accessFlags := 1, code := some k13c2 }
def k13c3 : Code := { maxStack := 4, maxLocals := 6, code := jdk_42_method_149_code, exceptionTable := #[], attributes := #[] }
def k13m3 : Method := { name := "<init>", desc := "([CIILjava/lang/Void;)V", sig := { parameters := [(.array .char), .int, .int, (.object "java/lang/Void")], returnType := none }, accessFlags := 2, code := some k13c3 }
/-- java/lang/String -/
def k13 : Class := { plain "java/lang/String" (some 0) with
  accessFlags := 49
  interfaces := #[2, 7, 12, 8, 9]
  cf := some (fileOf pool13 10 #[.nestMembers #[1103]] #[{ accessFlags := 1, nameIndex := 5, descriptorIndex := 6, attributes := #[] }, { accessFlags := 1, nameIndex := 5, descriptorIndex := 1010, attributes := #[] }, { accessFlags := 1, nameIndex := 543, descriptorIndex := 573, attributes := #[] }, { accessFlags := 2, nameIndex := 5, descriptorIndex := 29, attributes := #[] }] 49 2 #[1106, 1108, 575, 1110, 1112] #[{ accessFlags := 18, nameIndex := 13, descriptorIndex := 14, attributes := #[] }, { accessFlags := 18, nameIndex := 17, descriptorIndex := 18, attributes := #[] }, { accessFlags := 2, nameIndex := 21, descriptorIndex := 22, attributes := #[] }, { accessFlags := 2, nameIndex := 25, descriptorIndex := 26, attributes := #[] }, { accessFlags := 26, nameIndex := 1116, descriptorIndex := 1117, attributes := #[] }, { accessFlags := 24, nameIndex := 40, descriptorIndex := 26, attributes := #[] }, { accessFlags := 26, nameIndex := 1101, descriptorIndex := 1102, attributes := #[] }, { accessFlags := 26, nameIndex := 1121, descriptorIndex := 1122, attributes := #[] }, { accessFlags := 25, nameIndex := 599, descriptorIndex := 600, attributes := #[] }, { accessFlags := 24, nameIndex := 1125, descriptorIndex := 18, attributes := #[] }, { accessFlags := 24, nameIndex := 1127, descriptorIndex := 18, attributes := #[] }])
  fields := #[{ name := "value", type := (.array .byte), accessFlags := 18, slot := 0, constantValue := 0 }, { name := "coder", type := .byte, accessFlags := 18, slot := 1, constantValue := 0 }, { name := "hash", type := .int, accessFlags := 2, slot := 2, constantValue := 0 }, { name := "hashIsZero", type := .boolean, accessFlags := 2, slot := 3, constantValue := 0 }, { name := "serialVersionUID", type := .long, accessFlags := 26, slot := 0, constantValue := 0 }, { name := "COMPACT_STRINGS", type := .boolean, accessFlags := 24, slot := 1, constantValue := 0 }, { name := "serialPersistentFields", type := (.array (.object "java/io/ObjectStreamField")), accessFlags := 26, slot := 2, constantValue := 0 }, { name := "REPL", type := .char, accessFlags := 26, slot := 3, constantValue := 0 }, { name := "CASE_INSENSITIVE_ORDER", type := (.object "java/util/Comparator"), accessFlags := 25, slot := 4, constantValue := 0 }, { name := "LATIN1", type := .byte, accessFlags := 24, slot := 5, constantValue := 0 }, { name := "UTF16", type := .byte, accessFlags := 24, slot := 6, constantValue := 0 }]
  methods := #[k13m0, k13m1, k13m2, k13m3]
  instanceTypes := #[(.array .byte), .byte, .int, .boolean]
  staticTypes := #[.long, .boolean, (.array (.object "java/io/ObjectStreamField")), .char, (.object "java/util/Comparator"), .byte, .byte]
  resolved := Array.replicate 1451 none
  statics := some 2 }

def pool14 : Array CpInfo := pool [(6, .class_ 8), (1, u "java/lang/Object"), (0, u "<init>"), (0, u "()V"), (1, .class_ 14), (1, u "java/lang/StringUTF16"), (31, u "$assertionsDisabled"), (0, u "Z"), (13, u "HI_BYTE_SHIFT"), (0, u "I"), (2, u "LO_BYTE_SHIFT"), (49, .methodref 12 116), (0, .nameAndType 117 118), (0, u "compress"), (0, u "([CI[BII)I"), (3, u "([CII)[B"), (138, u "coderFromArrayLen"), (0, u "([BI)B"), (106, .class_ 371), (1, u "java/lang/StringUTF16$LinesSpliterator"), (58, u "MAX_LENGTH"), (196, .class_ 628), (0, u "java/lang/StringUTF16$CodePointsSpliterator"), (0, .class_ 630), (0, u "java/lang/StringUTF16$CharsSpliterator")] 4

def k14m0 : Method := { name := "<init>", desc := "()V", sig := { parameters := [], returnType := none }, accessFlags := 0, code := none }
def k14c1 : Code := { maxStack := 2, maxLocals := 2, code := jdk_52_method_15_code, exceptionTable := #[], attributes := #[] }
def k14m1 : Method := { name := "coderFromArrayLen", desc := "([BI)B", sig := { parameters := [(.array .byte), .int], returnType := some .byte }, accessFlags := 8, code := some k14c1 }
def k14c2 : Code := { maxStack := 5, maxLocals := 6, code := jdk_52_method_16_code, exceptionTable := #[], attributes := #[] }
def k14m2 : Method := { name := "compress", desc := "([CII)[B", sig := { parameters := [(.array .char), .int, .int], returnType := some (.array .byte) }, accessFlags := 9, code := some k14c2 }
def k14c3 : Code := { maxStack := 3, maxLocals := 7, code := jdk_52_method_21_code, exceptionTable := #[], attributes := #[] }
def k14m3 : Method := { name := "compress", desc := "([CI[BII)I", sig := { parameters := [(.array .char), .int, (.array .byte), .int, .int], returnType := some .int }, accessFlags := 9, code := some k14c3 }
/-- java/lang/StringUTF16 -/
def k14 : Class := { plain "java/lang/StringUTF16" (some 0) with
  accessFlags := 48
  interfaces := #[]
  cf := some (fileOf pool14 12 #[.nestMembers #[627, 629, 369]] #[{ accessFlags := 0, nameIndex := 9, descriptorIndex := 10, attributes := #[] }, { accessFlags := 8, nameIndex := 261, descriptorIndex := 262, attributes := #[] }, { accessFlags := 9, nameIndex := 117, descriptorIndex := 122, attributes := #[] }, { accessFlags := 9, nameIndex := 117, descriptorIndex := 118, attributes := #[] }] 48 6 #[] #[{ accessFlags := 26, nameIndex := 61, descriptorIndex := 62, attributes := #[] }, { accessFlags := 26, nameIndex := 65, descriptorIndex := 62, attributes := #[] }, { accessFlags := 24, nameIndex := 430, descriptorIndex := 62, attributes := #[] }, { accessFlags := 4120, nameIndex := 46, descriptorIndex := 47, attributes := #[] }])
  fields := #[{ name := "HI_BYTE_SHIFT", type := .int, accessFlags := 26, slot := 0, constantValue := 0 }, { name := "LO_BYTE_SHIFT", type := .int, accessFlags := 26, slot := 1, constantValue := 0 }, { name := "MAX_LENGTH", type := .int, accessFlags := 24, slot := 2, constantValue := 0 }, { name := "$assertionsDisabled", type := .boolean, accessFlags := 4120, slot := 3, constantValue := 0 }]
  methods := #[k14m0, k14m1, k14m2, k14m3]
  instanceTypes := #[]
  staticTypes := #[.int, .int, .int, .boolean]
  resolved := Array.replicate 635 none
  statics := none }

def pool15 : Array CpInfo := pool [(2, .class_ 4), (1, u "java/lang/Object"), (0, u "<init>"), (0, u "()V"), (12, .class_ 20), (0, u "java/util/Collections"), (63, u "r"), (0, u "Ljava/util/Random;"), (80, .class_ 167), (0, u "java/util/Collections$UnmodifiableCollection"), (6, .class_ 175), (0, u "java/util/Collections$UnmodifiableSequencedCollection"), (6, .class_ 183), (0, u "java/util/Collections$UnmodifiableSet"), (6, .class_ 191), (0, u "java/util/Collections$UnmodifiableSequencedSet"), (6, .class_ 199), (0, u "java/util/Collections$UnmodifiableSortedSet"), (6, .class_ 207), (0, u "java/util/Collections$UnmodifiableNavigableSet"), (4, .class_ 213), (0, u "java/util/Collections$UnmodifiableList"), (1, .class_ 216), (0, u "java/util/Collections$UnmodifiableRandomAccessList"), (6, .class_ 224), (0, u "java/util/Collections$UnmodifiableMap"), (6, .class_ 232), (0, u "java/util/Collections$UnmodifiableSequencedMap"), (4, .class_ 238), (0, u "java/util/Collections$UnmodifiableSortedMap"), (6, .class_ 246), (0, u "java/util/Collections$UnmodifiableNavigableMap"), (3, .class_ 251), (0, u "java/util/Collections$SynchronizedCollection"), (4, .class_ 257), (0, u "java/util/Collections$SynchronizedSet"), (4, .class_ 263), (0, u "java/util/Collections$SynchronizedSortedSet"), (1, .class_ 266), (0, u "java/util/Collections$SynchronizedNavigableSet"), (1, .class_ 269), (0, u "java/util/Collections$SynchronizedRandomAccessList"), (1, .class_ 272), (0, u "java/util/Collections$SynchronizedList"), (5, .class_ 279), (0, u "java/util/Collections$SynchronizedMap"), (1, .class_ 282), (0, u "java/util/Collections$SynchronizedSortedMap"), (1, .class_ 285), (0, u "java/util/Collections$SynchronizedNavigableMap"), (1, .class_ 288), (0, u "java/util/Collections$CheckedCollection"), (11, .class_ 301), (0, u "java/util/Collections$CheckedQueue"), (3, .class_ 306), (0, u "java/util/Collections$CheckedSet"), (3, .class_ 311), (0, u "java/util/Collections$CheckedSortedSet"), (3, .class_ 316), (0, u "java/util/Collections$CheckedNavigableSet"), (3, .class_ 321), (0, u "java/util/Collections$CheckedRandomAccessList"), (3, .class_ 326), (0, u "java/util/Collections$CheckedList"), (1, .class_ 329), (0, u "java/util/Collections$CheckedMap"), (3, .class_ 334), (0, u "java/util/Collections$CheckedSortedMap"), (3, .class_ 339), (0, u "java/util/Collections$CheckedNavigableMap"), (4, .class_ 346), (1, u "java/util/Collections$EmptyIterator"), (3, .class_ 352), (1, u "java/util/Collections$EmptyListIterator"), (2, .class_ 357), (1, u "java/util/Collections$EmptyEnumeration"), (4, u "EMPTY_SET"), (0, u "Ljava/util/Set;"), (6, u "EMPTY_LIST"), (0, u "Ljava/util/List;"), (2, u "EMPTY_MAP"), (0, u "Ljava/util/Map;"), (4, .class_ 381), (0, u "java/util/Collections$SingletonSet"), (2, .class_ 385), (0, u "java/util/Collections$1"), (1, .class_ 388), (0, u "java/util/Collections$2"), (1, .class_ 391), (0, u "java/util/Collections$SingletonList"), (1, .class_ 394), (0, u "java/util/Collections$SingletonMap"), (22, .class_ 418), (0, u "java/util/Collections$CopiesList"), (4, .class_ 425), (1, u "java/util/Collections$ReverseComparator"), (8, .class_ 435), (0, u "java/util/Collections$ReverseComparator2"), (6, .class_ 443), (0, u "java/util/Collections$3"), (25, .class_ 470), (0, u "java/util/Collections$SetFromMap"), (2, .class_ 474), (0, u "java/util/Collections$SequencedSetFromMap"), (3, .class_ 479), (0, u "java/util/Collections$AsLIFOQueue"), (11, .class_ 492), (0, u "java/util/Collections$EmptySet"), (1, .class_ 495), (0, u "java/util/Collections$EmptyList"), (1, .class_ 498), (0, u "java/util/Collections$EmptyMap"), (1, u "BINARYSEARCH_THRESHOLD"), (0, u "I"), (2, u "REVERSE_THRESHOLD"), (1, u "SHUFFLE_THRESHOLD"), (1, u "FILL_THRESHOLD"), (1, u "ROTATE_THRESHOLD"), (1, u "COPY_THRESHOLD"), (1, u "REPLACEALL_THRESHOLD"), (1, u "INDEXOFSUBLIST_THRESHOLD"), (333, .class_ 851), (0, u "java/util/Collections$CheckedMap$CheckedEntrySet"), (0, .class_ 853), (0, u "java/util/Collections$CheckedMap$CheckedEntrySet$CheckedEntry"), (0, .class_ 855), (0, u "java/util/Collections$CheckedMap$CheckedEntrySet$1"), (0, .class_ 857), (0, u "java/util/Collections$CheckedList$1"), (0, .class_ 859), (0, u "java/util/Collections$CheckedCollection$1"), (0, .class_ 861), (0, u "java/util/Collections$UnmodifiableNavigableMap$EmptyNavigableMap"), (0, .class_ 863), (0, u "java/util/Collections$UnmodifiableMap$UnmodifiableEntrySet"), (0, .class_ 865), (0, u "java/util/Collections$UnmodifiableMap$UnmodifiableEntrySet$UnmodifiableEntry"), (0, .class_ 867), (0, u "java/util/Collections$UnmodifiableMap$UnmodifiableEntrySet$UnmodifiableEntrySetSpliterator"), (0, .class_ 869), (0, u "java/util/Collections$UnmodifiableMap$UnmodifiableEntrySet$1"), (0, .class_ 871), (0, u "java/util/Collections$UnmodifiableList$1"), (0, .class_ 873), (0, u "java/util/Collections$UnmodifiableNavigableSet$EmptyNavigableSet"), (0, .class_ 875), (0, u "java/util/Collections$UnmodifiableCollection$1")] 57

def k15m0 : Method := { name := "<init>", desc := "()V", sig := { parameters := [], returnType := none }, accessFlags := 2, code := none }
/-- java/util/Collections -/
def k15 : Class := { plain "java/util/Collections" (some 0) with
  accessFlags := 33
  interfaces := #[]
  cf := some (fileOf pool15 19 #[.nestMembers #[478, 473, 469, 434, 423, 417, 393, 390, 380, 497, 494, 491, 355, 350, 344, 338, 333, 328, 850, 852, 854, 320, 325, 856, 315, 310, 305, 300, 287, 858, 284, 281, 278, 268, 271, 265, 262, 256, 250, 245, 860, 237, 231, 223, 862, 864, 866, 868, 215, 212, 870, 206, 872, 198, 190, 182, 174, 166, 874, 442, 387, 384]] #[{ accessFlags := 2, nameIndex := 5, descriptorIndex := 6, attributes := #[] }] 33 2 #[] #[{ accessFlags := 26, nameIndex := 500, descriptorIndex := 501, attributes := #[] }, { accessFlags := 26, nameIndex := 504, descriptorIndex := 501, attributes := #[] }, { accessFlags := 26, nameIndex := 506, descriptorIndex := 501, attributes := #[] }, { accessFlags := 26, nameIndex := 508, descriptorIndex := 501, attributes := #[] }, { accessFlags := 26, nameIndex := 510, descriptorIndex := 501, attributes := #[] }, { accessFlags := 26, nameIndex := 512, descriptorIndex := 501, attributes := #[] }, { accessFlags := 26, nameIndex := 514, descriptorIndex := 501, attributes := #[] }, { accessFlags := 26, nameIndex := 516, descriptorIndex := 501, attributes := #[] }, { accessFlags := 10, nameIndex := 84, descriptorIndex := 85, attributes := #[] }, { accessFlags := 25, nameIndex := 362, descriptorIndex := 363, attributes := #[] }, { accessFlags := 25, nameIndex := 370, descriptorIndex := 371, attributes := #[] }, { accessFlags := 25, nameIndex := 374, descriptorIndex := 375, attributes := #[] }])
  fields := #[{ name := "BINARYSEARCH_THRESHOLD", type := .int, accessFlags := 26, slot := 0, constantValue := 0 }, { name := "REVERSE_THRESHOLD", type := .int, accessFlags := 26, slot := 1, constantValue := 0 }, { name := "SHUFFLE_THRESHOLD", type := .int, accessFlags := 26, slot := 2, constantValue := 0 }, { name := "FILL_THRESHOLD", type := .int, accessFlags := 26, slot := 3, constantValue := 0 }, { name := "ROTATE_THRESHOLD", type := .int, accessFlags := 26, slot := 4, constantValue := 0 }, { name := "COPY_THRESHOLD", type := .int, accessFlags := 26, slot := 5, constantValue := 0 }, { name := "REPLACEALL_THRESHOLD", type := .int, accessFlags := 26, slot := 6, constantValue := 0 }, { name := "INDEXOFSUBLIST_THRESHOLD", type := .int, accessFlags := 26, slot := 7, constantValue := 0 }, { name := "r", type := (.object "java/util/Random"), accessFlags := 10, slot := 8, constantValue := 0 }, { name := "EMPTY_SET", type := (.object "java/util/Set"), accessFlags := 25, slot := 9, constantValue := 0 }, { name := "EMPTY_LIST", type := (.object "java/util/List"), accessFlags := 25, slot := 10, constantValue := 0 }, { name := "EMPTY_MAP", type := (.object "java/util/Map"), accessFlags := 25, slot := 11, constantValue := 0 }]
  methods := #[k15m0]
  instanceTypes := #[]
  staticTypes := #[.int, .int, .int, .int, .int, .int, .int, .int, (.object "java/util/Random"), (.object "java/util/Set"), (.object "java/util/List"), (.object "java/util/Map")]
  resolved := Array.replicate 933 none
  statics := some 3 }

def pool16 : Array CpInfo := pool [(4, .class_ 6), (1, u "java/lang/Object"), (0, u "<init>"), (0, u "()V"), (5, .class_ 16), (1, u "java/lang/StringLatin1"), (104, u "$assertionsDisabled"), (0, u "Z"), (98, .class_ 223), (1, u "java/lang/StringLatin1$LinesSpliterator"), (166, .class_ 391), (0, u "java/lang/StringLatin1$CharsSpliterator")] 3

def k16m0 : Method := { name := "<init>", desc := "()V", sig := { parameters := [], returnType := none }, accessFlags := 0, code := none }
/-- java/lang/StringLatin1 -/
def k16 : Class := { plain "java/lang/StringLatin1" (some 0) with
  accessFlags := 48
  interfaces := #[]
  cf := some (fileOf pool16 14 #[.nestMembers #[390, 221]] #[{ accessFlags := 0, nameIndex := 7, descriptorIndex := 8, attributes := #[] }] 48 4 #[] #[{ accessFlags := 4120, nameIndex := 121, descriptorIndex := 122, attributes := #[] }])
  fields := #[{ name := "$assertionsDisabled", type := .boolean, accessFlags := 4120, slot := 0, constantValue := 0 }]
  methods := #[k16m0]
  instanceTypes := #[]
  staticTypes := #[.boolean]
  resolved := Array.replicate 395 none
  statics := none }

def pool17 : Array CpInfo := pool [(2, .class_ 4), (1, u "java/lang/Object"), (0, u "<init>"), (0, u "()V"), (17, .class_ 26), (1, u "jdk/internal/util/Preconditions"), (28, .class_ 56), (0, u "jdk/internal/util/Preconditions$4"), (57, .class_ 115), (0, u "jdk/internal/util/Preconditions$1"), (7, u "SIOOBE_FORMATTER"), (0, u "Ljava/util/function/BiFunction;"), (0, .class_ 126), (0, u "jdk/internal/util/Preconditions$2"), (3, u "AIOOBE_FORMATTER"), (0, .class_ 132), (0, u "jdk/internal/util/Preconditions$3"), (3, u "IOOBE_FORMATTER")] 57

def k17m0 : Method := { name := "<init>", desc := "()V", sig := { parameters := [], returnType := none }, accessFlags := 1, code := none }
/-- jdk/internal/util/Preconditions -/
def k17 : Class := { plain "jdk/internal/util/Preconditions" (some 0) with
  accessFlags := 33
  interfaces := #[]
  cf := some (fileOf pool17 24 #[.nestMembers #[55, 131, 125, 114]] #[{ accessFlags := 1, nameIndex := 5, descriptorIndex := 6, attributes := #[] }] 33 2 #[] #[{ accessFlags := 25, nameIndex := 123, descriptorIndex := 124, attributes := #[] }, { accessFlags := 25, nameIndex := 130, descriptorIndex := 124, attributes := #[] }, { accessFlags := 25, nameIndex := 136, descriptorIndex := 124, attributes := #[] }])
  fields := #[{ name := "SIOOBE_FORMATTER", type := (.object "java/util/function/BiFunction"), accessFlags := 25, slot := 0, constantValue := 0 }, { name := "AIOOBE_FORMATTER", type := (.object "java/util/function/BiFunction"), accessFlags := 25, slot := 1, constantValue := 0 }, { name := "IOOBE_FORMATTER", type := (.object "java/util/function/BiFunction"), accessFlags := 25, slot := 2, constantValue := 0 }]
  methods := #[k17m0]
  instanceTypes := #[]
  staticTypes := #[(.object "java/util/function/BiFunction"), (.object "java/util/function/BiFunction"), (.object "java/util/function/BiFunction")]
  resolved := Array.replicate 194 none
  statics := some 4 }

def pool18 : Array CpInfo := pool [(9, u "<init>"), (6, .class_ 18), (1, u "java/lang/Object"), (0, u "()V"), (1, .class_ 23), (1, u "jdk/internal/util/ArraysSupport"), (0, u "LOG2_ARRAY_LONG_INDEX_SCALE"), (0, u "I"), (2, u "U"), (0, u "Ljdk/internal/misc/Unsafe;"), (8, u "BIG_ENDIAN"), (0, u "Z"), (8, u "LOG2_BYTE_BIT_SIZE"), (4, u "LOG2_ARRAY_INT_INDEX_SCALE"), (54, u "JLA"), (0, u "Ljdk/internal/access/JavaLangAccess;"), (11, u "LOG2_ARRAY_BOOLEAN_INDEX_SCALE"), (9, u "LOG2_ARRAY_BYTE_INDEX_SCALE"), (5, u "LOG2_ARRAY_CHAR_INDEX_SCALE"), (5, u "LOG2_ARRAY_SHORT_INDEX_SCALE"), (18, u "LOG2_ARRAY_FLOAT_INDEX_SCALE"), (24, u "LOG2_ARRAY_DOUBLE_INDEX_SCALE"), (89, u "T_BOOLEAN"), (2, u "T_CHAR"), (1, u "T_FLOAT"), (1, u "T_DOUBLE"), (1, u "T_BYTE"), (1, u "T_SHORT"), (1, u "T_INT"), (1, u "T_LONG"), (1, u "SOFT_MAX_ARRAY_LENGTH")] 83

def k18m0 : Method := { name := "<init>", desc := "()V", sig := { parameters := [], returnType := none }, accessFlags := 2, code := none }
/-- jdk/internal/util/ArraysSupport -/
def k18 : Class := { plain "jdk/internal/util/ArraysSupport" (some 0) with
  accessFlags := 33
  interfaces := #[]
  cf := some (fileOf pool18 21 #[] #[{ accessFlags := 2, nameIndex := 9, descriptorIndex := 19, attributes := #[] }] 33 16 #[] #[{ accessFlags := 24, nameIndex := 28, descriptorIndex := 29, attributes := #[] }, { accessFlags := 26, nameIndex := 38, descriptorIndex := 39, attributes := #[] }, { accessFlags := 25, nameIndex := 121, descriptorIndex := 25, attributes := #[] }, { accessFlags := 25, nameIndex := 131, descriptorIndex := 25, attributes := #[] }, { accessFlags := 25, nameIndex := 137, descriptorIndex := 25, attributes := #[] }, { accessFlags := 25, nameIndex := 143, descriptorIndex := 25, attributes := #[] }, { accessFlags := 25, nameIndex := 53, descriptorIndex := 25, attributes := #[] }, { accessFlags := 25, nameIndex := 24, descriptorIndex := 25, attributes := #[] }, { accessFlags := 25, nameIndex := 162, descriptorIndex := 25, attributes := #[] }, { accessFlags := 25, nameIndex := 187, descriptorIndex := 25, attributes := #[] }, { accessFlags := 26, nameIndex := 48, descriptorIndex := 25, attributes := #[] }, { accessFlags := 25, nameIndex := 277, descriptorIndex := 25, attributes := #[] }, { accessFlags := 25, nameIndex := 280, descriptorIndex := 25, attributes := #[] }, { accessFlags := 25, nameIndex := 282, descriptorIndex := 25, attributes := #[] }, { accessFlags := 25, nameIndex := 284, descriptorIndex := 25, attributes := #[] }, { accessFlags := 25, nameIndex := 286, descriptorIndex := 25, attributes := #[] }, { accessFlags := 25, nameIndex := 288, descriptorIndex := 25, attributes := #[] }, { accessFlags := 25, nameIndex := 290, descriptorIndex := 25, attributes := #[] }, { accessFlags := 25, nameIndex := 292, descriptorIndex := 25, attributes := #[] }, { accessFlags := 26, nameIndex := 108, descriptorIndex := 109, attributes := #[] }, { accessFlags := 25, nameIndex := 294, descriptorIndex := 25, attributes := #[] }])
  fields := #[{ name := "U", type := (.object "jdk/internal/misc/Unsafe"), accessFlags := 24, slot := 0, constantValue := 0 }, { name := "BIG_ENDIAN", type := .boolean, accessFlags := 26, slot := 1, constantValue := 0 }, { name := "LOG2_ARRAY_BOOLEAN_INDEX_SCALE", type := .int, accessFlags := 25, slot := 2, constantValue := 0 }, { name := "LOG2_ARRAY_BYTE_INDEX_SCALE", type := .int, accessFlags := 25, slot := 3, constantValue := 0 }, { name := "LOG2_ARRAY_CHAR_INDEX_SCALE", type := .int, accessFlags := 25, slot := 4, constantValue := 0 }, { name := "LOG2_ARRAY_SHORT_INDEX_SCALE", type := .int, accessFlags := 25, slot := 5, constantValue := 0 }, { name := "LOG2_ARRAY_INT_INDEX_SCALE", type := .int, accessFlags := 25, slot := 6, constantValue := 0 }, { name := "LOG2_ARRAY_LONG_INDEX_SCALE", type := .int, accessFlags := 25, slot := 7, constantValue := 0 }, { name := "LOG2_ARRAY_FLOAT_INDEX_SCALE", type := .int, accessFlags := 25, slot := 8, constantValue := 0 }, { name := "LOG2_ARRAY_DOUBLE_INDEX_SCALE", type := .int, accessFlags := 25, slot := 9, constantValue := 0 }, { name := "LOG2_BYTE_BIT_SIZE", type := .int, accessFlags := 26, slot := 10, constantValue := 0 }, { name := "T_BOOLEAN", type := .int, accessFlags := 25, slot := 11, constantValue := 0 }, { name := "T_CHAR", type := .int, accessFlags := 25, slot := 12, constantValue := 0 }, { name := "T_FLOAT", type := .int, accessFlags := 25, slot := 13, constantValue := 0 }, { name := "T_DOUBLE", type := .int, accessFlags := 25, slot := 14, constantValue := 0 }, { name := "T_BYTE", type := .int, accessFlags := 25, slot := 15, constantValue := 0 }, { name := "T_SHORT", type := .int, accessFlags := 25, slot := 16, constantValue := 0 }, { name := "T_INT", type := .int, accessFlags := 25, slot := 17, constantValue := 0 }, { name := "T_LONG", type := .int, accessFlags := 25, slot := 18, constantValue := 0 }, { name := "JLA", type := (.object "jdk/internal/access/JavaLangAccess"), accessFlags := 26, slot := 19, constantValue := 0 }, { name := "SOFT_MAX_ARRAY_LENGTH", type := .int, accessFlags := 25, slot := 20, constantValue := 0 }]
  methods := #[k18m0]
  instanceTypes := #[]
  staticTypes := #[(.object "jdk/internal/misc/Unsafe"), .boolean, .int, .int, .int, .int, .int, .int, .int, .int, .int, .int, .int, .int, .int, .int, .int, .int, .int, (.object "jdk/internal/access/JavaLangAccess"), .int]
  resolved := Array.replicate 378 none
  statics := none }

def pool19 : Array CpInfo := pool [(8, .class_ 10), (1, u "java/lang/Iterable"), (24, .class_ 36), (0, u "java/lang/Object")] 25

/-- java/lang/Iterable -/
def k19 : Class := { plain "java/lang/Iterable" (some 0) with
  accessFlags := 1537
  interfaces := #[]
  cf := some (fileOf pool19 8 #[] #[] 1537 35 #[] #[])
  fields := #[]
  methods := #[]
  instanceTypes := #[]
  staticTypes := #[]
  resolved := Array.replicate 62 none
  statics := none }

def pool20 : Array CpInfo := pool [(10, .class_ 12), (1, u "java/util/Collection"), (47, .class_ 61), (0, u "java/lang/Object"), (0, .class_ 63), (0, u "java/lang/Iterable")] 51

/-- java/util/Collection -/
def k20 : Class := { plain "java/util/Collection" (some 0) with
  accessFlags := 1537
  interfaces := #[19]
  cf := some (fileOf pool20 10 #[] #[] 1537 60 #[62] #[])
  fields := #[]
  methods := #[]
  instanceTypes := #[]
  staticTypes := #[]
  resolved := Array.replicate 115 none
  statics := none }

def pool21 : Array CpInfo := pool [(2, .class_ 4), (1, u "java/lang/Object"), (0, u "<init>"), (0, u "()V"), (1, .class_ 10), (1, u "java/util/AbstractCollection"), (66, .class_ 78), (0, u "java/util/Collection")] 81

def k21m0 : Method := { name := "<init>", desc := "()V", sig := { parameters := [], returnType := none }, accessFlags := 4, code := none }
/-- java/util/AbstractCollection -/
def k21 : Class := { plain "java/util/AbstractCollection" (some 0) with
  accessFlags := 1057
  interfaces := #[20]
  cf := some (fileOf pool21 8 #[] #[{ accessFlags := 4, nameIndex := 5, descriptorIndex := 6, attributes := #[] }] 1057 2 #[77] #[])
  fields := #[]
  methods := #[k21m0]
  instanceTypes := #[]
  staticTypes := #[]
  resolved := Array.replicate 160 none
  statics := none }

def pool22 : Array CpInfo := pool [(8, .class_ 10), (1, u "java/util/SequencedCollection"), (15, .class_ 27), (0, u "java/lang/Object"), (0, .class_ 29), (0, u "java/util/Collection")] 27

/-- java/util/SequencedCollection -/
def k22 : Class := { plain "java/util/SequencedCollection" (some 0) with
  accessFlags := 1537
  interfaces := #[20]
  cf := some (fileOf pool22 8 #[] #[] 1537 26 #[28] #[])
  fields := #[]
  methods := #[]
  instanceTypes := #[]
  staticTypes := #[]
  resolved := Array.replicate 57 none
  statics := none }

def pool23 : Array CpInfo := pool [(8, .class_ 10), (1, u "java/util/List"), (92, .class_ 104), (0, u "java/lang/Object"), (15, .class_ 121), (0, u "java/util/SequencedCollection")] 129

/-- java/util/List -/
def k23 : Class := { plain "java/util/List" (some 0) with
  accessFlags := 1537
  interfaces := #[22]
  cf := some (fileOf pool23 8 #[] #[] 1537 103 #[120] #[])
  fields := #[]
  methods := #[]
  instanceTypes := #[]
  staticTypes := #[]
  resolved := Array.replicate 251 none
  statics := none }

def pool24 : Array CpInfo := pool [(2, .class_ 4), (1, u "java/util/AbstractCollection"), (0, u "<init>"), (0, u "()V"), (1, .class_ 10), (1, u "java/util/AbstractList"), (0, u "modCount"), (0, u "I"), (64, .class_ 78), (0, u "java/util/AbstractList$Itr"), (3, .class_ 83), (0, u "java/util/AbstractList$ListItr"), (9, .class_ 94), (0, u "java/util/AbstractList$RandomAccessSubList"), (3, .class_ 99), (0, u "java/util/AbstractList$SubList"), (33, .class_ 134), (0, u "java/util/List"), (73, .class_ 209), (0, u "java/util/AbstractList$SubList$1"), (0, .class_ 211), (0, u "java/util/AbstractList$RandomAccessSpliterator")] 6

def k24m0 : Method := { name := "<init>", desc := "()V", sig := { parameters := [], returnType := none }, accessFlags := 4, code := none }
/-- java/util/AbstractList -/
def k24 : Class := { plain "java/util/AbstractList" (some 21) with
  accessFlags := 1057
  interfaces := #[23]
  cf := some (fileOf pool24 8 #[.nestMembers #[93, 98, 208, 210, 82, 77]] #[{ accessFlags := 4, nameIndex := 5, descriptorIndex := 6, attributes := #[] }] 1057 2 #[133] #[{ accessFlags := 132, nameIndex := 11, descriptorIndex := 12, attributes := #[] }])
  fields := #[{ name := "modCount", type := .int, accessFlags := 132, slot := 0, constantValue := 0 }]
  methods := #[k24m0]
  instanceTypes := #[.int]
  staticTypes := #[]
  resolved := Array.replicate 218 none
  statics := none }

def pool25 : Array CpInfo := pool [(1, .class_ 2), (0, u "java/util/RandomAccess"), (0, .class_ 4), (0, u "java/lang/Object")] 2

/-- java/util/RandomAccess -/
def k25 : Class := { plain "java/util/RandomAccess" (some 0) with
  accessFlags := 1537
  interfaces := #[]
  cf := some (fileOf pool25 1 #[] #[] 1537 3 #[] #[])
  fields := #[]
  methods := #[]
  instanceTypes := #[]
  staticTypes := #[]
  resolved := Array.replicate 7 none
  statics := none }

def pool26 : Array CpInfo := pool [(2, .class_ 4), (1, u "java/util/AbstractList"), (0, u "<init>"), (0, u "()V"), (1, .class_ 10), (1, u "java/util/Collections"), (54, .class_ 66), (0, u "java/util/Collections$EmptyList"), (0, .class_ 68), (0, u "java/util/RandomAccess"), (0, .class_ 70), (0, u "java/io/Serializable"), (0, u "serialVersionUID"), (0, u "J")] 77

def k26m0 : Method := { name := "<init>", desc := "()V", sig := { parameters := [], returnType := none }, accessFlags := 2, code := none }
/-- java/util/Collections$EmptyList -/
def k26 : Class := { plain "java/util/Collections$EmptyList" (some 24) with
  accessFlags := 32
  interfaces := #[25, 2]
  cf := some (fileOf pool26 65 #[.nestHost 8] #[{ accessFlags := 2, nameIndex := 5, descriptorIndex := 6, attributes := #[] }] 32 2 #[67, 69] #[{ accessFlags := 26, nameIndex := 71, descriptorIndex := 72, attributes := #[] }])
  fields := #[{ name := "serialVersionUID", type := .long, accessFlags := 26, slot := 0, constantValue := 0 }]
  methods := #[k26m0]
  instanceTypes := #[.int]
  staticTypes := #[.long]
  resolved := Array.replicate 150 none
  statics := none }

def pool27 : Array CpInfo := pool [(2, .class_ 4), (1, u "java/lang/StackTraceElement"), (0, u "<init>"), (2, .class_ 10), (1, u "java/lang/Object"), (0, u "()V"), (2, u "format"), (0, u "B"), (2, u "classLoaderName"), (0, u "Ljava/lang/String;"), (2, u "moduleName"), (2, u "moduleVersion"), (12, u "declaringClass"), (4, u "methodName"), (2, u "fileName"), (2, u "lineNumber"), (0, u "I"), (65, u "declaringClassObject"), (0, u "Ljava/lang/Class;"), (33, .class_ 153), (1, u "java/lang/StackTraceElement$HashedModules"), (17, .class_ 172), (0, u "java/io/Serializable"), (0, u "NATIVE_METHOD"), (1, u "UNKNOWN_SOURCE"), (2, u "BUILTIN_CLASS_LOADER"), (1, u "JDK_NON_UPGRADEABLE_MODULE"), (1, u "serialVersionUID"), (0, u "J")] 51

def k27m0 : Method := { name := "<init>", desc := "()V", sig := { parameters := [], returnType := none }, accessFlags := 2, code := none }
/-- java/lang/StackTraceElement -/
def k27 : Class := { plain "java/lang/StackTraceElement" (some 0) with
  accessFlags := 49
  interfaces := #[2]
  cf := some (fileOf pool27 2 #[.nestMembers #[151]] #[{ accessFlags := 2, nameIndex := 5, descriptorIndex := 11, attributes := #[] }] 49 8 #[171] #[{ accessFlags := 26, nameIndex := 173, descriptorIndex := 19, attributes := #[] }, { accessFlags := 26, nameIndex := 175, descriptorIndex := 19, attributes := #[] }, { accessFlags := 130, nameIndex := 116, descriptorIndex := 117, attributes := #[] }, { accessFlags := 2, nameIndex := 18, descriptorIndex := 19, attributes := #[] }, { accessFlags := 2, nameIndex := 22, descriptorIndex := 19, attributes := #[] }, { accessFlags := 2, nameIndex := 25, descriptorIndex := 19, attributes := #[] }, { accessFlags := 2, nameIndex := 38, descriptorIndex := 19, attributes := #[] }, { accessFlags := 2, nameIndex := 43, descriptorIndex := 19, attributes := #[] }, { accessFlags := 2, nameIndex := 46, descriptorIndex := 19, attributes := #[] }, { accessFlags := 2, nameIndex := 49, descriptorIndex := 50, attributes := #[] }, { accessFlags := 2, nameIndex := 14, descriptorIndex := 15, attributes := #[] }, { accessFlags := 26, nameIndex := 178, descriptorIndex := 15, attributes := #[] }, { accessFlags := 26, nameIndex := 180, descriptorIndex := 15, attributes := #[] }, { accessFlags := 26, nameIndex := 182, descriptorIndex := 183, attributes := #[] }])
  fields := #[{ name := "NATIVE_METHOD", type := (.object "java/lang/String"), accessFlags := 26, slot := 0, constantValue := 0 }, { name := "UNKNOWN_SOURCE", type := (.object "java/lang/String"), accessFlags := 26, slot := 1, constantValue := 0 }, { name := "declaringClassObject", type := (.object "java/lang/Class"), accessFlags := 130, slot := 0, constantValue := 0 }, { name := "classLoaderName", type := (.object "java/lang/String"), accessFlags := 2, slot := 1, constantValue := 0 }, { name := "moduleName", type := (.object "java/lang/String"), accessFlags := 2, slot := 2, constantValue := 0 }, { name := "moduleVersion", type := (.object "java/lang/String"), accessFlags := 2, slot := 3, constantValue := 0 }, { name := "declaringClass", type := (.object "java/lang/String"), accessFlags := 2, slot := 4, constantValue := 0 }, { name := "methodName", type := (.object "java/lang/String"), accessFlags := 2, slot := 5, constantValue := 0 }, { name := "fileName", type := (.object "java/lang/String"), accessFlags := 2, slot := 6, constantValue := 0 }, { name := "lineNumber", type := .int, accessFlags := 2, slot := 7, constantValue := 0 }, { name := "format", type := .byte, accessFlags := 2, slot := 8, constantValue := 0 }, { name := "BUILTIN_CLASS_LOADER", type := .byte, accessFlags := 26, slot := 2, constantValue := 0 }, { name := "JDK_NON_UPGRADEABLE_MODULE", type := .byte, accessFlags := 26, slot := 3, constantValue := 0 }, { name := "serialVersionUID", type := .long, accessFlags := 26, slot := 4, constantValue := 0 }]
  methods := #[k27m0]
  instanceTypes := #[(.object "java/lang/Class"), (.object "java/lang/String"), (.object "java/lang/String"), (.object "java/lang/String"), (.object "java/lang/String"), (.object "java/lang/String"), (.object "java/lang/String"), .int, .byte]
  staticTypes := #[(.object "java/lang/String"), (.object "java/lang/String"), .byte, .byte, .long]
  resolved := Array.replicate 235 none
  statics := none }

def pool28 : Array CpInfo := pool [(1, u "java/lang/Cloneable"), (0, .class_ 1), (0, u "java/lang/Object"), (0, .class_ 3)] 3

/-- java/lang/Cloneable -/
def k28 : Class := { plain "java/lang/Cloneable" (some 0) with
  accessFlags := 1537
  interfaces := #[]
  cf := some (fileOf pool28 2 #[] #[] 1537 4 #[] #[])
  fields := #[]
  methods := #[]
  instanceTypes := #[]
  staticTypes := #[]
  resolved := Array.replicate 8 none
  statics := none }

/-- the primitive byte -/
def k29 : Class := { plain "byte" none with kind := .primitive 'B', accessFlags := 0x411 }
/-- [B -/
def k30 : Class := { plain "[B" (some 0) with kind := .array 29 .byte, interfaces := #[28, 2], accessFlags := 1041 }

/-- the primitive char -/
def k31 : Class := { plain "char" none with kind := .primitive 'C', accessFlags := 0x411 }
/-- [C -/
def k32 : Class := { plain "[C" (some 0) with kind := .array 31 .char, interfaces := #[28, 2], accessFlags := 1041 }

/-- the primitive int -/
def k33 : Class := { plain "int" none with kind := .primitive 'I', accessFlags := 0x411 }
/-- [I -/
def k34 : Class := { plain "[I" (some 0) with kind := .array 33 .int, interfaces := #[28, 2], accessFlags := 1041 }

/-- [Ljava/lang/Long; -/
def k35 : Class := { plain "[Ljava/lang/Long;" (some 0) with kind := .array 10 (.object "java/lang/Long"), interfaces := #[28, 2], accessFlags := 1041 }

/-- [Ljava/lang/Object; -/
def k36 : Class := { plain "[Ljava/lang/Object;" (some 0) with kind := .array 0 (.object "java/lang/Object"), interfaces := #[28, 2], accessFlags := 1041 }

/-- [Ljava/lang/StackTraceElement; -/
def k37 : Class := { plain "[Ljava/lang/StackTraceElement;" (some 0) with kind := .array 27 (.object "java/lang/StackTraceElement"), interfaces := #[28, 2], accessFlags := 1041 }

/-- [Ljava/lang/Throwable; -/
def k38 : Class := { plain "[Ljava/lang/Throwable;" (some 0) with kind := .array 3 (.object "java/lang/Throwable"), interfaces := #[28, 2], accessFlags := 1041 }

def heap : Heap := #[{ cls := 3, slots := #[.long 0, .ref 262, .ref 263, .null, .null, .null, .null, .ref 264, .int 1], vm := .statics 3 },
  { cls := 11, slots := #[.ref 5, .null, .int 0], vm := .statics 11 },
  { cls := 13, slots := #[.long 0, .int 1, .null, .int 0, .null, .int 0, .int 0], vm := .statics 13 },
  { cls := 15, slots := #[.int 0, .int 0, .int 0, .int 0, .int 0, .int 0, .int 0, .int 0, .null, .null, .ref 263, .null], vm := .statics 15 },
  { cls := 17, slots := #[.null, .null, .null], vm := .statics 17 },
  { cls := 35, slots := #[.ref 6, .ref 7, .ref 8, .ref 9, .ref 10, .ref 11, .ref 12, .ref 13, .ref 14, .ref 15, .ref 16, .ref 17, .ref 18, .ref 19, .ref 20, .ref 21, .ref 22, .ref 23, .ref 24, .ref 25, .ref 26, .ref 27, .ref 28, .ref 29, .ref 30, .ref 31, .ref 32, .ref 33, .ref 34, .ref 35, .ref 36, .ref 37, .ref 38, .ref 39, .ref 40, .ref 41, .ref 42, .ref 43, .ref 44, .ref 45, .ref 46, .ref 47, .ref 48, .ref 49, .ref 50, .ref 51, .ref 52, .ref 53, .ref 54, .ref 55, .ref 56, .ref 57, .ref 58, .ref 59, .ref 60, .ref 61, .ref 62, .ref 63, .ref 64, .ref 65, .ref 66, .ref 67, .ref 68, .ref 69, .ref 70, .ref 71, .ref 72, .ref 73, .ref 74, .ref 75, .ref 76, .ref 77, .ref 78, .ref 79, .ref 80, .ref 81, .ref 82, .ref 83, .ref 84, .ref 85, .ref 86, .ref 87, .ref 88, .ref 89, .ref 90, .ref 91, .ref 92, .ref 93, .ref 94, .ref 95, .ref 96, .ref 97, .ref 98, .ref 99, .ref 100, .ref 101, .ref 102, .ref 103, .ref 104, .ref 105, .ref 106, .ref 107, .ref 108, .ref 109, .ref 110, .ref 111, .ref 112, .ref 113, .ref 114, .ref 115, .ref 116, .ref 117, .ref 118, .ref 119, .ref 120, .ref 121, .ref 122, .ref 123, .ref 124, .ref 125, .ref 126, .ref 127, .ref 128, .ref 129, .ref 130, .ref 131, .ref 132, .ref 133, .ref 134, .ref 135, .ref 136, .ref 137, .ref 138, .ref 139, .ref 140, .ref 141, .ref 142, .ref 143, .ref 144, .ref 145, .ref 146, .ref 147, .ref 148, .ref 149, .ref 150, .ref 151, .ref 152, .ref 153, .ref 154, .ref 155, .ref 156, .ref 157, .ref 158, .ref 159, .ref 160, .ref 161, .ref 162, .ref 163, .ref 164, .ref 165, .ref 166, .ref 167, .ref 168, .ref 169, .ref 170, .ref 171, .ref 172, .ref 173, .ref 174, .ref 175, .ref 176, .ref 177, .ref 178, .ref 179, .ref 180, .ref 181, .ref 182, .ref 183, .ref 184, .ref 185, .ref 186, .ref 187, .ref 188, .ref 189, .ref 190, .ref 191, .ref 192, .ref 193, .ref 194, .ref 195, .ref 196, .ref 197, .ref 198, .ref 199, .ref 200, .ref 201, .ref 202, .ref 203, .ref 204, .ref 205, .ref 206, .ref 207, .ref 208, .ref 209, .ref 210, .ref 211, .ref 212, .ref 213, .ref 214, .ref 215, .ref 216, .ref 217, .ref 218, .ref 219, .ref 220, .ref 221, .ref 222, .ref 223, .ref 224, .ref 225, .ref 226, .ref 227, .ref 228, .ref 229, .ref 230, .ref 231, .ref 232, .ref 233, .ref 234, .ref 235, .ref 236, .ref 237, .ref 238, .ref 239, .ref 240, .ref 241, .ref 242, .ref 243, .ref 244, .ref 245, .ref 246, .ref 247, .ref 248, .ref 249, .ref 250, .ref 251, .ref 252, .ref 253, .ref 254, .ref 255, .ref 256, .ref 257, .ref 258, .ref 259, .ref 260, .ref 261], vm := .none },
  { cls := 10, slots := #[.long (-128)], vm := .none },
  { cls := 10, slots := #[.long (-127)], vm := .none },
  { cls := 10, slots := #[.long (-126)], vm := .none },
  { cls := 10, slots := #[.long (-125)], vm := .none },
  { cls := 10, slots := #[.long (-124)], vm := .none },
  { cls := 10, slots := #[.long (-123)], vm := .none },
  { cls := 10, slots := #[.long (-122)], vm := .none },
  { cls := 10, slots := #[.long (-121)], vm := .none },
  { cls := 10, slots := #[.long (-120)], vm := .none },
  { cls := 10, slots := #[.long (-119)], vm := .none },
  { cls := 10, slots := #[.long (-118)], vm := .none },
  { cls := 10, slots := #[.long (-117)], vm := .none },
  { cls := 10, slots := #[.long (-116)], vm := .none },
  { cls := 10, slots := #[.long (-115)], vm := .none },
  { cls := 10, slots := #[.long (-114)], vm := .none },
  { cls := 10, slots := #[.long (-113)], vm := .none },
  { cls := 10, slots := #[.long (-112)], vm := .none },
  { cls := 10, slots := #[.long (-111)], vm := .none },
  { cls := 10, slots := #[.long (-110)], vm := .none },
  { cls := 10, slots := #[.long (-109)], vm := .none },
  { cls := 10, slots := #[.long (-108)], vm := .none },
  { cls := 10, slots := #[.long (-107)], vm := .none },
  { cls := 10, slots := #[.long (-106)], vm := .none },
  { cls := 10, slots := #[.long (-105)], vm := .none },
  { cls := 10, slots := #[.long (-104)], vm := .none },
  { cls := 10, slots := #[.long (-103)], vm := .none },
  { cls := 10, slots := #[.long (-102)], vm := .none },
  { cls := 10, slots := #[.long (-101)], vm := .none },
  { cls := 10, slots := #[.long (-100)], vm := .none },
  { cls := 10, slots := #[.long (-99)], vm := .none },
  { cls := 10, slots := #[.long (-98)], vm := .none },
  { cls := 10, slots := #[.long (-97)], vm := .none },
  { cls := 10, slots := #[.long (-96)], vm := .none },
  { cls := 10, slots := #[.long (-95)], vm := .none },
  { cls := 10, slots := #[.long (-94)], vm := .none },
  { cls := 10, slots := #[.long (-93)], vm := .none },
  { cls := 10, slots := #[.long (-92)], vm := .none },
  { cls := 10, slots := #[.long (-91)], vm := .none },
  { cls := 10, slots := #[.long (-90)], vm := .none },
  { cls := 10, slots := #[.long (-89)], vm := .none },
  { cls := 10, slots := #[.long (-88)], vm := .none },
  { cls := 10, slots := #[.long (-87)], vm := .none },
  { cls := 10, slots := #[.long (-86)], vm := .none },
  { cls := 10, slots := #[.long (-85)], vm := .none },
  { cls := 10, slots := #[.long (-84)], vm := .none },
  { cls := 10, slots := #[.long (-83)], vm := .none },
  { cls := 10, slots := #[.long (-82)], vm := .none },
  { cls := 10, slots := #[.long (-81)], vm := .none },
  { cls := 10, slots := #[.long (-80)], vm := .none },
  { cls := 10, slots := #[.long (-79)], vm := .none },
  { cls := 10, slots := #[.long (-78)], vm := .none },
  { cls := 10, slots := #[.long (-77)], vm := .none },
  { cls := 10, slots := #[.long (-76)], vm := .none },
  { cls := 10, slots := #[.long (-75)], vm := .none },
  { cls := 10, slots := #[.long (-74)], vm := .none },
  { cls := 10, slots := #[.long (-73)], vm := .none },
  { cls := 10, slots := #[.long (-72)], vm := .none },
  { cls := 10, slots := #[.long (-71)], vm := .none },
  { cls := 10, slots := #[.long (-70)], vm := .none },
  { cls := 10, slots := #[.long (-69)], vm := .none },
  { cls := 10, slots := #[.long (-68)], vm := .none },
  { cls := 10, slots := #[.long (-67)], vm := .none },
  { cls := 10, slots := #[.long (-66)], vm := .none },
  { cls := 10, slots := #[.long (-65)], vm := .none },
  { cls := 10, slots := #[.long (-64)], vm := .none },
  { cls := 10, slots := #[.long (-63)], vm := .none },
  { cls := 10, slots := #[.long (-62)], vm := .none },
  { cls := 10, slots := #[.long (-61)], vm := .none },
  { cls := 10, slots := #[.long (-60)], vm := .none },
  { cls := 10, slots := #[.long (-59)], vm := .none },
  { cls := 10, slots := #[.long (-58)], vm := .none },
  { cls := 10, slots := #[.long (-57)], vm := .none },
  { cls := 10, slots := #[.long (-56)], vm := .none },
  { cls := 10, slots := #[.long (-55)], vm := .none },
  { cls := 10, slots := #[.long (-54)], vm := .none },
  { cls := 10, slots := #[.long (-53)], vm := .none },
  { cls := 10, slots := #[.long (-52)], vm := .none },
  { cls := 10, slots := #[.long (-51)], vm := .none },
  { cls := 10, slots := #[.long (-50)], vm := .none },
  { cls := 10, slots := #[.long (-49)], vm := .none },
  { cls := 10, slots := #[.long (-48)], vm := .none },
  { cls := 10, slots := #[.long (-47)], vm := .none },
  { cls := 10, slots := #[.long (-46)], vm := .none },
  { cls := 10, slots := #[.long (-45)], vm := .none },
  { cls := 10, slots := #[.long (-44)], vm := .none },
  { cls := 10, slots := #[.long (-43)], vm := .none },
  { cls := 10, slots := #[.long (-42)], vm := .none },
  { cls := 10, slots := #[.long (-41)], vm := .none },
  { cls := 10, slots := #[.long (-40)], vm := .none },
  { cls := 10, slots := #[.long (-39)], vm := .none },
  { cls := 10, slots := #[.long (-38)], vm := .none },
  { cls := 10, slots := #[.long (-37)], vm := .none },
  { cls := 10, slots := #[.long (-36)], vm := .none },
  { cls := 10, slots := #[.long (-35)], vm := .none },
  { cls := 10, slots := #[.long (-34)], vm := .none },
  { cls := 10, slots := #[.long (-33)], vm := .none },
  { cls := 10, slots := #[.long (-32)], vm := .none },
  { cls := 10, slots := #[.long (-31)], vm := .none },
  { cls := 10, slots := #[.long (-30)], vm := .none },
  { cls := 10, slots := #[.long (-29)], vm := .none },
  { cls := 10, slots := #[.long (-28)], vm := .none },
  { cls := 10, slots := #[.long (-27)], vm := .none },
  { cls := 10, slots := #[.long (-26)], vm := .none },
  { cls := 10, slots := #[.long (-25)], vm := .none },
  { cls := 10, slots := #[.long (-24)], vm := .none },
  { cls := 10, slots := #[.long (-23)], vm := .none },
  { cls := 10, slots := #[.long (-22)], vm := .none },
  { cls := 10, slots := #[.long (-21)], vm := .none },
  { cls := 10, slots := #[.long (-20)], vm := .none },
  { cls := 10, slots := #[.long (-19)], vm := .none },
  { cls := 10, slots := #[.long (-18)], vm := .none },
  { cls := 10, slots := #[.long (-17)], vm := .none },
  { cls := 10, slots := #[.long (-16)], vm := .none },
  { cls := 10, slots := #[.long (-15)], vm := .none },
  { cls := 10, slots := #[.long (-14)], vm := .none },
  { cls := 10, slots := #[.long (-13)], vm := .none },
  { cls := 10, slots := #[.long (-12)], vm := .none },
  { cls := 10, slots := #[.long (-11)], vm := .none },
  { cls := 10, slots := #[.long (-10)], vm := .none },
  { cls := 10, slots := #[.long (-9)], vm := .none },
  { cls := 10, slots := #[.long (-8)], vm := .none },
  { cls := 10, slots := #[.long (-7)], vm := .none },
  { cls := 10, slots := #[.long (-6)], vm := .none },
  { cls := 10, slots := #[.long (-5)], vm := .none },
  { cls := 10, slots := #[.long (-4)], vm := .none },
  { cls := 10, slots := #[.long (-3)], vm := .none },
  { cls := 10, slots := #[.long (-2)], vm := .none },
  { cls := 10, slots := #[.long (-1)], vm := .none },
  { cls := 10, slots := #[.long (0)], vm := .none },
  { cls := 10, slots := #[.long (1)], vm := .none },
  { cls := 10, slots := #[.long (2)], vm := .none },
  { cls := 10, slots := #[.long (3)], vm := .none },
  { cls := 10, slots := #[.long (4)], vm := .none },
  { cls := 10, slots := #[.long (5)], vm := .none },
  { cls := 10, slots := #[.long (6)], vm := .none },
  { cls := 10, slots := #[.long (7)], vm := .none },
  { cls := 10, slots := #[.long (8)], vm := .none },
  { cls := 10, slots := #[.long (9)], vm := .none },
  { cls := 10, slots := #[.long (10)], vm := .none },
  { cls := 10, slots := #[.long (11)], vm := .none },
  { cls := 10, slots := #[.long (12)], vm := .none },
  { cls := 10, slots := #[.long (13)], vm := .none },
  { cls := 10, slots := #[.long (14)], vm := .none },
  { cls := 10, slots := #[.long (15)], vm := .none },
  { cls := 10, slots := #[.long (16)], vm := .none },
  { cls := 10, slots := #[.long (17)], vm := .none },
  { cls := 10, slots := #[.long (18)], vm := .none },
  { cls := 10, slots := #[.long (19)], vm := .none },
  { cls := 10, slots := #[.long (20)], vm := .none },
  { cls := 10, slots := #[.long (21)], vm := .none },
  { cls := 10, slots := #[.long (22)], vm := .none },
  { cls := 10, slots := #[.long (23)], vm := .none },
  { cls := 10, slots := #[.long (24)], vm := .none },
  { cls := 10, slots := #[.long (25)], vm := .none },
  { cls := 10, slots := #[.long (26)], vm := .none },
  { cls := 10, slots := #[.long (27)], vm := .none },
  { cls := 10, slots := #[.long (28)], vm := .none },
  { cls := 10, slots := #[.long (29)], vm := .none },
  { cls := 10, slots := #[.long (30)], vm := .none },
  { cls := 10, slots := #[.long (31)], vm := .none },
  { cls := 10, slots := #[.long (32)], vm := .none },
  { cls := 10, slots := #[.long (33)], vm := .none },
  { cls := 10, slots := #[.long (34)], vm := .none },
  { cls := 10, slots := #[.long (35)], vm := .none },
  { cls := 10, slots := #[.long (36)], vm := .none },
  { cls := 10, slots := #[.long (37)], vm := .none },
  { cls := 10, slots := #[.long (38)], vm := .none },
  { cls := 10, slots := #[.long (39)], vm := .none },
  { cls := 10, slots := #[.long (40)], vm := .none },
  { cls := 10, slots := #[.long (41)], vm := .none },
  { cls := 10, slots := #[.long (42)], vm := .none },
  { cls := 10, slots := #[.long (43)], vm := .none },
  { cls := 10, slots := #[.long (44)], vm := .none },
  { cls := 10, slots := #[.long (45)], vm := .none },
  { cls := 10, slots := #[.long (46)], vm := .none },
  { cls := 10, slots := #[.long (47)], vm := .none },
  { cls := 10, slots := #[.long (48)], vm := .none },
  { cls := 10, slots := #[.long (49)], vm := .none },
  { cls := 10, slots := #[.long (50)], vm := .none },
  { cls := 10, slots := #[.long (51)], vm := .none },
  { cls := 10, slots := #[.long (52)], vm := .none },
  { cls := 10, slots := #[.long (53)], vm := .none },
  { cls := 10, slots := #[.long (54)], vm := .none },
  { cls := 10, slots := #[.long (55)], vm := .none },
  { cls := 10, slots := #[.long (56)], vm := .none },
  { cls := 10, slots := #[.long (57)], vm := .none },
  { cls := 10, slots := #[.long (58)], vm := .none },
  { cls := 10, slots := #[.long (59)], vm := .none },
  { cls := 10, slots := #[.long (60)], vm := .none },
  { cls := 10, slots := #[.long (61)], vm := .none },
  { cls := 10, slots := #[.long (62)], vm := .none },
  { cls := 10, slots := #[.long (63)], vm := .none },
  { cls := 10, slots := #[.long (64)], vm := .none },
  { cls := 10, slots := #[.long (65)], vm := .none },
  { cls := 10, slots := #[.long (66)], vm := .none },
  { cls := 10, slots := #[.long (67)], vm := .none },
  { cls := 10, slots := #[.long (68)], vm := .none },
  { cls := 10, slots := #[.long (69)], vm := .none },
  { cls := 10, slots := #[.long (70)], vm := .none },
  { cls := 10, slots := #[.long (71)], vm := .none },
  { cls := 10, slots := #[.long (72)], vm := .none },
  { cls := 10, slots := #[.long (73)], vm := .none },
  { cls := 10, slots := #[.long (74)], vm := .none },
  { cls := 10, slots := #[.long (75)], vm := .none },
  { cls := 10, slots := #[.long (76)], vm := .none },
  { cls := 10, slots := #[.long (77)], vm := .none },
  { cls := 10, slots := #[.long (78)], vm := .none },
  { cls := 10, slots := #[.long (79)], vm := .none },
  { cls := 10, slots := #[.long (80)], vm := .none },
  { cls := 10, slots := #[.long (81)], vm := .none },
  { cls := 10, slots := #[.long (82)], vm := .none },
  { cls := 10, slots := #[.long (83)], vm := .none },
  { cls := 10, slots := #[.long (84)], vm := .none },
  { cls := 10, slots := #[.long (85)], vm := .none },
  { cls := 10, slots := #[.long (86)], vm := .none },
  { cls := 10, slots := #[.long (87)], vm := .none },
  { cls := 10, slots := #[.long (88)], vm := .none },
  { cls := 10, slots := #[.long (89)], vm := .none },
  { cls := 10, slots := #[.long (90)], vm := .none },
  { cls := 10, slots := #[.long (91)], vm := .none },
  { cls := 10, slots := #[.long (92)], vm := .none },
  { cls := 10, slots := #[.long (93)], vm := .none },
  { cls := 10, slots := #[.long (94)], vm := .none },
  { cls := 10, slots := #[.long (95)], vm := .none },
  { cls := 10, slots := #[.long (96)], vm := .none },
  { cls := 10, slots := #[.long (97)], vm := .none },
  { cls := 10, slots := #[.long (98)], vm := .none },
  { cls := 10, slots := #[.long (99)], vm := .none },
  { cls := 10, slots := #[.long (100)], vm := .none },
  { cls := 10, slots := #[.long (101)], vm := .none },
  { cls := 10, slots := #[.long (102)], vm := .none },
  { cls := 10, slots := #[.long (103)], vm := .none },
  { cls := 10, slots := #[.long (104)], vm := .none },
  { cls := 10, slots := #[.long (105)], vm := .none },
  { cls := 10, slots := #[.long (106)], vm := .none },
  { cls := 10, slots := #[.long (107)], vm := .none },
  { cls := 10, slots := #[.long (108)], vm := .none },
  { cls := 10, slots := #[.long (109)], vm := .none },
  { cls := 10, slots := #[.long (110)], vm := .none },
  { cls := 10, slots := #[.long (111)], vm := .none },
  { cls := 10, slots := #[.long (112)], vm := .none },
  { cls := 10, slots := #[.long (113)], vm := .none },
  { cls := 10, slots := #[.long (114)], vm := .none },
  { cls := 10, slots := #[.long (115)], vm := .none },
  { cls := 10, slots := #[.long (116)], vm := .none },
  { cls := 10, slots := #[.long (117)], vm := .none },
  { cls := 10, slots := #[.long (118)], vm := .none },
  { cls := 10, slots := #[.long (119)], vm := .none },
  { cls := 10, slots := #[.long (120)], vm := .none },
  { cls := 10, slots := #[.long (121)], vm := .none },
  { cls := 10, slots := #[.long (122)], vm := .none },
  { cls := 10, slots := #[.long (123)], vm := .none },
  { cls := 10, slots := #[.long (124)], vm := .none },
  { cls := 10, slots := #[.long (125)], vm := .none },
  { cls := 10, slots := #[.long (126)], vm := .none },
  { cls := 10, slots := #[.long (127)], vm := .none },
  { cls := 37, slots := #[], vm := .none },
  { cls := 26, slots := #[.int 0], vm := .none },
  { cls := 38, slots := #[], vm := .none }]
def classes : Array Class := #[k0, k1, k2, k3, k4, k5, k6, k7, k8, k9, k10, k11, k12, k13, k14, k15, k16, k17, k18, k19, k20, k21, k22, k23, k24, k25, k26, k27, k28, k29, k30, k31, k32, k33, k34, k35, k36, k37, k38]
def interned : List (Array UInt16 × Addr) := []
def slotsUsed : Nat := 547
def theMethod : MethodId := ⟨1, 1⟩
def args0 : Array Value := #[.int 1, .int 65, .int 66, .long 7]
def aboutOver (below : List Frame) : State where
  vm := { classes := classes, interned := interned.toArray }
  heap := heap
  slotsUsed := slotsUsed
  threads := #[{ frames := .invoking theMethod args0 :: below }]
def below0 : List Frame := [.native { method := ⟨0, 0⟩, args := #[] }]
def about1 : State := aboutOver below0
def p0 : Program := .bare "" "" ""
def e0 : Env := launch0.env 0 0 0
theorem w_frames : about1.frames = Frame.invoking theMethod args0 :: below0 := rfl
set_option maxRecDepth 65536 in
theorem w_args : argsFit about1.vm theMethod args0 = true := by decide +kernel
set_option maxRecDepth 65536 in
theorem w_heap : heapFits about1 = true := by decide +kernel
set_option maxRecDepth 65536 in
theorem w_runnable : about1.curStatus? = some .runnable := by decide +kernel
set_option maxRecDepth 65536 in
theorem w_alone : about1.alone = true := by decide +kernel
set_option maxRecDepth 65536 in
theorem w_named : about1.methodNamed? x = some theMethod := by decide +kernel
set_option maxRecDepth 65536 in
theorem w_hears : about1.hears theMethod below0 = true := by decide +kernel
set_option maxRecDepth 65536 in
theorem w_ripe : about1.ripe theMethod args0 below0 = true := by decide +kernel
theorem w_running : about1.status = .running := rfl
set_option maxRecDepth 65536 in
theorem w_room : about1.hasRoom e0.platform room_1 = true :=
  launch0.hasRoom_least _ room_1 (by decide +kernel) (by decide +kernel) (by decide +kernel) (by decide +kernel) (by decide +kernel) (by decide +kernel)
theorem allAtoms_all (ts : List Jvm.Cond) (a : Array Jvm.Value) (st : Jvm.State) : (allAtoms ts).before a st = ts.all (fun c => c.before a st) := by
  induction ts with
  | nil => rfl
  | cons c t ih =>
    show (Jvm.Cond.and c (allAtoms t)).before a st = _
    rw [Jvm.Cond.before_and, ih, List.all_cons]
def words1 : List Jvm.Cond := Jvm.Cond.code x code maxLocals ret :: tables_1
/-- a 'code' word, met by the world's own term for the bytes: nothing is compared byte by byte -/
theorem code_word {y : MethodName} {bytes : ByteArray} {mx : Nat} {rt : Option FieldType} {a : Array Value} {s : State} {m : MethodId} {meth : Method} {c : Code} (h1 : s.methodNamed? y = some m) (h2 : s.vm.method? m = some meth) (h3 : meth.code = some c) (h4 : c.code = bytes)
    (h5 : (c.maxLocals == mx && c.exceptionTable.isEmpty && decide (c.maxStack ≤ mostOperands) && decide (meth.sig.returnType = rt) && !meth.locks && decide (parseMethodDescriptor y.desc = some meth.sig)) = true) : (Jvm.Cond.code y bytes mx rt).before a s = true := by
  simp only [Bool.and_eq_true, beq_iff_eq, Bool.not_eq_true', decide_eq_true_eq] at h5
  obtain ⟨⟨⟨⟨⟨g1, g2⟩, g3⟩, g4⟩, g5⟩, g6⟩ := h5
  simp [Cond.before, Cond.holds, Cond.value, h1, h2, h3, h4, g1, g2, g3, g4, g5, g6]
def isCode : Jvm.Cond → Bool
  | .code _ _ _ _ => true
  | _ => false
theorem all_split {L : List Jvm.Cond} {P : Jvm.Cond → Bool} (h1 : L.all (fun c => isCode c || P c) = true) (h2 : ∀ c ∈ L.filter isCode, P c = true) : L.all P = true := by
  refine List.all_eq_true.mpr fun c hc => ?_
  have h := List.all_eq_true.mp h1 c hc
  rcases Bool.eq_false_or_eq_true (isCode c) with hi | hi
  · exact h2 c (List.mem_filter.mpr ⟨hc, hi⟩)
  · simpa [hi] using h
set_option maxRecDepth 65536 in
theorem w_c0 : (Jvm.Cond.code x code maxLocals ret).before args0 about1 = true := code_word (m := ⟨1, 1⟩) (meth := k1m1) (c := k1c1) (by decide +kernel) rfl rfl rfl (by decide +kernel)
set_option maxRecDepth 65536 in
theorem w_c1 : (Jvm.Cond.code ({ cls := "com/example/jobs_into_runs/jobsintoruns/http/ApiException", name := "conflict", desc := "(Ljava/lang/String;J)Lcom/example/jobs_into_runs/jobsintoruns/http/ApiException;" } : Jvm.MethodName) prog_33_method_4_code (3 : Nat) (Option.some (Jvm.ClassFile.FieldType.object "com/example/jobs_into_runs/jobsintoruns/http/ApiException"))).before args0 about1 = true := code_word (m := ⟨5, 1⟩) (meth := k5m1) (c := k5c1) (by decide +kernel) rfl rfl rfl (by decide +kernel)
set_option maxRecDepth 65536 in
theorem w_c2 : (Jvm.Cond.code ({ cls := "java/lang/Long", name := "valueOf", desc := "(J)Ljava/lang/Long;" } : Jvm.MethodName) jdk_35_method_24_code (3 : Nat) (Option.some (Jvm.ClassFile.FieldType.object "java/lang/Long"))).before args0 about1 = true := code_word (m := ⟨10, 0⟩) (meth := k10m0) (c := k10c0) (by decide +kernel) rfl rfl rfl (by decide +kernel)
set_option maxRecDepth 65536 in
theorem w_c3 : (Jvm.Cond.code ({ cls := "java/lang/Long", name := "<init>", desc := "(J)V" } : Jvm.MethodName) jdk_35_method_26_code (3 : Nat) (Option.none : Option Jvm.ClassFile.FieldType)).before args0 about1 = true := code_word (m := ⟨10, 1⟩) (meth := k10m1) (c := k10c1) (by decide +kernel) rfl rfl rfl (by decide +kernel)
set_option maxRecDepth 65536 in
theorem w_c4 : (Jvm.Cond.code ({ cls := "java/lang/Number", name := "<init>", desc := "()V" } : Jvm.MethodName) jdk_18_method_1_code (1 : Nat) (Option.none : Option Jvm.ClassFile.FieldType)).before args0 about1 = true := code_word (m := ⟨6, 0⟩) (meth := k6m0) (c := k6c0) (by decide +kernel) rfl rfl rfl (by decide +kernel)
set_option maxRecDepth 65536 in
theorem w_c5 : (Jvm.Cond.code ({ cls := "java/lang/Object", name := "<init>", desc := "()V" } : Jvm.MethodName) object_method_1_code (1 : Nat) (Option.none : Option Jvm.ClassFile.FieldType)).before args0 about1 = true := code_word (m := ⟨0, 0⟩) (meth := k0m0) (c := k0c0) (by decide +kernel) rfl rfl rfl (by decide +kernel)
set_option maxRecDepth 65536 in
theorem w_c6 : (Jvm.Cond.code ({ cls := "com/example/jobs_into_runs/jobsintoruns/http/ApiException", name := "<init>", desc := "(ILjava/lang/String;Ljava/lang/String;Ljava/lang/Long;)V" } : Jvm.MethodName) prog_33_method_3_code (5 : Nat) (Option.none : Option Jvm.ClassFile.FieldType)).before args0 about1 = true := code_word (m := ⟨5, 0⟩) (meth := k5m0) (c := k5c0) (by decide +kernel) rfl rfl rfl (by decide +kernel)
set_option maxRecDepth 65536 in
theorem w_c7 : (Jvm.Cond.code ({ cls := "java/lang/Exception", name := "<init>", desc := "(Ljava/lang/String;)V" } : Jvm.MethodName) jdk_59_method_2_code (2 : Nat) (Option.none : Option Jvm.ClassFile.FieldType)).before args0 about1 = true := code_word (m := ⟨4, 1⟩) (meth := k4m1) (c := k4c1) (by decide +kernel) rfl rfl rfl (by decide +kernel)
set_option maxRecDepth 65536 in
theorem w_c8 : (Jvm.Cond.code ({ cls := "java/lang/Throwable", name := "<init>", desc := "(Ljava/lang/String;)V" } : Jvm.MethodName) jdk_78_method_2_code (2 : Nat) (Option.none : Option Jvm.ClassFile.FieldType)).before args0 about1 = true := code_word (m := ⟨3, 1⟩) (meth := k3m1) (c := k3c1) (by decide +kernel) rfl rfl rfl (by decide +kernel)
set_option maxRecDepth 65536 in
theorem w_c9 : (Jvm.Cond.code ({ cls := "java/lang/Throwable", name := "<init>", desc := "()V" } : Jvm.MethodName) jdk_78_method_1_code (1 : Nat) (Option.none : Option Jvm.ClassFile.FieldType)).before args0 about1 = true := code_word (m := ⟨3, 0⟩) (meth := k3m0) (c := k3c0) (by decide +kernel) rfl rfl rfl (by decide +kernel)
set_option maxRecDepth 65536 in
theorem w_c10 : (Jvm.Cond.code ({ cls := "com/example/jobs_into_runs/jobsintoruns/http/ApiException", name := "status", desc := "()I" } : Jvm.MethodName) prog_33_method_5_code (1 : Nat) (Option.some Jvm.ClassFile.FieldType.int)).before args0 about1 = true := code_word (m := ⟨5, 2⟩) (meth := k5m2) (c := k5c2) (by decide +kernel) rfl rfl rfl (by decide +kernel)
set_option maxRecDepth 65536 in
theorem w_c11 : (Jvm.Cond.code ({ cls := "com/example/jobs_into_runs/jobsintoruns/http/ApiException", name := "allowed", desc := "()Ljava/lang/String;" } : Jvm.MethodName) prog_33_method_6_code (1 : Nat) (Option.some (Jvm.ClassFile.FieldType.object "java/lang/String"))).before args0 about1 = true := code_word (m := ⟨5, 3⟩) (meth := k5m3) (c := k5c3) (by decide +kernel) rfl rfl rfl (by decide +kernel)
set_option maxRecDepth 65536 in
theorem w_c12 : (Jvm.Cond.code ({ cls := "com/example/jobs_into_runs/jobsintoruns/http/ApiException", name := "run", desc := "()Ljava/lang/Long;" } : Jvm.MethodName) prog_33_method_7_code (1 : Nat) (Option.some (Jvm.ClassFile.FieldType.object "java/lang/Long"))).before args0 about1 = true := code_word (m := ⟨5, 4⟩) (meth := k5m4) (c := k5c4) (by decide +kernel) rfl rfl rfl (by decide +kernel)
set_option maxRecDepth 65536 in
theorem w_c13 : (Jvm.Cond.code ({ cls := "java/lang/Long", name := "longValue", desc := "()J" } : Jvm.MethodName) jdk_35_method_31_code (1 : Nat) (Option.some Jvm.ClassFile.FieldType.long)).before args0 about1 = true := code_word (m := ⟨10, 2⟩) (meth := k10m2) (c := k10c2) (by decide +kernel) rfl rfl rfl (by decide +kernel)
set_option maxRecDepth 65536 in
theorem w_c14 : (Jvm.Cond.code ({ cls := "java/lang/Throwable", name := "getMessage", desc := "()Ljava/lang/String;" } : Jvm.MethodName) jdk_78_method_6_code (1 : Nat) (Option.some (Jvm.ClassFile.FieldType.object "java/lang/String"))).before args0 about1 = true := code_word (m := ⟨3, 2⟩) (meth := k3m2) (c := k3c2) (by decide +kernel) rfl rfl rfl (by decide +kernel)
set_option maxRecDepth 65536 in
theorem w_c15 : (Jvm.Cond.code ({ cls := "java/lang/String", name := "<init>", desc := "([C)V" } : Jvm.MethodName) jdk_42_method_3_code (2 : Nat) (Option.none : Option Jvm.ClassFile.FieldType)).before args0 about1 = true := code_word (m := ⟨13, 1⟩) (meth := k13m1) (c := k13c1) (by decide +kernel) rfl rfl rfl (by decide +kernel)
set_option maxRecDepth 65536 in
theorem w_c16 : (Jvm.Cond.code ({ cls := "java/lang/String", name := "<init>", desc := "([CIILjava/lang/Void;)V" } : Jvm.MethodName) jdk_42_method_149_code (6 : Nat) (Option.none : Option Jvm.ClassFile.FieldType)).before args0 about1 = true := code_word (m := ⟨13, 3⟩) (meth := k13m3) (c := k13c3) (by decide +kernel) rfl rfl rfl (by decide +kernel)
set_option maxRecDepth 65536 in
theorem w_c17 : (Jvm.Cond.code ({ cls := "java/lang/StringUTF16", name := "compress", desc := "([CII)[B" } : Jvm.MethodName) jdk_52_method_16_code (6 : Nat) (Option.some (Jvm.ClassFile.FieldType.array Jvm.ClassFile.FieldType.byte))).before args0 about1 = true := code_word (m := ⟨14, 2⟩) (meth := k14m2) (c := k14c2) (by decide +kernel) rfl rfl rfl (by decide +kernel)
set_option maxRecDepth 65536 in
theorem w_c18 : (Jvm.Cond.code ({ cls := "java/lang/StringUTF16", name := "compress", desc := "([CI[BII)I" } : Jvm.MethodName) jdk_52_method_21_code (7 : Nat) (Option.some Jvm.ClassFile.FieldType.int)).before args0 about1 = true := code_word (m := ⟨14, 3⟩) (meth := k14m3) (c := k14c3) (by decide +kernel) rfl rfl rfl (by decide +kernel)
set_option maxRecDepth 65536 in
theorem w_c19 : (Jvm.Cond.code ({ cls := "java/lang/StringUTF16", name := "coderFromArrayLen", desc := "([BI)B" } : Jvm.MethodName) jdk_52_method_15_code (2 : Nat) (Option.some Jvm.ClassFile.FieldType.byte)).before args0 about1 = true := code_word (m := ⟨14, 1⟩) (meth := k14m1) (c := k14c1) (by decide +kernel) rfl rfl rfl (by decide +kernel)
set_option maxRecDepth 65536 in
theorem w_c20 : (Jvm.Cond.code ({ cls := "java/lang/String", name := "equals", desc := "(Ljava/lang/Object;)Z" } : Jvm.MethodName) jdk_42_method_66_code (3 : Nat) (Option.some Jvm.ClassFile.FieldType.boolean)).before args0 about1 = true := code_word (m := ⟨13, 2⟩) (meth := k13m2) (c := k13c2) (by decide +kernel) rfl rfl rfl (by decide +kernel)
def codes1 : List Jvm.Cond := [Jvm.Cond.code x code maxLocals ret, Jvm.Cond.code ({ cls := "com/example/jobs_into_runs/jobsintoruns/http/ApiException", name := "conflict", desc := "(Ljava/lang/String;J)Lcom/example/jobs_into_runs/jobsintoruns/http/ApiException;" } : Jvm.MethodName) prog_33_method_4_code (3 : Nat) (Option.some (Jvm.ClassFile.FieldType.object "com/example/jobs_into_runs/jobsintoruns/http/ApiException")), Jvm.Cond.code ({ cls := "java/lang/Long", name := "valueOf", desc := "(J)Ljava/lang/Long;" } : Jvm.MethodName) jdk_35_method_24_code (3 : Nat) (Option.some (Jvm.ClassFile.FieldType.object "java/lang/Long")), Jvm.Cond.code ({ cls := "java/lang/Long", name := "<init>", desc := "(J)V" } : Jvm.MethodName) jdk_35_method_26_code (3 : Nat) (Option.none : Option Jvm.ClassFile.FieldType), Jvm.Cond.code ({ cls := "java/lang/Number", name := "<init>", desc := "()V" } : Jvm.MethodName) jdk_18_method_1_code (1 : Nat) (Option.none : Option Jvm.ClassFile.FieldType), Jvm.Cond.code ({ cls := "java/lang/Object", name := "<init>", desc := "()V" } : Jvm.MethodName) object_method_1_code (1 : Nat) (Option.none : Option Jvm.ClassFile.FieldType), Jvm.Cond.code ({ cls := "com/example/jobs_into_runs/jobsintoruns/http/ApiException", name := "<init>", desc := "(ILjava/lang/String;Ljava/lang/String;Ljava/lang/Long;)V" } : Jvm.MethodName) prog_33_method_3_code (5 : Nat) (Option.none : Option Jvm.ClassFile.FieldType), Jvm.Cond.code ({ cls := "java/lang/Exception", name := "<init>", desc := "(Ljava/lang/String;)V" } : Jvm.MethodName) jdk_59_method_2_code (2 : Nat) (Option.none : Option Jvm.ClassFile.FieldType), Jvm.Cond.code ({ cls := "java/lang/Throwable", name := "<init>", desc := "(Ljava/lang/String;)V" } : Jvm.MethodName) jdk_78_method_2_code (2 : Nat) (Option.none : Option Jvm.ClassFile.FieldType), Jvm.Cond.code ({ cls := "java/lang/Throwable", name := "<init>", desc := "()V" } : Jvm.MethodName) jdk_78_method_1_code (1 : Nat) (Option.none : Option Jvm.ClassFile.FieldType), Jvm.Cond.code ({ cls := "com/example/jobs_into_runs/jobsintoruns/http/ApiException", name := "status", desc := "()I" } : Jvm.MethodName) prog_33_method_5_code (1 : Nat) (Option.some Jvm.ClassFile.FieldType.int), Jvm.Cond.code ({ cls := "com/example/jobs_into_runs/jobsintoruns/http/ApiException", name := "allowed", desc := "()Ljava/lang/String;" } : Jvm.MethodName) prog_33_method_6_code (1 : Nat) (Option.some (Jvm.ClassFile.FieldType.object "java/lang/String")), Jvm.Cond.code ({ cls := "com/example/jobs_into_runs/jobsintoruns/http/ApiException", name := "run", desc := "()Ljava/lang/Long;" } : Jvm.MethodName) prog_33_method_7_code (1 : Nat) (Option.some (Jvm.ClassFile.FieldType.object "java/lang/Long")), Jvm.Cond.code ({ cls := "java/lang/Long", name := "longValue", desc := "()J" } : Jvm.MethodName) jdk_35_method_31_code (1 : Nat) (Option.some Jvm.ClassFile.FieldType.long), Jvm.Cond.code ({ cls := "java/lang/Throwable", name := "getMessage", desc := "()Ljava/lang/String;" } : Jvm.MethodName) jdk_78_method_6_code (1 : Nat) (Option.some (Jvm.ClassFile.FieldType.object "java/lang/String")), Jvm.Cond.code ({ cls := "java/lang/String", name := "<init>", desc := "([C)V" } : Jvm.MethodName) jdk_42_method_3_code (2 : Nat) (Option.none : Option Jvm.ClassFile.FieldType), Jvm.Cond.code ({ cls := "java/lang/String", name := "<init>", desc := "([CIILjava/lang/Void;)V" } : Jvm.MethodName) jdk_42_method_149_code (6 : Nat) (Option.none : Option Jvm.ClassFile.FieldType), Jvm.Cond.code ({ cls := "java/lang/StringUTF16", name := "compress", desc := "([CII)[B" } : Jvm.MethodName) jdk_52_method_16_code (6 : Nat) (Option.some (Jvm.ClassFile.FieldType.array Jvm.ClassFile.FieldType.byte)), Jvm.Cond.code ({ cls := "java/lang/StringUTF16", name := "compress", desc := "([CI[BII)I" } : Jvm.MethodName) jdk_52_method_21_code (7 : Nat) (Option.some Jvm.ClassFile.FieldType.int), Jvm.Cond.code ({ cls := "java/lang/StringUTF16", name := "coderFromArrayLen", desc := "([BI)B" } : Jvm.MethodName) jdk_52_method_15_code (2 : Nat) (Option.some Jvm.ClassFile.FieldType.byte), Jvm.Cond.code ({ cls := "java/lang/String", name := "equals", desc := "(Ljava/lang/Object;)Z" } : Jvm.MethodName) jdk_42_method_66_code (3 : Nat) (Option.some Jvm.ClassFile.FieldType.boolean)]
set_option maxRecDepth 65536 in
theorem codes_eq : words1.filter isCode = codes1 := rfl
theorem w_codes : ∀ c ∈ words1.filter isCode, c.before args0 about1 = true := by
  rw [codes_eq]
  intro c hc
  simp only [codes1, List.mem_cons, List.not_mem_nil, or_false] at hc
  rcases hc with rfl | rfl | rfl | rfl | rfl | rfl | rfl | rfl | rfl | rfl | rfl | rfl | rfl | rfl | rfl | rfl | rfl | rfl | rfl | rfl | rfl
  · exact w_c0
  · exact w_c1
  · exact w_c2
  · exact w_c3
  · exact w_c4
  · exact w_c5
  · exact w_c6
  · exact w_c7
  · exact w_c8
  · exact w_c9
  · exact w_c10
  · exact w_c11
  · exact w_c12
  · exact w_c13
  · exact w_c14
  · exact w_c15
  · exact w_c16
  · exact w_c17
  · exact w_c18
  · exact w_c19
  · exact w_c20
set_option maxRecDepth 65536 in
theorem w_t1 : (words1.take 24).all (fun c => isCode c || c.before args0 about1) = true := by decide +kernel
set_option maxRecDepth 65536 in
theorem w_t2 : ((words1.drop 24).take 24).all (fun c => isCode c || c.before args0 about1) = true := by decide +kernel
set_option maxRecDepth 65536 in
theorem w_t3 : (((words1.drop 24).drop 24).take 24).all (fun c => isCode c || c.before args0 about1) = true := by decide +kernel
set_option maxRecDepth 65536 in
theorem w_t4 : ((((words1.drop 24).drop 24).drop 24).take 24).all (fun c => isCode c || c.before args0 about1) = true := by decide +kernel
set_option maxRecDepth 65536 in
theorem w_t5 : (((((words1.drop 24).drop 24).drop 24).drop 24).take 24).all (fun c => isCode c || c.before args0 about1) = true := by decide +kernel
set_option maxRecDepth 65536 in
theorem w_t6 : ((((((words1.drop 24).drop 24).drop 24).drop 24).drop 24).take 24).all (fun c => isCode c || c.before args0 about1) = true := by decide +kernel
set_option maxRecDepth 65536 in
theorem w_t7 : ((((((words1.drop 24).drop 24).drop 24).drop 24).drop 24).drop 24).all (fun c => isCode c || c.before args0 about1) = true := by decide +kernel
theorem w_tables : (allAtoms (Jvm.Cond.code x code maxLocals ret :: tables_1)).before args0 about1 = true := by
  rw [allAtoms_all]
  show words1.all (fun c => c.before args0 about1) = true
  refine all_split ?_ w_codes
  rw [← List.take_append_drop 24 words1, List.all_append, w_t1, ← List.take_append_drop 24 (words1.drop 24), List.all_append, w_t2, ← List.take_append_drop 24 ((words1.drop 24).drop 24), List.all_append, w_t3, ← List.take_append_drop 24 (((words1.drop 24).drop 24).drop 24), List.all_append, w_t4, ← List.take_append_drop 24 ((((words1.drop 24).drop 24).drop 24).drop 24), List.all_append, w_t5, ← List.take_append_drop 24 (((((words1.drop 24).drop 24).drop 24).drop 24).drop 24), List.all_append, w_t6, w_t7]
  rfl
set_option maxRecDepth 65536 in
theorem w_rest : rest_1_c.before args0 about1 = true := by decide +kernel
set_option maxRecDepth 65536 in
theorem w_case : (Jvm.Cond.and given_1 narrow_1).before args0 about1 = true := by decide +kernel
set_option maxRecDepth 65536 in
theorem w_consts : constsHeld consts_1 about1 := Jvm.Lit.constsHeldB_iff.mp (by decide +kernel)
theorem w_applies : (headSpec (Jvm.Cond.code x code maxLocals ret :: tables_1) room_1).applies x e0.platform about1 = true :=
  (Spec.applies_iff w_frames).mpr ⟨w_running, w_runnable, w_alone, w_named, w_hears, w_ripe, w_room, w_tables⟩
theorem atStart : AtStart classFile x code maxLocals ret World_1 tables_1 room_1 Calls_1 rest_1 Pre_1 launch0 p0 e0 about1 theMethod args0 below0 :=
  ⟨lists_1, trivial, launch0.admits_env _ _ _, launch0.least_env, fairChoices_fair.cas, fairChoices_fair.clock, w_frames, w_args, w_heap, w_applies, ⟨(by decide +kernel : framesKnown about1 = true), ⟨(by decide +kernel : tablesKnown about1 = true), ⟨w_consts, trivial⟩⟩⟩, w_rest, w_case⟩
end start1
theorem witness_1 : WitnessClaimed_1 := ⟨start1.p0, start1.e0, start1.about1, start1.theMethod, start1.args0, start1.below0, start1.atStart⟩
end Jvm.Pilot.@@N@@
