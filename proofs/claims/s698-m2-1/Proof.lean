import JvmDerived
import JvmDerived.Pilot.@@N@@Statement
import JvmDerived.Pilot.@@N@@Code
set_option linter.unusedVariables false
set_option linter.unusedSimpArgs false
/- laws to paste: Road.backV (cut by pick.py; bodies as the Statement names them) -/
namespace Jvm.Pilot.@@N@@
namespace StrChars
open Jvm Sem ClassFile Op Lib Jvm.Stand Jvm.Free.XT Jvm.Free.ALB Jvm.Free.JM Jvm.Free
open Jvm.Lib.Cold (StaticIs)
/-- a char array whose places are chars -/
def Ch (a : Addr) (A : Cell) (U : State) : Prop := Arr .char a A U ∧ Typed .char A
theorem Ch.mv {a : Addr} {A : Cell} {U U' : State} (h : Ch a A U) (hal : U.vm.Alike U'.vm) (hh : U'.heap = U.heap) : Ch a A U' := ⟨h.1.mv hal hh, h.2⟩
theorem Ch.keep {a : Addr} {A : Cell} {U U' : State} (h : Ch a A U) (hal : U.vm.Alike U'.vm) (hk : U'.heap[a]? = some A) : Ch a A U' := ⟨h.1.keep hal hk, h.2⟩
/-- what place i of a char[]'s cell holds -/
def cv (A : Cell) (i : Nat) : Int32 := match A.slots[i]? with | some (.int x) => x | _ => 0
theorem Ch.get {a : Addr} {A : Cell} {U : State} (h : Ch a A U) {i : Nat} (hi : i < A.slots.size) : A.slots[i]? = some (.int (cv A i)) := by
  have e := Array.getElem?_eq_getElem hi
  have f := h.2 i _ e
  unfold cv; rw [e]
  generalize A.slots[i] = v at f
  cases v <;> simp [fits] at f ⊢
/-- the byte that i2b leaves of a char -/
def lo8 (x : Int32) : Int32 := x.toInt8.toInt32
theorem fits_lo8 (y : Int32) : fits .byte (.int (lo8 y)) = true := by
  have h1 := y.toInt8.le_toInt
  have h2 := y.toInt8.toInt_lt
  simp only [lo8, fits, Bool.and_eq_true, decide_eq_true_eq, Int32.le_iff_toInt_le, Int8.toInt_toInt32, show (-128 : Int32).toInt = -128 from by decide, show (127 : Int32).toInt = 127 from by decide]
  omega
/-- A' is A but that each place j of lo .. hi - 1 holds f j -/
def Laid (A A' : Cell) (lo hi : Nat) (f : Nat → Value) : Prop := A'.cls = A.cls ∧ A'.vm = A.vm ∧ A'.slots.size = A.slots.size ∧ ∀ i, A'.slots[i]? = if lo ≤ i ∧ i < hi then some (f i) else A.slots[i]?
theorem Laid.zero (A : Cell) (lo : Nat) (f : Nat → Value) : Laid A A lo (lo + 0) f := ⟨rfl, rfl, rfl, fun i => by rw [if_neg (by omega)]⟩
theorem Laid.step {A Ak : Cell} {lo k : Nat} {f : Nat → Value} {v : Value} (h : Laid A Ak lo k f) (hlo : lo ≤ k) (hk : k < Ak.slots.size) (hv : v = f k) : Laid A (Ak.setSlot k v) lo (k + 1) f := by
  refine ⟨h.1, h.2.1, by simpa [Cell.setSlot] using h.2.2.1, fun i => ?_⟩
  by_cases e : k = i
  · subst e; rw [Cell.slots_setSlot_self v hk, if_pos (by omega), hv]
  · rw [Cell.slots_setSlot_ne v e, h.2.2.2 i]
    by_cases q : lo ≤ i ∧ i < k
    · rw [if_pos q, if_pos (by omega)]
    · rw [if_neg q, if_neg (by omega)]
def U16 : String := "java/lang/StringUTF16"
namespace Cmp5
def yN : MethodName := ⟨"java/lang/StringUTF16", "compress", "([CI[BII)I"⟩
abbrev yB : ByteArray := jdk_52_method_21_code
theorem d0 : decode yB 0 = .ok (.iconst 0, 1) := by decide +kernel
theorem d1 : decode yB 1 = .ok (.istore 5, 2) := by decide +kernel
theorem d3 : decode yB 3 = .ok (.iload 5, 2) := by decide +kernel
theorem d5 : decode yB 5 = .ok (.iload 4, 2) := by decide +kernel
theorem d7 : decode yB 7 = .ok (.if_icmp (.ge) 37, 3) := by decide +kernel
theorem d10 : decode yB 10 = .ok (.aload_n 0, 1) := by decide +kernel
theorem d11 : decode yB 11 = .ok (.iload_n 1, 1) := by decide +kernel
theorem d12 : decode yB 12 = .ok (.caload, 1) := by decide +kernel
theorem d13 : decode yB 13 = .ok (.istore 6, 2) := by decide +kernel
theorem d15 : decode yB 15 = .ok (.iload 6, 2) := by decide +kernel
theorem d17 : decode yB 17 = .ok (.sipush 255, 3) := by decide +kernel
theorem d20 : decode yB 20 = .ok (.if_icmp (.le) 6, 3) := by decide +kernel
theorem d26 : decode yB 26 = .ok (.aload_n 2, 1) := by decide +kernel
theorem d27 : decode yB 27 = .ok (.iload_n 3, 1) := by decide +kernel
theorem d28 : decode yB 28 = .ok (.iload 6, 2) := by decide +kernel
theorem d30 : decode yB 30 = .ok (.i2b, 1) := by decide +kernel
theorem d31 : decode yB 31 = .ok (.bastore, 1) := by decide +kernel
theorem d32 : decode yB 32 = .ok (.iinc 1 1, 3) := by decide +kernel
theorem d35 : decode yB 35 = .ok (.iinc 3 1, 3) := by decide +kernel
theorem d38 : decode yB 38 = .ok (.iinc 5 1, 3) := by decide +kernel
theorem d41 : decode yB 41 = .ok (.goto (-38), 3) := by decide +kernel
theorem d44 : decode yB 44 = .ok (.iload 4, 2) := by decide +kernel
theorem d46 : decode yB 46 = .ok (.ireturn, 1) := by decide +kernel
def site : List Cond := []
def tab : Cond := tabOf yN yB 7 (some .int) site
def P (b : Addr) (A : Cell) (d : Addr) (B : Cell) (o q len : Nat) (args : Array Value) (s : State) : Prop := args = #[.ref b, .int (Int32.ofNat o), .ref d, .int (Int32.ofNat q), .int (Int32.ofNat len)] ∧ Ch b A s ∧ Arr .byte d B s ∧ b ≠ d ∧ o + len ≤ A.slots.size ∧ q + len ≤ B.slots.size ∧ ∀ i, i < len → ¬ 255 < cv A (o + i)
def E (b : Addr) (A : Cell) (d : Addr) (B : Cell) (o q len : Nat) (r : Option Value) (s u : State) : Prop := r = some (.int (Int32.ofNat len)) ∧ ∃ B', Put d B' s u ∧ Laid B B' q (q + len) (fun j => Value.int (lo8 (cv A (o + (j - q)))))
/-- no char of the range above 255: len; the places written hold each char's low byte -/
theorem law (l : Launch) (b : Addr) (A : Cell) (d : Addr) (B : Cell) (o q len : Nat) : Law l yN 5 5 0 0 yB 7 (some .int) site (P b A d B o q len) (E b A d B o q len) (copyLocs d q len) 0 0 := by
  refine Law.of_walk (plainFor_of_name (by decide +kernel)) (by decide +kernel) (by decide +kernel) (by decide) (fun _ _ h => by rw [h.1]; rfl) (fun _ U U' hal hh h => ⟨h.1, h.2.1.mv hal hh, h.2.2.1.mv hal hh, h.2.2.2⟩) (fun r U U' V V' h1 hal h2 h => ⟨h.1, h.2.elim fun B' q => ⟨B', q.1.mv h1 h2, q.2⟩⟩) ?_
  intro p e s m args below meth c s₁ X0 hexec hbytes hml hret hlk hnm hown hh0 W hP
  obtain ⟨rfl, hA, hB, hne, l1, l2, hp⟩ := hP
  have c1 : Steps p.tables e below (s₁.setTop (entryFrame m #[.ref b, .int (Int32.ofNat o), .ref d, .int (Int32.ofNat q), .int (Int32.ofNat len)] 7)) (s₁.setTop (mkF m 0 #[.val (.ref b), .val (.int (Int32.ofNat o)), .val (.ref d), .val (.int (Int32.ofNat q)), .val (.int (Int32.ofNat len)), .unset, .unset] [])) := entry rfl
  have hA0 := hA.1.mv X0.warmed.alike hh0
  have hB0 := hB.mv X0.warmed.alike hh0
  have a31 := hA.1.2.2.2
  have c2 : Steps p.tables e below (s₁.setTop (entryFrame m #[.ref b, .int (Int32.ofNat o), .ref d, .int (Int32.ofNat q), .int (Int32.ofNat len)] 7)) (s₁.setTop (mkF m 3 #[.val (.ref b), .val (.int (Int32.ofNat o)), .val (.ref d), .val (.int (Int32.ofNat q)), .val (.int (Int32.ofNat len)), .val (.int 0), .unset] [])) := c1.trans (by
    refine iconstV X0.here hexec rfl 0 (hb hbytes d0) (by decide) ?_
    refine XS.istore X0.here hexec rfl (hb hbytes d1) rfl rfl ?_
    exact Steps.refl _)
  have loop : ∀ (r i : Nat), i + r = len → ∀ (z : Slot), (z = .unset ∨ ∃ w, z = .val w ∧ w.category = 1) → ∀ (Tl : State) (Bk : Cell), Stand p l e { frames := 0, locals := 0, cells := 0, slots := 0 } s m #[.ref b, .int (Int32.ofNat o), .ref d, .int (Int32.ofNat q), .int (Int32.ofNat len)] below meth c Tl ([] ++ copyLocs d q i) 0 0 → Put d Bk s₁ Tl → Laid B Bk q (q + i) (fun j => Value.int (lo8 (cv A (o + (j - q))))) →
      Steps p.tables e below (s₁.setTop (entryFrame m #[.ref b, .int (Int32.ofNat o), .ref d, .int (Int32.ofNat q), .int (Int32.ofNat len)] 7)) (Tl.setTop (mkF m 3 #[.val (.ref b), .val (.int (Int32.ofNat (o + i))), .val (.ref d), .val (.int (Int32.ofNat (q + i))), .val (.int (Int32.ofNat len)), .val (.int (Int32.ofNat i)), z] [])) → ∃ (T' : State) (B' : Cell) (z' : Slot), Stand p l e { frames := 0, locals := 0, cells := 0, slots := 0 } s m #[.ref b, .int (Int32.ofNat o), .ref d, .int (Int32.ofNat q), .int (Int32.ofNat len)] below meth c T' ([] ++ copyLocs d q len) 0 0 ∧ Put d B' s₁ T' ∧ Laid B B' q (q + len) (fun j => Value.int (lo8 (cv A (o + (j - q))))) ∧
      Steps p.tables e below (s₁.setTop (entryFrame m #[.ref b, .int (Int32.ofNat o), .ref d, .int (Int32.ofNat q), .int (Int32.ofNat len)] 7)) (T'.setTop (mkF m 3 #[.val (.ref b), .val (.int (Int32.ofNat (o + len))), .val (.ref d), .val (.int (Int32.ofNat (q + len))), .val (.int (Int32.ofNat len)), .val (.int (Int32.ofNat len)), z'] [])) := by
    intro r
    induction r with
    | zero =>
      intro i hi z hz Tl Bk Xl pl fl cl
      have hil : i = len := by omega
      rw [hil] at Xl fl cl
      exact ⟨Tl, Bk, z, Xl, pl, fl, cl⟩
    | succ r ih =>
      intro i hi z hz Tl Bk Xl pl fl cl
      have all := X0.warmed.alike.symm.trans Xl.warmed.alike
      have hAl := hA0.keep all (pl.other hne hA0.1)
      have hBk := hB0.like all pl.1 fl.1 fl.2.1 fl.2.2.1
      have hlt : q + i < Bk.slots.size := by rw [fl.2.2.1]; omega
      have c3 : Steps p.tables e below (s₁.setTop (entryFrame m #[.ref b, .int (Int32.ofNat o), .ref d, .int (Int32.ofNat q), .int (Int32.ofNat len)] 7)) (Tl.setTop (mkF m 12 #[.val (.ref b), .val (.int (Int32.ofNat (o + i))), .val (.ref d), .val (.int (Int32.ofNat (q + i))), .val (.int (Int32.ofNat len)), .val (.int (Int32.ofNat i)), z] [.int (Int32.ofNat (o + i)), .ref b])) := cl.trans (by
        refine XS.iload Xl.here hexec rfl (hb hbytes d3) rfl ?_
        refine XS.iload Xl.here hexec rfl (hb hbytes d5) rfl ?_
        refine XS.icmpNo Xl.here hexec rfl (hb hbytes d7) rfl (ii_ge_f (lt32 (by omega) (by omega))) ?_
        refine XS.aloadN Xl.here hexec rfl (hb hbytes d10) rfl rfl ?_
        refine XS.iloadN Xl.here hexec rfl (hb hbytes d11) rfl ?_
        exact Steps.refl _)
      have c4 : Steps p.tables e below (s₁.setTop (entryFrame m #[.ref b, .int (Int32.ofNat o), .ref d, .int (Int32.ofNat q), .int (Int32.ofNat len)] 7)) (Tl.setTop (mkF m 13 #[.val (.ref b), .val (.int (Int32.ofNat (o + i))), .val (.ref d), .val (.int (Int32.ofNat (q + i))), .val (.int (Int32.ofNat len)), .val (.int (Int32.ofNat i)), z] [.int (cv A (o + i))])) := c3.trans (by
        refine Xl.aget hexec hAl rfl (hA.get (i := o + i) (by omega)) rfl rfl (hb hbytes d12) ?_
        exact Steps.refl _)
      have c5 : Steps p.tables e below (s₁.setTop (entryFrame m #[.ref b, .int (Int32.ofNat o), .ref d, .int (Int32.ofNat q), .int (Int32.ofNat len)] 7)) (Tl.setTop (mkF m 15 #[.val (.ref b), .val (.int (Int32.ofNat (o + i))), .val (.ref d), .val (.int (Int32.ofNat (q + i))), .val (.int (Int32.ofNat len)), .val (.int (Int32.ofNat i)), .val (.int (cv A (o + i)))] [])) := c4.trans (by
        refine XS.istoreS Xl.here hexec rfl (hb hbytes d13) rfl rfl hz ?_
        exact Steps.refl _)
      have c6 : Steps p.tables e below (s₁.setTop (entryFrame m #[.ref b, .int (Int32.ofNat o), .ref d, .int (Int32.ofNat q), .int (Int32.ofNat len)] 7)) (Tl.setTop (mkF m 31 #[.val (.ref b), .val (.int (Int32.ofNat (o + i))), .val (.ref d), .val (.int (Int32.ofNat (q + i))), .val (.int (Int32.ofNat len)), .val (.int (Int32.ofNat i)), .val (.int (cv A (o + i)))] [.int (lo8 (cv A (o + i))), .int (Int32.ofNat (q + i)), .ref d])) := c5.trans (by
        refine XS.iload Xl.here hexec rfl (hb hbytes d15) rfl ?_
        refine sipushV Xl.here hexec rfl 255 (hb hbytes d17) (by decide) ?_
        refine XS.icmpYes Xl.here hexec rfl (pc0 := 20) rfl (hb hbytes d20) rfl (ii_le_t (hp i (by omega))) (by decide) rfl ?_
        refine XS.aloadN Xl.here hexec rfl (hb hbytes d26) rfl rfl ?_
        refine XS.iloadN Xl.here hexec rfl (hb hbytes d27) rfl ?_
        refine XS.iload Xl.here hexec rfl (hb hbytes d28) rfl ?_
        refine i2b Xl.here hexec rfl (hb hbytes d30) rfl ?_
        exact Steps.refl _)
      obtain ⟨T7, X7, p7, st7⟩ := Xl.aput hexec hBk rfl hlt rfl (fits_lo8 (cv A (o + i))) (g := (mkF m 31 #[.val (.ref b), .val (.int (Int32.ofNat (o + i))), .val (.ref d), .val (.int (Int32.ofNat (q + i))), .val (.int (Int32.ofNat len)), .val (.int (Int32.ofNat i)), .val (.int (cv A (o + i)))] [.int (lo8 (cv A (o + i))), .int (Int32.ofNat (q + i)), .ref d])) rfl (rest := []) rfl (hb hbytes d31)
      have c8 : Steps p.tables e below (s₁.setTop (entryFrame m #[.ref b, .int (Int32.ofNat o), .ref d, .int (Int32.ofNat q), .int (Int32.ofNat len)] 7)) (T7.setTop (mkF m 32 #[.val (.ref b), .val (.int (Int32.ofNat (o + i))), .val (.ref d), .val (.int (Int32.ofNat (q + i))), .val (.int (Int32.ofNat len)), .val (.int (Int32.ofNat i)), .val (.int (cv A (o + i)))] [])) := c6.trans (st7 _ (Steps.refl _))
      have c9 : Steps p.tables e below (s₁.setTop (entryFrame m #[.ref b, .int (Int32.ofNat o), .ref d, .int (Int32.ofNat q), .int (Int32.ofNat len)] 7)) (T7.setTop (mkF m 3 #[.val (.ref b), .val (.int (Int32.ofNat (o + i) + 1)), .val (.ref d), .val (.int (Int32.ofNat (q + i) + 1)), .val (.int (Int32.ofNat len)), .val (.int (Int32.ofNat i + 1)), .val (.int (cv A (o + i)))] [])) := c8.trans (by
        refine iincV X7.here hexec rfl 1 (hb hbytes d32) (by decide) rfl rfl ?_
        refine iincV X7.here hexec rfl 1 (hb hbytes d35) (by decide) rfl rfl ?_
        refine iincV X7.here hexec rfl 1 (hb hbytes d38) (by decide) rfl rfl ?_
        refine XS.goto X7.here hexec rfl (pc0 := 41) rfl (hb hbytes d41) (by decide) rfl ?_
        exact Steps.refl _)
      have c10 : Steps p.tables e below (s₁.setTop (entryFrame m #[.ref b, .int (Int32.ofNat o), .ref d, .int (Int32.ofNat q), .int (Int32.ofNat len)] 7)) (T7.setTop (mkF m 3 #[.val (.ref b), .val (.int (Int32.ofNat (o + (i + 1)))), .val (.ref d), .val (.int (Int32.ofNat (q + (i + 1)))), .val (.int (Int32.ofNat len)), .val (.int (Int32.ofNat (i + 1))), .val (.int (cv A (o + i)))] [])) := by
        have := c9
        rw [succ32, succ32, succ32] at this
        exact this
      exact ih (i + 1) (by omega) _ (Or.inr ⟨_, rfl, rfl⟩) T7 _ (by rw [copyLocs_step, ← List.append_assoc]; exact X7) (pl.trans p7) (fl.step (by omega) hlt (by simp)) c10
  obtain ⟨T9, B9, z9, X9, p9, f9, g9⟩ := loop len 0 (by omega) .unset (Or.inl rfl) s₁ B (by simpa [copyLocs] using X0) ⟨hB0.1, fun _ _ => rfl, rfl⟩ (Laid.zero _ _ _) c2
  have c11 : Steps p.tables e below (s₁.setTop (entryFrame m #[.ref b, .int (Int32.ofNat o), .ref d, .int (Int32.ofNat q), .int (Int32.ofNat len)] 7)) (T9.setTop (mkF m 46 #[.val (.ref b), .val (.int (Int32.ofNat (o + len))), .val (.ref d), .val (.int (Int32.ofNat (q + len))), .val (.int (Int32.ofNat len)), .val (.int (Int32.ofNat len)), z9] [.int (Int32.ofNat len)])) := g9.trans (by
    refine XS.iload X9.here hexec rfl (hb hbytes d3) rfl ?_
    refine XS.iload X9.here hexec rfl (hb hbytes d5) rfl ?_
    refine XS.icmpYes X9.here hexec rfl (pc0 := 7) rfl (hb hbytes d7) rfl (ii_ge_t (nlt32 (by omega) (Nat.le_refl _))) (by decide) rfl ?_
    refine XS.iload X9.here hexec rfl (hb hbytes d44) rfl ?_
    exact Steps.refl _)
  exact ⟨T9, some (.int (Int32.ofNat len)), _, _, _, X9, by simp, rfl, rfl, (fun h => by cases h), ⟨rfl, B9, p9.from hh0, f9⟩, fun fs hl => c11.trans (X9.ireturnOut hexec hret rfl (Or.inl rfl) (hb hbytes d46) hl)⟩
end Cmp5
namespace Cmp3
def yN : MethodName := ⟨"java/lang/StringUTF16", "compress", "([CII)[B"⟩
abbrev yB : ByteArray := jdk_52_method_16_code
theorem d0 : decode yB 0 = .ok (.iload_n 2, 1) := by decide +kernel
theorem d1 : decode yB 1 = .ok (.newarray .byte, 2) := by decide +kernel
theorem d3 : decode yB 3 = .ok (.astore_n 3, 1) := by decide +kernel
theorem d4 : decode yB 4 = .ok (.aload_n 0, 1) := by decide +kernel
theorem d5 : decode yB 5 = .ok (.iload_n 1, 1) := by decide +kernel
theorem d6 : decode yB 6 = .ok (.aload_n 3, 1) := by decide +kernel
theorem d7 : decode yB 7 = .ok (.iconst 0, 1) := by decide +kernel
theorem d8 : decode yB 8 = .ok (.iload_n 2, 1) := by decide +kernel
theorem d9 : decode yB 9 = .ok (.invokestatic 115, 3) := by decide +kernel
theorem d12 : decode yB 12 = .ok (.istore 4, 2) := by decide +kernel
theorem d14 : decode yB 14 = .ok (.iload 4, 2) := by decide +kernel
theorem d16 : decode yB 16 = .ok (.iload_n 2, 1) := by decide +kernel
theorem d17 : decode yB 17 = .ok (.if_icmp (.eq) 40, 3) := by decide +kernel
theorem d57 : decode yB 57 = .ok (.aload_n 3, 1) := by decide +kernel
theorem d58 : decode yB 58 = .ok (.areturn, 1) := by decide +kernel
def site : List Cond := [.arrayClass .byte, Cmp5.tab] ++ staticW U16 115 Cmp5.yN
def tab : Cond := tabOf yN yB 6 (some (.array .byte)) site
def P (b : Addr) (A : Cell) (o len : Nat) (args : Array Value) (s : State) : Prop := args = #[.ref b, .int (Int32.ofNat o), .int (Int32.ofNat len)] ∧ Ch b A s ∧ o + len ≤ A.slots.size ∧ len ≤ 536870912 ∧ ∀ i, i < len → ¬ 255 < cv A (o + i)
def E (b : Addr) (A : Cell) (o len : Nat) (r : Option Value) (s u : State) : Prop := NewArr .byte "[B" len (fun j => .int (lo8 (cv A (o + j)))) r s u ∧ u.heap.size = s.heap.size + 1
/-- no char of the range above 255: a new byte[] of their low bytes -/
theorem law (l : Launch) (b : Addr) (A : Cell) (o len : Nat) : Law l yN 3 3 1 18 yB 6 (some (.array .byte)) site (P b A o len) (E b A o len) [] 1 len := by
  refine Law.of_walk (plainFor_of_name (by decide +kernel)) (by decide +kernel) (by decide +kernel) (by decide) (fun _ _ h => by rw [h.1]; rfl) (fun _ U U' hal hh h => ⟨h.1, h.2.1.mv hal hh, h.2.2⟩) (fun r U U' V V' h1 hal h2 h => ⟨NewArr.mv r U U' V V' h1 hal h2 h.1, by rw [h1, h2]; exact h.2⟩) ?_
  intro p e s m args below meth c s₁ X0 hexec hbytes hml hret hlk hnm hown hh0 W hP
  obtain ⟨rfl, hA, l1, l2, hp⟩ := hP
  have a31 := hA.1.2.2.2
  have c1 : Steps p.tables e below (s₁.setTop (entryFrame m #[.ref b, .int (Int32.ofNat o), .int (Int32.ofNat len)] 6)) (s₁.setTop (mkF m 0 #[.val (.ref b), .val (.int (Int32.ofNat o)), .val (.int (Int32.ofNat len)), .unset, .unset, .unset] [])) := entry rfl
  have c2 : Steps p.tables e below (s₁.setTop (entryFrame m #[.ref b, .int (Int32.ofNat o), .int (Int32.ofNat len)] 6)) (s₁.setTop (mkF m 1 #[.val (.ref b), .val (.int (Int32.ofNat o)), .val (.int (Int32.ofNat len)), .unset, .unset, .unset] [.int (Int32.ofNat len)])) := c1.trans (by
    refine XS.iloadN X0.here hexec rfl (hb hbytes d0) rfl ?_
    exact Steps.refl _)
  obtain ⟨T3, B3, X3, ba3, bs3, bv3, bh3, bf3, st3⟩ := X0.anew hexec (atype := .byte) (wk W (.arrayClass .byte)) rfl (by show len * 1 ≤ _; omega) (by omega) (g := (mkF m 1 #[.val (.ref b), .val (.int (Int32.ofNat o)), .val (.int (Int32.ofNat len)), .unset, .unset, .unset] [.int (Int32.ofNat len)])) rfl (hb hbytes d1) (rest := []) rfl (Nat.le_refl _) (by show 0 + len ≤ len; omega)
  rw [hh0] at ba3 st3
  have kp3 : XT.Kept s T3 := (XT.Kept.of_eq hh0).push bh3
  have hA3 := hA.keep X3.warmed.alike (kp3 _ _ hA.1.1)
  have hne : b ≠ s.heap.size := hA.1.ne
  have c4 : Steps p.tables e below (s₁.setTop (entryFrame m #[.ref b, .int (Int32.ofNat o), .int (Int32.ofNat len)] 6)) (T3.setTop (mkF m 3 #[.val (.ref b), .val (.int (Int32.ofNat o)), .val (.int (Int32.ofNat len)), .unset, .unset, .unset] [.ref s.heap.size])) := c2.trans (st3 _ (Steps.refl _))
  have c5 : Steps p.tables e below (s₁.setTop (entryFrame m #[.ref b, .int (Int32.ofNat o), .int (Int32.ofNat len)] 6)) (T3.setTop (mkF m 9 #[.val (.ref b), .val (.int (Int32.ofNat o)), .val (.int (Int32.ofNat len)), .val (.ref s.heap.size), .unset, .unset] [.int (Int32.ofNat len), .int 0, .ref s.heap.size, .int (Int32.ofNat o), .ref b])) := c4.trans (by
    refine XS.astoreN X3.here hexec rfl (hb hbytes d3) rfl rfl rfl ?_
    refine XS.aloadN X3.here hexec rfl (hb hbytes d4) rfl rfl ?_
    refine XS.iloadN X3.here hexec rfl (hb hbytes d5) rfl ?_
    refine XS.aloadN X3.here hexec rfl (hb hbytes d6) rfl rfl ?_
    refine iconstV X3.here hexec rfl 0 (hb hbytes d7) (by decide) ?_
    refine XS.iloadN X3.here hexec rfl (hb hbytes d8) rfl ?_
    exact Steps.refl _)
  obtain ⟨v6, T6, X6, E6, g6⟩ := X3.callS hexec (Cmp5.law l b A s.heap.size B3 o 0 len) hown (wks W (staticW U16 115 Cmp5.yN)) (wk W Cmp5.tab) (W := 0) (Nat.le_of_ble_eq_true rfl) (Nat.le_of_ble_eq_true rfl) (Nat.le_refl _) (by show 0 + len + 0 ≤ len; omega) (g := (mkF m 9 #[.val (.ref b), .val (.int (Int32.ofNat o)), .val (.int (Int32.ofNat len)), .val (.ref s.heap.size), .unset, .unset] [.int (Int32.ofNat len), .int (Int32.ofNat 0), .ref s.heap.size, .int (Int32.ofNat o), .ref b])) rfl (by rw [hml]; rfl) c5 (argsL := [.ref b, .int (Int32.ofNat o), .ref s.heap.size, .int (Int32.ofNat 0), .int (Int32.ofNat len)]) (rest := []) rfl rfl (by show 2 * 0 + 0 ≤ _; decide) (hb hbytes d9) (⟨rfl, hA3, ba3, hne, l1, by rw [bs3]; simp, hp⟩)
  obtain ⟨rfl, B6, p6, f6⟩ := E6
  have c7 : Steps p.tables e below (s₁.setTop (entryFrame m #[.ref b, .int (Int32.ofNat o), .int (Int32.ofNat len)] 6)) (T6.setTop (mkF m 12 #[.val (.ref b), .val (.int (Int32.ofNat o)), .val (.int (Int32.ofNat len)), .val (.ref s.heap.size), .unset, .unset] [.int (Int32.ofNat len)])) := g6
  have c8 : Steps p.tables e below (s₁.setTop (entryFrame m #[.ref b, .int (Int32.ofNat o), .int (Int32.ofNat len)] 6)) (T6.setTop (mkF m 58 #[.val (.ref b), .val (.int (Int32.ofNat o)), .val (.int (Int32.ofNat len)), .val (.ref s.heap.size), .val (.int (Int32.ofNat len)), .unset] [.ref s.heap.size])) := c7.trans (by
    refine XS.istore X6.here hexec rfl (hb hbytes d12) rfl rfl ?_
    refine XS.iload X6.here hexec rfl (hb hbytes d14) rfl ?_
    refine XS.iloadN X6.here hexec rfl (hb hbytes d16) rfl ?_
    refine XS.icmpYes X6.here hexec rfl (pc0 := 17) rfl (hb hbytes d17) rfl (ii_eq_t rfl) (by decide) rfl ?_
    refine XS.aloadN X6.here hexec rfl (hb hbytes d57) rfl rfl ?_
    exact Steps.refl _)
  have X8 := X6.wide (L' := []) (cells' := 1) (slots' := len) (fun x hx hlt => by
    simp only [List.nil_append, copyLocs, List.mem_map, List.mem_range] at hx
    obtain ⟨i, -, rfl⟩ := hx
    exact absurd hlt (Nat.lt_irrefl _)) (Nat.le_refl _) (by omega)
  exact ⟨T6, some (.ref s.heap.size), _, _, _, X8, rfl, rfl, rfl, (fun h => by cases h), ⟨⟨rfl, B6, ba3.like (X3.warmed.alike.symm.trans X6.warmed.alike) p6.1 f6.1 f6.2.1 f6.2.2.1, f6.2.1.trans bv3, by rw [X6.warmed.alike.findClass, f6.1]; exact bf3, by rw [f6.2.2.1, bs3]; simp, fun j hj => by rw [f6.2.2.2 j, if_pos (by omega)]; rfl, kp3.put p6 (Nat.le_refl _)⟩, by rw [p6.2.2, bh3, hh0]; simp⟩, fun fs hl => c8.trans (X8.areturnOut hexec rfl hret rfl (hb hbytes d58) hl)⟩
end Cmp3
namespace CodL
def yN : MethodName := ⟨"java/lang/StringUTF16", "coderFromArrayLen", "([BI)B"⟩
abbrev yB : ByteArray := jdk_52_method_15_code
theorem d0 : decode yB 0 = .ok (.iload_n 1, 1) := by decide +kernel
theorem d1 : decode yB 1 = .ok (.aload_n 0, 1) := by decide +kernel
theorem d2 : decode yB 2 = .ok (.arraylength, 1) := by decide +kernel
theorem d3 : decode yB 3 = .ok (.isub, 1) := by decide +kernel
theorem d4 : decode yB 4 = .ok (.bipush 31, 2) := by decide +kernel
theorem d6 : decode yB 6 = .ok (.iushr, 1) := by decide +kernel
theorem d7 : decode yB 7 = .ok (.i2b, 1) := by decide +kernel
theorem d8 : decode yB 8 = .ok (.ireturn, 1) := by decide +kernel
def site : List Cond := []
def tab : Cond := tabOf yN yB 2 (some .byte) site
def P (d : Addr) (B : Cell) (args : Array Value) (s : State) : Prop := args = #[.ref d, .int (Int32.ofNat B.slots.size)] ∧ Arr .byte d B s
def E (r : Option Value) (s u : State) : Prop := XT.PureE (some (.int 0)) r s u
/-- an array as long as the number of chars: LATIN1 -/
theorem law (l : Launch) (d : Addr) (B : Cell) : Law l yN 2 2 0 0 yB 2 (some .byte) site (P d B) E [] 0 0 := by
  refine Law.of_walk (plainFor_of_name (by decide +kernel)) (by decide +kernel) (by decide +kernel) (by decide) (fun _ _ h => by rw [h.1]; rfl) (fun _ U U' hal hh h => ⟨h.1, h.2.mv hal hh⟩) (fun r U U' V V' h1 hal h2 h => XT.PureE.mv r U U' V V' h1 hal h2 h) ?_
  intro p e s m args below meth c s₁ X0 hexec hbytes hml hret hlk hnm hown hh0 W hP
  obtain ⟨rfl, hB⟩ := hP
  have hB0 := hB.mv X0.warmed.alike hh0
  have c1 : Steps p.tables e below (s₁.setTop (entryFrame m #[.ref d, .int (Int32.ofNat B.slots.size)] 2)) (s₁.setTop (mkF m 0 #[.val (.ref d), .val (.int (Int32.ofNat B.slots.size))] [])) := entry rfl
  have c2 : Steps p.tables e below (s₁.setTop (entryFrame m #[.ref d, .int (Int32.ofNat B.slots.size)] 2)) (s₁.setTop (mkF m 2 #[.val (.ref d), .val (.int (Int32.ofNat B.slots.size))] [.ref d, .int (Int32.ofNat B.slots.size)])) := c1.trans (by
    refine XS.iloadN X0.here hexec rfl (hb hbytes d0) rfl ?_
    refine XS.aloadN X0.here hexec rfl (hb hbytes d1) rfl rfl ?_
    exact Steps.refl _)
  have c3 : Steps p.tables e below (s₁.setTop (entryFrame m #[.ref d, .int (Int32.ofNat B.slots.size)] 2)) (s₁.setTop (mkF m 8 #[.val (.ref d), .val (.int (Int32.ofNat B.slots.size))] [.int (lo8 (ushr (Int32.ofNat B.slots.size - Int32.ofNat B.slots.size) 31))])) := c2.trans (by
    refine X0.alen hexec hB0 rfl rfl (hb hbytes d2) ?_
    refine XS.isub X0.here hexec rfl (hb hbytes d3) rfl ?_
    refine bipushV X0.here hexec rfl 31 (hb hbytes d4) (by decide) ?_
    refine iushr X0.here hexec rfl (hb hbytes d6) rfl ?_
    refine i2b X0.here hexec rfl (hb hbytes d7) rfl ?_
    exact Steps.refl _)
  have e0 : lo8 (ushr (Int32.ofNat B.slots.size - Int32.ofNat B.slots.size) 31) = 0 := by rw [Int32.sub_self]; decide
  rw [e0] at c3
  exact ⟨s₁, some (.int 0), _, _, _, X0, rfl, rfl, rfl, (fun h => by cases h), ⟨rfl, hh0⟩, fun fs hl => c3.trans (X0.ireturnOut hexec hret rfl (Or.inr (Or.inr (Or.inl rfl))) (hb hbytes d8) hl)⟩
end CodL
/-- the String at a is Latin-1 over a new byte[] (the heap's one new cell): the low bytes of the len chars of A from o on; every cell but a is kept -/
def Got (a : Addr) (D : Cell) (fV fC : Field) (A : Cell) (o len : Nat) (r : Option Value) (s u : State) : Prop := r = none ∧ ∃ D' V : Cell, Blank "java/lang/String" a D' u ∧ Same D D' [fV.slot, fC.slot] ∧ D'.slots[fV.slot]? = some (.ref s.heap.size) ∧ D'.slots[fC.slot]? = some (.int 0) ∧ Arr .byte s.heap.size V u ∧ V.vm = .none ∧ u.vm.findClass "[B" = some V.cls ∧ V.slots.size = len ∧ (∀ j, j < len → V.slots[j]? = some (.int (lo8 (cv A (o + j))))) ∧ (∀ (y : Addr) (c : Cell), y ≠ a → s.heap[y]? = some c → u.heap[y]? = some c) ∧ u.heap.size = s.heap.size + 1
theorem Got.mv {a : Addr} {D A : Cell} {fV fC : Field} {o len : Nat} : ∀ r (U U' V V' : State), U'.heap = U.heap → V.vm.Alike V'.vm → V'.heap = V.heap → Got a D fV fC A o len r U V → Got a D fV fC A o len r U' V' :=
  fun r U U' V V' h1 hal h2 ⟨e0, D', X, a1, a2, a3, a4, a5, a6, a7, a8, a9, a10, a11⟩ => ⟨e0, D', X, a1.mv hal h2, a2, by rw [h1]; exact a3, a4, by rw [h1]; exact a5.mv hal h2, a6, by rw [hal.findClass]; exact a7, a8, a9, by rw [h1, h2]; exact a10, by rw [h1, h2]; exact a11⟩
namespace New4
def yN : MethodName := ⟨"java/lang/String", "<init>", "([CIILjava/lang/Void;)V"⟩
abbrev yB : ByteArray := jdk_42_method_149_code
theorem d0 : decode yB 0 = .ok (.aload_n 0, 1) := by decide +kernel
theorem d1 : decode yB 1 = .ok (.invokespecial 1, 3) := by decide +kernel
theorem d4 : decode yB 4 = .ok (.iload_n 3, 1) := by decide +kernel
theorem d5 : decode yB 5 = .ok (.ifCond (.ne) 22, 3) := by decide +kernel
theorem d27 : decode yB 27 = .ok (.getstatic 38, 3) := by decide +kernel
theorem d30 : decode yB 30 = .ok (.ifCond (.eq) 28, 3) := by decide +kernel
theorem d33 : decode yB 33 = .ok (.aload_n 1, 1) := by decide +kernel
theorem d34 : decode yB 34 = .ok (.iload_n 2, 1) := by decide +kernel
theorem d35 : decode yB 35 = .ok (.iload_n 3, 1) := by decide +kernel
theorem d36 : decode yB 36 = .ok (.invokestatic 177, 3) := by decide +kernel
theorem d39 : decode yB 39 = .ok (.astore 5, 2) := by decide +kernel
theorem d41 : decode yB 41 = .ok (.aload_n 0, 1) := by decide +kernel
theorem d42 : decode yB 42 = .ok (.aload 5, 2) := by decide +kernel
theorem d44 : decode yB 44 = .ok (.iload_n 3, 1) := by decide +kernel
theorem d45 : decode yB 45 = .ok (.invokestatic 47, 3) := by decide +kernel
theorem d48 : decode yB 48 = .ok (.putfield 15, 3) := by decide +kernel
theorem d51 : decode yB 51 = .ok (.aload_n 0, 1) := by decide +kernel
theorem d52 : decode yB 52 = .ok (.aload 5, 2) := by decide +kernel
theorem d54 : decode yB 54 = .ok (.putfield 9, 3) := by decide +kernel
theorem d57 : decode yB 57 = .ok (.return_, 1) := by decide +kernel
def site : List Cond := [.fieldLink "java/lang/String" 38 "java/lang/String" "COMPACT_STRINGS" "Z", Cmp3.tab, CodL.tab, .laysFinal "java/lang/String" "java/lang/String" "value" "[B", .fieldLink "java/lang/String" 9 "java/lang/String" "value" "[B", .laysFinal "java/lang/String" "java/lang/String" "coder" "B", .fieldLink "java/lang/String" 15 "java/lang/String" "coder" "B"] ++ objW "java/lang/String" 1 ++ staticW "java/lang/String" 177 Cmp3.yN ++ staticW "java/lang/String" 47 CodL.yN
def tab : Cond := tabOf yN yB 6 none site
def P (a : Addr) (D : Cell) (fV fC : Field) (b : Addr) (A : Cell) (z : Int32) (o len : Nat) (args : Array Value) (s : State) : Prop := args = #[.ref a, .ref b, .int (Int32.ofNat o), .int (Int32.ofNat len), .null] ∧ Blank "java/lang/String" a D s ∧ Found "java/lang/String" "value" "[B" fV s ∧ Found "java/lang/String" "coder" "B" fC s ∧ Ch b A s ∧ StaticIs s "java/lang/String" "COMPACT_STRINGS" "Z" (.int z) ∧ ¬ z = 0 ∧ 0 < len ∧ o + len ≤ A.slots.size ∧ len ≤ 536870912 ∧ ∀ i, i < len → ¬ 255 < cv A (o + i)
def E (a : Addr) (D : Cell) (fV fC : Field) (A : Cell) (o len : Nat) (r : Option Value) (s u : State) : Prop := Got a D fV fC A o len r s u
/-- len > 0, no char of the range above 255: a Latin-1 String of their low bytes -/
theorem law (l : Launch) (a : Addr) (D : Cell) (fV fC : Field) (b : Addr) (A : Cell) (z : Int32) (o len : Nat) : Law l yN 5 4 2 35 yB 6 none site (P a D fV fC b A z o len) (E a D fV fC A o len) [⟨a, fC.slot⟩, ⟨a, fV.slot⟩] 1 len := by
  refine Law.of_walk (plainFor_of_name (by decide +kernel)) (by decide +kernel) (by decide +kernel) (by decide) (fun _ _ h => by rw [h.1]; rfl) (fun _ U U' hal hh h => ⟨h.1, h.2.1.mv hal hh, h.2.2.1.al hal, h.2.2.2.1.al hal, h.2.2.2.2.1.mv hal hh, h.2.2.2.2.2.1.there hal hh, h.2.2.2.2.2.2⟩) (fun r U U' V V' h1 hal h2 h => Got.mv r U U' V V' h1 hal h2 h) ?_
  intro p e s m args below meth c s₁ X0 hexec hbytes hml hret hlk hnm hown hh0 W hP
  obtain ⟨rfl, hB, f1, f2, hA, s1, hz, l0, l1, l2, hp⟩ := hP
  have a31 := hA.1.2.2.2
  have c1 : Steps p.tables e below (s₁.setTop (entryFrame m #[.ref a, .ref b, .int (Int32.ofNat o), .int (Int32.ofNat len), .null] 6)) (s₁.setTop (mkF m 0 #[.val (.ref a), .val (.ref b), .val (.int (Int32.ofNat o)), .val (.int (Int32.ofNat len)), .val .null, .unset] [])) := entry rfl
  have c2 : Steps p.tables e below (s₁.setTop (entryFrame m #[.ref a, .ref b, .int (Int32.ofNat o), .int (Int32.ofNat len), .null] 6)) (s₁.setTop (mkF m 1 #[.val (.ref a), .val (.ref b), .val (.int (Int32.ofNat o)), .val (.int (Int32.ofNat len)), .val .null, .unset] [.ref a])) := c1.trans (by
    refine XS.aloadN X0.here hexec rfl (hb hbytes d0) rfl rfl ?_
    exact Steps.refl _)
  obtain ⟨T3, X3, q3, st3⟩ := X0.oinit hexec hown (wks W (objW "java/lang/String" 1)) (g := (mkF m 1 #[.val (.ref a), .val (.ref b), .val (.int (Int32.ofNat o)), .val (.int (Int32.ofNat len)), .val .null, .unset] [.ref a])) rfl (by rw [hml]; rfl) (rest := []) rfl (hb hbytes d1) (W := 0) (by show 2 * 0 + 0 ≤ _; decide) (Nat.le_of_ble_eq_true rfl) (Nat.le_of_ble_eq_true rfl)
  have hh3 := q3.trans hh0
  have c4 : Steps p.tables e below (s₁.setTop (entryFrame m #[.ref a, .ref b, .int (Int32.ofNat o), .int (Int32.ofNat len), .null] 6)) (T3.setTop (mkF m 27 #[.val (.ref a), .val (.ref b), .val (.int (Int32.ofNat o)), .val (.int (Int32.ofNat len)), .val .null, .unset] [])) := (c2.trans (st3 _ (Steps.refl _))).trans (by
    refine XS.iloadN X3.here hexec rfl (hb hbytes d4) rfl ?_
    refine XS.ifYes X3.here hexec rfl (pc0 := 5) rfl (hb hbytes d5) rfl (i0_ne_t (nz32 (by omega) l0)) (by decide) rfl ?_
    exact Steps.refl _)
  obtain ⟨T5, X5, q5, st5⟩ := X3.sget hexec hown (wk W (.fieldLink "java/lang/String" 38 "java/lang/String" "COMPACT_STRINGS" "Z")) s1 (fun _ _ h => by rw [hh3]; exact h) (g := (mkF m 27 #[.val (.ref a), .val (.ref b), .val (.int (Int32.ofNat o)), .val (.int (Int32.ofNat len)), .val .null, .unset] [])) rfl (hb hbytes d27)
  have hh5 := q5.trans hh3
  have c6 : Steps p.tables e below (s₁.setTop (entryFrame m #[.ref a, .ref b, .int (Int32.ofNat o), .int (Int32.ofNat len), .null] 6)) (T5.setTop (mkF m 30 #[.val (.ref a), .val (.ref b), .val (.int (Int32.ofNat o)), .val (.int (Int32.ofNat len)), .val .null, .unset] [.int z])) := c4.trans (st5 _ (Steps.refl _))
  have c7 : Steps p.tables e below (s₁.setTop (entryFrame m #[.ref a, .ref b, .int (Int32.ofNat o), .int (Int32.ofNat len), .null] 6)) (T5.setTop (mkF m 36 #[.val (.ref a), .val (.ref b), .val (.int (Int32.ofNat o)), .val (.int (Int32.ofNat len)), .val .null, .unset] [.int (Int32.ofNat len), .int (Int32.ofNat o), .ref b])) := c6.trans (by
    refine XS.ifNo X5.here hexec rfl (hb hbytes d30) rfl (i0_eq_f hz) ?_
    refine XS.aloadN X5.here hexec rfl (hb hbytes d33) rfl rfl ?_
    refine XS.iloadN X5.here hexec rfl (hb hbytes d34) rfl ?_
    refine XS.iloadN X5.here hexec rfl (hb hbytes d35) rfl ?_
    exact Steps.refl _)
  obtain ⟨v8, T8, X8, E8, g8⟩ := X5.callS hexec (Cmp3.law l b A o len) hown (wks W (staticW "java/lang/String" 177 Cmp3.yN)) (wk W Cmp3.tab) (W := 0) (Nat.le_of_ble_eq_true rfl) (Nat.le_of_ble_eq_true rfl) (Nat.le_refl _) (by show 0 + len ≤ len; omega) (g := (mkF m 36 #[.val (.ref a), .val (.ref b), .val (.int (Int32.ofNat o)), .val (.int (Int32.ofNat len)), .val .null, .unset] [.int (Int32.ofNat len), .int (Int32.ofNat o), .ref b])) rfl (by rw [hml]; rfl) c7 (argsL := [.ref b, .int (Int32.ofNat o), .int (Int32.ofNat len)]) (rest := []) rfl rfl (by show 2 * 0 + 0 ≤ _; decide) (hb hbytes d36) (⟨rfl, hA.mv X5.warmed.alike hh5, l1, l2, hp⟩)
  obtain ⟨e8, z8⟩ := E8
  obtain ⟨rfl, N, n1, n2, n3, n4, n5, n6⟩ := NewArr.mv _ T5 s _ _ hh5.symm (Vm.Alike.refl _) rfl e8
  rw [hh5] at z8
  have hB1 := hB.keep X8.warmed.alike (n6 _ _ hB.1)
  have hne : s.heap.size ≠ a := (Nat.ne_of_lt (Array.getElem?_eq_some_iff.mp hB.1).1).symm
  have c9 : Steps p.tables e below (s₁.setTop (entryFrame m #[.ref a, .ref b, .int (Int32.ofNat o), .int (Int32.ofNat len), .null] 6)) (T8.setTop (mkF m 39 #[.val (.ref a), .val (.ref b), .val (.int (Int32.ofNat o)), .val (.int (Int32.ofNat len)), .val .null, .unset] [.ref s.heap.size])) := g8
  have c10 : Steps p.tables e below (s₁.setTop (entryFrame m #[.ref a, .ref b, .int (Int32.ofNat o), .int (Int32.ofNat len), .null] 6)) (T8.setTop (mkF m 45 #[.val (.ref a), .val (.ref b), .val (.int (Int32.ofNat o)), .val (.int (Int32.ofNat len)), .val .null, .val (.ref s.heap.size)] [.int (Int32.ofNat N.slots.size), .ref s.heap.size, .ref a])) := by
    have hc : Steps p.tables e below (s₁.setTop (entryFrame m #[.ref a, .ref b, .int (Int32.ofNat o), .int (Int32.ofNat len), .null] 6)) (T8.setTop (mkF m 45 #[.val (.ref a), .val (.ref b), .val (.int (Int32.ofNat o)), .val (.int (Int32.ofNat len)), .val .null, .val (.ref s.heap.size)] [.int (Int32.ofNat len), .ref s.heap.size, .ref a])) := c9.trans (by
      refine XS.astore X8.here hexec rfl (hb hbytes d39) rfl rfl rfl ?_
      refine XS.aloadN X8.here hexec rfl (hb hbytes d41) rfl rfl ?_
      refine XS.aload X8.here hexec rfl (hb hbytes d42) rfl rfl ?_
      refine XS.iloadN X8.here hexec rfl (hb hbytes d44) rfl ?_
      exact Steps.refl _)
    rw [n4]; exact hc
  obtain ⟨v11, T11, X11, E11, g11⟩ := X8.callS hexec (CodL.law l s.heap.size N) hown (wks W (staticW "java/lang/String" 47 CodL.yN)) (wk W CodL.tab) (W := 1) (Nat.le_of_ble_eq_true rfl) (Nat.le_of_ble_eq_true rfl) (Nat.le_refl _) (by show 0 + len + 0 ≤ len; omega) (g := (mkF m 45 #[.val (.ref a), .val (.ref b), .val (.int (Int32.ofNat o)), .val (.int (Int32.ofNat len)), .val .null, .val (.ref s.heap.size)] [.int (Int32.ofNat N.slots.size), .ref s.heap.size, .ref a])) rfl (by rw [hml]; rfl) c10 (argsL := [.ref s.heap.size, .int (Int32.ofNat N.slots.size)]) (rest := [.ref a]) rfl rfl (by show 2 * 0 + (1 + 0) ≤ _; decide) (hb hbytes d45) (⟨rfl, n1⟩)
  obtain ⟨rfl, q11⟩ := E11
  have hB11 := hB1.mv (X8.warmed.alike.symm.trans X11.warmed.alike) q11
  have c12 : Steps p.tables e below (s₁.setTop (entryFrame m #[.ref a, .ref b, .int (Int32.ofNat o), .int (Int32.ofNat len), .null] 6)) (T11.setTop (mkF m 48 #[.val (.ref a), .val (.ref b), .val (.int (Int32.ofNat o)), .val (.int (Int32.ofNat len)), .val .null, .val (.ref s.heap.size)] [.int 0, .ref a])) := g11
  obtain ⟨T13, X13, p13, bl13, sl13, st13⟩ := X11.finit hexec hown (wk W (.fieldLink "java/lang/String" 15 "java/lang/String" "coder" "B")) (Or.inr ⟨_, (wk W (.laysFinal "java/lang/String" "java/lang/String" "coder" "B"))⟩) (Or.inl ⟨rfl, hnm⟩) f2 (Or.inl rfl) hB11 (t := .byte) (by decide +kernel) rfl (g := (mkF m 48 #[.val (.ref a), .val (.ref b), .val (.int (Int32.ofNat o)), .val (.int (Int32.ofNat len)), .val .null, .val (.ref s.heap.size)] [.int 0, .ref a])) rfl (rest := []) rfl (hb hbytes d48)
  have c14 : Steps p.tables e below (s₁.setTop (entryFrame m #[.ref a, .ref b, .int (Int32.ofNat o), .int (Int32.ofNat len), .null] 6)) (T13.setTop (mkF m 54 #[.val (.ref a), .val (.ref b), .val (.int (Int32.ofNat o)), .val (.int (Int32.ofNat len)), .val .null, .val (.ref s.heap.size)] [.ref s.heap.size, .ref a])) := (c12.trans (st13 _ (Steps.refl _))).trans (by
    refine XS.aloadN X13.here hexec rfl (hb hbytes d51) rfl rfl ?_
    refine XS.aload X13.here hexec rfl (hb hbytes d52) rfl rfl ?_
    exact Steps.refl _)
  obtain ⟨T15, X15, p15, bl15, sl15, st15⟩ := X13.finit hexec hown (wk W (.fieldLink "java/lang/String" 9 "java/lang/String" "value" "[B")) (Or.inr ⟨_, (wk W (.laysFinal "java/lang/String" "java/lang/String" "value" "[B"))⟩) (Or.inl ⟨rfl, hnm⟩) f1 (Or.inl rfl) bl13 (t := (.array .byte)) (by decide +kernel) rfl (g := (mkF m 54 #[.val (.ref a), .val (.ref b), .val (.int (Int32.ofNat o)), .val (.int (Int32.ofNat len)), .val .null, .val (.ref s.heap.size)] [.ref s.heap.size, .ref a])) rfl (rest := []) rfl (hb hbytes d54)
  have c16 : Steps p.tables e below (s₁.setTop (entryFrame m #[.ref a, .ref b, .int (Int32.ofNat o), .int (Int32.ofNat len), .null] 6)) (T15.setTop (mkF m 57 #[.val (.ref a), .val (.ref b), .val (.int (Int32.ofNat o)), .val (.int (Int32.ofNat len)), .val .null, .val (.ref s.heap.size)] [])) := c14.trans (st15 _ (Steps.refl _))
  have ap := apart (Or.inr ⟨_, (wk W (.laysFinal "java/lang/String" "java/lang/String" "value" "[B"))⟩) (Or.inr ⟨_, (wk W (.laysFinal "java/lang/String" "java/lang/String" "coder" "B"))⟩) f1 f2 (t₁ := .array .byte) (t₂ := .byte) (by decide +kernel) (by decide +kernel) (by decide)
  have al := X8.warmed.alike.symm.trans X15.warmed.alike
  have n7 : T11.heap[s.heap.size]? = some N := by rw [q11]; exact n1.1
  exact ⟨T15, none, _, _, _, X15, by simp, rfl, by omega, (fun _ => rfl), ⟨rfl, _, N, bl15, ((Same.refl D _).set _ (by simp)).set _ (by simp), sl15, (Cell.slots_setSlot_ne _ ap).trans sl13, n1.keep al (p15.other hne (p13.other hne n7)), n2, by rw [al.findClass]; exact n3, n4, n5, fun y c h1 h2 => p15.other h1 (p13.other h1 (by rw [q11]; exact n6 y c h2)), by rw [p15.2.2, p13.2.2, q11]; exact z8⟩, fun fs hl => c16.trans (X15.returnOut hexec hret (hb hbytes d57) hl)⟩
end New4
namespace New1
def yN : MethodName := ⟨"java/lang/String", "<init>", "([C)V"⟩
abbrev yB : ByteArray := jdk_42_method_3_code
theorem d0 : decode yB 0 = .ok (.aload_n 0, 1) := by decide +kernel
theorem d1 : decode yB 1 = .ok (.aload_n 1, 1) := by decide +kernel
theorem d2 : decode yB 2 = .ok (.iconst 0, 1) := by decide +kernel
theorem d3 : decode yB 3 = .ok (.aload_n 1, 1) := by decide +kernel
theorem d4 : decode yB 4 = .ok (.arraylength, 1) := by decide +kernel
theorem d5 : decode yB 5 = .ok (.aconst_null, 1) := by decide +kernel
theorem d6 : decode yB 6 = .ok (.invokespecial 27, 3) := by decide +kernel
theorem d9 : decode yB 9 = .ok (.return_, 1) := by decide +kernel
def site : List Cond := [New4.tab] ++ initW "java/lang/String" 27 New4.yN
def tab : Cond := tabOf yN yB 2 none site
def P (a : Addr) (D : Cell) (fV fC : Field) (b : Addr) (A : Cell) (z : Int32) (args : Array Value) (s : State) : Prop := args = #[.ref a, .ref b] ∧ Blank "java/lang/String" a D s ∧ Found "java/lang/String" "value" "[B" fV s ∧ Found "java/lang/String" "coder" "B" fC s ∧ Ch b A s ∧ StaticIs s "java/lang/String" "COMPACT_STRINGS" "Z" (.int z) ∧ ¬ z = 0 ∧ 0 < A.slots.size ∧ A.slots.size ≤ 536870912 ∧ ∀ i, i < A.slots.size → ¬ 255 < cv A i
def E (a : Addr) (D : Cell) (fV fC : Field) (A : Cell) (r : Option Value) (s u : State) : Prop := Got a D fV fC A 0 A.slots.size r s u
/-- new String(chars), not empty, no char above 255: a Latin-1 String of their low bytes -/
theorem law (l : Launch) (a : Addr) (D : Cell) (fV fC : Field) (b : Addr) (A : Cell) (z : Int32) : Law l yN 2 1 3 52 yB 2 none site (P a D fV fC b A z) (E a D fV fC A) [⟨a, fC.slot⟩, ⟨a, fV.slot⟩] 1 A.slots.size := by
  refine Law.of_walk (plainFor_of_name (by decide +kernel)) (by decide +kernel) (by decide +kernel) (by decide) (fun _ _ h => by rw [h.1]; rfl) (fun _ U U' hal hh h => ⟨h.1, h.2.1.mv hal hh, h.2.2.1.al hal, h.2.2.2.1.al hal, h.2.2.2.2.1.mv hal hh, h.2.2.2.2.2.1.there hal hh, h.2.2.2.2.2.2⟩) (fun r U U' V V' h1 hal h2 h => Got.mv r U U' V V' h1 hal h2 h) ?_
  intro p e s m args below meth c s₁ X0 hexec hbytes hml hret hlk hnm hown hh0 W hP
  obtain ⟨rfl, hB, f1, f2, hA, s1, hz, l0, l2, hp⟩ := hP
  have c1 : Steps p.tables e below (s₁.setTop (entryFrame m #[.ref a, .ref b] 2)) (s₁.setTop (mkF m 0 #[.val (.ref a), .val (.ref b)] [])) := entry rfl
  have c2 : Steps p.tables e below (s₁.setTop (entryFrame m #[.ref a, .ref b] 2)) (s₁.setTop (mkF m 6 #[.val (.ref a), .val (.ref b)] [.null, .int (Int32.ofNat A.slots.size), .int 0, .ref b, .ref a])) := c1.trans (by
    refine XS.aloadN X0.here hexec rfl (hb hbytes d0) rfl rfl ?_
    refine XS.aloadN X0.here hexec rfl (hb hbytes d1) rfl rfl ?_
    refine iconstV X0.here hexec rfl 0 (hb hbytes d2) (by decide) ?_
    refine XS.aloadN X0.here hexec rfl (hb hbytes d3) rfl rfl ?_
    refine X0.alen hexec (hA.1.mv X0.warmed.alike hh0) rfl rfl (hb hbytes d4) ?_
    refine XS.aconstNull X0.here hexec rfl (hb hbytes d5) ?_
    exact Steps.refl _)
  obtain ⟨v3, T3, X3, E3, g3⟩ := X0.callN hexec (New4.law l a D fV fC b A z 0 A.slots.size) rfl hown (wks W (initW "java/lang/String" 27 New4.yN)) (W New4.tab (by simp only [site, List.mem_cons, List.mem_append, true_or, or_true])) (W := 0) (Nat.le_of_ble_eq_true rfl) (Nat.le_of_ble_eq_true rfl) (Nat.le_refl _) (by show 0 + A.slots.size ≤ A.slots.size; omega) (g := (mkF m 6 #[.val (.ref a), .val (.ref b)] [.null, .int (Int32.ofNat A.slots.size), .int (Int32.ofNat 0), .ref b, .ref a])) rfl (by rw [hml]; rfl) c2 (argsL := [.ref b, .int (Int32.ofNat 0), .int (Int32.ofNat A.slots.size), .null]) (rest := []) rfl rfl (by show 2 * 0 + 0 ≤ _; decide) (hb hbytes d6) (⟨rfl, hB.mv X0.warmed.alike hh0, f1.al X0.warmed.alike, f2.al X0.warmed.alike, hA.mv X0.warmed.alike hh0, s1.there X0.warmed.alike hh0, hz, l0, by omega, l2, fun i hi => by rw [Nat.zero_add]; exact hp i hi⟩)
  have e0 := Got.mv _ s₁ s _ _ hh0.symm (Vm.Alike.refl _) rfl E3
  obtain rfl := e0.1
  have c4 : Steps p.tables e below (s₁.setTop (entryFrame m #[.ref a, .ref b] 2)) (T3.setTop (mkF m 9 #[.val (.ref a), .val (.ref b)] [])) := g3
  exact ⟨T3, none, _, _, _, X3, by simp, rfl, by omega, (fun _ => rfl), e0, fun fs hl => c4.trans (X3.returnOut hexec hret (hb hbytes d9) hl)⟩
theorem pays {l : Launch} {R : Room} {p : Program} {e : Env} {below : List Frame} {s : State} {sargs : Array Value} {len W : Nat} (a : Addr) (D : Cell) (fV fC : Field) (b : Addr) (A : Cell) (z : Int32) (htab : tab.before sargs s = true) (hfr : 4 ≤ R.frames) (hlo : W + 65 ≤ R.locals) :
    Back l R p e below s sargs yN len W (fun A₁ a₁ => A₁.cells + 1 ≤ R.cells ∧ A₁.slots + A.slots.size ≤ R.slots ∧ P a D fV fC b A z a₁ A₁.U) (fun A₁ _ v₁ B₁ => E a D fV fC A v₁ A₁.U B₁.U ∧ B₁.locs = A₁.locs ++ [⟨a, fC.slot⟩, ⟨a, fV.slot⟩] ∧ B₁.cells = A₁.cells + 1 ∧ B₁.slots = A₁.slots + A.slots.size) :=
  (law l a D fV fC b A z).pays htab hfr (by omega)
end New1
end StrChars
namespace StrChars.Road
open Jvm Sem ClassFile Op Lib Jvm.Stand Jvm.Free Jvm.Free.XT
open Jvm.Lib.Cold (StaticIs)
abbrev ST : String := "java/lang/String"
/-- every table word that New1's law asks, flat -/
abbrev words : List Jvm.Cond := [.code New1.yN New1.yB 2 none, .initialized ST, .methodLink ST 27 New4.yN, .instanceMethod New4.yN,
  .code New4.yN New4.yB 6 none, .fieldLink ST 38 ST "COMPACT_STRINGS" "Z", .laysFinal ST ST "value" "[B", .fieldLink ST 9 ST "value" "[B", .laysFinal ST ST "coder" "B", .fieldLink ST 15 ST "coder" "B",
  .methodLink ST 1 Lib.objectInit, .instanceMethod Lib.objectInit, .code Lib.objectInit ⟨#[0xb1]⟩ 1 none, .methodLink ST 177 Cmp3.yN, .static Cmp3.yN, .methodLink ST 47 CodL.yN, .static CodL.yN,
  .code Cmp3.yN Cmp3.yB 6 (some (.array .byte)), .initialized U16, .arrayClass .byte, .methodLink U16 115 Cmp5.yN, .static Cmp5.yN, .code Cmp5.yN Cmp5.yB 7 (some .int), .code CodL.yN CodL.yB 2 (some .byte)]
theorem tab_of {a : Array Value} {s : State} (h : ∀ w ∈ words, w.before a s = true) : New1.tab.before a s = true := by
  have h5 : Cmp5.tab.before a s = true := unparts (wk h (.code Cmp5.yN Cmp5.yB 7 (some .int))) (wks h (.initialized Cmp5.yN.cls :: Cmp5.site))
  have hc : CodL.tab.before a s = true := unparts (wk h (.code CodL.yN CodL.yB 2 (some .byte))) (wks h (.initialized CodL.yN.cls :: CodL.site))
  have q5 : ∀ w ∈ Cmp5.tab :: words, w.before a s = true := fun w hw => (List.mem_cons.mp hw).elim (fun e => e ▸ h5) (h w)
  have h3 : Cmp3.tab.before a s = true := unparts (wk q5 (.code Cmp3.yN Cmp3.yB 6 (some (.array .byte)))) (wks q5 (.initialized Cmp3.yN.cls :: Cmp3.site))
  have q3 : ∀ w ∈ Cmp3.tab :: CodL.tab :: words, w.before a s = true := fun w hw => (List.mem_cons.mp hw).elim (fun e => e ▸ h3) fun hw => (List.mem_cons.mp hw).elim (fun e => e ▸ hc) (h w)
  have h4 : New4.tab.before a s = true := unparts (wk q3 (.code New4.yN New4.yB 6 none)) (wks q3 (.initialized New4.yN.cls :: New4.site))
  have q4 : ∀ w ∈ New4.tab :: words, w.before a s = true := fun w hw => (List.mem_cons.mp hw).elim (fun e => e ▸ h4) (h w)
  exact unparts (wk q4 (.code New1.yN New1.yB 2 none)) (wks q4 (.initialized New1.yN.cls :: New1.site))
/-- the words ride from the start Z to the walk's own state -/
theorem moved {Z s : State} {a0 args : Array Value} (hZ : Z.Warmed39 s.vm) (hw : ∀ d ∈ words, d.before a0 Z = true) : ∀ d ∈ words, d.before args s = true := fun d hd => by
  have q := hw d hd
  have t : ∀ d ∈ words, d = .arrayClass .byte ∨ (d.onTables && d.keepsFace) = true := by decide +kernel
  rcases t d hd with rfl | t
  · exact RoadKit.mvA hZ q
  · exact RoadKit.mv hZ q t
/-- WHAT COMES BACK, over the tables of the start Z: h the heap at the call, h' behind it -/
def Q (Z : State) (x : Addr) (A : Cell) (h : Heap) (v : Option Value) (h' : Heap) (L : List Loc) : Prop := v = none ∧ (∀ y ∈ L, y.base = x) ∧ RoadKit.Keep h h' [x] ∧ h'.size = h.size + 1 ∧ RoadKit.Exa Z h' x ST ∧ RoadKit.Fld Z h' x ST "value" "[B" (.ref h.size) ∧ RoadKit.Fld Z h' x ST "coder" "B" (.int 0) ∧
  (∃ V : Cell, RoadKit.Arr Z h' h.size V .byte ∧ V.vm = .none ∧ Z.vm.findClass "[B" = some V.cls ∧ V.slots.size = A.slots.size ∧ ∀ j, j < A.slots.size → V.slots[j]? = some (.int (lo8 (cv A j)))) ∧
  ∀ (O n d : String) (w : Value), RoadKit.Fld Z h x O n d w → RoadKit.slotOf Z O n d ≠ RoadKit.slotOf Z ST "value" "[B" → RoadKit.slotOf Z O n d ≠ RoadKit.slotOf Z ST "coder" "B" → RoadKit.Fld Z h' x O n d w
/-- **new String(chars) AT A CALL, IN THE ROAD'S FORM**: for specialBack behind newO: x the fresh String, b the char[] with the cell A -/
theorem back {p : Program} {l : Launch} {e : Env} {R : Room} {s : State} {args : Array Value} {below : List Frame} {len W : Nat} {Z : State} {a0 : Array Value} {h : Heap} (hZ : Z.Warmed39 s.vm) (hw : ∀ d ∈ words, d.before a0 Z = true) {kI : Nat} (wi : (Jvm.Cond.instantiable ST kI).before a0 Z = true)
    {x b : Addr} {A : Cell} {z : Int32} {v0 c0 : Value} (E : RoadKit.Exa Z h x ST) (V : RoadKit.Fld Z h x ST "value" "[B" v0) (C : RoadKit.Fld Z h x ST "coder" "B" c0) (K : RoadKit.Arr Z h b A .char) (hty : Typed .char A) (S : RoadKit.Sta Z h ST "COMPACT_STRINGS" "Z" (.int z)) (hz : ¬ z = 0)
    (l0 : 0 < A.slots.size) (l2 : A.slots.size ≤ 536870912) (hp : ∀ i, i < A.slots.size → ¬ 255 < cv A i) (hfr : 4 ≤ R.frames) (hlo : W + 65 ≤ R.locals) :
    Back l R p e below s args New1.yN len W (fun P a => a = #[.ref x, .ref b] ∧ P.U.heap = h ∧ P.cells + 1 ≤ R.cells ∧ P.slots + A.slots.size ≤ R.slots)
      (fun P _ v B => ∃ L, Q Z x A h v B.U.heap L ∧ B.locs = P.locs ++ L ∧ B.cells = P.cells + 1 ∧ B.slots = P.slots + A.slots.size) := by
  intro m meth c P g ig mk a X hg hsize hdg hW hn hp'
  obtain ⟨rfl, rfl, r1, r2⟩ := hp'
  have al : Z.vm.Alike P.U.vm := hZ.alike.trans X.warmed.alike
  obtain ⟨D, cfV, kV, iV, fV, hD, gV, stV, knV, obV, asV, slV⟩ := id V
  obtain ⟨D', cfC, kC, iC, fC, hD', gC, stC, -, -, asC, slC⟩ := id C
  cases hD.symm.trans hD'
  obtain ⟨D2, kD, e1, e2, e3, e4, e5⟩ := id E
  cases hD.symm.trans e1
  obtain ⟨c2, k2, i1, i2, i3, -⟩ := Cond.instantiable_spec wi
  cases e2.symm.trans i1
  cases e3.symm.trans i2
  obtain ⟨kU, u1, u2⟩ := al.2.2 _ _ e3
  have hB : Blank ST x D P.U := ⟨hD, ⟨knV, fun q hq => by rw [hq] at obV; cases obV⟩, by rw [al.findClass]; exact e2, kU, u1, by rw [u2]; exact i3, by rw [u2]; exact e5 i3⟩
  have F1 : Found ST "value" "[B" fV P.U := ⟨SBG.found_only al ⟨cfV, kV, iV, gV⟩, stV⟩
  have F2 : Found ST "coder" "B" fC P.U := ⟨SBG.found_only al ⟨cfC, kC, iC, gC⟩, stC⟩
  have hA : Ch b A P.U := ⟨⟨K.1, State.isArrayOf_alike al K.2.1, K.2.2, by omega⟩, hty⟩
  have hS : StaticIs P.U ST "COMPACT_STRINGS" "Z" (.int z) := by
    obtain ⟨cfS, iS, kS, fS, st, cS, t1, t2, t3, t4, t5, t6, t7⟩ := S
    exact StaticIs.there (s := { Z with heap := P.U.heap }) ⟨cfS, iS, kS, fS, st, cS, t1, t2, t3, t4, t5, (fun q => by rw [q] at t6; cases t6), t7⟩ al rfl
  obtain ⟨v, B, X', ⟨⟨hv, E', V', q1, q2, q3, q4, q5, q6, q7, q8, q9, q10, q11⟩, hl, hc, hs⟩, st⟩ := New1.pays x D fV fC b A z (tab_of (moved hZ hw)) hfr hlo m meth c P g ig mk _ X hg hsize hdg hW hn ⟨r1, r2, rfl, hB, F1, F2, hA, hS, hz, l0, l2, hp⟩
  have al' : Z.vm.Alike B.U.vm := hZ.alike.trans X'.warmed.alike
  have hsz : E'.slots.size = D.slots.size := by
    obtain ⟨-, -, -, kB, w1, w2, w3⟩ := q1
    obtain ⟨kB', y1, y2⟩ := al'.2.2 _ _ e3
    rw [q2.2.1] at w1
    cases w1.symm.trans y1
    rw [w3, e5 i3, y2]
  refine ⟨v, B, X', ⟨_, ⟨hv, ?_, ⟨by omega, fun y cy hy hn' => q10 y cy (by simpa using hn') hy, fun y cy hy => ?_⟩, q11, ⟨E', _, q1.1, by rw [q2.2.1]; exact e2, by rw [q2.2.1]; exact e3, by rw [q2.1]; exact obV, fun _ => by rw [hsz]; exact e5 i3⟩,
    ⟨E', cfV, kV, iV, fV, q1.1, gV, stV, by rw [q2.1]; exact knV, by rw [q2.1]; exact obV, by rw [q2.2.1]; exact asV, q3⟩, ⟨E', cfC, kC, iC, fC, q1.1, gC, stC, by rw [q2.1]; exact knV, by rw [q2.1]; exact obV, by rw [q2.2.1]; exact asC, q4⟩,
    ⟨V', ⟨q5.1, State.isArrayOf_alike al'.symm q5.2.1, q5.2.2.1⟩, q6, by rw [← al'.findClass]; exact q7, q8, fun j hj => by have := q9 j hj; rwa [Nat.zero_add] at this⟩, fun O n d w F n1 n2 => ?_⟩, hl, hc, hs⟩, st⟩
  · intro y hy
    simp only [List.mem_cons, List.not_mem_nil, or_false] at hy
    rcases hy with rfl | rfl <;> rfl
  · by_cases q : y = x
    · subst q
      cases hD.symm.trans hy
      exact ⟨E', q1.1, q2.2.1, q2.1, hsz⟩
    · exact ⟨cy, q10 y cy q hy, rfl, rfl, rfl⟩
  · obtain ⟨D3, cf, k, i, f, g1, g2, g3, g4, g5, g6, g7⟩ := F
    cases hD.symm.trans g1
    simp only [RoadKit.slotOf, g2, gV, gC, Option.map_some, Option.getD_some] at n1 n2
    exact ⟨E', cf, k, i, f, q1.1, g2, g3, by rw [q2.1]; exact g4, by rw [q2.1]; exact g5, by rw [q2.2.1]; exact g6, by rw [q2.2.2 f.slot (by simp [n1, n2])]; exact g7⟩
end StrChars.Road
namespace StrChars.Road
open Jvm Sem ClassFile Op Lib Jvm.Stand Jvm.Free Jvm.Free.XT
/-- WHAT COMES BACK, the byte[] as a list of values -/
def QA (Z : State) (x : Addr) (zn : Int32) (cs : List Int32) (h : Heap) (v : Option Value) (h' : Heap) (L : List Loc) : Prop := v = none ∧ (∀ y ∈ L, y.base = x) ∧ RoadKit.Keep h h' [x] ∧ h'.size = h.size + 1 ∧ RoadKit.Exa Z h' x ST ∧ RoadKit.Fld Z h' x ST "value" "[B" (.ref h.size) ∧ RoadKit.Fld Z h' x ST "coder" "B" (.int 0) ∧
  (∃ kb, Z.vm.findClass "[B" = some kb ∧ RoadKit.Arv Z h' h.size kb .byte zn (cs.map fun c => .int (lo8 c)) (.int 0)) ∧
  ∀ (O n d : String) (w : Value), RoadKit.Fld Z h x O n d w → RoadKit.slotOf Z O n d ≠ RoadKit.slotOf Z ST "value" "[B" → RoadKit.slotOf Z O n d ≠ RoadKit.slotOf Z ST "coder" "B" → RoadKit.Fld Z h' x O n d w
/-- **new String(chars) AT A CALL, THE ARRAYS AS LISTS**: the char[] at b holds cs, not empty, no char above 255 -/
theorem backArv {p : Program} {l : Launch} {e : Env} {R : Room} {s : State} {args : Array Value} {below : List Frame} {len W : Nat} {Z : State} {a0 : Array Value} {h : Heap} (hZ : Z.Warmed39 s.vm) (hw : ∀ d ∈ words, d.before a0 Z = true) {kI : Nat} (wi : (Jvm.Cond.instantiable ST kI).before a0 Z = true)
    {x b : Addr} {k : ClassId} {zn z : Int32} {cs : List Int32} {dv v0 c0 : Value} (E : RoadKit.Exa Z h x ST) (V : RoadKit.Fld Z h x ST "value" "[B" v0) (C : RoadKit.Fld Z h x ST "coder" "B" c0) (K : RoadKit.Arv Z h b k .char zn (cs.map Value.int) dv) (S : RoadKit.Sta Z h ST "COMPACT_STRINGS" "Z" (.int z)) (hz : ¬ z = 0)
    (hlen : zn.toNatClampNeg = cs.length) (h0 : 0 < cs.length) (hbig : cs.length ≤ 536870912) (hall : ∀ c ∈ cs, ¬ 255 < c) (hfr : 4 ≤ R.frames) (hlo : W + 65 ≤ R.locals) :
    Back l R p e below s args New1.yN len W (fun P a => a = #[.ref x, .ref b] ∧ P.U.heap = h ∧ P.cells + 1 ≤ R.cells ∧ P.slots + cs.length ≤ R.slots)
      (fun P _ v B => ∃ L, QA Z x zn cs h v B.U.heap L ∧ B.locs = P.locs ++ L ∧ B.cells = P.cells + 1 ∧ B.slots = P.slots + cs.length) := by
  obtain ⟨A, K1, K2, K3, K4, K5, K6⟩ := K
  have e : A.slots.size = cs.length := K3.trans hlen
  have hat : ∀ (i : Nat) (hi : i < cs.length), A.slots[i]? = some (.int cs[i]) := fun i hi => by rw [K5 i (by omega)]; simp [List.getD_eq_getElem?_getD, hi]
  have hcv : ∀ (i : Nat) (hi : i < cs.length), cv A i = cs[i] := fun i hi => by unfold cv; rw [hat i hi]
  have hty : Typed .char A := fun i v hv => by
    have hi : i < A.slots.size := (Array.getElem?_eq_some_iff.mp hv).1
    have q := K5 i hi
    rw [hv] at q
    rw [Option.some.inj q]
    exact K6 i hi
  refine Back.mono (back hZ hw wi E V C K1 hty S hz (by omega) (by omega) (fun i hi => by rw [hcv i (by omega)]; exact hall _ (List.getElem_mem _)) hfr hlo) (fun P a hp => ⟨hp.1, hp.2.1, hp.2.2.1, by rw [e]; exact hp.2.2.2⟩) (fun P a v B hp hq => ?_)
  obtain ⟨L, ⟨q1, q2, q3, q4, q5, q6, q7, ⟨V', v1, v2, v3, v4, v5⟩, q9⟩, hl, hc, hs⟩ := hq
  refine ⟨L, ⟨q1, q2, q3, q4, q5, q6, q7, ⟨V'.cls, v3, V', v1, rfl, by rw [v4, e, hlen], K4, fun i hi => ?_, fun i hi => ?_⟩, q9⟩, hl, hc, by rw [hs, e]⟩
  · have hi' : i < cs.length := by omega
    rw [v5 i (by omega), hcv i hi']; simp [List.getD_eq_getElem?_getD, hi']
  · have hi' : i < cs.length := by omega
    simp only [List.getD_eq_getElem?_getD, List.getElem?_map, List.getElem?_eq_getElem hi', Option.map_some, Option.getD_some]
    exact fits_lo8 _
end StrChars.Road
namespace StrChars.Road
open Jvm Sem ClassFile Op Lib Jvm.Stand Jvm.Free Jvm.Free.XT
/-- WHAT COMES BACK, in the writer's own shape -/
def QV (Z : State) (x : Addr) (N : Int32) (bs : List Int32) (h : Heap) (n0 : Nat) (v : Option Value) (h' : Heap) (L : List Loc) : Prop := v = none ∧ RoadKit.Fr n0 L ∧ RoadKit.Keep h h' [x] ∧ RoadKit.Exa Z h' x ST ∧ RoadKit.Fld Z h' x ST "coder" "B" (.int 0) ∧
  ∃ (t : Addr) (kb : ClassId), n0 ≤ t ∧ h.size ≤ t ∧ ¬ t = x ∧ RoadKit.Fld Z h' x ST "value" "[B" (.ref t) ∧ RoadKit.Arv Z h' t kb .byte N (bs.map Value.int) (.int 0)
/-- **new String(chars) AT A CALL, FOR THE WRITER**: a char[] of n known ints, each 0 to 255 -/
theorem backV {p : Program} {l : Launch} {e : Env} {R : Room} {s : State} {args : Array Value} {below : List Frame} {len W : Nat} {Z : State} {a0 : Array Value} {h : Heap} (hZ : Z.Warmed39 s.vm) (hw : ∀ d ∈ words, d.before a0 Z = true) {kI : Nat} (wi : (Jvm.Cond.instantiable ST kI).before a0 Z = true)
    {x b : Addr} {kC : ClassId} {cs bs : List Int32} {d v0 c0 : Value} {z N : Int32} {n n0 : Nat} (hx0 : n0 ≤ x) (hh0 : n0 ≤ h.size) (E : RoadKit.Exa Z h x ST) (V : RoadKit.Fld Z h x ST "value" "[B" v0) (C : RoadKit.Fld Z h x ST "coder" "B" c0) (K : RoadKit.Arv Z h b kC .char N (cs.map Value.int) d) (S : RoadKit.Sta Z h ST "COMPACT_STRINGS" "Z" (.int z)) (hz : ¬ z = 0)
    (hn : cs.length = n) (hN : N = Int32.ofNat n) (l0 : 0 < n) (l2 : n ≤ 4000) (hp : ∀ c ∈ cs, ¬ c < 0 ∧ ¬ (255 : Int32) < c) (hb : bs = cs.map (fun c => c.toInt8.toInt32)) (hfr : 4 ≤ R.frames) (hlo : W + 65 ≤ R.locals) :
    Back l R p e below s args (⟨"java/lang/String", "<init>", "([C)V"⟩ : MethodName) len W (fun P a => a = #[.ref x, .ref b] ∧ P.U.heap = h ∧ P.cells + 1 ≤ R.cells ∧ P.slots + n ≤ R.slots)
      (fun P _ v B => ∃ L, QV Z x N bs h n0 v B.U.heap L ∧ B.locs = P.locs ++ L ∧ B.cells = P.cells + 1 ∧ B.slots = P.slots + n) := by
  subst hn hN hb
  refine Back.mono (backArv hZ hw wi E V C K S hz (n32 (by omega)) l0 (by omega) (fun c hc => (hp c hc).2) hfr hlo) (fun P a hp => hp) (fun P a v B hp hq => ?_)
  obtain ⟨L, ⟨q1, q2, q3, q4, q5, q6, q7, ⟨kb, v1, v2⟩, q9⟩, hl, hc, hs⟩ := hq
  exact ⟨L, ⟨q1, fun y hy => by rw [q2 y hy]; exact hx0, q3, q5, q7, h.size, kb, hh0, Nat.le_refl _, Nat.ne_of_gt E.lt, q6, by rw [List.map_map]; exact v2⟩, hl, hc, hs⟩
end StrChars.Road
end Jvm.Pilot.@@N@@

namespace Jvm.Pilot.@@N@@
open Jvm Jvm.ClassFile Sem Op Lib Jvm.Free Jvm.Stand Jvm.LawKit Jvm.RoadKit Bundle Jvm.Pilot.@@N@@.Jvm.D
section OwnGo
variable {p : Program} {l : Launch} {e : Env} {R : Room} {s : State} {m : MethodId} {args : Array Value} {below : List Frame} {meth : Method} {c : Code} {T : State} {locs : List Loc} {cells slots : Nat} {Z : State} {a0 : Array Value} {h : Heap} {Q : Option Value → Heap → List Loc → Prop} {kc kn : Nat} {V V' : State}
/-- from V the run comes to the body's end, and there Q holds -/
def own_Go (p : Program) (e : Env) (below : List Frame) (s : State) (Q : Option Value → Heap → List Loc → Prop) (kc kn : Nat) (V : State) : Prop :=
  ∃ U o, Steps p.tables e below V U ∧ U.status = .running ∧ Ended U below o ∧ ∃ v L, o = .returned v ∧ Q v U.heap L ∧ FrameEnd s o U L kc kn
theorem own_st (h : ∀ t, Steps p.tables e below V' t → Steps p.tables e below V t) (k : own_Go p e below s Q kc kn V') : own_Go p e below s Q kc kn V := by
  obtain ⟨U, o, h1, r⟩ := k
  exact ⟨U, o, h U h1, r⟩
theorem own_z0 {n0 : Nat} (X : Old Z n0 h) : n0 ≤ h.size := X.1 ▸ X.2.1
/-- the return of an int, a long or a reference -/
theorem own_ret (X : Stand p l e R s m args below meth c T locs cells slots) (hx : p.tables.exec = Jvm.exec) (hk : meth.locks = false) {pc : Nat} {Ls : Array Slot} {w : Value} {t : FieldType} {i : Instr} {rest : List Value} (hret : meth.sig.returnType = some t) (hn : narrow t w = w)
    (hi : (i = .ireturn ∧ (t = .int ∨ t = .boolean ∨ t = .byte ∨ t = .char ∨ t = .short) ∧ ∃ z, w = .int z) ∨ (i = .lreturn ∧ t = .long ∧ ∃ z, w = .long z) ∨ (i = .dreturn ∧ t = .double ∧ ∃ z, w = .double z) ∨ (i = .freturn ∧ t = .float ∧ ∃ z, w = .float z) ∨ (i = .areturn ∧ t.isReference = true ∧ w.isRef = true))
    (hd : decode c.code pc = .ok (i, 1)) (hc : cells ≤ kc) (hs : slots ≤ kn) (q : Q (some w) T.heap locs) : own_Go p e below s Q kc kn (T.setTop (mkF m pc Ls (w :: rest))) := by
  obtain ⟨fs, hr, hrun, hended, hW, hsame⟩ := X.leave (v := some w) (fun h => by rw [hret] at h; cases h)
  exact ⟨_, _, retOut X hx hret hn hi hd hr, hrun, hended, _, _, rfl, q, ⟨_, rfl⟩, hW, hsame.mono hc hs⟩
theorem own_retI (X : Stand p l e R s m args below meth c T locs cells slots) (hx : p.tables.exec = Jvm.exec) (hk : meth.locks = false) {pc : Nat} {Ls : Array Slot} {z : Int32} {rest : List Value} (hret : meth.sig.returnType = some .int) (hd : decode c.code pc = .ok (.ireturn, 1)) (hc : cells ≤ kc) (hs : slots ≤ kn) (q : Q (some (.int z)) T.heap locs) :
    own_Go p e below s Q kc kn (T.setTop (mkF m pc Ls (.int z :: rest))) := own_ret X hx hk hret rfl (Or.inl ⟨rfl, Or.inl rfl, z, rfl⟩) hd hc hs q
theorem own_retJ (X : Stand p l e R s m args below meth c T locs cells slots) (hx : p.tables.exec = Jvm.exec) (hk : meth.locks = false) {pc : Nat} {Ls : Array Slot} {z : Int64} {rest : List Value} (hret : meth.sig.returnType = some .long) (hd : decode c.code pc = .ok (.lreturn, 1)) (hc : cells ≤ kc) (hs : slots ≤ kn) (q : Q (some (.long z)) T.heap locs) :
    own_Go p e below s Q kc kn (T.setTop (mkF m pc Ls (.long z :: rest))) := own_ret X hx hk hret rfl (Or.inr (Or.inl ⟨rfl, rfl, z, rfl⟩)) hd hc hs q
theorem own_retR (X : Stand p l e R s m args below meth c T locs cells slots) (hx : p.tables.exec = Jvm.exec) (hk : meth.locks = false) {pc : Nat} {Ls : Array Slot} {w : Value} {t : FieldType} {rest : List Value} (hret : meth.sig.returnType = some t) (ht : t.isReference = true) (hw : w.isRef = true) (hd : decode c.code pc = .ok (.areturn, 1)) (hc : cells ≤ kc) (hs : slots ≤ kn) (q : Q (some w) T.heap locs) :
    own_Go p e below s Q kc kn (T.setTop (mkF m pc Ls (w :: rest))) := by
  refine own_ret X hx hk hret ?_ (Or.inr (Or.inr (Or.inr (Or.inr ⟨rfl, ht, hw⟩)))) hd hc hs q
  rcases ref_cases hw with rfl | ⟨b, rfl⟩ <;> cases t <;> first | rfl | (cases ht; done)
/-- the return of a boolean, byte, char or short -/
theorem own_retN (X : Stand p l e R s m args below meth c T locs cells slots) (hx : p.tables.exec = Jvm.exec) (hk : meth.locks = false) {pc : Nat} {Ls : Array Slot} {z : Int32} {t : FieldType} {rest : List Value} (hret : meth.sig.returnType = some t) (ht : t = .boolean ∨ t = .byte ∨ t = .char ∨ t = .short) (hd : decode c.code pc = .ok (.ireturn, 1)) (hc : cells ≤ kc) (hs : slots ≤ kn) (q : Q (some (.int (nar t z))) T.heap locs) :
    own_Go p e below s Q kc kn (T.setTop (mkF m pc Ls (.int z :: rest))) := by
  obtain ⟨fs, hr, hrun, hended, hW, hsame⟩ := X.leave (v := some (.int (nar t z))) (fun h => by rw [hret] at h; cases h)
  exact ⟨_, _, retN X hx hret ht hd hr, hrun, hended, _, _, rfl, q, ⟨_, rfl⟩, hW, hsame.mono hc hs⟩
theorem own_retV (X : Stand p l e R s m args below meth c T locs cells slots) (hx : p.tables.exec = Jvm.exec) (hk : meth.locks = false) {pc : Nat} {Ls : Array Slot} (hret : meth.sig.returnType = none) (hd : decode c.code pc = .ok (.return_, 1)) (hc : cells ≤ kc) (hs : slots ≤ kn) (q : Q none T.heap locs) :
    own_Go p e below s Q kc kn (T.setTop (mkF m pc Ls [])) := by
  obtain ⟨fs, hr, hrun, hended, hW, hsame⟩ := X.leave (v := none) (fun _ => rfl)
  exact ⟨_, _, X.returnOut hx hret hd hr, hrun, hended, _, _, rfl, q, ⟨_, rfl⟩, hW, hsame.mono hc hs⟩
/-! calls, by a Back or by the callee's own contract -/
variable {own : String} {index : Nat} {y z : MethodName} {bytes : ByteArray} {maxL : Nat} {ret : Option FieldType} {W k n : Nat} {as' : Array Value} {Qy : Option Value → Heap → List Loc → Prop} {g : JFrame} {argsL rest : List Value} {rm : Room}
theorem own_backS (X : Stand p l e R s m args below meth c T locs cells slots) (hx : p.tables.exec = Jvm.exec) (hZ : Z.Warmed39 s.vm) (hown : s.vm.findClass own = some m.cls) (w1 : (Cond.methodLink own index y).before a0 Z = true) (w2 : (Cond.static y).before a0 Z = true) (w3 : (Cond.initialized y.cls).before a0 Z = true) (w4 : (Cond.code y bytes maxL ret).before a0 Z = true)
    (hy : y.cls ≠ "java/lang/invoke/MethodHandle" ∧ y.cls ≠ "java/lang/invoke/VarHandle")
    (hK : Back l R p e below s args y 3 W (fun A a => a = as' ∧ A.U.heap = h ∧ A.cells + k ≤ R.cells ∧ A.slots + n ≤ R.slots) (fun A _ v B => ∃ L, Qy v B.U.heap L ∧ B.locs = A.locs ++ L ∧ B.cells = A.cells + k ∧ B.slots = A.slots + n))
    (eT : T.heap = h) (hg : g.method = m) (hsize : g.locals.size = c.maxLocals) (has : argsL.toArray = as') (hlen : ∀ sig, parseMethodDescriptor y.desc = some sig → argsL.length = sig.parameters.length) (hstack : g.stack = argsL.reverse ++ rest) (hW : 2 * g.monitorRoom + (rest.map fun v => v.category).sum ≤ W)
    (hdg : decode c.code g.pc = .ok (.invokestatic index, 3)) (hc : cells + k ≤ R.cells) (hs : slots + n ≤ R.slots) :
    ∃ v T' h' L, Stand p l e R s m args below meth c T' (locs ++ L) (cells + k) (slots + n) ∧ T'.heap = h' ∧ Qy v h' L ∧ ∀ t, Steps p.tables e below (T'.setTop { g with pc := g.pc + 3, stack := v.toList ++ rest }) t → Steps p.tables e below (T.setTop g) t := by
  obtain ⟨v, _, ⟨T', L', k', n'⟩, -, X', ⟨L, hQ, l1, l2, l3⟩, st⟩ := Jvm.LawKit.callS X hx (y := y) hown (mvT hZ w1) (mvT hZ w2) (mvT hZ w3) (mvT hZ w4) hy hK hg hsize hlen hstack hW hdg (fun _ _ => ⟨has, eT, hc, hs⟩)
  dsimp only [Pt.U, Pt.locs, Pt.cells, Pt.slots] at X' l1 l2 l3 st hQ
  subst l1 l2 l3
  exact ⟨v, T', _, L, X', rfl, hQ, st⟩
theorem own_callS (X : Stand p l e R s m args below meth c T locs cells slots) (hx : p.tables.exec = Jvm.exec) (hZ : Z.Warmed39 s.vm) (hown : s.vm.findClass own = some m.cls) (w1 : (Cond.methodLink own index y).before a0 Z = true) (w2 : (Cond.static y).before a0 Z = true) (w3 : (Cond.initialized y.cls).before a0 Z = true) (w4 : (Cond.code y bytes maxL ret).before a0 Z = true)
    (hy : y.cls ≠ "java/lang/invoke/MethodHandle" ∧ y.cls ≠ "java/lang/invoke/VarHandle")
    (hM : MetFree l y (head1 [Cond.code y bytes maxL ret] rm) (fun a U => a = as' ∧ Z.Warmed39 U.vm ∧ U.heap = h) (fun _ _ _ _ _ => True) (fun _ U o U' => ∃ v L, o = .returned v ∧ Qy v U'.heap L ∧ FrameEnd U o U' L rm.cells rm.slots)) (hf : rm.frames + 1 ≤ R.frames) (hl : W + (maxL + 11) + rm.locals ≤ R.locals)
    (eT : T.heap = h) (hg : g.method = m) (hsize : g.locals.size = c.maxLocals) (has : argsL.toArray = as') (hlen : ∀ sig, parseMethodDescriptor y.desc = some sig → argsL.length = sig.parameters.length) (hstack : g.stack = argsL.reverse ++ rest) (hW : 2 * g.monitorRoom + (rest.map fun v => v.category).sum ≤ W)
    (hdg : decode c.code g.pc = .ok (.invokestatic index, 3)) (hc : cells + rm.cells ≤ R.cells) (hs : slots + rm.slots ≤ R.slots) :
    ∃ v T' h' L, Stand p l e R s m args below meth c T' (locs ++ L) (cells + rm.cells) (slots + rm.slots) ∧ T'.heap = h' ∧ Qy v h' L ∧ ∀ t, Steps p.tables e below (T'.setTop { g with pc := g.pc + 3, stack := v.toList ++ rest }) t → Steps p.tables e below (T.setTop g) t :=
  own_backS X hx hZ hown w1 w2 w3 w4 hy (backOf hM hZ w4 w3 hf hl) eT hg hsize has hlen hstack hW hdg hc hs
theorem own_backI (X : Stand p l e R s m args below meth c T locs cells slots) (hx : p.tables.exec = Jvm.exec) (hZ : Z.Warmed39 s.vm) (hown : s.vm.findClass own = some m.cls) (hy1 : y.name = "<init>") (w1 : (Cond.methodLink own index y).before a0 Z = true) (w2 : (Cond.instanceMethod y).before a0 Z = true) (w4 : (Cond.code y bytes maxL none).before a0 Z = true)
    (hy : y.cls ≠ "java/lang/invoke/MethodHandle" ∧ y.cls ≠ "java/lang/invoke/VarHandle")
    (hK : Back l R p e below s args y 3 W (fun A a => a = as' ∧ A.U.heap = h ∧ A.cells + k ≤ R.cells ∧ A.slots + n ≤ R.slots) (fun A _ v B => ∃ L, Qy v B.U.heap L ∧ B.locs = A.locs ++ L ∧ B.cells = A.cells + k ∧ B.slots = A.slots + n))
    (eT : T.heap = h) {a : Addr} (hg : g.method = m) (hsize : g.locals.size = c.maxLocals) (has : (Value.ref a :: argsL).toArray = as') (hlen : ∀ sig, parseMethodDescriptor y.desc = some sig → argsL.length = sig.parameters.length) (hstack : g.stack = argsL.reverse ++ .ref a :: rest) (hW : 2 * g.monitorRoom + (rest.map fun v => v.category).sum ≤ W)
    (hdg : decode c.code g.pc = .ok (.invokespecial index, 3)) (hc : cells + k ≤ R.cells) (hs : slots + n ≤ R.slots) :
    ∃ v T' h' L, Stand p l e R s m args below meth c T' (locs ++ L) (cells + k) (slots + n) ∧ T'.heap = h' ∧ Qy v h' L ∧ ∀ t, Steps p.tables e below (T'.setTop { g with pc := g.pc + 3, stack := v.toList ++ rest }) t → Steps p.tables e below (T.setTop g) t := by
  obtain ⟨v, _, ⟨T', L', k', n'⟩, -, X', ⟨L, hQ, l1, l2, l3⟩, st⟩ := X.specialBack hx (y := y) hy1 hown (mvT hZ w1) (mvT hZ w2) (mvT hZ w4) hy hK hg hsize (Steps.refl _) hlen hstack hW hdg (fun _ _ => ⟨has, eT, hc, hs⟩)
  dsimp only [Pt.U, Pt.locs, Pt.cells, Pt.slots] at X' l1 l2 l3 st hQ
  subst l1 l2 l3
  exact ⟨v, T', _, L, X', rfl, hQ, fun t k => st.trans k⟩
theorem own_callI (X : Stand p l e R s m args below meth c T locs cells slots) (hx : p.tables.exec = Jvm.exec) (hZ : Z.Warmed39 s.vm) (hown : s.vm.findClass own = some m.cls) (hy1 : y.name = "<init>") (w1 : (Cond.methodLink own index y).before a0 Z = true) (w2 : (Cond.instanceMethod y).before a0 Z = true) (w3 : (Cond.initialized y.cls).before a0 Z = true) (w4 : (Cond.code y bytes maxL none).before a0 Z = true)
    (hy : y.cls ≠ "java/lang/invoke/MethodHandle" ∧ y.cls ≠ "java/lang/invoke/VarHandle")
    (hM : MetFree l y (head1 [Cond.code y bytes maxL none] rm) (fun a U => a = as' ∧ Z.Warmed39 U.vm ∧ U.heap = h) (fun _ _ _ _ _ => True) (fun _ U o U' => ∃ v L, o = .returned v ∧ Qy v U'.heap L ∧ FrameEnd U o U' L rm.cells rm.slots)) (hf : rm.frames + 1 ≤ R.frames) (hl : W + (maxL + 11) + rm.locals ≤ R.locals)
    (eT : T.heap = h) {a : Addr} (hg : g.method = m) (hsize : g.locals.size = c.maxLocals) (has : (Value.ref a :: argsL).toArray = as') (hlen : ∀ sig, parseMethodDescriptor y.desc = some sig → argsL.length = sig.parameters.length) (hstack : g.stack = argsL.reverse ++ .ref a :: rest) (hW : 2 * g.monitorRoom + (rest.map fun v => v.category).sum ≤ W)
    (hdg : decode c.code g.pc = .ok (.invokespecial index, 3)) (hc : cells + rm.cells ≤ R.cells) (hs : slots + rm.slots ≤ R.slots) :
    ∃ v T' h' L, Stand p l e R s m args below meth c T' (locs ++ L) (cells + rm.cells) (slots + rm.slots) ∧ T'.heap = h' ∧ Qy v h' L ∧ ∀ t, Steps p.tables e below (T'.setTop { g with pc := g.pc + 3, stack := v.toList ++ rest }) t → Steps p.tables e below (T.setTop g) t :=
  own_backI X hx hZ hown hy1 w1 w2 w4 hy (backOf hM hZ w4 w3 hf hl) eT hg hsize has hlen hstack hW hdg hc hs
theorem own_backV (X : Stand p l e R s m args below meth c T locs cells slots) (hx : p.tables.exec = Jvm.exec) (hZ : Z.Warmed39 s.vm) (hown : s.vm.findClass own = some m.cls) {C : String} (w1 : (Cond.methodLink own index y).before a0 Z = true) (w2 : (Cond.declares y).before a0 Z = true) (hnf : NotFace s y) (w3 : (Cond.selects C y z).before a0 Z = true) (w4 : (Cond.instanceMethod z).before a0 Z = true)
    (hy : y.cls ≠ "java/lang/invoke/MethodHandle" ∧ y.cls ≠ "java/lang/invoke/VarHandle")
    (hK : Back l R p e below s args z 3 W (fun A a => a = as' ∧ A.U.heap = h ∧ A.cells + k ≤ R.cells ∧ A.slots + n ≤ R.slots) (fun A _ v B => ∃ L, Qy v B.U.heap L ∧ B.locs = A.locs ++ L ∧ B.cells = A.cells + k ∧ B.slots = A.slots + n))
    (eT : T.heap = h) {b : Addr} (E : Exa Z h b C) (hg : g.method = m) (hsize : g.locals.size = c.maxLocals) (has : (Value.ref b :: argsL).toArray = as') (hlen : ∀ sig, parseMethodDescriptor y.desc = some sig → argsL.length = sig.parameters.length) (hstack : g.stack = argsL.reverse ++ .ref b :: rest) (hW : 2 * g.monitorRoom + (rest.map fun v => v.category).sum ≤ W)
    (hdg : decode c.code g.pc = .ok (.invokevirtual index, 3)) (hc : cells + k ≤ R.cells) (hs : slots + n ≤ R.slots) :
    ∃ v T' h' L, Stand p l e R s m args below meth c T' (locs ++ L) (cells + k) (slots + n) ∧ T'.heap = h' ∧ Qy v h' L ∧ ∀ t, Steps p.tables e below (T'.setTop { g with pc := g.pc + 3, stack := v.toList ++ rest }) t → Steps p.tables e below (T.setTop g) t := by
  obtain ⟨cq, kq, qa, qb, qc⟩ := isOf hZ eT E
  obtain ⟨v, _, ⟨T', L', k', n'⟩, -, X', ⟨L, hQ, l1, l2, l3⟩, st⟩ := X.virtualBack hx (y := y) (z := z) hown (mvT hZ w1) (mvT hZ w2) hnf (mvT hZ w3) (mvT hZ w4) hy hK qa qc hg hsize (Steps.refl _) hlen hstack hW hdg (fun _ _ => ⟨has, eT, hc, hs⟩)
  dsimp only [Pt.U, Pt.locs, Pt.cells, Pt.slots] at X' l1 l2 l3 st hQ
  subst l1 l2 l3
  exact ⟨v, T', _, L, X', rfl, hQ, fun t k => st.trans k⟩
theorem own_callV (X : Stand p l e R s m args below meth c T locs cells slots) (hx : p.tables.exec = Jvm.exec) (hZ : Z.Warmed39 s.vm) (hown : s.vm.findClass own = some m.cls) {C : String} (w1 : (Cond.methodLink own index y).before a0 Z = true) (w2 : (Cond.declares y).before a0 Z = true) (w3 : (Cond.selects C y y).before a0 Z = true) (w4 : (Cond.instanceMethod y).before a0 Z = true) (w5 : (Cond.initialized y.cls).before a0 Z = true) (w6 : (Cond.code y bytes maxL ret).before a0 Z = true)
    (hy : y.cls ≠ "java/lang/invoke/MethodHandle" ∧ y.cls ≠ "java/lang/invoke/VarHandle")
    (hM : MetFree l y (head1 [Cond.code y bytes maxL ret] rm) (fun a U => a = as' ∧ Z.Warmed39 U.vm ∧ U.heap = h) (fun _ _ _ _ _ => True) (fun _ U o U' => ∃ v L, o = .returned v ∧ Qy v U'.heap L ∧ FrameEnd U o U' L rm.cells rm.slots)) (hf : rm.frames + 1 ≤ R.frames) (hl : W + (maxL + 11) + rm.locals ≤ R.locals)
    (eT : T.heap = h) {b : Addr} (E : Exa Z h b C) (hg : g.method = m) (hsize : g.locals.size = c.maxLocals) (has : (Value.ref b :: argsL).toArray = as') (hlen : ∀ sig, parseMethodDescriptor y.desc = some sig → argsL.length = sig.parameters.length) (hstack : g.stack = argsL.reverse ++ .ref b :: rest) (hW : 2 * g.monitorRoom + (rest.map fun v => v.category).sum ≤ W)
    (hdg : decode c.code g.pc = .ok (.invokevirtual index, 3)) (hc : cells + rm.cells ≤ R.cells) (hs : slots + rm.slots ≤ R.slots) :
    ∃ v T' h' L, Stand p l e R s m args below meth c T' (locs ++ L) (cells + rm.cells) (slots + rm.slots) ∧ T'.heap = h' ∧ Qy v h' L ∧ ∀ t, Steps p.tables e below (T'.setTop { g with pc := g.pc + 3, stack := v.toList ++ rest }) t → Steps p.tables e below (T.setTop g) t :=
  own_backV X hx hZ hown w1 w2 (notFace_of_selects (args := #[]) (mvT hZ w3)) w3 w4 hy (backOf hM hZ w6 w5 hf hl) eT E hg hsize has hlen hstack hW hdg hc hs
end OwnGo
section OwnArr
variable {p : Program} {l : Launch} {e : Env} {R : Room} {s : State} {m : MethodId} {args : Array Value} {below : List Frame} {meth : Method} {c : Code} {T : State} {locs : List Loc} {cells slots : Nat} {Z : State} {a0 : Array Value} {h : Heap} {a : Addr} {k : ClassId} {ty : FieldType} {z j : Int32} {vs : List Value} {d v : Value} {g : JFrame} {rest : List Value}
theorem own_alen (X : Stand p l e R s m args below meth c T locs cells slots) (hx : p.tables.exec = Jvm.exec) (hZ : Z.Warmed39 s.vm) (eT : T.heap = h) (A : Arv Z h a k ty z vs d) (hg : g.method = m) (hs : g.stack = .ref a :: rest) (hd : decode c.code g.pc = .ok (.arraylength, 1)) (t : State)
    (hr : Steps p.tables e below (T.setTop { g with pc := g.pc + 1, stack := .int z :: rest }) t) : Steps p.tables e below (T.setTop g) t := by
  obtain ⟨cl, A1, A2, A3, A4, A5, A6⟩ := A
  refine X.arraylength hx (by rw [eT]; exact A1.1) (State.isArrayOf_alike hZ.alike A1.2.1) hg hs hd t ?_
  rw [len_of A3 A4]
  exact hr
theorem own_cald (X : Stand p l e R s m args below meth c T locs cells slots) (hx : p.tables.exec = Jvm.exec) (hZ : Z.Warmed39 s.vm) (eT : T.heap = h) (A : Arv Z h a k .char z vs d) (hj : ¬ j < 0 ∧ j < z) (hv : vs.getD j.toNatClampNeg d = v) (hg : g.method = m) (hs : g.stack = .int j :: .ref a :: rest) (hd : decode c.code g.pc = .ok (.caload, 1)) (t : State)
    (hr : Steps p.tables e below (T.setTop { g with pc := g.pc + 1, stack := v :: rest }) t) : Steps p.tables e below (T.setTop g) t := by
  obtain ⟨cl, A1, A2, A3, A4, A5, A6⟩ := A
  exact X.caload hx (by rw [eT]; exact A1.1) (State.isArrayOf_alike hZ.alike A1.2.1) A1.2.2 (inb_of A3 hj) (A5.at (inb_of A3 hj) hv) hg hs hd t hr
theorem own_bald (X : Stand p l e R s m args below meth c T locs cells slots) (hx : p.tables.exec = Jvm.exec) (hZ : Z.Warmed39 s.vm) (eT : T.heap = h) (A : Arv Z h a k .byte z vs d) (hj : ¬ j < 0 ∧ j < z) (hv : vs.getD j.toNatClampNeg d = v) (hg : g.method = m) (hs : g.stack = .int j :: .ref a :: rest) (hd : decode c.code g.pc = .ok (.baload, 1)) (t : State)
    (hr : Steps p.tables e below (T.setTop { g with pc := g.pc + 1, stack := v :: rest }) t) : Steps p.tables e below (T.setTop g) t := by
  obtain ⟨cl, A1, A2, A3, A4, A5, A6⟩ := A
  exact X.baloadBytes hx (by rw [eT]; exact A1.1) (State.isArrayOf_alike hZ.alike A1.2.1) A1.2.2 (inb_of A3 hj) (A5.at (inb_of A3 hj) hv) hg hs hd t hr
end OwnArr
section OwnFace
variable {p : Program} {l : Launch} {e : Env} {R : Room} {s : State} {m : MethodId} {args : Array Value} {below : List Frame} {meth : Method} {c : Code} {T : State} {locs : List Loc} {cells slots : Nat} {Z : State} {a0 : Array Value} {h : Heap} {own C : String} {index count : Nat} {y z : MethodName} {bytes : ByteArray} {maxL : Nat} {ret : Option FieldType} {W : Nat} {as' : Array Value} {Qy : Option Value → Heap → List Loc → Prop} {g : JFrame} {argsL rest : List Value} {rm : Room}
theorem own_callF (X : Stand p l e R s m args below meth c T locs cells slots) (hx : p.tables.exec = Jvm.exec) (hZ : Z.Warmed39 s.vm) (hown : s.vm.findClass own = some m.cls) (w1 : (Cond.methodLink own index y).before a0 Z = true) (w2 : (Cond.declares y).before a0 Z = true) (w3 : (Cond.interfaceMethod y.cls y.cls y.name y.desc).before args s = true) (w4 : (Cond.selects C y z).before a0 Z = true) (w5 : (Cond.instanceMethod z).before a0 Z = true) (w6 : (Cond.publicMethod z).before a0 Z = true) (w7 : (Cond.unhidden C y.name y.desc).before a0 Z = true) (w8 : (Cond.castable C y.cls).before a0 Z = true) (w9 : (Cond.initialized z.cls).before a0 Z = true) (w10 : (Cond.code z bytes maxL ret).before a0 Z = true)
    (hy : y.cls ≠ "java/lang/invoke/MethodHandle" ∧ y.cls ≠ "java/lang/invoke/VarHandle")
    (hM : MetFree l z (head1 [Cond.code z bytes maxL ret] rm) (fun a U => a = as' ∧ Z.Warmed39 U.vm ∧ U.heap = h) (fun _ _ _ _ _ => True) (fun _ U o U' => ∃ v L, o = .returned v ∧ Qy v U'.heap L ∧ FrameEnd U o U' L rm.cells rm.slots)) (hf : rm.frames + 1 ≤ R.frames) (hl : W + (maxL + 11) + rm.locals ≤ R.locals)
    (eT : T.heap = h) {b : Addr} (E : Exa Z h b C) (hg : g.method = m) (hsize : g.locals.size = c.maxLocals) (has : (Value.ref b :: argsL).toArray = as') (hlen : ∀ sig, parseMethodDescriptor y.desc = some sig → argsL.length = sig.parameters.length) (hstack : g.stack = argsL.reverse ++ .ref b :: rest) (hW : 2 * g.monitorRoom + (rest.map fun v => v.category).sum ≤ W)
    (hdg : decode c.code g.pc = .ok (.invokeinterface index count, 5)) (hc : cells + rm.cells ≤ R.cells) (hs : slots + rm.slots ≤ R.slots) :
    ∃ v T' h' L, Stand p l e R s m args below meth c T' (locs ++ L) (cells + rm.cells) (slots + rm.slots) ∧ T'.heap = h' ∧ Qy v h' L ∧ ∀ t, Steps p.tables e below (T'.setTop { g with pc := g.pc + 5, stack := v.toList ++ rest }) t → Steps p.tables e below (T.setTop g) t := by
  obtain ⟨cq, kq, qa, qb, qc⟩ := isOf hZ eT E
  obtain ⟨v, _, ⟨T', L', k', n'⟩, -, X', ⟨L, hQ, l1, l2, l3⟩, st⟩ := X.interfaceBack hx (xi := y) (y := z) hown (mvT hZ w1) (mvT hZ w2) w3 (mvT hZ w4) (mvT hZ w5) (mvT hZ w6) (mvT hZ w7) (mvT hZ w8) hy (backOf hM hZ w10 w9 hf hl) qa qb qc hg hsize (Steps.refl _) hlen hstack hW hdg (fun _ _ => ⟨has, eT, hc, hs⟩)
  dsimp only [Pt.U, Pt.locs, Pt.cells, Pt.slots] at X' l1 l2 l3 st hQ
  subst l1 l2 l3
  exact ⟨v, T', _, L, X', rfl, hQ, fun t k => st.trans k⟩
end OwnFace
section OwnGoW
variable {p : Program} {l : Launch} {e : Env} {R : Room} {s : State} {vm : Vm} {m : MethodId} {args : Array Value} {below : List Frame} {meth : Method} {c : Code} {T : State} {locs : List Loc} {cells slots : Nat} {Z : State} {a0 : Array Value} {h : Heap} {EL : List (String × Nat)} {Q : Option Value → Heap → List Loc → Prop} {kc kn k0 : Nat} {V V' : State}
/-- own_Go where the run may load String constants: what the literals hold is carried by CHr -/
def own_GoW (p : Program) (e : Env) (below : List Frame) (s Z : State) (EL : List (String × Nat)) (Q : Option Value → Heap → List Loc → Prop) (kc kn : Nat) (V : State) : Prop :=
  ∃ U o, Steps p.tables e below V U ∧ U.status = .running ∧ Ended U below o ∧ ∃ v L, o = .returned v ∧ Q v U.heap L ∧ CHr Z EL s.vm s.heap U.vm U.heap ∧ ReturnedEndW s o U L kc kn
theorem own_stW (h : ∀ t, Steps p.tables e below V' t → Steps p.tables e below V t) (k : own_GoW p e below s Z EL Q kc kn V') : own_GoW p e below s Z EL Q kc kn V := by
  obtain ⟨U, o, h1, r⟩ := k
  exact ⟨U, o, h U h1, r⟩
theorem own_endW {o : Outcome} {t : State} {L : List Loc} {k n k' n' : Nat} (h : ReturnedEndW s o t L k n) (hk : k ≤ k') (hn : n ≤ n') : ReturnedEndW s o t L k' n' := ⟨h.1, h.2.1, h.2.2.1, h.2.2.2.mono hk hn⟩
theorem own_retW (X : Stand p l e R (s.setVm vm) m args below meth c T locs cells slots) (hx : p.tables.exec = Jvm.exec) (hk : meth.locks = false) (hS : s.Since vm k0) (hn0 : k0 ≤ T.heap.size) (hZ : Z.Warmed39 vm) (hEL : EW Z a0 EL) (Hr : CHr Z EL s.vm s.heap vm T.heap)
    {pc : Nat} {Ls : Array Slot} {w : Value} {t : FieldType} {i : Instr} {rest : List Value} (hret : meth.sig.returnType = some t) (hn : narrow t w = w)
    (hi : (i = .ireturn ∧ (t = .int ∨ t = .boolean ∨ t = .byte ∨ t = .char ∨ t = .short) ∧ ∃ z, w = .int z) ∨ (i = .lreturn ∧ t = .long ∧ ∃ z, w = .long z) ∨ (i = .dreturn ∧ t = .double ∧ ∃ z, w = .double z) ∨ (i = .freturn ∧ t = .float ∧ ∃ z, w = .float z) ∨ (i = .areturn ∧ t.isReference = true ∧ w.isRef = true))
    (hd : decode c.code pc = .ok (i, 1)) (hc : cells ≤ kc) (hs : slots ≤ kn) (q : Q (some w) T.heap locs) : own_GoW p e below s Z EL Q kc kn (T.setTop (mkF m pc Ls (w :: rest))) := by
  obtain ⟨fs, hr, hrun, hended, hE⟩ := X.leaveW hS hn0 (v := some w) (fun h => by rw [hret] at h; cases h)
  exact ⟨_, _, retOut X hx hret hn hi hd hr, hrun, hended, _, _, rfl, q, (show CHr Z EL s.vm s.heap T.vm T.heap from Hr.trans (CHv.at X hZ hEL Hr.1)), own_endW hE hc hs⟩
theorem own_retIW (X : Stand p l e R (s.setVm vm) m args below meth c T locs cells slots) (hx : p.tables.exec = Jvm.exec) (hk : meth.locks = false) (hS : s.Since vm k0) (hn0 : k0 ≤ T.heap.size) (hZ : Z.Warmed39 vm) (hEL : EW Z a0 EL) (Hr : CHr Z EL s.vm s.heap vm T.heap)
    {pc : Nat} {Ls : Array Slot} {z : Int32} {rest : List Value} (hret : meth.sig.returnType = some .int) (hd : decode c.code pc = .ok (.ireturn, 1)) (hc : cells ≤ kc) (hs : slots ≤ kn) (q : Q (some (.int z)) T.heap locs) :
    own_GoW p e below s Z EL Q kc kn (T.setTop (mkF m pc Ls (.int z :: rest))) := own_retW X hx hk hS hn0 hZ hEL Hr hret rfl (Or.inl ⟨rfl, Or.inl rfl, z, rfl⟩) hd hc hs q
theorem own_retJW (X : Stand p l e R (s.setVm vm) m args below meth c T locs cells slots) (hx : p.tables.exec = Jvm.exec) (hk : meth.locks = false) (hS : s.Since vm k0) (hn0 : k0 ≤ T.heap.size) (hZ : Z.Warmed39 vm) (hEL : EW Z a0 EL) (Hr : CHr Z EL s.vm s.heap vm T.heap)
    {pc : Nat} {Ls : Array Slot} {z : Int64} {rest : List Value} (hret : meth.sig.returnType = some .long) (hd : decode c.code pc = .ok (.lreturn, 1)) (hc : cells ≤ kc) (hs : slots ≤ kn) (q : Q (some (.long z)) T.heap locs) :
    own_GoW p e below s Z EL Q kc kn (T.setTop (mkF m pc Ls (.long z :: rest))) := own_retW X hx hk hS hn0 hZ hEL Hr hret rfl (Or.inr (Or.inl ⟨rfl, rfl, z, rfl⟩)) hd hc hs q
theorem own_retRW (X : Stand p l e R (s.setVm vm) m args below meth c T locs cells slots) (hx : p.tables.exec = Jvm.exec) (hk : meth.locks = false) (hS : s.Since vm k0) (hn0 : k0 ≤ T.heap.size) (hZ : Z.Warmed39 vm) (hEL : EW Z a0 EL) (Hr : CHr Z EL s.vm s.heap vm T.heap)
    {pc : Nat} {Ls : Array Slot} {w : Value} {t : FieldType} {rest : List Value} (hret : meth.sig.returnType = some t) (ht : t.isReference = true) (hw : w.isRef = true) (hd : decode c.code pc = .ok (.areturn, 1)) (hc : cells ≤ kc) (hs : slots ≤ kn) (q : Q (some w) T.heap locs) :
    own_GoW p e below s Z EL Q kc kn (T.setTop (mkF m pc Ls (w :: rest))) := by
  refine own_retW X hx hk hS hn0 hZ hEL Hr hret ?_ (Or.inr (Or.inr (Or.inr (Or.inr ⟨rfl, ht, hw⟩)))) hd hc hs q
  rcases ref_cases hw with rfl | ⟨b, rfl⟩ <;> cases t <;> first | rfl | (cases ht; done)
theorem own_retNW (X : Stand p l e R (s.setVm vm) m args below meth c T locs cells slots) (hx : p.tables.exec = Jvm.exec) (hk : meth.locks = false) (hS : s.Since vm k0) (hn0 : k0 ≤ T.heap.size) (hZ : Z.Warmed39 vm) (hEL : EW Z a0 EL) (Hr : CHr Z EL s.vm s.heap vm T.heap)
    {pc : Nat} {Ls : Array Slot} {z : Int32} {t : FieldType} {rest : List Value} (hret : meth.sig.returnType = some t) (ht : t = .boolean ∨ t = .byte ∨ t = .char ∨ t = .short) (hd : decode c.code pc = .ok (.ireturn, 1)) (hc : cells ≤ kc) (hs : slots ≤ kn) (q : Q (some (.int (nar t z))) T.heap locs) :
    own_GoW p e below s Z EL Q kc kn (T.setTop (mkF m pc Ls (.int z :: rest))) := by
  obtain ⟨fs, hr, hrun, hended, hE⟩ := X.leaveW hS hn0 (v := some (.int (nar t z))) (fun h => by rw [hret] at h; cases h)
  exact ⟨_, _, retN X hx hret ht hd hr, hrun, hended, _, _, rfl, q, (show CHr Z EL s.vm s.heap T.vm T.heap from Hr.trans (CHv.at X hZ hEL Hr.1)), own_endW hE hc hs⟩
theorem own_retVW (X : Stand p l e R (s.setVm vm) m args below meth c T locs cells slots) (hx : p.tables.exec = Jvm.exec) (hk : meth.locks = false) (hS : s.Since vm k0) (hn0 : k0 ≤ T.heap.size) (hZ : Z.Warmed39 vm) (hEL : EW Z a0 EL) (Hr : CHr Z EL s.vm s.heap vm T.heap)
    {pc : Nat} {Ls : Array Slot} (hret : meth.sig.returnType = none) (hd : decode c.code pc = .ok (.return_, 1)) (hc : cells ≤ kc) (hs : slots ≤ kn) (q : Q none T.heap locs) :
    own_GoW p e below s Z EL Q kc kn (T.setTop (mkF m pc Ls [])) := by
  obtain ⟨fs, hr, hrun, hended, hE⟩ := X.leaveW hS hn0 (v := none) (fun _ => rfl)
  exact ⟨_, _, X.returnOut hx hret hd hr, hrun, hended, _, _, rfl, q, (show CHr Z EL s.vm s.heap T.vm T.heap from Hr.trans (CHv.at X hZ hEL Hr.1)), own_endW hE hc hs⟩
/-! a callee that may load constants itself: its law keeps the invariant; sf: what it writes of the caller's and what isn't a literal's -/
variable {own : String} {index : Nat} {y z : MethodName} {bytes : ByteArray} {maxL : Nat} {ret : Option FieldType} {W k n len : Nat} {as' : Array Value} {Qy : Option Value → Heap → List Loc → Prop} {g : JFrame} {argsL rest : List Value} {rm : Room} {sf : List Addr}
theorem own_payW {K : Program → Env → List Frame → State → Array Value → Prop}
    (hM : MetFree l y (head1 [Cond.code y bytes maxL ret] rm) (fun a U => a = as' ∧ Z.Warmed39 U.vm ∧ U.heap = h ∧ CHv Z EL U.vm h ∧ ∀ x ∈ sf, Safe Z EL U.vm h x) K (fun _ U o U' => ∃ v L, o = .returned v ∧ Qy v U'.heap L ∧ CHr Z EL U.vm U.heap U'.vm U'.heap ∧ ReturnedEndW U o U' L rm.cells rm.slots))
    (hK : ∀ (m : MethodId) (meth : Method) (c : Code) (A : Pt) (a : Array Value) (g : JFrame) (mk : MethodId), Stand p l e R (s.setVm vm) m args below meth c A.U A.locs A.cells A.slots → g.method = m → K p e (A.U.setTop g).frames (A.U.calling g mk a) a)
    (hZ : Z.Warmed39 vm) (wc : (Cond.code y bytes maxL ret).before a0 Z = true) (wz : (Cond.initialized y.cls).before a0 Z = true) (hf : rm.frames + 1 ≤ R.frames) (hl : W + (maxL + 11) + rm.locals ≤ R.locals) (hEL : EW Z a0 EL) (H : CHv Z EL vm h) (hsf : ∀ x ∈ sf, x < h.size ∧ Safe Z EL vm h x) :
    BackS l R p e below (s.setVm vm) args y len W (fun A a => a = as' ∧ A.U.heap = h ∧ A.cells + rm.cells ≤ R.cells ∧ A.slots + rm.slots ≤ R.slots)
      (fun A _ v B => ∃ L, Qy v B.U.heap L ∧ B.locs = A.locs ++ L ∧ B.cells = A.cells + rm.cells ∧ B.slots = A.slots + rm.slots ∧ CHr Z EL vm h B.U.vm B.U.heap) :=
  BackS.of_freeWG (bytes := bytes) (maxL := maxL) (ret := ret) (E := fun _ first o t L k n => k = rm.cells ∧ n = rm.slots ∧ (∃ v, o = .returned v ∧ Qy v t.heap L) ∧ CHr Z EL first.vm first.heap t.vm t.heap) hM hf hl
    (fun m meth c A a Y hp => have hU : Z.Warmed39 A.U.vm := wtrans (s := s.setVm vm) hZ Y.warmed
      ⟨by show (Cond.and _ .tt).before a A.U = true; rw [Cond.before_and, mv hU wc]; rfl, mv hU wc, mv hU wz, hp.2.2.1, hp.2.2.2⟩)
    (fun m meth c A a g mk Y hp => ⟨hp.1, wtrans (s := s.setVm vm) hZ Y.warmed, hp.2.1, (CHv.at Y hZ hEL H).1, fun x hx => (CHv.at Y hZ hEL H).safe (hsf x hx).1 (hsf x hx).2⟩) (fun m meth c A a g mk Y _ hg => hK m meth c A a g mk Y hg)
    (fun _ _ _ _ ⟨v, L, h1, h2, h3, h4⟩ => ⟨L, _, _, h4, rfl, rfl, ⟨v, h1, h2⟩, h3⟩)
    (fun m meth c A a g mk v t L k n Y hp _ _ ⟨e1, e2, ⟨v', e3, e4⟩, e5⟩ => by
      cases e3; subst e1 e2
      refine ⟨L, e4, rfl, rfl, rfl, (CHv.at Y hZ hEL H).trans ?_⟩
      rw [← hp.2.1]; exact e5)
theorem own_callSW (X : Stand p l e R (s.setVm vm) m args below meth c T locs cells slots) (hx : p.tables.exec = Jvm.exec) (hZ : Z.Warmed39 vm) (hown : vm.findClass own = some m.cls) (hS : s.Since vm k0) (hk : k0 ≤ h.size) (w1 : (Cond.methodLink own index y).before a0 Z = true) (w2 : (Cond.static y).before a0 Z = true) (w3 : (Cond.initialized y.cls).before a0 Z = true) (w4 : (Cond.code y bytes maxL ret).before a0 Z = true)
    (hy : y.cls ≠ "java/lang/invoke/MethodHandle" ∧ y.cls ≠ "java/lang/invoke/VarHandle")
    (hB : BackS l R p e below (s.setVm vm) args y 3 W (fun A a => a = as' ∧ A.U.heap = h ∧ A.cells + k ≤ R.cells ∧ A.slots + n ≤ R.slots) (fun A _ v B => ∃ L, Qy v B.U.heap L ∧ B.locs = A.locs ++ L ∧ B.cells = A.cells + k ∧ B.slots = A.slots + n ∧ CHr Z EL vm h B.U.vm B.U.heap))
    (eT : T.heap = h) (hg : g.method = m) (hsize : g.locals.size = c.maxLocals) (has : argsL.toArray = as') (hlen : ∀ sig, parseMethodDescriptor y.desc = some sig → argsL.length = sig.parameters.length) (hstack : g.stack = argsL.reverse ++ rest) (hW : 2 * g.monitorRoom + (rest.map fun v => v.category).sum ≤ W)
    (hdg : decode c.code g.pc = .ok (.invokestatic index, 3)) (hc : cells + k ≤ R.cells) (hs : slots + n ≤ R.slots) :
    ∃ v T' h' L, Stand p l e R (s.setVm T'.vm) m args below meth c T' (locs ++ L) (cells + k) (slots + n) ∧ T'.heap = h' ∧ Qy v h' L ∧ s.Since T'.vm h'.size ∧ h.size ≤ h'.size ∧ Z.Warmed39 T'.vm ∧ T'.vm.findClass own = some m.cls ∧ CHr Z EL vm h T'.vm h' ∧ ∀ t, Steps p.tables e below (T'.setTop { g with pc := g.pc + 3, stack := v.toList ++ rest }) t → Steps p.tables e below (T.setTop g) t := by
  obtain ⟨v, _, ⟨T', L', k', n'⟩, -, X', hS', hh', ⟨L, hQ, l1, l2, l3, l4⟩, st⟩ := callSS X hx (y := y) hown (mvT (s := s.setVm vm) hZ w1) (mvT (s := s.setVm vm) hZ w2) (mvT (s := s.setVm vm) hZ w3) (mvT (s := s.setVm vm) hZ w4) hy hB hg hsize hlen hstack hW hdg (fun _ _ => ⟨has, eT, hc, hs⟩)
  dsimp only [Pt.U, Pt.locs, Pt.cells, Pt.slots] at X' l1 l2 l3 l4 st hQ hS' hh'
  subst l1 l2 l3
  rw [eT] at hh'
  obtain ⟨X2, hS2, hZ2, hown2⟩ := rebS hS hk X' hS' hh' (Z := Z) hZ (own := own) hown
  exact ⟨v, T', _, L, X2, rfl, hQ, hS2, hh', hZ2, hown2, l4, fun t k => st.trans k⟩
theorem own_callIW (X : Stand p l e R (s.setVm vm) m args below meth c T locs cells slots) (hx : p.tables.exec = Jvm.exec) (hZ : Z.Warmed39 vm) (hown : vm.findClass own = some m.cls) (hS : s.Since vm k0) (hk : k0 ≤ h.size) (hy1 : y.name = "<init>") (w1 : (Cond.methodLink own index y).before a0 Z = true) (w2 : (Cond.instanceMethod y).before a0 Z = true) (w4 : (Cond.code y bytes maxL none).before a0 Z = true)
    (hy : y.cls ≠ "java/lang/invoke/MethodHandle" ∧ y.cls ≠ "java/lang/invoke/VarHandle")
    (hB : BackS l R p e below (s.setVm vm) args y 3 W (fun A a => a = as' ∧ A.U.heap = h ∧ A.cells + k ≤ R.cells ∧ A.slots + n ≤ R.slots) (fun A _ v B => ∃ L, Qy v B.U.heap L ∧ B.locs = A.locs ++ L ∧ B.cells = A.cells + k ∧ B.slots = A.slots + n ∧ CHr Z EL vm h B.U.vm B.U.heap))
    (eT : T.heap = h) {a : Addr} (hg : g.method = m) (hsize : g.locals.size = c.maxLocals) (has : (Value.ref a :: argsL).toArray = as') (hlen : ∀ sig, parseMethodDescriptor y.desc = some sig → argsL.length = sig.parameters.length) (hstack : g.stack = argsL.reverse ++ .ref a :: rest) (hW : 2 * g.monitorRoom + (rest.map fun v => v.category).sum ≤ W)
    (hdg : decode c.code g.pc = .ok (.invokespecial index, 3)) (hc : cells + k ≤ R.cells) (hs : slots + n ≤ R.slots) :
    ∃ v T' h' L, Stand p l e R (s.setVm T'.vm) m args below meth c T' (locs ++ L) (cells + k) (slots + n) ∧ T'.heap = h' ∧ Qy v h' L ∧ s.Since T'.vm h'.size ∧ h.size ≤ h'.size ∧ Z.Warmed39 T'.vm ∧ T'.vm.findClass own = some m.cls ∧ CHr Z EL vm h T'.vm h' ∧ ∀ t, Steps p.tables e below (T'.setTop { g with pc := g.pc + 3, stack := v.toList ++ rest }) t → Steps p.tables e below (T.setTop g) t := by
  obtain ⟨v, _, ⟨T', L', k', n'⟩, -, X', hS', hh', ⟨L, hQ, l1, l2, l3, l4⟩, st⟩ := X.specialBackS hx (y := y) hy1 hown (mvT (s := s.setVm vm) hZ w1) (mvT (s := s.setVm vm) hZ w2) (mvT (s := s.setVm vm) hZ w4) hy hB hg hsize (Steps.refl _) hlen hstack hW hdg (fun _ _ => ⟨has, eT, hc, hs⟩)
  dsimp only [Pt.U, Pt.locs, Pt.cells, Pt.slots] at X' l1 l2 l3 l4 st hQ hS' hh'
  subst l1 l2 l3
  rw [eT] at hh'
  obtain ⟨X2, hS2, hZ2, hown2⟩ := rebS hS hk X' hS' hh' (Z := Z) hZ (own := own) hown
  exact ⟨v, T', _, L, X2, rfl, hQ, hS2, hh', hZ2, hown2, l4, fun t k => st.trans k⟩
theorem own_sf0 : ∀ x ∈ ([] : List Addr), x < h.size ∧ Safe Z EL vm h x := fun _ q => nomatch q
theorem own_sfS {x : Addr} {ws : List Addr} (h1 : x < h.size) (h2 : Safe Z EL vm h x) (r : ∀ y ∈ ws, y < h.size ∧ Safe Z EL vm h y) : ∀ y ∈ x :: ws, y < h.size ∧ Safe Z EL vm h y := fun y q => by
  rcases List.mem_cons.mp q with rfl | q
  · exact ⟨h1, h2⟩
  · exact r y q
end OwnGoW
def own_first : List Int32 → Int32 → Int32
  | [], i => i
  | c :: cs, i => if 255 < c then i else own_first cs (i + 1)
theorem own_nb (y : Int32) : nar .byte (y.toInt8.toInt32) = y.toInt8.toInt32 := by
  show (y.toInt8.toInt32).toInt8.toInt32 = y.toInt8.toInt32
  simp

theorem own_nc (y : Int32) : nar .char (y.toUInt32.toUInt16.toUInt32.toInt32) = y.toUInt32.toUInt16.toUInt32.toInt32 := by
  have e : ∀ u : UInt16, u.toUInt32.toInt32.toUInt32.toUInt16 = u := fun u => by simp
  show ((y.toUInt32.toUInt16).toUInt32.toInt32).toUInt32.toUInt16.toUInt32.toInt32 = _
  rw [e]

theorem own_and255 (x : Int32) : ¬ nar .char ((x &&& (255 : Int32)).toUInt32.toUInt16.toUInt32.toInt32) < 0 ∧ ¬ (255 : Int32) < nar .char ((x &&& (255 : Int32)).toUInt32.toUInt16.toUInt32.toInt32) := by
  have t : ∀ k : Fin 256, ¬ nar .char ((Int32.ofNat k.val).toUInt32.toUInt16.toUInt32.toInt32) < 0 ∧ ¬ (255 : Int32) < nar .char ((Int32.ofNat k.val).toUInt32.toUInt16.toUInt32.toInt32) := by decide +kernel
  have h : (x &&& 255).toBitVec.toNat < 256 := by
    simp only [Int32.toBitVec_and, BitVec.toNat_and]
    exact Nat.lt_succ_of_le Nat.and_le_right
  have e : (x &&& 255) = Int32.ofNat (x &&& 255).toBitVec.toNat := by
    apply Int32.toBitVec_inj.mp
    show _ = BitVec.ofNat 32 _
    rw [BitVec.ofNat_toNat]; simp
  rw [e]
  exact t ⟨_, h⟩
theorem own_sta {s : State} {args : Array Value} {C n d : String} {k : Int32} (h : (Jvm.Cond.eq (Term.static C n d) (Term.int k)).before args s = true) (hi : (Jvm.Cond.initializedFor C n d).before args s = true) : Sta s s.heap C n d (.int k) := by
  obtain ⟨x, y, hx, hy, k1, k2⟩ := cmp_v (Or.inl (Cond.before_iff.mp h))
  rw [Term.int_eval k] at hy
  cases hy
  obtain ⟨z, rfl⟩ : ∃ z, x = .int z := k2
  have e := gotT (show (Jvm.Cond.eq (Term.static C n d) (Term.int k)).value args s none s [] = some (decide (z = k)) by simp [Cond.value, hx, Term.int_eval]) (Cond.before_iff.mp h)
  subst e
  exact Sta.start hx (Or.inl hi)
theorem own_nosf {P : Addr → Prop} : ∀ x ∈ ([] : List Addr), P x := fun _ q => nomatch q
theorem own_pn0 : plainName "java/lang/String" = true := by first | (simp [plainName, overriddenIn]; done) | decide +kernel
theorem own_d_jdk_42_method_149_0 : decode jdk_42_method_149_code 0 = .ok (.aload_n 0, 1) := by decide +kernel
theorem own_d_jdk_42_method_149_1 : decode jdk_42_method_149_code 1 = .ok (.invokespecial 1, 3) := by decide +kernel
theorem own_d_jdk_42_method_149_4 : decode jdk_42_method_149_code 4 = .ok (.iload_n 3, 1) := by decide +kernel
theorem own_d_jdk_42_method_149_5 : decode jdk_42_method_149_code 5 = .ok (.ifCond .ne 22, 3) := by decide +kernel
theorem own_d_jdk_42_method_149_8 : decode jdk_42_method_149_code 8 = .ok (.aload_n 0, 1) := by decide +kernel
theorem own_d_jdk_42_method_149_9 : decode jdk_42_method_149_code 9 = .ok (.ldc 7, 2) := by decide +kernel
theorem own_d_jdk_42_method_149_11 : decode jdk_42_method_149_code 11 = .ok (.getfield 9, 3) := by decide +kernel
theorem own_d_jdk_42_method_149_14 : decode jdk_42_method_149_code 14 = .ok (.putfield 9, 3) := by decide +kernel
theorem own_d_jdk_42_method_149_17 : decode jdk_42_method_149_code 17 = .ok (.aload_n 0, 1) := by decide +kernel
theorem own_d_jdk_42_method_149_18 : decode jdk_42_method_149_code 18 = .ok (.ldc 7, 2) := by decide +kernel
theorem own_d_jdk_42_method_149_20 : decode jdk_42_method_149_code 20 = .ok (.getfield 15, 3) := by decide +kernel
theorem own_d_jdk_42_method_149_23 : decode jdk_42_method_149_code 23 = .ok (.putfield 15, 3) := by decide +kernel
theorem own_d_jdk_42_method_149_26 : decode jdk_42_method_149_code 26 = .ok (.return_, 1) := by decide +kernel
theorem own_ef_si2_0 (m : MethodId) (x0 : Addr) (x1 : Addr) (x2 : Int32) (x3 : Int32) : entryFrame m #[(.ref x0), (.ref x1), (.int x2), (.int x3), .null] 6 = mkF m 0 #[.val (.ref x0), .val (.ref x1), .val (.int x2), .val (.int x3), .val .null, .unset] [] := by first | (simp [entryFrame, mkF, argsToLocals, Value.category]; done) | rfl
def own_Q_si2_0 (Z : State) (x : Addr) (h0 : Heap) (n0 : Nat) (v : Option Value) (h : Heap) (L : List Loc) : Prop := v = none ∧ Fr n0 L ∧ Keep h0 h [x] ∧ Exa Z h x "java/lang/String" ∧ Fld Z h x "java/lang/String" "coder" "B" (.int (0 : Int32)) ∧ ∃ t k, Fld Z h x "java/lang/String" "value" "[B" (.ref t) ∧ Arv Z h t k .byte (0 : Int32) [] (.int (0 : Int32))
set_option maxRecDepth 65536 in
set_option maxHeartbeats 40000000 in
theorem own_rm_si2_0 (l : Launch) (Z : State) (a0 : Array Value) (hw : ∀ d ∈ tables_1, d.before a0 Z = true) (hEL : EW Z a0 consts_1) (ws : List Jvm.Cond) (x : Addr) (sr : Addr) (ks : ClassId) (v0 c0 : Value) (h0 : Heap) (n0 : Nat) (Od : Old Z n0 h0) (E_x : Exa Z h0 x "java/lang/String") (F_v : Fld Z h0 x "java/lang/String" "value" "[B" v0) (F_k : Fld Z h0 x "java/lang/String" "coder" "B" c0) (V_s : Arv Z h0 sr ks .char (0 : Int32) [] (.int (0 : Int32))) (ge_x : n0 ≤ x) (ne_s : sr ≠ x) :
    MetFree l (⟨"java/lang/String", "<init>", "([CIILjava/lang/Void;)V"⟩ : MethodName) (head1 (Jvm.Cond.code (⟨"java/lang/String", "<init>", "([CIILjava/lang/Void;)V"⟩ : MethodName) jdk_42_method_149_code 6 none :: ws) ({ frames := 1, cells := 4, slots := 8, locals := 12 } : Room)) (fun a9 U => a9 = #[(.ref x), (.ref sr), (.int (0 : Int32)), (.int (0 : Int32)), .null] ∧ Z.Warmed39 U.vm ∧ U.heap = h0 ∧ CHv Z consts_1 U.vm h0 ∧ ∀ x9 ∈ ([x] : List Addr), Safe Z consts_1 U.vm h0 x9) (fun _ _ _ _ _ => True) (fun _ U o U' => ∃ v L, o = .returned v ∧ own_Q_si2_0 Z x h0 n0 v U'.heap L ∧ CHr Z consts_1 U.vm U.heap U'.vm U'.heap ∧ ReturnedEndW U o U' L ({ frames := 1, cells := 4, slots := 8, locals := 12 } : Room).cells ({ frames := 1, cells := 4, slots := 8, locals := 12 } : Room).slots) := by
  refine MetFree.of_bodySF (plainFor_of_name own_pn0) hisR ?_
  intro p e s m args below meth c s₁ Bd hml0 hP hK
  obtain ⟨rfl, hZ, hh, Hc, Hs⟩ := hP
  have hx := Bd.exec
  have hby := Bd.bytes
  have hml : c.maxLocals = 6 := hml0
  have hown : s.vm.findClass "java/lang/String" = some m.cls := findClass_of_methodNamed Bd.named
  have hnm := (name_of_methodNamed Bd.named Bd.method).1
  have hlk : meth.locks = false := Bd.notSynchronized
  have X0 : Stand p l e ({ frames := 1, cells := 4, slots := 8, locals := 12 } : Room) (s.setVm s.vm) m #[(.ref x), (.ref sr), (.int (0 : Int32)), (.int (0 : Int32)), .null] below meth c s₁ [] 0 0 := Stand.of_body Bd
  have e0 : s₁.heap = h0 := by rw [← hh, Bd.state]; rfl
  have N0 := Fr.nil n0
  have hS : s.Since s.vm h0.size := (State.WarmedH.refl s).since _
  have hk : h0.size ≤ h0.size := Nat.le_refl _
  have Hr : CHr Z consts_1 s.vm h0 s.vm h0 := CHr.refl Hc
  skip
  have Sf_x : Safe Z consts_1 s.vm h0 x := Hs _ (List.mem_of_getElem? (i := 0) rfl)
  show own_GoW p e below s Z consts_1 (own_Q_si2_0 Z x h0 n0) ({ frames := 1, cells := 4, slots := 8, locals := 12 } : Room).cells ({ frames := 1, cells := 4, slots := 8, locals := 12 } : Room).slots (s₁.setTop (entryFrame m #[(.ref x), (.ref sr), (.int (0 : Int32)), (.int (0 : Int32)), .null] 6))
  refine own_stW (fun t9 k9 => castTop (own_ef_si2_0 m x sr (0 : Int32) (0 : Int32)) k9) ?_
  show own_GoW p e below s Z consts_1 _ _ _ (s₁.setTop (mkF m 0 #[.val (.ref x), .val (.ref sr), .val (.int (0 : Int32)), .val (.int (0 : Int32)), .val .null, .unset] []))
  have Kp : Keep h0 h0 [x] := Keep.refl h0 [x]
  have hwS : ∀ d ∈ Bundle.stringAtoms, d.before a0 Z = true := fun d hd => hw d ((by decide +kernel : ∀ d ∈ Bundle.stringAtoms, d ∈ tables_1) d hd)
  refine own_stW (fun t9 k9 => XS.aloadN X0.here hx rfl (hb hby own_d_jdk_42_method_149_0) rfl rfl k9) ?_
  show own_GoW p e below s Z consts_1 _ _ _ (s₁.setTop (mkF m 1 #[.val (.ref x), .val (.ref sr), .val (.int (0 : Int32)), .val (.int (0 : Int32)), .val .null, .unset] [(.ref x)]))
  obtain ⟨T1, X1, e1, st1⟩ := initO X0 hx hZ hown (hw _ (List.mem_of_getElem? (i := 19) rfl)) (hw _ (List.mem_of_getElem? (i := 20) rfl)) (hw _ (List.mem_of_getElem? (i := 21) rfl)) e0 (g := (mkF m 1 #[.val (.ref x), .val (.ref sr), .val (.int (0 : Int32)), .val (.int (0 : Int32)), .val .null, .unset] [(.ref x)])) rfl (by rw [hml]; rfl) rfl (hb hby own_d_jdk_42_method_149_1) (by decide) (W := 0) (by show 2 * 0 + _ ≤ _; exact Nat.le_of_eq rfl) (by decide)
  refine own_stW st1 ?_
  show own_GoW p e below s Z consts_1 _ _ _ (T1.setTop (mkF m 4 #[.val (.ref x), .val (.ref sr), .val (.int (0 : Int32)), .val (.int (0 : Int32)), .val .null, .unset] []))
  refine own_stW (fun t9 k9 => XS.iloadN X1.here hx rfl (hb hby own_d_jdk_42_method_149_4) rfl  k9) ?_
  show own_GoW p e below s Z consts_1 _ _ _ (T1.setTop (mkF m 5 #[.val (.ref x), .val (.ref sr), .val (.int (0 : Int32)), .val (.int (0 : Int32)), .val .null, .unset] [(.int (0 : Int32))]))
  refine own_stW (fun t9 k9 => XS.ifNo X1.here hx rfl (hb hby own_d_jdk_42_method_149_5) rfl (by decide) k9) ?_
  show own_GoW p e below s Z consts_1 _ _ _ (T1.setTop (mkF m 8 #[.val (.ref x), .val (.ref sr), .val (.int (0 : Int32)), .val (.int (0 : Int32)), .val .null, .unset] []))
  refine own_stW (fun t9 k9 => XS.aloadN X1.here hx rfl (hb hby own_d_jdk_42_method_149_8) rfl rfl k9) ?_
  show own_GoW p e below s Z consts_1 _ _ _ (T1.setTop (mkF m 9 #[.val (.ref x), .val (.ref sr), .val (.int (0 : Int32)), .val (.int (0 : Int32)), .val .null, .unset] [(.ref x)]))
  obtain ⟨la, T2, h2, k2, lab, kl2, X2, e2, E2, hS2, hk2, hZ2, hown2, El2, Kl2, Vl2, Bl2, lta2, ltb2, R2, Li2, Sn2, st2⟩ := ldcCH X1 hx hZ hown (hw _ (List.mem_of_getElem? (i := 39) rfl)) hwS e1 hS hk hEL (by decide) Hr.1 (vs := []) (z := (0 : Int32)) (by decide) (by decide) rfl (g := (mkF m 9 #[.val (.ref x), .val (.ref sr), .val (.int (0 : Int32)), .val (.int (0 : Int32)), .val .null, .unset] [(.ref x)])) rfl (hb hby own_d_jdk_42_method_149_9) (n := 0) (by decide) (by decide) (by decide) (by decide)
  have QSf_x := CHr.safe R2 E_x.lt Sf_x
  have E_x := E_x.ext E2
  have F_v := F_v.ext E2
  have F_k := F_k.ext E2
  have Od := Od.ext E2
  have Kp := Kp.ext E2
  have Sf_x := QSf_x
  have Hr := Hr.trans R2
  have hS := hS2
  have hk := hk2
  have hZ := hZ2
  have hown := hown2
  have ne_x_la := (Sn2 _ Sf_x).1
  have ne_x_lab := (Sn2 _ Sf_x).2
  refine own_stW st2 ?_
  show own_GoW p e below s Z consts_1 _ _ _ (T2.setTop (mkF m 11 #[.val (.ref x), .val (.ref sr), .val (.int (0 : Int32)), .val (.int (0 : Int32)), .val .null, .unset] [(.ref la), (.ref x)]))
  have E_la := El2
  have K_la := Kl2
  have V_la := Vl2
  have B_la := Bl2
  obtain ⟨T3, X3, e3, st3⟩ := getF X2 hx hZ hown (host := "") (Or.inl (hw _ (List.mem_of_getElem? (i := 22) rfl))) Via.refl e2 V_la (g := (mkF m 11 #[.val (.ref x), .val (.ref sr), .val (.int (0 : Int32)), .val (.int (0 : Int32)), .val .null, .unset] [(.ref la), (.ref x)])) rfl rfl (hb hby own_d_jdk_42_method_149_11)
  refine own_stW st3 ?_
  show own_GoW p e below s Z consts_1 _ _ _ (T3.setTop (mkF m 14 #[.val (.ref x), .val (.ref sr), .val (.int (0 : Int32)), .val (.int (0 : Int32)), .val .null, .unset] [(.ref lab), (.ref x)]))
  obtain ⟨T4, h4, X4, e4, W4, st4⟩ := putF X3 hx hZ hown (host := "") (Or.inl (hw _ (List.mem_of_getElem? (i := 22) rfl))) Via.refl e3 F_v E_x (Or.inr ⟨(hw _ (List.mem_of_getElem? (i := 23) rfl)), rfl, hnm⟩) (hw _ (List.mem_of_getElem? (i := 10) rfl)) (ty := (.array .byte)) (by decide) rfl rfl (g := (mkF m 14 #[.val (.ref x), .val (.ref sr), .val (.int (0 : Int32)), .val (.int (0 : Int32)), .val .null, .unset] [(.ref lab), (.ref x)])) rfl rfl (hb hby own_d_jdk_42_method_149_14)
  have N4 := Fr.snoc X4 N0 ge_x
  have QSf_x := Safe.wr W4 Sf_x Hr.1 Sf_x
  have E_x := E_x.wr W4
  have F_v := F_v.same W4
  have F_k := F_k.other W4 (Or.inr (RoadKit.slot_ne (Or.inr (hw _ (List.mem_of_getElem? (i := 25) rfl))) (Or.inr (hw _ (List.mem_of_getElem? (i := 23) rfl))) (by decide) (t := .byte) (t' := (.array .byte)) (by decide) (by decide)))
  have E_la := E_la.wr W4
  have K_la := K_la.other W4 (Or.inl (Ne.symm ne_x_la))
  have V_la := V_la.other W4 (Or.inl (Ne.symm ne_x_la))
  have B_la := B_la.other W4 (Ne.symm ne_x_lab)
  have Od := Od.wr W4 ge_x
  have Kp := Kp.wr W4 (Or.inl (List.mem_of_getElem? (i := 0) rfl))
  have Hr := Hr.trans (CHr.wr W4 Sf_x Hr.1)
  have hk := Nat.le_trans hk (Keep.of_wr W4).1
  have Sf_x := QSf_x
  refine own_stW st4 ?_
  show own_GoW p e below s Z consts_1 _ _ _ (T4.setTop (mkF m 17 #[.val (.ref x), .val (.ref sr), .val (.int (0 : Int32)), .val (.int (0 : Int32)), .val .null, .unset] []))
  refine own_stW (fun t9 k9 => XS.aloadN X4.here hx rfl (hb hby own_d_jdk_42_method_149_17) rfl rfl k9) ?_
  show own_GoW p e below s Z consts_1 _ _ _ (T4.setTop (mkF m 18 #[.val (.ref x), .val (.ref sr), .val (.int (0 : Int32)), .val (.int (0 : Int32)), .val .null, .unset] [(.ref x)]))
  obtain ⟨lc, T5, h5, k5, lcb, kl5, X5, e5, E5, hS5, hk5, hZ5, hown5, El5, Kl5, Vl5, Bl5, lta5, ltb5, R5, Li5, Sn5, st5⟩ := ldcCH X4 hx hZ hown (hw _ (List.mem_of_getElem? (i := 39) rfl)) hwS e4 hS hk hEL (by decide) Hr.1 (vs := []) (z := (0 : Int32)) (by decide) (by decide) rfl (g := (mkF m 18 #[.val (.ref x), .val (.ref sr), .val (.int (0 : Int32)), .val (.int (0 : Int32)), .val .null, .unset] [(.ref x)])) rfl (hb hby own_d_jdk_42_method_149_18) (n := 0) (by decide) (by decide) (by decide) (by decide)
  have QSf_x := CHr.safe R5 E_x.lt Sf_x
  have E_x := E_x.ext E5
  have F_v := F_v.ext E5
  have F_k := F_k.ext E5
  have B_la := B_la.ext E5
  have Od := Od.ext E5
  have Kp := Kp.ext E5
  have Sf_x := QSf_x
  have Hr := Hr.trans R5
  have hS := hS5
  have hk := hk5
  have hZ := hZ5
  have hown := hown5
  have ne_x_lc := (Sn5 _ Sf_x).1
  have ne_x_lcb := (Sn5 _ Sf_x).2
  refine own_stW st5 ?_
  show own_GoW p e below s Z consts_1 _ _ _ (T5.setTop (mkF m 20 #[.val (.ref x), .val (.ref sr), .val (.int (0 : Int32)), .val (.int (0 : Int32)), .val .null, .unset] [(.ref lc), (.ref x)]))
  have E_lc := El5
  have K_lc := Kl5
  have V_lc := Vl5
  have B_lc := Bl5
  obtain ⟨T6, X6, e6, st6⟩ := getF X5 hx hZ hown (host := "") (Or.inl (hw _ (List.mem_of_getElem? (i := 24) rfl))) Via.refl e5 K_lc (g := (mkF m 20 #[.val (.ref x), .val (.ref sr), .val (.int (0 : Int32)), .val (.int (0 : Int32)), .val .null, .unset] [(.ref lc), (.ref x)])) rfl rfl (hb hby own_d_jdk_42_method_149_20)
  refine own_stW st6 ?_
  show own_GoW p e below s Z consts_1 _ _ _ (T6.setTop (mkF m 23 #[.val (.ref x), .val (.ref sr), .val (.int (0 : Int32)), .val (.int (0 : Int32)), .val .null, .unset] [(.int (0 : Int32)), (.ref x)]))
  obtain ⟨T7, h7, X7, e7, W7, st7⟩ := putFN X6 hx hZ hown (hw _ (List.mem_of_getElem? (i := 24) rfl)) Via.refl e6 F_k E_x (Or.inr ⟨(hw _ (List.mem_of_getElem? (i := 25) rfl)), rfl, hnm⟩) (hw _ (List.mem_of_getElem? (i := 10) rfl)) (ty := .byte) (v' := (.int (0 : Int32))) (by decide) rfl rfl (g := (mkF m 23 #[.val (.ref x), .val (.ref sr), .val (.int (0 : Int32)), .val (.int (0 : Int32)), .val .null, .unset] [(.int (0 : Int32)), (.ref x)])) rfl rfl (hb hby own_d_jdk_42_method_149_23)
  have N7 := Fr.snoc X7 N4 ge_x
  have QSf_x := Safe.wr W7 Sf_x Hr.1 Sf_x
  have E_x := E_x.wr W7
  have F_v := F_v.other W7 (Or.inr (RoadKit.slot_ne (Or.inr (hw _ (List.mem_of_getElem? (i := 23) rfl))) (Or.inr (hw _ (List.mem_of_getElem? (i := 25) rfl))) (by decide) (t := (.array .byte)) (t' := .byte) (by decide) (by decide)))
  have F_k := F_k.same W7
  have B_la := B_la.other W7 (Ne.symm ne_x_lab)
  have E_lc := E_lc.wr W7
  have K_lc := K_lc.other W7 (Or.inl (Ne.symm ne_x_lc))
  have V_lc := V_lc.other W7 (Or.inl (Ne.symm ne_x_lc))
  have B_lc := B_lc.other W7 (Ne.symm ne_x_lcb)
  have Od := Od.wr W7 ge_x
  have Kp := Kp.wr W7 (Or.inl (List.mem_of_getElem? (i := 0) rfl))
  have Hr := Hr.trans (CHr.wr W7 Sf_x Hr.1)
  have hk := Nat.le_trans hk (Keep.of_wr W7).1
  have Sf_x := QSf_x
  refine own_stW st7 ?_
  show own_GoW p e below s Z consts_1 _ _ _ (T7.setTop (mkF m 26 #[.val (.ref x), .val (.ref sr), .val (.int (0 : Int32)), .val (.int (0 : Int32)), .val .null, .unset] []))
  exact own_retVW X7 hx hlk hS (by rw [e7]; exact hk) hZ hEL (by rw [hh, e7]; exact Hr) Bd.returns (hb hby own_d_jdk_42_method_149_26) (by decide) (by decide) (by rw [e7]; exact ⟨rfl, N7, Kp, E_x, F_k, lab, _, F_v, B_la⟩)
theorem own_d_jdk_42_method_3_0 : decode jdk_42_method_3_code 0 = .ok (.aload_n 0, 1) := by decide +kernel
theorem own_d_jdk_42_method_3_1 : decode jdk_42_method_3_code 1 = .ok (.aload_n 1, 1) := by decide +kernel
theorem own_d_jdk_42_method_3_2 : decode jdk_42_method_3_code 2 = .ok (.iconst 0, 1) := by decide +kernel
theorem own_d_jdk_42_method_3_3 : decode jdk_42_method_3_code 3 = .ok (.aload_n 1, 1) := by decide +kernel
theorem own_d_jdk_42_method_3_4 : decode jdk_42_method_3_code 4 = .ok (.arraylength, 1) := by decide +kernel
theorem own_d_jdk_42_method_3_5 : decode jdk_42_method_3_code 5 = .ok (.aconst_null, 1) := by decide +kernel
theorem own_pd0 : parseMethodDescriptor "([CIILjava/lang/Void;)V" = some ⟨[(.array .char), .int, .int, (.object "java/lang/Void")], none⟩ := by decide +kernel
theorem own_d_jdk_42_method_3_6 : decode jdk_42_method_3_code 6 = .ok (.invokespecial 27, 3) := by decide +kernel
theorem own_d_jdk_42_method_3_9 : decode jdk_42_method_3_code 9 = .ok (.return_, 1) := by decide +kernel
theorem own_ef_si1_0 (m : MethodId) (x0 : Addr) (x1 : Addr) : entryFrame m #[(.ref x0), (.ref x1)] 2 = mkF m 0 #[.val (.ref x0), .val (.ref x1)] [] := by first | (simp [entryFrame, mkF, argsToLocals, Value.category]; done) | rfl
def own_Q_si1_0 (Z : State) (x : Addr) (h0 : Heap) (n0 : Nat) (v : Option Value) (h : Heap) (L : List Loc) : Prop := v = none ∧ Fr n0 L ∧ Keep h0 h [x] ∧ Exa Z h x "java/lang/String" ∧ Fld Z h x "java/lang/String" "coder" "B" (.int (0 : Int32)) ∧ ∃ t k, Fld Z h x "java/lang/String" "value" "[B" (.ref t) ∧ Arv Z h t k .byte (0 : Int32) [] (.int (0 : Int32))
set_option maxRecDepth 65536 in
set_option maxHeartbeats 40000000 in
theorem own_rm_si1_0 (l : Launch) (Z : State) (a0 : Array Value) (hw : ∀ d ∈ tables_1, d.before a0 Z = true) (hEL : EW Z a0 consts_1) (ws : List Jvm.Cond) (x : Addr) (sr : Addr) (ks : ClassId) (v0 c0 : Value) (h0 : Heap) (n0 : Nat) (Od : Old Z n0 h0) (E_x : Exa Z h0 x "java/lang/String") (F_v : Fld Z h0 x "java/lang/String" "value" "[B" v0) (F_k : Fld Z h0 x "java/lang/String" "coder" "B" c0) (V_s : Arv Z h0 sr ks .char (0 : Int32) [] (.int (0 : Int32))) (ge_x : n0 ≤ x) (ne_s : sr ≠ x) :
    MetFree l (⟨"java/lang/String", "<init>", "([C)V"⟩ : MethodName) (head1 (Jvm.Cond.code (⟨"java/lang/String", "<init>", "([C)V"⟩ : MethodName) jdk_42_method_3_code 2 none :: ws) ({ frames := 2, cells := 4, slots := 8, locals := 29 } : Room)) (fun a9 U => a9 = #[(.ref x), (.ref sr)] ∧ Z.Warmed39 U.vm ∧ U.heap = h0 ∧ CHv Z consts_1 U.vm h0 ∧ ∀ x9 ∈ ([x] : List Addr), Safe Z consts_1 U.vm h0 x9) (fun _ _ _ _ _ => True) (fun _ U o U' => ∃ v L, o = .returned v ∧ own_Q_si1_0 Z x h0 n0 v U'.heap L ∧ CHr Z consts_1 U.vm U.heap U'.vm U'.heap ∧ ReturnedEndW U o U' L ({ frames := 2, cells := 4, slots := 8, locals := 29 } : Room).cells ({ frames := 2, cells := 4, slots := 8, locals := 29 } : Room).slots) := by
  refine MetFree.of_bodySF (plainFor_of_name own_pn0) hisR ?_
  intro p e s m args below meth c s₁ Bd hml0 hP hK
  obtain ⟨rfl, hZ, hh, Hc, Hs⟩ := hP
  have hx := Bd.exec
  have hby := Bd.bytes
  have hml : c.maxLocals = 2 := hml0
  have hown : s.vm.findClass "java/lang/String" = some m.cls := findClass_of_methodNamed Bd.named
  have hnm := (name_of_methodNamed Bd.named Bd.method).1
  have hlk : meth.locks = false := Bd.notSynchronized
  have X0 : Stand p l e ({ frames := 2, cells := 4, slots := 8, locals := 29 } : Room) (s.setVm s.vm) m #[(.ref x), (.ref sr)] below meth c s₁ [] 0 0 := Stand.of_body Bd
  have e0 : s₁.heap = h0 := by rw [← hh, Bd.state]; rfl
  have N0 := Fr.nil n0
  have hS : s.Since s.vm h0.size := (State.WarmedH.refl s).since _
  have hk : h0.size ≤ h0.size := Nat.le_refl _
  have Hr : CHr Z consts_1 s.vm h0 s.vm h0 := CHr.refl Hc
  skip
  have Sf_x : Safe Z consts_1 s.vm h0 x := Hs _ (List.mem_of_getElem? (i := 0) rfl)
  show own_GoW p e below s Z consts_1 (own_Q_si1_0 Z x h0 n0) ({ frames := 2, cells := 4, slots := 8, locals := 29 } : Room).cells ({ frames := 2, cells := 4, slots := 8, locals := 29 } : Room).slots (s₁.setTop (entryFrame m #[(.ref x), (.ref sr)] 2))
  refine own_stW (fun t9 k9 => castTop (own_ef_si1_0 m x sr) k9) ?_
  show own_GoW p e below s Z consts_1 _ _ _ (s₁.setTop (mkF m 0 #[.val (.ref x), .val (.ref sr)] []))
  have Kp : Keep h0 h0 [x] := Keep.refl h0 [x]
  refine own_stW (fun t9 k9 => XS.aloadN X0.here hx rfl (hb hby own_d_jdk_42_method_3_0) rfl rfl k9) ?_
  show own_GoW p e below s Z consts_1 _ _ _ (s₁.setTop (mkF m 1 #[.val (.ref x), .val (.ref sr)] [(.ref x)]))
  refine own_stW (fun t9 k9 => XS.aloadN X0.here hx rfl (hb hby own_d_jdk_42_method_3_1) rfl rfl k9) ?_
  show own_GoW p e below s Z consts_1 _ _ _ (s₁.setTop (mkF m 2 #[.val (.ref x), .val (.ref sr)] [(.ref sr), (.ref x)]))
  refine own_stW (fun t9 k9 => XS.iconst X0.here hx rfl (hb hby own_d_jdk_42_method_3_2) k9) ?_
  show own_GoW p e below s Z consts_1 _ _ _ (s₁.setTop (mkF m 3 #[.val (.ref x), .val (.ref sr)] [(.int (0 : Int32)), (.ref sr), (.ref x)]))
  refine own_stW (fun t9 k9 => XS.aloadN X0.here hx rfl (hb hby own_d_jdk_42_method_3_3) rfl rfl k9) ?_
  show own_GoW p e below s Z consts_1 _ _ _ (s₁.setTop (mkF m 4 #[.val (.ref x), .val (.ref sr)] [(.ref sr), (.int (0 : Int32)), (.ref sr), (.ref x)]))
  refine own_stW (fun t9 k9 => own_alen X0 hx hZ e0 V_s (g := (mkF m 4 #[.val (.ref x), .val (.ref sr)] [(.ref sr), (.int (0 : Int32)), (.ref sr), (.ref x)])) rfl rfl (hb hby own_d_jdk_42_method_3_4) t9 k9) ?_
  show own_GoW p e below s Z consts_1 _ _ _ (s₁.setTop (mkF m 5 #[.val (.ref x), .val (.ref sr)] [(.int (0 : Int32)), (.int (0 : Int32)), (.ref sr), (.ref x)]))
  refine own_stW (fun t9 k9 => XS.aconstNull X0.here hx rfl (hb hby own_d_jdk_42_method_3_5) k9) ?_
  show own_GoW p e below s Z consts_1 _ _ _ (s₁.setTop (mkF m 6 #[.val (.ref x), .val (.ref sr)] [.null, (.int (0 : Int32)), (.int (0 : Int32)), (.ref sr), (.ref x)]))
  obtain ⟨_, T8, h8, L8, X8, e8, ⟨rfl, Nc, Kc, E_y, F_c, t, kt, F_u, V_t⟩, hS8, hg8, hZ8, hown8, R8, st8⟩ := own_callIW X0 hx hZ hown hS hk rfl (hw _ (List.mem_of_getElem? (i := 36) rfl)) (hw _ (List.mem_of_getElem? (i := 37) rfl)) (hw _ (List.mem_of_getElem? (i := 38) rfl)) (by decide) (own_payW (W := 0) (K := (fun _ _ _ _ _ => True)) (own_rm_si2_0 l Z a0 hw hEL [] x sr ks v0 c0 h0 n0 Od E_x F_v F_k V_s ge_x ne_s) (fun _ _ _ _ _ _ _ _ _ => trivial) hZ (hw _ (List.mem_of_getElem? (i := 38) rfl)) (hw _ (List.mem_of_getElem? (i := 2) rfl)) (by decide) (by decide) hEL Hr.1 (own_sfS E_x.lt Sf_x own_sf0)) e0 (a := x) (g := (mkF m 6 #[.val (.ref x), .val (.ref sr)] [.null, (.int (0 : Int32)), (.int (0 : Int32)), (.ref sr), (.ref x)])) rfl (by rw [hml]; rfl) (argsL := [(.ref sr), (.int (0 : Int32)), (.int (0 : Int32)), .null]) (rest := []) rfl (lenOf own_pd0 rfl) rfl (by show 2 * 0 + _ ≤ _; exact Nat.le_of_eq rfl) (hb hby own_d_jdk_42_method_3_6) (by decide) (by decide)
  have N8 := Fr.app N0 Nc
  have QSf_x := CHr.safe R8 E_x.lt Sf_x
  have E_x := E_x.keep Kc
  have Od := Od.keep Kc (allS ge_x all0)
  have Kp := Kp.trans Kc (allS (Or.inl (List.mem_of_getElem? (i := 0) rfl)) all0)
  have Sf_x := QSf_x
  have Hr := Hr.trans R8
  have hS := hS8
  have hk : h8.size ≤ h8.size := Nat.le_refl _
  have hZ := hZ8
  have hown := hown8
  refine own_stW st8 ?_
  show own_GoW p e below s Z consts_1 _ _ _ (T8.setTop (mkF m 9 #[.val (.ref x), .val (.ref sr)] []))
  exact own_retVW X8 hx hlk hS (by rw [e8]; exact hk) hZ hEL (by rw [hh, e8]; exact Hr) Bd.returns (hb hby own_d_jdk_42_method_3_9) (by decide) (by decide) (by rw [e8]; exact ⟨rfl, N8, Kp, E_y, F_c, t, kt, F_u, V_t⟩)
theorem own_pn1 : plainName "java/lang/StringLatin1" = true := by first | (simp [plainName, overriddenIn]; done) | decide +kernel
theorem own_d_jdk_43_method_3_0 : decode jdk_43_method_3_code 0 = .ok (.iload_n 0, 1) := by decide +kernel
theorem own_d_jdk_43_method_3_1 : decode jdk_43_method_3_code 1 = .ok (.sipush 255, 3) := by decide +kernel
theorem own_d_jdk_43_method_3_4 : decode jdk_43_method_3_code 4 = .ok (.if_icmp .gt 7, 3) := by decide +kernel
theorem own_d_jdk_43_method_3_7 : decode jdk_43_method_3_code 7 = .ok (.iconst 1, 1) := by decide +kernel
theorem own_d_jdk_43_method_3_8 : decode jdk_43_method_3_code 8 = .ok (.goto 4, 3) := by decide +kernel
theorem own_d_jdk_43_method_3_12 : decode jdk_43_method_3_code 12 = .ok (.ireturn, 1) := by decide +kernel
theorem own_ef_cene (m : MethodId) (x0 : Int32) : entryFrame m #[(.int x0)] 1 = mkF m 0 #[.val (.int x0)] [] := by first | (simp [entryFrame, mkF, argsToLocals, Value.category]; done) | rfl
def own_Q_cene (Z : State)  (h0 : Heap) (n0 : Nat) (v : Option Value) (h : Heap) (L : List Loc) : Prop := v = some (.int (1 : Int32)) ∧ Fr n0 L ∧ h = h0
set_option maxRecDepth 65536 in
set_option maxHeartbeats 40000000 in
theorem own_rm_cene (l : Launch) (Z : State) (a0 : Array Value) (hw : ∀ d ∈ tables_1, d.before a0 Z = true) (ws : List Jvm.Cond) (ch : Int32) (h0 : Heap) (n0 : Nat) (Od : Old Z n0 h0) (b1 : ¬ (255 : Int32) < ch) :
    MetFree l (⟨"java/lang/StringLatin1", "canEncode", "(C)Z"⟩ : MethodName) (head1 (Jvm.Cond.code (⟨"java/lang/StringLatin1", "canEncode", "(C)Z"⟩ : MethodName) jdk_43_method_3_code 1 (some .boolean) :: ws) ({ frames := 0, cells := 0, slots := 0, locals := 0 } : Room)) (fun a9 U => a9 = #[(.int ch)] ∧ Z.Warmed39 U.vm ∧ U.heap = h0) (fun _ _ _ _ _ => True) (fun _ U o U' => ∃ v L, o = .returned v ∧ own_Q_cene Z  h0 n0 v U'.heap L ∧ FrameEnd U o U' L ({ frames := 0, cells := 0, slots := 0, locals := 0 } : Room).cells ({ frames := 0, cells := 0, slots := 0, locals := 0 } : Room).slots) := by
  refine MetFree.of_bodySF (plainFor_of_name own_pn1) hisR ?_
  intro p e s m args below meth c s₁ Bd hml0 hP hK
  obtain ⟨rfl, hZ, hh⟩ := hP
  have hx := Bd.exec
  have hby := Bd.bytes
  have hml : c.maxLocals = 1 := hml0
  have hown : s.vm.findClass "java/lang/StringLatin1" = some m.cls := findClass_of_methodNamed Bd.named
  have hnm := (name_of_methodNamed Bd.named Bd.method).1
  have hlk : meth.locks = false := Bd.notSynchronized
  have X0 : Stand p l e ({ frames := 0, cells := 0, slots := 0, locals := 0 } : Room) s m #[(.int ch)] below meth c s₁ [] 0 0 := Stand.of_body Bd
  have e0 : s₁.heap = h0 := by rw [← hh, Bd.state]; rfl
  have N0 := Fr.nil n0
  show own_Go p e below s (own_Q_cene Z  h0 n0) ({ frames := 0, cells := 0, slots := 0, locals := 0 } : Room).cells ({ frames := 0, cells := 0, slots := 0, locals := 0 } : Room).slots (s₁.setTop (entryFrame m #[(.int ch)] 1))
  refine own_st (fun t9 k9 => castTop (own_ef_cene m ch) k9) ?_
  show own_Go p e below s _ _ _ (s₁.setTop (mkF m 0 #[.val (.int ch)] []))
  refine own_st (fun t9 k9 => XS.iloadN X0.here hx rfl (hb hby own_d_jdk_43_method_3_0) rfl  k9) ?_
  show own_Go p e below s _ _ _ (s₁.setTop (mkF m 1 #[.val (.int ch)] [(.int ch)]))
  refine own_st (fun t9 k9 => XS.sipush X0.here hx rfl (hb hby own_d_jdk_43_method_3_1) k9) ?_
  show own_Go p e below s _ _ _ (s₁.setTop (mkF m 4 #[.val (.int ch)] [(.int (255 : Int32)), (.int ch)]))
  refine own_st (fun t9 k9 => XS.icmpNo X0.here hx rfl (hb hby own_d_jdk_43_method_3_4) rfl (flt (b1 : ¬ ((255 : Int32) < ch))).2.2.1 k9) ?_
  show own_Go p e below s _ _ _ (s₁.setTop (mkF m 7 #[.val (.int ch)] []))
  refine own_st (fun t9 k9 => XS.iconst X0.here hx rfl (hb hby own_d_jdk_43_method_3_7) k9) ?_
  show own_Go p e below s _ _ _ (s₁.setTop (mkF m 8 #[.val (.int ch)] [(.int (1 : Int32))]))
  refine own_st (fun t9 k9 => XS.goto X0.here hx rfl (pc0 := 8) (pc' := 12) rfl (hb hby own_d_jdk_43_method_3_8) (by decide) (by decide) k9) ?_
  show own_Go p e below s _ _ _ (s₁.setTop (mkF m 12 #[.val (.int ch)] [(.int (1 : Int32))]))
  exact own_retN X0 hx hlk (t := .boolean) Bd.returns (by simp) (hb hby own_d_jdk_43_method_3_12) (by decide) (by decide) (by rw [e0]; exact ⟨rfl, N0, rfl⟩)
theorem own_d_jdk_43_method_46_0 : decode jdk_43_method_46_code 0 = .ok (.iconst 1, 1) := by decide +kernel
theorem own_d_jdk_43_method_46_1 : decode jdk_43_method_46_code 1 = .ok (.newarray .byte, 2) := by decide +kernel
theorem own_d_jdk_43_method_46_3 : decode jdk_43_method_46_code 3 = .ok (.dup, 1) := by decide +kernel
theorem own_d_jdk_43_method_46_4 : decode jdk_43_method_46_code 4 = .ok (.iconst 0, 1) := by decide +kernel
theorem own_d_jdk_43_method_46_5 : decode jdk_43_method_46_code 5 = .ok (.iload_n 0, 1) := by decide +kernel
theorem own_d_jdk_43_method_46_6 : decode jdk_43_method_46_code 6 = .ok (.i2b, 1) := by decide +kernel
theorem own_d_jdk_43_method_46_7 : decode jdk_43_method_46_code 7 = .ok (.bastore, 1) := by decide +kernel
theorem own_d_jdk_43_method_46_8 : decode jdk_43_method_46_code 8 = .ok (.areturn, 1) := by decide +kernel
theorem own_ef_tb1 (m : MethodId) (x0 : Int32) : entryFrame m #[(.int x0)] 1 = mkF m 0 #[.val (.int x0)] [] := by first | (simp [entryFrame, mkF, argsToLocals, Value.category]; done) | rfl
def own_Q_tb1 (Z : State) (ch : Int32) (h0 : Heap) (n0 : Nat) (v : Option Value) (h : Heap) (L : List Loc) : Prop := Fr n0 L ∧ Keep h0 h [] ∧ ∃ a k, v = some (.ref a) ∧ h0.size ≤ a ∧ Arv Z h a k .byte (1 : Int32) [(.int (ch.toInt8.toInt32))] (.int (0 : Int32))
set_option maxRecDepth 65536 in
set_option maxHeartbeats 40000000 in
theorem own_rm_tb1 (l : Launch) (Z : State) (a0 : Array Value) (hw : ∀ d ∈ tables_1, d.before a0 Z = true) (ws : List Jvm.Cond) (ch : Int32) (h0 : Heap) (n0 : Nat) (Od : Old Z n0 h0) :
    MetFree l (⟨"java/lang/StringLatin1", "toBytes", "(C)[B"⟩ : MethodName) (head1 (Jvm.Cond.code (⟨"java/lang/StringLatin1", "toBytes", "(C)[B"⟩ : MethodName) jdk_43_method_46_code 1 (some (.array .byte)) :: ws) ({ frames := 0, cells := 1, slots := 1, locals := 0 } : Room)) (fun a9 U => a9 = #[(.int ch)] ∧ Z.Warmed39 U.vm ∧ U.heap = h0) (fun _ _ _ _ _ => True) (fun _ U o U' => ∃ v L, o = .returned v ∧ own_Q_tb1 Z ch h0 n0 v U'.heap L ∧ FrameEnd U o U' L ({ frames := 0, cells := 1, slots := 1, locals := 0 } : Room).cells ({ frames := 0, cells := 1, slots := 1, locals := 0 } : Room).slots) := by
  refine MetFree.of_bodySF (plainFor_of_name own_pn1) hisR ?_
  intro p e s m args below meth c s₁ Bd hml0 hP hK
  obtain ⟨rfl, hZ, hh⟩ := hP
  have hx := Bd.exec
  have hby := Bd.bytes
  have hml : c.maxLocals = 1 := hml0
  have hown : s.vm.findClass "java/lang/StringLatin1" = some m.cls := findClass_of_methodNamed Bd.named
  have hnm := (name_of_methodNamed Bd.named Bd.method).1
  have hlk : meth.locks = false := Bd.notSynchronized
  have X0 : Stand p l e ({ frames := 0, cells := 1, slots := 1, locals := 0 } : Room) s m #[(.int ch)] below meth c s₁ [] 0 0 := Stand.of_body Bd
  have e0 : s₁.heap = h0 := by rw [← hh, Bd.state]; rfl
  have N0 := Fr.nil n0
  show own_Go p e below s (own_Q_tb1 Z ch h0 n0) ({ frames := 0, cells := 1, slots := 1, locals := 0 } : Room).cells ({ frames := 0, cells := 1, slots := 1, locals := 0 } : Room).slots (s₁.setTop (entryFrame m #[(.int ch)] 1))
  refine own_st (fun t9 k9 => castTop (own_ef_tb1 m ch) k9) ?_
  show own_Go p e below s _ _ _ (s₁.setTop (mkF m 0 #[.val (.int ch)] []))
  have Kp : Keep h0 h0 [] := Keep.refl h0 []
  refine own_st (fun t9 k9 => XS.iconst X0.here hx rfl (hb hby own_d_jdk_43_method_46_0) k9) ?_
  show own_Go p e below s _ _ _ (s₁.setTop (mkF m 1 #[.val (.int ch)] [(.int (1 : Int32))]))
  obtain ⟨T9, h9, k9, X9, e9, E9, A9, st9⟩ := newP X0 hx hZ (hw _ (List.mem_of_getElem? (i := 14) rfl)) e0 (g := (mkF m 1 #[.val (.int ch)] [(.int (1 : Int32))])) rfl (hb hby own_d_jdk_43_method_46_1) rfl (by decide) (cap := 1) (by decide) (by decide) (by decide) (by decide)
  obtain ⟨a, g9⟩ : ∃ z, z = h0.size := ⟨_, rfl⟩
  rw [← g9] at A9 st9
  have ge_a : n0 ≤ a := Nat.le_trans (own_z0 Od) (Nat.le_of_eq g9.symm)
  have gz_a : h0.size ≤ a := Nat.le_trans Kp.1 (Nat.le_of_eq g9.symm)
  have Od := Od.ext E9
  have Kp := Kp.ext E9
  refine own_st st9 ?_
  show own_Go p e below s _ _ _ (T9.setTop (mkF m 3 #[.val (.int ch)] [(.ref a)]))
  have V_a : Arv Z h9 a k9 .byte (1 : Int32) [(.int (0 : Int32))] (.int (0 : Int32)) := (Arv.new A9 (by decide)).pad (pad_rep [] (.int (0 : Int32)) 1)
  refine own_st (fun t9 k9 => XS.dup X9.here hx rfl (hb hby own_d_jdk_43_method_46_3) rfl rfl k9) ?_
  show own_Go p e below s _ _ _ (T9.setTop (mkF m 4 #[.val (.int ch)] [(.ref a), (.ref a)]))
  refine own_st (fun t9 k9 => XS.iconst X9.here hx rfl (hb hby own_d_jdk_43_method_46_4) k9) ?_
  show own_Go p e below s _ _ _ (T9.setTop (mkF m 5 #[.val (.int ch)] [(.int (0 : Int32)), (.ref a), (.ref a)]))
  refine own_st (fun t9 k9 => XS.iloadN X9.here hx rfl (hb hby own_d_jdk_43_method_46_5) rfl  k9) ?_
  show own_Go p e below s _ _ _ (T9.setTop (mkF m 6 #[.val (.int ch)] [(.int ch), (.int (0 : Int32)), (.ref a), (.ref a)]))
  refine own_st (fun t9 k9 => XT.i2b X9.here hx rfl (hb hby own_d_jdk_43_method_46_6) rfl k9) ?_
  show own_Go p e below s _ _ _ (T9.setTop (mkF m 7 #[.val (.int ch)] [(.int (ch.toInt8.toInt32)), (.int (0 : Int32)), (.ref a), (.ref a)]))
  obtain ⟨cl10, Ar10, q10, S10, M10, H10, G10⟩ := id V_a
  obtain ⟨T10, h10, X10, e10, W10, st10⟩ := stB X9 hx hZ e9 Ar10 (j := (0 : Int32)) (inb_of S10 ⟨by decide, by decide⟩) (g := (mkF m 7 #[.val (.int ch)] [(.int (ch.toInt8.toInt32)), (.int (0 : Int32)), (.ref a), (.ref a)])) rfl rfl (hb hby own_d_jdk_43_method_46_7)
  have N10 := Fr.snoc X10 N0 ge_a
  have Od := Od.wr W10 ge_a
  have Kp := Kp.wr W10 (Or.inr gz_a)
  refine own_st st10 ?_
  show own_Go p e below s _ _ _ (T10.setTop (mkF m 8 #[.val (.int ch)] [(.ref a)]))
  have V_a : Arv Z h10 a k9 .byte (1 : Int32) [(.int (nar .byte (ch.toInt8.toInt32)))] (.int (0 : Int32)) := Arv.set Ar10 q10 S10 M10 H10 G10 (fits_nar_byte _) W10 0 rfl (Nat.le_of_ble_eq_true rfl)
  rw [own_nb] at V_a
  exact own_retR X10 hx hlk Bd.returns rfl rfl (hb hby own_d_jdk_43_method_46_8) (by decide) (by decide) (by rw [e10]; exact ⟨N10, Kp, a, _, rfl, gz_a, V_a⟩)
theorem own_d_jdk_42_method_151_0 : decode jdk_42_method_151_code 0 = .ok (.aload_n 0, 1) := by decide +kernel
theorem own_d_jdk_42_method_151_1 : decode jdk_42_method_151_code 1 = .ok (.invokespecial 1, 3) := by decide +kernel
theorem own_d_jdk_42_method_151_4 : decode jdk_42_method_151_code 4 = .ok (.aload_n 0, 1) := by decide +kernel
theorem own_d_jdk_42_method_151_5 : decode jdk_42_method_151_code 5 = .ok (.aload_n 1, 1) := by decide +kernel
theorem own_d_jdk_42_method_151_6 : decode jdk_42_method_151_code 6 = .ok (.putfield 9, 3) := by decide +kernel
theorem own_d_jdk_42_method_151_9 : decode jdk_42_method_151_code 9 = .ok (.aload_n 0, 1) := by decide +kernel
theorem own_d_jdk_42_method_151_10 : decode jdk_42_method_151_code 10 = .ok (.iload_n 2, 1) := by decide +kernel
theorem own_d_jdk_42_method_151_11 : decode jdk_42_method_151_code 11 = .ok (.putfield 15, 3) := by decide +kernel
theorem own_d_jdk_42_method_151_14 : decode jdk_42_method_151_code 14 = .ok (.return_, 1) := by decide +kernel
theorem own_ef_sbb (m : MethodId) (x0 : Addr) (x1 : Addr) (x2 : Int32) : entryFrame m #[(.ref x0), (.ref x1), (.int x2)] 3 = mkF m 0 #[.val (.ref x0), .val (.ref x1), .val (.int x2)] [] := by first | (simp [entryFrame, mkF, argsToLocals, Value.category]; done) | rfl
def own_Q_sbb (Z : State) (x t : Addr) (h0 : Heap) (n0 : Nat) (v : Option Value) (h : Heap) (L : List Loc) : Prop := v = none ∧ Fr n0 L ∧ Keep h0 h [x] ∧ Exa Z h x "java/lang/String" ∧ Fld Z h x "java/lang/String" "coder" "B" (.int (0 : Int32)) ∧ Fld Z h x "java/lang/String" "value" "[B" (.ref t)
set_option maxRecDepth 65536 in
set_option maxHeartbeats 40000000 in
theorem own_rm_sbb (l : Launch) (Z : State) (a0 : Array Value) (hw : ∀ d ∈ tables_1, d.before a0 Z = true) (ws : List Jvm.Cond) (x t : Addr) (v0 c0 : Value) (h0 : Heap) (n0 : Nat) (Od : Old Z n0 h0) (E_x : Exa Z h0 x "java/lang/String") (F_v : Fld Z h0 x "java/lang/String" "value" "[B" v0) (F_k : Fld Z h0 x "java/lang/String" "coder" "B" c0) (ge_x : n0 ≤ x) :
    MetFree l (⟨"java/lang/String", "<init>", "([BB)V"⟩ : MethodName) (head1 (Jvm.Cond.code (⟨"java/lang/String", "<init>", "([BB)V"⟩ : MethodName) jdk_42_method_151_code 3 none :: ws) ({ frames := 1, cells := 0, slots := 0, locals := 12 } : Room)) (fun a9 U => a9 = #[(.ref x), (.ref t), (.int (0 : Int32))] ∧ Z.Warmed39 U.vm ∧ U.heap = h0) (fun _ _ _ _ _ => True) (fun _ U o U' => ∃ v L, o = .returned v ∧ own_Q_sbb Z x t h0 n0 v U'.heap L ∧ FrameEnd U o U' L ({ frames := 1, cells := 0, slots := 0, locals := 12 } : Room).cells ({ frames := 1, cells := 0, slots := 0, locals := 12 } : Room).slots) := by
  refine MetFree.of_bodySF (plainFor_of_name own_pn0) hisR ?_
  intro p e s m args below meth c s₁ Bd hml0 hP hK
  obtain ⟨rfl, hZ, hh⟩ := hP
  have hx := Bd.exec
  have hby := Bd.bytes
  have hml : c.maxLocals = 3 := hml0
  have hown : s.vm.findClass "java/lang/String" = some m.cls := findClass_of_methodNamed Bd.named
  have hnm := (name_of_methodNamed Bd.named Bd.method).1
  have hlk : meth.locks = false := Bd.notSynchronized
  have X0 : Stand p l e ({ frames := 1, cells := 0, slots := 0, locals := 12 } : Room) s m #[(.ref x), (.ref t), (.int (0 : Int32))] below meth c s₁ [] 0 0 := Stand.of_body Bd
  have e0 : s₁.heap = h0 := by rw [← hh, Bd.state]; rfl
  have N0 := Fr.nil n0
  show own_Go p e below s (own_Q_sbb Z x t h0 n0) ({ frames := 1, cells := 0, slots := 0, locals := 12 } : Room).cells ({ frames := 1, cells := 0, slots := 0, locals := 12 } : Room).slots (s₁.setTop (entryFrame m #[(.ref x), (.ref t), (.int (0 : Int32))] 3))
  refine own_st (fun t9 k9 => castTop (own_ef_sbb m x t (0 : Int32)) k9) ?_
  show own_Go p e below s _ _ _ (s₁.setTop (mkF m 0 #[.val (.ref x), .val (.ref t), .val (.int (0 : Int32))] []))
  have Kp : Keep h0 h0 [x] := Keep.refl h0 [x]
  refine own_st (fun t9 k9 => XS.aloadN X0.here hx rfl (hb hby own_d_jdk_42_method_151_0) rfl rfl k9) ?_
  show own_Go p e below s _ _ _ (s₁.setTop (mkF m 1 #[.val (.ref x), .val (.ref t), .val (.int (0 : Int32))] [(.ref x)]))
  obtain ⟨T11, X11, e11, st11⟩ := initO X0 hx hZ hown (hw _ (List.mem_of_getElem? (i := 19) rfl)) (hw _ (List.mem_of_getElem? (i := 20) rfl)) (hw _ (List.mem_of_getElem? (i := 21) rfl)) e0 (g := (mkF m 1 #[.val (.ref x), .val (.ref t), .val (.int (0 : Int32))] [(.ref x)])) rfl (by rw [hml]; rfl) rfl (hb hby own_d_jdk_42_method_151_1) (by decide) (W := 0) (by show 2 * 0 + _ ≤ _; exact Nat.le_of_eq rfl) (by decide)
  refine own_st st11 ?_
  show own_Go p e below s _ _ _ (T11.setTop (mkF m 4 #[.val (.ref x), .val (.ref t), .val (.int (0 : Int32))] []))
  refine own_st (fun t9 k9 => XS.aloadN X11.here hx rfl (hb hby own_d_jdk_42_method_151_4) rfl rfl k9) ?_
  show own_Go p e below s _ _ _ (T11.setTop (mkF m 5 #[.val (.ref x), .val (.ref t), .val (.int (0 : Int32))] [(.ref x)]))
  refine own_st (fun t9 k9 => XS.aloadN X11.here hx rfl (hb hby own_d_jdk_42_method_151_5) rfl rfl k9) ?_
  show own_Go p e below s _ _ _ (T11.setTop (mkF m 6 #[.val (.ref x), .val (.ref t), .val (.int (0 : Int32))] [(.ref t), (.ref x)]))
  obtain ⟨T12, h12, X12, e12, W12, st12⟩ := putF X11 hx hZ hown (host := "") (Or.inl (hw _ (List.mem_of_getElem? (i := 22) rfl))) Via.refl e11 F_v E_x (Or.inr ⟨(hw _ (List.mem_of_getElem? (i := 23) rfl)), rfl, hnm⟩) (hw _ (List.mem_of_getElem? (i := 10) rfl)) (ty := (.array .byte)) (by decide) rfl rfl (g := (mkF m 6 #[.val (.ref x), .val (.ref t), .val (.int (0 : Int32))] [(.ref t), (.ref x)])) rfl rfl (hb hby own_d_jdk_42_method_151_6)
  have N12 := Fr.snoc X12 N0 ge_x
  have E_x := E_x.wr W12
  have F_v := F_v.same W12
  have F_k := F_k.other W12 (Or.inr (RoadKit.slot_ne (Or.inr (hw _ (List.mem_of_getElem? (i := 25) rfl))) (Or.inr (hw _ (List.mem_of_getElem? (i := 23) rfl))) (by decide) (t := .byte) (t' := (.array .byte)) (by decide) (by decide)))
  have Od := Od.wr W12 ge_x
  have Kp := Kp.wr W12 (Or.inl (List.mem_of_getElem? (i := 0) rfl))
  refine own_st st12 ?_
  show own_Go p e below s _ _ _ (T12.setTop (mkF m 9 #[.val (.ref x), .val (.ref t), .val (.int (0 : Int32))] []))
  refine own_st (fun t9 k9 => XS.aloadN X12.here hx rfl (hb hby own_d_jdk_42_method_151_9) rfl rfl k9) ?_
  show own_Go p e below s _ _ _ (T12.setTop (mkF m 10 #[.val (.ref x), .val (.ref t), .val (.int (0 : Int32))] [(.ref x)]))
  refine own_st (fun t9 k9 => XS.iloadN X12.here hx rfl (hb hby own_d_jdk_42_method_151_10) rfl  k9) ?_
  show own_Go p e below s _ _ _ (T12.setTop (mkF m 11 #[.val (.ref x), .val (.ref t), .val (.int (0 : Int32))] [(.int (0 : Int32)), (.ref x)]))
  obtain ⟨T13, h13, X13, e13, W13, st13⟩ := putFN X12 hx hZ hown (hw _ (List.mem_of_getElem? (i := 24) rfl)) Via.refl e12 F_k E_x (Or.inr ⟨(hw _ (List.mem_of_getElem? (i := 25) rfl)), rfl, hnm⟩) (hw _ (List.mem_of_getElem? (i := 10) rfl)) (ty := .byte) (v' := (.int (0 : Int32))) (by decide) rfl rfl (g := (mkF m 11 #[.val (.ref x), .val (.ref t), .val (.int (0 : Int32))] [(.int (0 : Int32)), (.ref x)])) rfl rfl (hb hby own_d_jdk_42_method_151_11)
  have N13 := Fr.snoc X13 N12 ge_x
  have E_x := E_x.wr W13
  have F_v := F_v.other W13 (Or.inr (RoadKit.slot_ne (Or.inr (hw _ (List.mem_of_getElem? (i := 23) rfl))) (Or.inr (hw _ (List.mem_of_getElem? (i := 25) rfl))) (by decide) (t := (.array .byte)) (t' := .byte) (by decide) (by decide)))
  have F_k := F_k.same W13
  have Od := Od.wr W13 ge_x
  have Kp := Kp.wr W13 (Or.inl (List.mem_of_getElem? (i := 0) rfl))
  refine own_st st13 ?_
  show own_Go p e below s _ _ _ (T13.setTop (mkF m 14 #[.val (.ref x), .val (.ref t), .val (.int (0 : Int32))] []))
  exact own_retV X13 hx hlk Bd.returns (hb hby own_d_jdk_42_method_151_14) (by decide) (by decide) (by rw [e13]; exact ⟨rfl, N13, Kp, E_x, F_k, F_v⟩)
theorem own_d_jdk_42_method_139_0 : decode jdk_42_method_139_code 0 = .ok (.getstatic 38, 3) := by decide +kernel
theorem own_d_jdk_42_method_139_3 : decode jdk_42_method_139_code 3 = .ok (.ifCond .eq 23, 3) := by decide +kernel
theorem own_d_jdk_42_method_139_6 : decode jdk_42_method_139_code 6 = .ok (.iload_n 0, 1) := by decide +kernel
theorem own_pd1 : parseMethodDescriptor "(C)Z" = some ⟨[.char], some .boolean⟩ := by decide +kernel
theorem own_d_jdk_42_method_139_7 : decode jdk_42_method_139_code 7 = .ok (.invokestatic 1015, 3) := by decide +kernel
theorem own_d_jdk_42_method_139_10 : decode jdk_42_method_139_code 10 = .ok (.ifCond .eq 16, 3) := by decide +kernel
theorem own_d_jdk_42_method_139_13 : decode jdk_42_method_139_code 13 = .ok (.new 10, 3) := by decide +kernel
theorem own_d_jdk_42_method_139_16 : decode jdk_42_method_139_code 16 = .ok (.dup, 1) := by decide +kernel
theorem own_d_jdk_42_method_139_17 : decode jdk_42_method_139_code 17 = .ok (.iload_n 0, 1) := by decide +kernel
theorem own_pd2 : parseMethodDescriptor "(C)[B" = some ⟨[.char], some (.array .byte)⟩ := by decide +kernel
theorem own_d_jdk_42_method_139_18 : decode jdk_42_method_139_code 18 = .ok (.invokestatic 1018, 3) := by decide +kernel
theorem own_d_jdk_42_method_139_21 : decode jdk_42_method_139_code 21 = .ok (.iconst 0, 1) := by decide +kernel
theorem own_pd3 : parseMethodDescriptor "([BB)V" = some ⟨[(.array .byte), .byte], none⟩ := by decide +kernel
theorem own_d_jdk_42_method_139_22 : decode jdk_42_method_139_code 22 = .ok (.invokespecial 209, 3) := by decide +kernel
theorem own_d_jdk_42_method_139_25 : decode jdk_42_method_139_code 25 = .ok (.areturn, 1) := by decide +kernel
theorem own_ef_vof (m : MethodId) (x0 : Int32) : entryFrame m #[(.int x0)] 1 = mkF m 0 #[.val (.int x0)] [] := by first | (simp [entryFrame, mkF, argsToLocals, Value.category]; done) | rfl
def own_Q_vof (Z : State) (ch : Int32) (h0 : Heap) (n0 : Nat) (v : Option Value) (h : Heap) (L : List Loc) : Prop := Fr n0 L ∧ Keep h0 h [] ∧ ∃ x t k, v = some (.ref x) ∧ h0.size ≤ x ∧ h0.size ≤ t ∧ Exa Z h x "java/lang/String" ∧ Fld Z h x "java/lang/String" "coder" "B" (.int (0 : Int32)) ∧ Fld Z h x "java/lang/String" "value" "[B" (.ref t) ∧ Arv Z h t k .byte (1 : Int32) [(.int (ch.toInt8.toInt32))] (.int (0 : Int32))
set_option maxRecDepth 65536 in
set_option maxHeartbeats 40000000 in
theorem own_rm_vof (l : Launch) (Z : State) (a0 : Array Value) (hw : ∀ d ∈ tables_1, d.before a0 Z = true) (ws : List Jvm.Cond) (ch : Int32) (G : Int32) (h0 : Heap) (n0 : Nat) (Od : Old Z n0 h0) (b1 : ¬ (255 : Int32) < ch) (O2 : Sta Z Z.heap "java/lang/String" "COMPACT_STRINGS" "Z" (.int G)) (P5 : ¬ (G = (0 : Int32))) :
    MetFree l (⟨"java/lang/String", "valueOf", "(C)Ljava/lang/String;"⟩ : MethodName) (head1 (Jvm.Cond.code (⟨"java/lang/String", "valueOf", "(C)Ljava/lang/String;"⟩ : MethodName) jdk_42_method_139_code 1 (some (.object "java/lang/String")) :: ws) ({ frames := 2, cells := 2, slots := 5, locals := 27 } : Room)) (fun a9 U => a9 = #[(.int ch)] ∧ Z.Warmed39 U.vm ∧ U.heap = h0) (fun _ _ _ _ _ => True) (fun _ U o U' => ∃ v L, o = .returned v ∧ own_Q_vof Z ch h0 n0 v U'.heap L ∧ FrameEnd U o U' L ({ frames := 2, cells := 2, slots := 5, locals := 27 } : Room).cells ({ frames := 2, cells := 2, slots := 5, locals := 27 } : Room).slots) := by
  refine MetFree.of_bodySF (plainFor_of_name own_pn0) hisR ?_
  intro p e s m args below meth c s₁ Bd hml0 hP hK
  obtain ⟨rfl, hZ, hh⟩ := hP
  have hx := Bd.exec
  have hby := Bd.bytes
  have hml : c.maxLocals = 1 := hml0
  have hown : s.vm.findClass "java/lang/String" = some m.cls := findClass_of_methodNamed Bd.named
  have hnm := (name_of_methodNamed Bd.named Bd.method).1
  have hlk : meth.locks = false := Bd.notSynchronized
  have X0 : Stand p l e ({ frames := 2, cells := 2, slots := 5, locals := 27 } : Room) s m #[(.int ch)] below meth c s₁ [] 0 0 := Stand.of_body Bd
  have e0 : s₁.heap = h0 := by rw [← hh, Bd.state]; rfl
  have N0 := Fr.nil n0
  show own_Go p e below s (own_Q_vof Z ch h0 n0) ({ frames := 2, cells := 2, slots := 5, locals := 27 } : Room).cells ({ frames := 2, cells := 2, slots := 5, locals := 27 } : Room).slots (s₁.setTop (entryFrame m #[(.int ch)] 1))
  refine own_st (fun t9 k9 => castTop (own_ef_vof m ch) k9) ?_
  show own_Go p e below s _ _ _ (s₁.setTop (mkF m 0 #[.val (.int ch)] []))
  have Kp : Keep h0 h0 [] := Keep.refl h0 []
  obtain ⟨T14, X14, e14, st14⟩ := getS (host := "") X0 hx hZ hown (hw _ (List.mem_of_getElem? (i := 4) rfl)) Via.refl e0 (O2.ext Od.2) (g := (mkF m 0 #[.val (.int ch)] [])) rfl (hb hby own_d_jdk_42_method_139_0)
  refine own_st st14 ?_
  show own_Go p e below s _ _ _ (T14.setTop (mkF m 3 #[.val (.int ch)] [(.int G)]))
  refine own_st (fun t9 k9 => XS.ifNo X14.here hx rfl (hb hby own_d_jdk_42_method_139_3) rfl ((if0 _ _).trans (feq (P5 : ¬ (G = (0 : Int32)))).1) k9) ?_
  show own_Go p e below s _ _ _ (T14.setTop (mkF m 6 #[.val (.int ch)] []))
  refine own_st (fun t9 k9 => XS.iloadN X14.here hx rfl (hb hby own_d_jdk_42_method_139_6) rfl  k9) ?_
  show own_Go p e below s _ _ _ (T14.setTop (mkF m 7 #[.val (.int ch)] [(.int ch)]))
  obtain ⟨_, T15, h15, L15, X15, e15, ⟨rfl, Nc, hu⟩, st15⟩ := own_callS X14 hx hZ hown (hw _ (List.mem_of_getElem? (i := 5) rfl)) (hw _ (List.mem_of_getElem? (i := 6) rfl)) (hw _ (List.mem_of_getElem? (i := 7) rfl)) (hw _ (List.mem_of_getElem? (i := 8) rfl)) (by decide) (own_rm_cene l Z a0 hw [] ch h0 n0 Od b1) (by decide) (by decide) e14 (W := 0) (g := (mkF m 7 #[.val (.int ch)] [(.int ch)])) rfl (by rw [hml]; rfl) (argsL := [(.int ch)]) (rest := []) rfl (lenOf own_pd1 rfl) rfl (by show 2 * 0 + _ ≤ _; exact Nat.le_of_eq rfl) (hb hby own_d_jdk_42_method_139_7) (by decide) (by decide)
  have N15 := Fr.app N0 Nc
  refine own_st st15 ?_
  show own_Go p e below s _ _ _ (T15.setTop (mkF m 10 #[.val (.int ch)] [(.int (1 : Int32))]))
  refine own_st (fun t9 k9 => XS.ifNo X15.here hx rfl (hb hby own_d_jdk_42_method_139_10) rfl (by decide) k9) ?_
  show own_Go p e below s _ _ _ (T15.setTop (mkF m 13 #[.val (.int ch)] []))
  obtain ⟨T16, h16, X16, e16, E16, A16, D16, U16, st16⟩ := newO X15 hx hZ hown (hw _ (List.mem_of_getElem? (i := 9) rfl)) (hw _ (List.mem_of_getElem? (i := 10) rfl)) (hw _ (List.mem_of_getElem? (i := 2) rfl)) (e15.trans hu) (g := (mkF m 13 #[.val (.int ch)] [])) rfl (hb hby own_d_jdk_42_method_139_13) (by decide) (by decide)
  obtain ⟨x, g16⟩ : ∃ z, z = h0.size := ⟨_, rfl⟩
  rw [← g16] at A16 D16 st16 U16
  have ge_x : n0 ≤ x := Nat.le_trans (own_z0 Od) (Nat.le_of_eq g16.symm)
  have gz_x : h0.size ≤ x := Nat.le_trans Kp.1 (Nat.le_of_eq g16.symm)
  have Od := Od.ext E16
  have Kp := Kp.ext E16
  refine own_st st16 ?_
  show own_Go p e below s _ _ _ (T16.setTop (mkF m 16 #[.val (.int ch)] [(.ref x)]))
  have E_x : Exa Z h16 x "java/lang/String" := A16
  have F_v : Fld Z h16 x "java/lang/String" "value" "[B" .null := D16 (Or.inr (hw _ (List.mem_of_getElem? (i := 23) rfl))) (ty := (.array .byte)) (by decide)
  have F_k : Fld Z h16 x "java/lang/String" "coder" "B" (.int (0 : Int32)) := D16 (Or.inr (hw _ (List.mem_of_getElem? (i := 25) rfl))) (ty := .byte) (by decide)
  refine own_st (fun t9 k9 => XS.dup X16.here hx rfl (hb hby own_d_jdk_42_method_139_16) rfl rfl k9) ?_
  show own_Go p e below s _ _ _ (T16.setTop (mkF m 17 #[.val (.int ch)] [(.ref x), (.ref x)]))
  refine own_st (fun t9 k9 => XS.iloadN X16.here hx rfl (hb hby own_d_jdk_42_method_139_17) rfl  k9) ?_
  show own_Go p e below s _ _ _ (T16.setTop (mkF m 18 #[.val (.int ch)] [(.int ch), (.ref x), (.ref x)]))
  obtain ⟨_, T17, h17, L17, X17, e17, ⟨Nd, Kd, t, kt, rfl, gt, V_t⟩, st17⟩ := own_callS X16 hx hZ hown (hw _ (List.mem_of_getElem? (i := 11) rfl)) (hw _ (List.mem_of_getElem? (i := 12) rfl)) (hw _ (List.mem_of_getElem? (i := 7) rfl)) (hw _ (List.mem_of_getElem? (i := 13) rfl)) (by decide) (own_rm_tb1 l Z a0 hw [] ch h16 n0 Od) (by decide) (by decide) e16 (W := 2) (g := (mkF m 18 #[.val (.int ch)] [(.int ch), (.ref x), (.ref x)])) rfl (by rw [hml]; rfl) (argsL := [(.int ch)]) (rest := [(.ref x), (.ref x)]) rfl (lenOf own_pd2 rfl) rfl (by show 2 * 0 + _ ≤ _; exact Nat.le_of_eq rfl) (hb hby own_d_jdk_42_method_139_18) (by decide) (by decide)
  have N17 := Fr.app N15 Nd
  have ne_x_t : x ≠ t := Nat.ne_of_lt (Nat.lt_of_lt_of_le E_x.lt gt)
  have ge_t : n0 ≤ t := Nat.le_trans (own_z0 Od) gt
  have gz_t : h0.size ≤ t := Nat.le_trans Kp.1 gt
  have E_x := E_x.keep Kd
  have F_v := F_v.keep Kd nin0
  have F_k := F_k.keep Kd nin0
  have Od := Od.keep Kd all0
  have Kp := Kp.trans Kd all0
  refine own_st st17 ?_
  show own_Go p e below s _ _ _ (T17.setTop (mkF m 21 #[.val (.int ch)] [(.ref t), (.ref x), (.ref x)]))
  refine own_st (fun t9 k9 => XS.iconst X17.here hx rfl (hb hby own_d_jdk_42_method_139_21) k9) ?_
  show own_Go p e below s _ _ _ (T17.setTop (mkF m 22 #[.val (.int ch)] [(.int (0 : Int32)), (.ref t), (.ref x), (.ref x)]))
  obtain ⟨_, T18, h18, L18, X18, e18, ⟨rfl, Nq, Ke, E_y, F_c, F_u⟩, st18⟩ := own_callI X17 hx hZ hown rfl (hw _ (List.mem_of_getElem? (i := 15) rfl)) (hw _ (List.mem_of_getElem? (i := 16) rfl)) (hw _ (List.mem_of_getElem? (i := 2) rfl)) (hw _ (List.mem_of_getElem? (i := 18) rfl)) (by decide) (own_rm_sbb l Z a0 hw [] x t .null (.int (0 : Int32)) h17 n0 Od E_x F_v F_k ge_x) (by decide) (by decide) e17 (a := x) (W := 1) (g := (mkF m 22 #[.val (.int ch)] [(.int (0 : Int32)), (.ref t), (.ref x), (.ref x)])) rfl (by rw [hml]; rfl) (argsL := [(.ref t), (.int (0 : Int32))]) (rest := [(.ref x)]) rfl (lenOf own_pd3 rfl) rfl (by show 2 * 0 + _ ≤ _; exact Nat.le_of_eq rfl) (hb hby own_d_jdk_42_method_139_22) (by decide) (by decide)
  have N18 := Fr.app N17 Nq
  have E_x := E_x.keep Ke
  have V_t := V_t.keep Ke (ninS (Ne.symm ne_x_t) nin0)
  have Od := Od.keep Ke (allS ge_x all0)
  have Kp := Kp.trans Ke (allS (Or.inr gz_x) all0)
  refine own_st st18 ?_
  show own_Go p e below s _ _ _ (T18.setTop (mkF m 25 #[.val (.int ch)] [(.ref x)]))
  exact own_retR X18 hx hlk Bd.returns rfl rfl (hb hby own_d_jdk_42_method_139_25) (by decide) (by decide) (by rw [e18]; exact ⟨N18, Kp, x, t, kt, rfl, gz_x, gz_t, E_y, F_c, F_u, V_t⟩)
theorem own_pn2 : plainName "com/example/strict_grants/strictgrants/DefectReportAddBrokenOffPinLaw" = true := by first | (simp [plainName, overriddenIn]; done) | decide +kernel
theorem own_d_method_2_0 : decode method_2_code 0 = .ok (.iload_n 0, 1) := by decide +kernel
theorem own_d_method_2_1 : decode method_2_code 1 = .ok (.ldc 7, 2) := by decide +kernel
theorem own_d_method_2_3 : decode method_2_code 3 = .ok (.iand, 1) := by decide +kernel
theorem own_d_method_2_4 : decode method_2_code 4 = .ok (.iconst 3, 1) := by decide +kernel
theorem own_d_method_2_5 : decode method_2_code 5 = .ok (.irem, 1) := by decide +kernel
theorem own_d_method_2_6 : decode method_2_code 6 = .ok (.istore_n 3, 1) := by decide +kernel
theorem own_d_method_2_7 : decode method_2_code 7 = .ok (.iload_n 3, 1) := by decide +kernel
theorem own_d_method_2_8 : decode method_2_code 8 = .ok (.ifCond .ne 14, 3) := by decide +kernel
theorem own_d_method_2_11 : decode method_2_code 11 = .ok (.new 8, 3) := by decide +kernel
theorem own_d_method_2_14 : decode method_2_code 14 = .ok (.dup, 1) := by decide +kernel
theorem own_d_method_2_15 : decode method_2_code 15 = .ok (.iconst 0, 1) := by decide +kernel
theorem own_d_method_2_16 : decode method_2_code 16 = .ok (.newarray .char, 2) := by decide +kernel
theorem own_pd4 : parseMethodDescriptor "([C)V" = some ⟨[(.array .char)], none⟩ := by decide +kernel
theorem own_d_method_2_18 : decode method_2_code 18 = .ok (.invokespecial 10, 3) := by decide +kernel
theorem own_d_method_2_21 : decode method_2_code 21 = .ok (.areturn, 1) := by decide +kernel
theorem own_d_method_2_22 : decode method_2_code 22 = .ok (.iload_n 3, 1) := by decide +kernel
theorem own_d_method_2_23 : decode method_2_code 23 = .ok (.iconst 1, 1) := by decide +kernel
theorem own_d_method_2_24 : decode method_2_code 24 = .ok (.if_icmp .ne 23, 3) := by decide +kernel
theorem own_d_method_2_27 : decode method_2_code 27 = .ok (.new 8, 3) := by decide +kernel
theorem own_d_method_2_30 : decode method_2_code 30 = .ok (.dup, 1) := by decide +kernel
theorem own_d_method_2_31 : decode method_2_code 31 = .ok (.iconst 1, 1) := by decide +kernel
theorem own_d_method_2_32 : decode method_2_code 32 = .ok (.newarray .char, 2) := by decide +kernel
theorem own_d_method_2_34 : decode method_2_code 34 = .ok (.dup, 1) := by decide +kernel
theorem own_d_method_2_35 : decode method_2_code 35 = .ok (.iconst 0, 1) := by decide +kernel
theorem own_d_method_2_36 : decode method_2_code 36 = .ok (.iload_n 1, 1) := by decide +kernel
theorem own_d_method_2_37 : decode method_2_code 37 = .ok (.sipush 255, 3) := by decide +kernel
theorem own_d_method_2_40 : decode method_2_code 40 = .ok (.iand, 1) := by decide +kernel
theorem own_d_method_2_41 : decode method_2_code 41 = .ok (.i2c, 1) := by decide +kernel
theorem own_d_method_2_42 : decode method_2_code 42 = .ok (.castore, 1) := by decide +kernel
theorem own_d_method_2_43 : decode method_2_code 43 = .ok (.invokespecial 10, 3) := by decide +kernel
theorem own_d_method_2_46 : decode method_2_code 46 = .ok (.areturn, 1) := by decide +kernel
theorem own_d_method_2_47 : decode method_2_code 47 = .ok (.new 8, 3) := by decide +kernel
theorem own_d_method_2_50 : decode method_2_code 50 = .ok (.dup, 1) := by decide +kernel
theorem own_d_method_2_51 : decode method_2_code 51 = .ok (.iconst 2, 1) := by decide +kernel
theorem own_d_method_2_52 : decode method_2_code 52 = .ok (.newarray .char, 2) := by decide +kernel
theorem own_d_method_2_54 : decode method_2_code 54 = .ok (.dup, 1) := by decide +kernel
theorem own_d_method_2_55 : decode method_2_code 55 = .ok (.iconst 0, 1) := by decide +kernel
theorem own_d_method_2_56 : decode method_2_code 56 = .ok (.iload_n 1, 1) := by decide +kernel
theorem own_d_method_2_57 : decode method_2_code 57 = .ok (.sipush 255, 3) := by decide +kernel
theorem own_d_method_2_60 : decode method_2_code 60 = .ok (.iand, 1) := by decide +kernel
theorem own_d_method_2_61 : decode method_2_code 61 = .ok (.i2c, 1) := by decide +kernel
theorem own_d_method_2_62 : decode method_2_code 62 = .ok (.castore, 1) := by decide +kernel
theorem own_d_method_2_63 : decode method_2_code 63 = .ok (.dup, 1) := by decide +kernel
theorem own_d_method_2_64 : decode method_2_code 64 = .ok (.iconst 1, 1) := by decide +kernel
theorem own_d_method_2_65 : decode method_2_code 65 = .ok (.iload_n 2, 1) := by decide +kernel
theorem own_d_method_2_66 : decode method_2_code 66 = .ok (.sipush 255, 3) := by decide +kernel
theorem own_d_method_2_69 : decode method_2_code 69 = .ok (.iand, 1) := by decide +kernel
theorem own_d_method_2_70 : decode method_2_code 70 = .ok (.i2c, 1) := by decide +kernel
theorem own_d_method_2_71 : decode method_2_code 71 = .ok (.castore, 1) := by decide +kernel
theorem own_d_method_2_72 : decode method_2_code 72 = .ok (.invokespecial 10, 3) := by decide +kernel
theorem own_d_method_2_75 : decode method_2_code 75 = .ok (.areturn, 1) := by decide +kernel
theorem own_ef_draw (m : MethodId) (x0 : Int32) (x1 : Int32) (x2 : Int32) : entryFrame m #[(.int x0), (.int x1), (.int x2)] 4 = mkF m 0 #[.val (.int x0), .val (.int x1), .val (.int x2), .unset] [] := by first | (simp [entryFrame, mkF, argsToLocals, Value.category]; done) | rfl
def own_Q_draw (Z : State)  (h0 : Heap) (n0 : Nat) (v : Option Value) (h : Heap) (L : List Loc) : Prop := Fr n0 L ∧ Keep h0 h [] ∧ ∃ x, v = some (.ref x) ∧ h0.size ≤ x
set_option maxRecDepth 65536 in
set_option maxHeartbeats 40000000 in
theorem own_rm_draw (l : Launch) (Z : State) (a0 : Array Value) (hw : ∀ d ∈ tables_1, d.before a0 Z = true) (hEL : EW Z a0 consts_1) (ws : List Jvm.Cond) (ln c0 c1 G : Int32) (h0 : Heap) (n0 : Nat) (Od : Old Z n0 h0) (O2 : Sta Z Z.heap "java/lang/String" "COMPACT_STRINGS" "Z" (.int G)) (P5 : ¬ (G = (0 : Int32))) :
    MetFree l (⟨"com/example/strict_grants/strictgrants/DefectReportAddBrokenOffPinLaw", "drawn", "(III)Ljava/lang/String;"⟩ : MethodName) (head1 (Jvm.Cond.code (⟨"com/example/strict_grants/strictgrants/DefectReportAddBrokenOffPinLaw", "drawn", "(III)Ljava/lang/String;"⟩ : MethodName) method_2_code 4 (some (.object "java/lang/String")) :: ws) ({ frames := 4, cells := 6, slots := 12, locals := 66 } : Room)) (fun a9 U => a9 = #[(.int ln), (.int c0), (.int c1)] ∧ Z.Warmed39 U.vm ∧ U.heap = h0 ∧ CHv Z consts_1 U.vm h0 ∧ ∀ x9 ∈ ([] : List Addr), Safe Z consts_1 U.vm h0 x9) (fun _ _ _ _ _ => True) (fun _ U o U' => ∃ v L, o = .returned v ∧ own_Q_draw Z  h0 n0 v U'.heap L ∧ CHr Z consts_1 U.vm U.heap U'.vm U'.heap ∧ ReturnedEndW U o U' L ({ frames := 4, cells := 6, slots := 12, locals := 66 } : Room).cells ({ frames := 4, cells := 6, slots := 12, locals := 66 } : Room).slots) := by
  refine MetFree.of_bodySF (plainFor_of_name own_pn2) hisR ?_
  intro p e s m args below meth c s₁ Bd hml0 hP hK
  obtain ⟨rfl, hZ, hh, Hc, Hs⟩ := hP
  have hx := Bd.exec
  have hby := Bd.bytes
  have hml : c.maxLocals = 4 := hml0
  have hown : s.vm.findClass "com/example/strict_grants/strictgrants/DefectReportAddBrokenOffPinLaw" = some m.cls := findClass_of_methodNamed Bd.named
  have hnm := (name_of_methodNamed Bd.named Bd.method).1
  have hlk : meth.locks = false := Bd.notSynchronized
  have X0 : Stand p l e ({ frames := 4, cells := 6, slots := 12, locals := 66 } : Room) (s.setVm s.vm) m #[(.int ln), (.int c0), (.int c1)] below meth c s₁ [] 0 0 := Stand.of_body Bd
  have e0 : s₁.heap = h0 := by rw [← hh, Bd.state]; rfl
  have N0 := Fr.nil n0
  have hS : s.Since s.vm h0.size := (State.WarmedH.refl s).since _
  have hk : h0.size ≤ h0.size := Nat.le_refl _
  have Hr : CHr Z consts_1 s.vm h0 s.vm h0 := CHr.refl Hc
  skip
  show own_GoW p e below s Z consts_1 (own_Q_draw Z  h0 n0) ({ frames := 4, cells := 6, slots := 12, locals := 66 } : Room).cells ({ frames := 4, cells := 6, slots := 12, locals := 66 } : Room).slots (s₁.setTop (entryFrame m #[(.int ln), (.int c0), (.int c1)] 4))
  refine own_stW (fun t9 k9 => castTop (own_ef_draw m ln c0 c1) k9) ?_
  show own_GoW p e below s Z consts_1 _ _ _ (s₁.setTop (mkF m 0 #[.val (.int ln), .val (.int c0), .val (.int c1), .unset] []))
  have Kp : Keep h0 h0 [] := Keep.refl h0 []
  have hws : ∀ d ∈ StrChars.Road.words, d.before a0 Z = true := fun d hd => hw d ((by decide +kernel : ∀ d ∈ StrChars.Road.words, d ∈ tables_1) d hd)
  refine own_stW (fun t9 k9 => XS.iloadN X0.here hx rfl (hb hby own_d_method_2_0) rfl  k9) ?_
  show own_GoW p e below s Z consts_1 _ _ _ (s₁.setTop (mkF m 1 #[.val (.int ln), .val (.int c0), .val (.int c1), .unset] [(.int ln)]))
  refine own_stW (fun t9 k9 => X0.ldcInt hx hown (mvT hZ (hw _ (List.mem_of_getElem? (i := 30) rfl))) (g := (mkF m 1 #[.val (.int ln), .val (.int c0), .val (.int c1), .unset] [(.int ln)])) rfl (hb hby own_d_method_2_1) t9 k9) ?_
  show own_GoW p e below s Z consts_1 _ _ _ (s₁.setTop (mkF m 3 #[.val (.int ln), .val (.int c0), .val (.int c1), .unset] [(.int (2147483647 : Int32)), (.int ln)]))
  refine own_stW (fun t9 k9 => XS.iand X0.here hx rfl (hb hby own_d_method_2_3) rfl k9) ?_
  show own_GoW p e below s Z consts_1 _ _ _ (s₁.setTop (mkF m 4 #[.val (.int ln), .val (.int c0), .val (.int c1), .unset] [(.int (ln &&& (2147483647 : Int32)))]))
  refine own_stW (fun t9 k9 => XS.iconst X0.here hx rfl (hb hby own_d_method_2_4) k9) ?_
  show own_GoW p e below s Z consts_1 _ _ _ (s₁.setTop (mkF m 5 #[.val (.int ln), .val (.int c0), .val (.int c1), .unset] [(.int (3 : Int32)), (.int (ln &&& (2147483647 : Int32)))]))
  refine own_stW (fun t9 k9 => iremM X0 hx rfl (hb hby own_d_method_2_5) rfl (by decide) k9) ?_
  show own_GoW p e below s Z consts_1 _ _ _ (s₁.setTop (mkF m 6 #[.val (.int ln), .val (.int c0), .val (.int c1), .unset] [(.int ((ln &&& (2147483647 : Int32)) % (3 : Int32)))]))
  refine own_stW (fun t9 k9 => XS.istoreN X0.here hx rfl (hb hby own_d_method_2_6) rfl (l' := #[.val (.int ln), .val (.int c0), .val (.int c1), .val (.int ((ln &&& (2147483647 : Int32)) % (3 : Int32)))]) rfl k9) ?_
  show own_GoW p e below s Z consts_1 _ _ _ (s₁.setTop (mkF m 7 #[.val (.int ln), .val (.int c0), .val (.int c1), .val (.int ((ln &&& (2147483647 : Int32)) % (3 : Int32)))] []))
  refine own_stW (fun t9 k9 => XS.iloadN X0.here hx rfl (hb hby own_d_method_2_7) rfl  k9) ?_
  show own_GoW p e below s Z consts_1 _ _ _ (s₁.setTop (mkF m 8 #[.val (.int ln), .val (.int c0), .val (.int c1), .val (.int ((ln &&& (2147483647 : Int32)) % (3 : Int32)))] [(.int ((ln &&& (2147483647 : Int32)) % (3 : Int32)))]))
  by_cases h0n : ((ln &&& (2147483647 : Int32)) % (3 : Int32)) = (0 : Int32)
  · skip
    refine own_stW (fun t9 k9 => XS.ifNo X0.here hx rfl (hb hby own_d_method_2_8) rfl ((if0 _ _).trans (teq (h0n : ((ln &&& (2147483647 : Int32)) % (3 : Int32)) = (0 : Int32))).2) k9) ?_
    show own_GoW p e below s Z consts_1 _ _ _ (s₁.setTop (mkF m 11 #[.val (.int ln), .val (.int c0), .val (.int c1), .val (.int ((ln &&& (2147483647 : Int32)) % (3 : Int32)))] []))
    obtain ⟨T19, h19, X19, e19, E19, A19, D19, U19, st19⟩ := newO X0 hx hZ hown (hw _ (List.mem_of_getElem? (i := 31) rfl)) (hw _ (List.mem_of_getElem? (i := 10) rfl)) (hw _ (List.mem_of_getElem? (i := 2) rfl)) e0 (g := (mkF m 11 #[.val (.int ln), .val (.int c0), .val (.int c1), .val (.int ((ln &&& (2147483647 : Int32)) % (3 : Int32)))] [])) rfl (hb hby own_d_method_2_11) (by decide) (by decide)
    obtain ⟨x, g19⟩ : ∃ z, z = h0.size := ⟨_, rfl⟩
    rw [← g19] at A19 D19 st19 U19
    have ge_x : n0 ≤ x := Nat.le_trans (own_z0 Od) (Nat.le_of_eq g19.symm)
    have gz_x : h0.size ≤ x := Nat.le_trans Kp.1 (Nat.le_of_eq g19.symm)
    have Sf_x : Safe Z consts_1 s.vm h0 x := Safe.new (Nat.le_of_eq g19.symm)
    have Sf_x := Safe.ext E19 Hr.1 Sf_x
    have Od := Od.ext E19
    have Kp := Kp.ext E19
    have Hr := Hr.trans (CHr.ext E19 Hr.1)
    have hk := Nat.le_trans hk E19.1
    refine own_stW st19 ?_
    show own_GoW p e below s Z consts_1 _ _ _ (T19.setTop (mkF m 14 #[.val (.int ln), .val (.int c0), .val (.int c1), .val (.int ((ln &&& (2147483647 : Int32)) % (3 : Int32)))] [(.ref x)]))
    have E_x : Exa Z h19 x "java/lang/String" := A19
    have F_v : Fld Z h19 x "java/lang/String" "value" "[B" .null := D19 (Or.inr (hw _ (List.mem_of_getElem? (i := 23) rfl))) (ty := (.array .byte)) (by decide)
    have F_k : Fld Z h19 x "java/lang/String" "coder" "B" (.int (0 : Int32)) := D19 (Or.inr (hw _ (List.mem_of_getElem? (i := 25) rfl))) (ty := .byte) (by decide)
    refine own_stW (fun t9 k9 => XS.dup X19.here hx rfl (hb hby own_d_method_2_14) rfl rfl k9) ?_
    show own_GoW p e below s Z consts_1 _ _ _ (T19.setTop (mkF m 15 #[.val (.int ln), .val (.int c0), .val (.int c1), .val (.int ((ln &&& (2147483647 : Int32)) % (3 : Int32)))] [(.ref x), (.ref x)]))
    refine own_stW (fun t9 k9 => XS.iconst X19.here hx rfl (hb hby own_d_method_2_15) k9) ?_
    show own_GoW p e below s Z consts_1 _ _ _ (T19.setTop (mkF m 16 #[.val (.int ln), .val (.int c0), .val (.int c1), .val (.int ((ln &&& (2147483647 : Int32)) % (3 : Int32)))] [(.int (0 : Int32)), (.ref x), (.ref x)]))
    obtain ⟨T20, h20, k20, X20, e20, E20, A20, st20⟩ := newP X19 hx hZ (hw _ (List.mem_of_getElem? (i := 32) rfl)) e19 (g := (mkF m 16 #[.val (.int ln), .val (.int c0), .val (.int c1), .val (.int ((ln &&& (2147483647 : Int32)) % (3 : Int32)))] [(.int (0 : Int32)), (.ref x), (.ref x)])) rfl (hb hby own_d_method_2_16) rfl (by decide) (cap := 0) (by decide) (by decide) (by decide) (by decide)
    obtain ⟨b, g20⟩ : ∃ z, z = h19.size := ⟨_, rfl⟩
    rw [← g20] at A20 st20
    have ne_x_b : x ≠ b := Nat.ne_of_lt (Nat.lt_of_lt_of_le E_x.lt (Nat.le_of_eq g20.symm))
    have ge_b : n0 ≤ b := Nat.le_trans (own_z0 Od) (Nat.le_of_eq g20.symm)
    have gz_b : h0.size ≤ b := Nat.le_trans Kp.1 (Nat.le_of_eq g20.symm)
    have Sf_b : Safe Z consts_1 s.vm h19 b := Safe.new (Nat.le_of_eq g20.symm)
    have Sf_x := Safe.ext E20 Hr.1 Sf_x
    have E_x := E_x.ext E20
    have F_v := F_v.ext E20
    have F_k := F_k.ext E20
    have Sf_b := Safe.ext E20 Hr.1 Sf_b
    have Od := Od.ext E20
    have Kp := Kp.ext E20
    have Hr := Hr.trans (CHr.ext E20 Hr.1)
    have hk := Nat.le_trans hk E20.1
    refine own_stW st20 ?_
    show own_GoW p e below s Z consts_1 _ _ _ (T20.setTop (mkF m 18 #[.val (.int ln), .val (.int c0), .val (.int c1), .val (.int ((ln &&& (2147483647 : Int32)) % (3 : Int32)))] [(.ref b), (.ref x), (.ref x)]))
    have V_b : Arv Z h20 b k20 .char (0 : Int32) [] (.int (0 : Int32)) := (Arv.new A20 (by decide)).pad (pad_rep [] (.int (0 : Int32)) 0)
    obtain ⟨_, T21, h21, L21, X21, e21, ⟨rfl, Nc, Kc, E_y, F_c, t, kt, F_u, V_t⟩, hS21, hg21, hZ21, hown21, R21, st21⟩ := own_callIW X20 hx hZ hown hS hk rfl (hw _ (List.mem_of_getElem? (i := 33) rfl)) (hw _ (List.mem_of_getElem? (i := 34) rfl)) (hw _ (List.mem_of_getElem? (i := 35) rfl)) (by decide) (own_payW (W := 1) (K := (fun _ _ _ _ _ => True)) (own_rm_si1_0 l Z a0 hw hEL [] x b _ .null (.int (0 : Int32)) h20 n0 Od E_x F_v F_k V_b ge_x (Ne.symm ne_x_b)) (fun _ _ _ _ _ _ _ _ _ => trivial) hZ (hw _ (List.mem_of_getElem? (i := 35) rfl)) (hw _ (List.mem_of_getElem? (i := 2) rfl)) (by decide) (by decide) hEL Hr.1 (own_sfS E_x.lt Sf_x own_sf0)) e20 (a := x) (g := (mkF m 18 #[.val (.int ln), .val (.int c0), .val (.int c1), .val (.int ((ln &&& (2147483647 : Int32)) % (3 : Int32)))] [(.ref b), (.ref x), (.ref x)])) rfl (by rw [hml]; rfl) (argsL := [(.ref b)]) (rest := [(.ref x)]) rfl (lenOf own_pd4 rfl) rfl (by show 2 * 0 + _ ≤ _; exact Nat.le_of_eq rfl) (hb hby own_d_method_2_18) (by decide) (by decide)
    have N21 := Fr.app N0 Nc
    have QSf_x := CHr.safe R21 E_x.lt Sf_x
    have QSf_b := CHr.safe R21 V_b.lt Sf_b
    have E_x := E_x.keep Kc
    have V_b := V_b.keep Kc (ninS (Ne.symm ne_x_b) nin0)
    have Od := Od.keep Kc (allS ge_x all0)
    have Kp := Kp.trans Kc (allS (Or.inr gz_x) all0)
    have Sf_x := QSf_x
    have Sf_b := QSf_b
    have Hr := Hr.trans R21
    have hS := hS21
    have hk : h21.size ≤ h21.size := Nat.le_refl _
    have hZ := hZ21
    have hown := hown21
    refine own_stW st21 ?_
    show own_GoW p e below s Z consts_1 _ _ _ (T21.setTop (mkF m 21 #[.val (.int ln), .val (.int c0), .val (.int c1), .val (.int ((ln &&& (2147483647 : Int32)) % (3 : Int32)))] [(.ref x)]))
    exact own_retRW X21 hx hlk hS (by rw [e21]; exact hk) hZ hEL (by rw [hh, e21]; exact Hr) Bd.returns rfl rfl (hb hby own_d_method_2_21) (by decide) (by decide) (by rw [e21]; exact ⟨N21, Kp, x, rfl, gz_x⟩)
  · skip
    refine own_stW (fun t9 k9 => XS.ifYes X0.here hx rfl (pc0 := 8) (pc' := 22) rfl (hb hby own_d_method_2_8) rfl ((if0 _ _).trans (feq (h0n : ¬ (((ln &&& (2147483647 : Int32)) % (3 : Int32)) = (0 : Int32)))).2) (by decide) (by decide) k9) ?_
    show own_GoW p e below s Z consts_1 _ _ _ (s₁.setTop (mkF m 22 #[.val (.int ln), .val (.int c0), .val (.int c1), .val (.int ((ln &&& (2147483647 : Int32)) % (3 : Int32)))] []))
    refine own_stW (fun t9 k9 => XS.iloadN X0.here hx rfl (hb hby own_d_method_2_22) rfl  k9) ?_
    show own_GoW p e below s Z consts_1 _ _ _ (s₁.setTop (mkF m 23 #[.val (.int ln), .val (.int c0), .val (.int c1), .val (.int ((ln &&& (2147483647 : Int32)) % (3 : Int32)))] [(.int ((ln &&& (2147483647 : Int32)) % (3 : Int32)))]))
    refine own_stW (fun t9 k9 => XS.iconst X0.here hx rfl (hb hby own_d_method_2_23) k9) ?_
    show own_GoW p e below s Z consts_1 _ _ _ (s₁.setTop (mkF m 24 #[.val (.int ln), .val (.int c0), .val (.int c1), .val (.int ((ln &&& (2147483647 : Int32)) % (3 : Int32)))] [(.int (1 : Int32)), (.int ((ln &&& (2147483647 : Int32)) % (3 : Int32)))]))
    by_cases h1n : ((ln &&& (2147483647 : Int32)) % (3 : Int32)) = (1 : Int32)
    · skip
      refine own_stW (fun t9 k9 => XS.icmpNo X0.here hx rfl (hb hby own_d_method_2_24) rfl (teq (h1n : ((ln &&& (2147483647 : Int32)) % (3 : Int32)) = (1 : Int32))).2 k9) ?_
      show own_GoW p e below s Z consts_1 _ _ _ (s₁.setTop (mkF m 27 #[.val (.int ln), .val (.int c0), .val (.int c1), .val (.int ((ln &&& (2147483647 : Int32)) % (3 : Int32)))] []))
      obtain ⟨T22, h22, X22, e22, E22, A22, D22, U22, st22⟩ := newO X0 hx hZ hown (hw _ (List.mem_of_getElem? (i := 31) rfl)) (hw _ (List.mem_of_getElem? (i := 10) rfl)) (hw _ (List.mem_of_getElem? (i := 2) rfl)) e0 (g := (mkF m 27 #[.val (.int ln), .val (.int c0), .val (.int c1), .val (.int ((ln &&& (2147483647 : Int32)) % (3 : Int32)))] [])) rfl (hb hby own_d_method_2_27) (by decide) (by decide)
      obtain ⟨x, g22⟩ : ∃ z, z = h0.size := ⟨_, rfl⟩
      rw [← g22] at A22 D22 st22 U22
      have ge_x : n0 ≤ x := Nat.le_trans (own_z0 Od) (Nat.le_of_eq g22.symm)
      have gz_x : h0.size ≤ x := Nat.le_trans Kp.1 (Nat.le_of_eq g22.symm)
      have Sf_x : Safe Z consts_1 s.vm h0 x := Safe.new (Nat.le_of_eq g22.symm)
      have Sf_x := Safe.ext E22 Hr.1 Sf_x
      have Od := Od.ext E22
      have Kp := Kp.ext E22
      have Hr := Hr.trans (CHr.ext E22 Hr.1)
      have hk := Nat.le_trans hk E22.1
      refine own_stW st22 ?_
      show own_GoW p e below s Z consts_1 _ _ _ (T22.setTop (mkF m 30 #[.val (.int ln), .val (.int c0), .val (.int c1), .val (.int ((ln &&& (2147483647 : Int32)) % (3 : Int32)))] [(.ref x)]))
      have E_x : Exa Z h22 x "java/lang/String" := A22
      have F_v : Fld Z h22 x "java/lang/String" "value" "[B" .null := D22 (Or.inr (hw _ (List.mem_of_getElem? (i := 23) rfl))) (ty := (.array .byte)) (by decide)
      have F_k : Fld Z h22 x "java/lang/String" "coder" "B" (.int (0 : Int32)) := D22 (Or.inr (hw _ (List.mem_of_getElem? (i := 25) rfl))) (ty := .byte) (by decide)
      refine own_stW (fun t9 k9 => XS.dup X22.here hx rfl (hb hby own_d_method_2_30) rfl rfl k9) ?_
      show own_GoW p e below s Z consts_1 _ _ _ (T22.setTop (mkF m 31 #[.val (.int ln), .val (.int c0), .val (.int c1), .val (.int ((ln &&& (2147483647 : Int32)) % (3 : Int32)))] [(.ref x), (.ref x)]))
      refine own_stW (fun t9 k9 => XS.iconst X22.here hx rfl (hb hby own_d_method_2_31) k9) ?_
      show own_GoW p e below s Z consts_1 _ _ _ (T22.setTop (mkF m 32 #[.val (.int ln), .val (.int c0), .val (.int c1), .val (.int ((ln &&& (2147483647 : Int32)) % (3 : Int32)))] [(.int (1 : Int32)), (.ref x), (.ref x)]))
      obtain ⟨T23, h23, k23, X23, e23, E23, A23, st23⟩ := newP X22 hx hZ (hw _ (List.mem_of_getElem? (i := 32) rfl)) e22 (g := (mkF m 32 #[.val (.int ln), .val (.int c0), .val (.int c1), .val (.int ((ln &&& (2147483647 : Int32)) % (3 : Int32)))] [(.int (1 : Int32)), (.ref x), (.ref x)])) rfl (hb hby own_d_method_2_32) rfl (by decide) (cap := 1) (by decide) (by decide) (by decide) (by decide)
      obtain ⟨b, g23⟩ : ∃ z, z = h22.size := ⟨_, rfl⟩
      rw [← g23] at A23 st23
      have ne_x_b : x ≠ b := Nat.ne_of_lt (Nat.lt_of_lt_of_le E_x.lt (Nat.le_of_eq g23.symm))
      have ge_b : n0 ≤ b := Nat.le_trans (own_z0 Od) (Nat.le_of_eq g23.symm)
      have gz_b : h0.size ≤ b := Nat.le_trans Kp.1 (Nat.le_of_eq g23.symm)
      have Sf_b : Safe Z consts_1 s.vm h22 b := Safe.new (Nat.le_of_eq g23.symm)
      have Sf_x := Safe.ext E23 Hr.1 Sf_x
      have E_x := E_x.ext E23
      have F_v := F_v.ext E23
      have F_k := F_k.ext E23
      have Sf_b := Safe.ext E23 Hr.1 Sf_b
      have Od := Od.ext E23
      have Kp := Kp.ext E23
      have Hr := Hr.trans (CHr.ext E23 Hr.1)
      have hk := Nat.le_trans hk E23.1
      refine own_stW st23 ?_
      show own_GoW p e below s Z consts_1 _ _ _ (T23.setTop (mkF m 34 #[.val (.int ln), .val (.int c0), .val (.int c1), .val (.int ((ln &&& (2147483647 : Int32)) % (3 : Int32)))] [(.ref b), (.ref x), (.ref x)]))
      have V_b : Arv Z h23 b k23 .char (1 : Int32) [(.int (0 : Int32))] (.int (0 : Int32)) := (Arv.new A23 (by decide)).pad (pad_rep [] (.int (0 : Int32)) 1)
      refine own_stW (fun t9 k9 => XS.dup X23.here hx rfl (hb hby own_d_method_2_34) rfl rfl k9) ?_
      show own_GoW p e below s Z consts_1 _ _ _ (T23.setTop (mkF m 35 #[.val (.int ln), .val (.int c0), .val (.int c1), .val (.int ((ln &&& (2147483647 : Int32)) % (3 : Int32)))] [(.ref b), (.ref b), (.ref x), (.ref x)]))
      refine own_stW (fun t9 k9 => XS.iconst X23.here hx rfl (hb hby own_d_method_2_35) k9) ?_
      show own_GoW p e below s Z consts_1 _ _ _ (T23.setTop (mkF m 36 #[.val (.int ln), .val (.int c0), .val (.int c1), .val (.int ((ln &&& (2147483647 : Int32)) % (3 : Int32)))] [(.int (0 : Int32)), (.ref b), (.ref b), (.ref x), (.ref x)]))
      refine own_stW (fun t9 k9 => XS.iloadN X23.here hx rfl (hb hby own_d_method_2_36) rfl  k9) ?_
      show own_GoW p e below s Z consts_1 _ _ _ (T23.setTop (mkF m 37 #[.val (.int ln), .val (.int c0), .val (.int c1), .val (.int ((ln &&& (2147483647 : Int32)) % (3 : Int32)))] [(.int c0), (.int (0 : Int32)), (.ref b), (.ref b), (.ref x), (.ref x)]))
      refine own_stW (fun t9 k9 => XS.sipush X23.here hx rfl (hb hby own_d_method_2_37) k9) ?_
      show own_GoW p e below s Z consts_1 _ _ _ (T23.setTop (mkF m 40 #[.val (.int ln), .val (.int c0), .val (.int c1), .val (.int ((ln &&& (2147483647 : Int32)) % (3 : Int32)))] [(.int (255 : Int32)), (.int c0), (.int (0 : Int32)), (.ref b), (.ref b), (.ref x), (.ref x)]))
      refine own_stW (fun t9 k9 => XS.iand X23.here hx rfl (hb hby own_d_method_2_40) rfl k9) ?_
      show own_GoW p e below s Z consts_1 _ _ _ (T23.setTop (mkF m 41 #[.val (.int ln), .val (.int c0), .val (.int c1), .val (.int ((ln &&& (2147483647 : Int32)) % (3 : Int32)))] [(.int (c0 &&& (255 : Int32))), (.int (0 : Int32)), (.ref b), (.ref b), (.ref x), (.ref x)]))
      refine own_stW (fun t9 k9 => XT.i2c X23.here hx rfl (hb hby own_d_method_2_41) rfl k9) ?_
      show own_GoW p e below s Z consts_1 _ _ _ (T23.setTop (mkF m 42 #[.val (.int ln), .val (.int c0), .val (.int c1), .val (.int ((ln &&& (2147483647 : Int32)) % (3 : Int32)))] [(.int ((c0 &&& (255 : Int32)).toUInt32.toUInt16.toUInt32.toInt32)), (.int (0 : Int32)), (.ref b), (.ref b), (.ref x), (.ref x)]))
      obtain ⟨cl24, Ar24, q24, S24, M24, H24, G24⟩ := id V_b
      obtain ⟨T24, h24, X24, e24, W24, st24⟩ := stC X23 hx hZ e23 Ar24 (j := (0 : Int32)) (inb_of S24 ⟨by decide, by decide⟩) (g := (mkF m 42 #[.val (.int ln), .val (.int c0), .val (.int c1), .val (.int ((ln &&& (2147483647 : Int32)) % (3 : Int32)))] [(.int ((c0 &&& (255 : Int32)).toUInt32.toUInt16.toUInt32.toInt32)), (.int (0 : Int32)), (.ref b), (.ref b), (.ref x), (.ref x)])) rfl rfl (hb hby own_d_method_2_42)
      have N24 := Fr.snoc X24 N0 ge_b
      have QSf_x := Safe.wr W24 Sf_b Hr.1 Sf_x
      have E_x := E_x.wr W24
      have F_v := F_v.other W24 (Or.inl ne_x_b)
      have F_k := F_k.other W24 (Or.inl ne_x_b)
      have QSf_b := Safe.wr W24 Sf_b Hr.1 Sf_b
      have Od := Od.wr W24 ge_b
      have Kp := Kp.wr W24 (Or.inr gz_b)
      have Hr := Hr.trans (CHr.wr W24 Sf_b Hr.1)
      have hk := Nat.le_trans hk (Keep.of_wr W24).1
      have Sf_x := QSf_x
      have Sf_b := QSf_b
      refine own_stW st24 ?_
      show own_GoW p e below s Z consts_1 _ _ _ (T24.setTop (mkF m 43 #[.val (.int ln), .val (.int c0), .val (.int c1), .val (.int ((ln &&& (2147483647 : Int32)) % (3 : Int32)))] [(.ref b), (.ref x), (.ref x)]))
      have V_b : Arv Z h24 b k23 .char (1 : Int32) [(.int (nar .char ((c0 &&& (255 : Int32)).toUInt32.toUInt16.toUInt32.toInt32)))] (.int (0 : Int32)) := Arv.set Ar24 q24 S24 M24 H24 G24 (fits_nar_char _) W24 0 rfl (Nat.le_of_ble_eq_true rfl)
      have hp : ∀ c ∈ ([nar .char ((c0 &&& (255 : Int32)).toUInt32.toUInt16.toUInt32.toInt32)] : List Int32), ¬ c < 0 ∧ ¬ (255 : Int32) < c := by
        intro c hc
        simp only [List.mem_cons, List.not_mem_nil, or_false] at hc
        rcases hc with rfl <;> exact own_and255 _
      obtain ⟨_, T25, h25, L25, X25, e25, ⟨rfl, Nb, Kb, Eb, Fk, tt, kb, gt, gt2, ntb, Fv, Vb⟩, st25⟩ := own_backI X24 hx hZ hown rfl (hw _ (List.mem_of_getElem? (i := 33) rfl)) (hw _ (List.mem_of_getElem? (i := 34) rfl)) (hw _ (List.mem_of_getElem? (i := 35) rfl)) (by decide) (StrChars.Road.backV (W := 1) hZ hws (kI := 4) (hw _ (List.mem_of_getElem? (i := 10) rfl)) (cs := [nar .char ((c0 &&& (255 : Int32)).toUInt32.toUInt16.toUInt32.toInt32)]) (bs := ([nar .char ((c0 &&& (255 : Int32)).toUInt32.toUInt16.toUInt32.toInt32)] : List Int32).map (fun c => c.toInt8.toInt32)) (n := 1) ge_x (own_z0 Od) E_x F_v F_k V_b (O2.ext Od.2) P5 rfl rfl (by decide) (by decide) hp rfl (by decide) (by decide)) e24 (a := x) (W := 1) (g := (mkF m 43 #[.val (.int ln), .val (.int c0), .val (.int c1), .val (.int ((ln &&& (2147483647 : Int32)) % (3 : Int32)))] [(.ref b), (.ref x), (.ref x)])) rfl (by rw [hml]; rfl) (argsL := [(.ref b)]) (rest := [(.ref x)]) rfl (lenOf own_pd4 rfl) rfl (by show 2 * 0 + _ ≤ _; exact Nat.le_of_eq rfl) (hb hby own_d_method_2_43) (by decide) (by decide)
      have N25 := Fr.app N24 Nb
      have QSf_x := Safe.keep Kb (sfS Sf_x sf0) Hr.1 Sf_x
      have E_x := E_x.keep Kb
      have QSf_b := Safe.keep Kb (sfS Sf_x sf0) Hr.1 Sf_b
      have V_b := V_b.keep Kb (ninS (Ne.symm ne_x_b) nin0)
      have Od := Od.keep Kb (allS ge_x all0)
      have Kp := Kp.trans Kb (allS (Or.inr gz_x) all0)
      have Hr0 := Hr.1
      have Hr := Hr.trans (CHr.keep Kb (sfS Sf_x sf0) Hr.1)
      have hk := Nat.le_trans hk Kb.1
      have Sf_x := QSf_x
      have Sf_b := QSf_b
      refine own_stW st25 ?_
      show own_GoW p e below s Z consts_1 _ _ _ (T25.setTop (mkF m 46 #[.val (.int ln), .val (.int c0), .val (.int c1), .val (.int ((ln &&& (2147483647 : Int32)) % (3 : Int32)))] [(.ref x)]))
      exact own_retRW X25 hx hlk hS (by rw [e25]; exact hk) hZ hEL (by rw [hh, e25]; exact Hr) Bd.returns rfl rfl (hb hby own_d_method_2_46) (by decide) (by decide) (by rw [e25]; exact ⟨N25, Kp, x, rfl, gz_x⟩)
    · skip
      refine own_stW (fun t9 k9 => XS.icmpYes X0.here hx rfl (pc0 := 24) (pc' := 47) rfl (hb hby own_d_method_2_24) rfl (feq (h1n : ¬ (((ln &&& (2147483647 : Int32)) % (3 : Int32)) = (1 : Int32)))).2 (by decide) (by decide) k9) ?_
      show own_GoW p e below s Z consts_1 _ _ _ (s₁.setTop (mkF m 47 #[.val (.int ln), .val (.int c0), .val (.int c1), .val (.int ((ln &&& (2147483647 : Int32)) % (3 : Int32)))] []))
      obtain ⟨T26, h26, X26, e26, E26, A26, D26, U26, st26⟩ := newO X0 hx hZ hown (hw _ (List.mem_of_getElem? (i := 31) rfl)) (hw _ (List.mem_of_getElem? (i := 10) rfl)) (hw _ (List.mem_of_getElem? (i := 2) rfl)) e0 (g := (mkF m 47 #[.val (.int ln), .val (.int c0), .val (.int c1), .val (.int ((ln &&& (2147483647 : Int32)) % (3 : Int32)))] [])) rfl (hb hby own_d_method_2_47) (by decide) (by decide)
      obtain ⟨x, g26⟩ : ∃ z, z = h0.size := ⟨_, rfl⟩
      rw [← g26] at A26 D26 st26 U26
      have ge_x : n0 ≤ x := Nat.le_trans (own_z0 Od) (Nat.le_of_eq g26.symm)
      have gz_x : h0.size ≤ x := Nat.le_trans Kp.1 (Nat.le_of_eq g26.symm)
      have Sf_x : Safe Z consts_1 s.vm h0 x := Safe.new (Nat.le_of_eq g26.symm)
      have Sf_x := Safe.ext E26 Hr.1 Sf_x
      have Od := Od.ext E26
      have Kp := Kp.ext E26
      have Hr := Hr.trans (CHr.ext E26 Hr.1)
      have hk := Nat.le_trans hk E26.1
      refine own_stW st26 ?_
      show own_GoW p e below s Z consts_1 _ _ _ (T26.setTop (mkF m 50 #[.val (.int ln), .val (.int c0), .val (.int c1), .val (.int ((ln &&& (2147483647 : Int32)) % (3 : Int32)))] [(.ref x)]))
      have E_x : Exa Z h26 x "java/lang/String" := A26
      have F_v : Fld Z h26 x "java/lang/String" "value" "[B" .null := D26 (Or.inr (hw _ (List.mem_of_getElem? (i := 23) rfl))) (ty := (.array .byte)) (by decide)
      have F_k : Fld Z h26 x "java/lang/String" "coder" "B" (.int (0 : Int32)) := D26 (Or.inr (hw _ (List.mem_of_getElem? (i := 25) rfl))) (ty := .byte) (by decide)
      refine own_stW (fun t9 k9 => XS.dup X26.here hx rfl (hb hby own_d_method_2_50) rfl rfl k9) ?_
      show own_GoW p e below s Z consts_1 _ _ _ (T26.setTop (mkF m 51 #[.val (.int ln), .val (.int c0), .val (.int c1), .val (.int ((ln &&& (2147483647 : Int32)) % (3 : Int32)))] [(.ref x), (.ref x)]))
      refine own_stW (fun t9 k9 => XS.iconst X26.here hx rfl (hb hby own_d_method_2_51) k9) ?_
      show own_GoW p e below s Z consts_1 _ _ _ (T26.setTop (mkF m 52 #[.val (.int ln), .val (.int c0), .val (.int c1), .val (.int ((ln &&& (2147483647 : Int32)) % (3 : Int32)))] [(.int (2 : Int32)), (.ref x), (.ref x)]))
      obtain ⟨T27, h27, k27, X27, e27, E27, A27, st27⟩ := newP X26 hx hZ (hw _ (List.mem_of_getElem? (i := 32) rfl)) e26 (g := (mkF m 52 #[.val (.int ln), .val (.int c0), .val (.int c1), .val (.int ((ln &&& (2147483647 : Int32)) % (3 : Int32)))] [(.int (2 : Int32)), (.ref x), (.ref x)])) rfl (hb hby own_d_method_2_52) rfl (by decide) (cap := 2) (by decide) (by decide) (by decide) (by decide)
      obtain ⟨b, g27⟩ : ∃ z, z = h26.size := ⟨_, rfl⟩
      rw [← g27] at A27 st27
      have ne_x_b : x ≠ b := Nat.ne_of_lt (Nat.lt_of_lt_of_le E_x.lt (Nat.le_of_eq g27.symm))
      have ge_b : n0 ≤ b := Nat.le_trans (own_z0 Od) (Nat.le_of_eq g27.symm)
      have gz_b : h0.size ≤ b := Nat.le_trans Kp.1 (Nat.le_of_eq g27.symm)
      have Sf_b : Safe Z consts_1 s.vm h26 b := Safe.new (Nat.le_of_eq g27.symm)
      have Sf_x := Safe.ext E27 Hr.1 Sf_x
      have E_x := E_x.ext E27
      have F_v := F_v.ext E27
      have F_k := F_k.ext E27
      have Sf_b := Safe.ext E27 Hr.1 Sf_b
      have Od := Od.ext E27
      have Kp := Kp.ext E27
      have Hr := Hr.trans (CHr.ext E27 Hr.1)
      have hk := Nat.le_trans hk E27.1
      refine own_stW st27 ?_
      show own_GoW p e below s Z consts_1 _ _ _ (T27.setTop (mkF m 54 #[.val (.int ln), .val (.int c0), .val (.int c1), .val (.int ((ln &&& (2147483647 : Int32)) % (3 : Int32)))] [(.ref b), (.ref x), (.ref x)]))
      have V_b : Arv Z h27 b k27 .char (2 : Int32) [(.int (0 : Int32)), (.int (0 : Int32))] (.int (0 : Int32)) := (Arv.new A27 (by decide)).pad (pad_rep [] (.int (0 : Int32)) 2)
      refine own_stW (fun t9 k9 => XS.dup X27.here hx rfl (hb hby own_d_method_2_54) rfl rfl k9) ?_
      show own_GoW p e below s Z consts_1 _ _ _ (T27.setTop (mkF m 55 #[.val (.int ln), .val (.int c0), .val (.int c1), .val (.int ((ln &&& (2147483647 : Int32)) % (3 : Int32)))] [(.ref b), (.ref b), (.ref x), (.ref x)]))
      refine own_stW (fun t9 k9 => XS.iconst X27.here hx rfl (hb hby own_d_method_2_55) k9) ?_
      show own_GoW p e below s Z consts_1 _ _ _ (T27.setTop (mkF m 56 #[.val (.int ln), .val (.int c0), .val (.int c1), .val (.int ((ln &&& (2147483647 : Int32)) % (3 : Int32)))] [(.int (0 : Int32)), (.ref b), (.ref b), (.ref x), (.ref x)]))
      refine own_stW (fun t9 k9 => XS.iloadN X27.here hx rfl (hb hby own_d_method_2_56) rfl  k9) ?_
      show own_GoW p e below s Z consts_1 _ _ _ (T27.setTop (mkF m 57 #[.val (.int ln), .val (.int c0), .val (.int c1), .val (.int ((ln &&& (2147483647 : Int32)) % (3 : Int32)))] [(.int c0), (.int (0 : Int32)), (.ref b), (.ref b), (.ref x), (.ref x)]))
      refine own_stW (fun t9 k9 => XS.sipush X27.here hx rfl (hb hby own_d_method_2_57) k9) ?_
      show own_GoW p e below s Z consts_1 _ _ _ (T27.setTop (mkF m 60 #[.val (.int ln), .val (.int c0), .val (.int c1), .val (.int ((ln &&& (2147483647 : Int32)) % (3 : Int32)))] [(.int (255 : Int32)), (.int c0), (.int (0 : Int32)), (.ref b), (.ref b), (.ref x), (.ref x)]))
      refine own_stW (fun t9 k9 => XS.iand X27.here hx rfl (hb hby own_d_method_2_60) rfl k9) ?_
      show own_GoW p e below s Z consts_1 _ _ _ (T27.setTop (mkF m 61 #[.val (.int ln), .val (.int c0), .val (.int c1), .val (.int ((ln &&& (2147483647 : Int32)) % (3 : Int32)))] [(.int (c0 &&& (255 : Int32))), (.int (0 : Int32)), (.ref b), (.ref b), (.ref x), (.ref x)]))
      refine own_stW (fun t9 k9 => XT.i2c X27.here hx rfl (hb hby own_d_method_2_61) rfl k9) ?_
      show own_GoW p e below s Z consts_1 _ _ _ (T27.setTop (mkF m 62 #[.val (.int ln), .val (.int c0), .val (.int c1), .val (.int ((ln &&& (2147483647 : Int32)) % (3 : Int32)))] [(.int ((c0 &&& (255 : Int32)).toUInt32.toUInt16.toUInt32.toInt32)), (.int (0 : Int32)), (.ref b), (.ref b), (.ref x), (.ref x)]))
      obtain ⟨cl28, Ar28, q28, S28, M28, H28, G28⟩ := id V_b
      obtain ⟨T28, h28, X28, e28, W28, st28⟩ := stC X27 hx hZ e27 Ar28 (j := (0 : Int32)) (inb_of S28 ⟨by decide, by decide⟩) (g := (mkF m 62 #[.val (.int ln), .val (.int c0), .val (.int c1), .val (.int ((ln &&& (2147483647 : Int32)) % (3 : Int32)))] [(.int ((c0 &&& (255 : Int32)).toUInt32.toUInt16.toUInt32.toInt32)), (.int (0 : Int32)), (.ref b), (.ref b), (.ref x), (.ref x)])) rfl rfl (hb hby own_d_method_2_62)
      have N28 := Fr.snoc X28 N0 ge_b
      have QSf_x := Safe.wr W28 Sf_b Hr.1 Sf_x
      have E_x := E_x.wr W28
      have F_v := F_v.other W28 (Or.inl ne_x_b)
      have F_k := F_k.other W28 (Or.inl ne_x_b)
      have QSf_b := Safe.wr W28 Sf_b Hr.1 Sf_b
      have Od := Od.wr W28 ge_b
      have Kp := Kp.wr W28 (Or.inr gz_b)
      have Hr := Hr.trans (CHr.wr W28 Sf_b Hr.1)
      have hk := Nat.le_trans hk (Keep.of_wr W28).1
      have Sf_x := QSf_x
      have Sf_b := QSf_b
      refine own_stW st28 ?_
      show own_GoW p e below s Z consts_1 _ _ _ (T28.setTop (mkF m 63 #[.val (.int ln), .val (.int c0), .val (.int c1), .val (.int ((ln &&& (2147483647 : Int32)) % (3 : Int32)))] [(.ref b), (.ref x), (.ref x)]))
      have V_b : Arv Z h28 b k27 .char (2 : Int32) [(.int (nar .char ((c0 &&& (255 : Int32)).toUInt32.toUInt16.toUInt32.toInt32))), (.int (0 : Int32))] (.int (0 : Int32)) := Arv.set Ar28 q28 S28 M28 H28 G28 (fits_nar_char _) W28 0 rfl (Nat.le_of_ble_eq_true rfl)
      refine own_stW (fun t9 k9 => XS.dup X28.here hx rfl (hb hby own_d_method_2_63) rfl rfl k9) ?_
      show own_GoW p e below s Z consts_1 _ _ _ (T28.setTop (mkF m 64 #[.val (.int ln), .val (.int c0), .val (.int c1), .val (.int ((ln &&& (2147483647 : Int32)) % (3 : Int32)))] [(.ref b), (.ref b), (.ref x), (.ref x)]))
      refine own_stW (fun t9 k9 => XS.iconst X28.here hx rfl (hb hby own_d_method_2_64) k9) ?_
      show own_GoW p e below s Z consts_1 _ _ _ (T28.setTop (mkF m 65 #[.val (.int ln), .val (.int c0), .val (.int c1), .val (.int ((ln &&& (2147483647 : Int32)) % (3 : Int32)))] [(.int (1 : Int32)), (.ref b), (.ref b), (.ref x), (.ref x)]))
      refine own_stW (fun t9 k9 => XS.iloadN X28.here hx rfl (hb hby own_d_method_2_65) rfl  k9) ?_
      show own_GoW p e below s Z consts_1 _ _ _ (T28.setTop (mkF m 66 #[.val (.int ln), .val (.int c0), .val (.int c1), .val (.int ((ln &&& (2147483647 : Int32)) % (3 : Int32)))] [(.int c1), (.int (1 : Int32)), (.ref b), (.ref b), (.ref x), (.ref x)]))
      refine own_stW (fun t9 k9 => XS.sipush X28.here hx rfl (hb hby own_d_method_2_66) k9) ?_
      show own_GoW p e below s Z consts_1 _ _ _ (T28.setTop (mkF m 69 #[.val (.int ln), .val (.int c0), .val (.int c1), .val (.int ((ln &&& (2147483647 : Int32)) % (3 : Int32)))] [(.int (255 : Int32)), (.int c1), (.int (1 : Int32)), (.ref b), (.ref b), (.ref x), (.ref x)]))
      refine own_stW (fun t9 k9 => XS.iand X28.here hx rfl (hb hby own_d_method_2_69) rfl k9) ?_
      show own_GoW p e below s Z consts_1 _ _ _ (T28.setTop (mkF m 70 #[.val (.int ln), .val (.int c0), .val (.int c1), .val (.int ((ln &&& (2147483647 : Int32)) % (3 : Int32)))] [(.int (c1 &&& (255 : Int32))), (.int (1 : Int32)), (.ref b), (.ref b), (.ref x), (.ref x)]))
      refine own_stW (fun t9 k9 => XT.i2c X28.here hx rfl (hb hby own_d_method_2_70) rfl k9) ?_
      show own_GoW p e below s Z consts_1 _ _ _ (T28.setTop (mkF m 71 #[.val (.int ln), .val (.int c0), .val (.int c1), .val (.int ((ln &&& (2147483647 : Int32)) % (3 : Int32)))] [(.int ((c1 &&& (255 : Int32)).toUInt32.toUInt16.toUInt32.toInt32)), (.int (1 : Int32)), (.ref b), (.ref b), (.ref x), (.ref x)]))
      obtain ⟨cl29, Ar29, q29, S29, M29, H29, G29⟩ := id V_b
      obtain ⟨T29, h29, X29, e29, W29, st29⟩ := stC X28 hx hZ e28 Ar29 (j := (1 : Int32)) (inb_of S29 ⟨by decide, by decide⟩) (g := (mkF m 71 #[.val (.int ln), .val (.int c0), .val (.int c1), .val (.int ((ln &&& (2147483647 : Int32)) % (3 : Int32)))] [(.int ((c1 &&& (255 : Int32)).toUInt32.toUInt16.toUInt32.toInt32)), (.int (1 : Int32)), (.ref b), (.ref b), (.ref x), (.ref x)])) rfl rfl (hb hby own_d_method_2_71)
      have N29 := Fr.snoc X29 N28 ge_b
      have QSf_x := Safe.wr W29 Sf_b Hr.1 Sf_x
      have E_x := E_x.wr W29
      have F_v := F_v.other W29 (Or.inl ne_x_b)
      have F_k := F_k.other W29 (Or.inl ne_x_b)
      have QSf_b := Safe.wr W29 Sf_b Hr.1 Sf_b
      have Od := Od.wr W29 ge_b
      have Kp := Kp.wr W29 (Or.inr gz_b)
      have Hr := Hr.trans (CHr.wr W29 Sf_b Hr.1)
      have hk := Nat.le_trans hk (Keep.of_wr W29).1
      have Sf_x := QSf_x
      have Sf_b := QSf_b
      refine own_stW st29 ?_
      show own_GoW p e below s Z consts_1 _ _ _ (T29.setTop (mkF m 72 #[.val (.int ln), .val (.int c0), .val (.int c1), .val (.int ((ln &&& (2147483647 : Int32)) % (3 : Int32)))] [(.ref b), (.ref x), (.ref x)]))
      have V_b : Arv Z h29 b k27 .char (2 : Int32) [(.int (nar .char ((c0 &&& (255 : Int32)).toUInt32.toUInt16.toUInt32.toInt32))), (.int (nar .char ((c1 &&& (255 : Int32)).toUInt32.toUInt16.toUInt32.toInt32)))] (.int (0 : Int32)) := Arv.set Ar29 q29 S29 M29 H29 G29 (fits_nar_char _) W29 1 rfl (Nat.le_of_ble_eq_true rfl)
      have hp : ∀ c ∈ ([nar .char ((c0 &&& (255 : Int32)).toUInt32.toUInt16.toUInt32.toInt32), nar .char ((c1 &&& (255 : Int32)).toUInt32.toUInt16.toUInt32.toInt32)] : List Int32), ¬ c < 0 ∧ ¬ (255 : Int32) < c := by
        intro c hc
        simp only [List.mem_cons, List.not_mem_nil, or_false] at hc
        rcases hc with rfl | rfl <;> exact own_and255 _
      obtain ⟨_, T30, h30, L30, X30, e30, ⟨rfl, Nb, Kb, Eb, Fk, tt, kb, gt, gt2, ntb, Fv, Vb⟩, st30⟩ := own_backI X29 hx hZ hown rfl (hw _ (List.mem_of_getElem? (i := 33) rfl)) (hw _ (List.mem_of_getElem? (i := 34) rfl)) (hw _ (List.mem_of_getElem? (i := 35) rfl)) (by decide) (StrChars.Road.backV (W := 1) hZ hws (kI := 4) (hw _ (List.mem_of_getElem? (i := 10) rfl)) (cs := [nar .char ((c0 &&& (255 : Int32)).toUInt32.toUInt16.toUInt32.toInt32), nar .char ((c1 &&& (255 : Int32)).toUInt32.toUInt16.toUInt32.toInt32)]) (bs := ([nar .char ((c0 &&& (255 : Int32)).toUInt32.toUInt16.toUInt32.toInt32), nar .char ((c1 &&& (255 : Int32)).toUInt32.toUInt16.toUInt32.toInt32)] : List Int32).map (fun c => c.toInt8.toInt32)) (n := 2) ge_x (own_z0 Od) E_x F_v F_k V_b (O2.ext Od.2) P5 rfl rfl (by decide) (by decide) hp rfl (by decide) (by decide)) e29 (a := x) (W := 1) (g := (mkF m 72 #[.val (.int ln), .val (.int c0), .val (.int c1), .val (.int ((ln &&& (2147483647 : Int32)) % (3 : Int32)))] [(.ref b), (.ref x), (.ref x)])) rfl (by rw [hml]; rfl) (argsL := [(.ref b)]) (rest := [(.ref x)]) rfl (lenOf own_pd4 rfl) rfl (by show 2 * 0 + _ ≤ _; exact Nat.le_of_eq rfl) (hb hby own_d_method_2_72) (by decide) (by decide)
      have N30 := Fr.app N29 Nb
      have QSf_x := Safe.keep Kb (sfS Sf_x sf0) Hr.1 Sf_x
      have E_x := E_x.keep Kb
      have QSf_b := Safe.keep Kb (sfS Sf_x sf0) Hr.1 Sf_b
      have V_b := V_b.keep Kb (ninS (Ne.symm ne_x_b) nin0)
      have Od := Od.keep Kb (allS ge_x all0)
      have Kp := Kp.trans Kb (allS (Or.inr gz_x) all0)
      have Hr0 := Hr.1
      have Hr := Hr.trans (CHr.keep Kb (sfS Sf_x sf0) Hr.1)
      have hk := Nat.le_trans hk Kb.1
      have Sf_x := QSf_x
      have Sf_b := QSf_b
      refine own_stW st30 ?_
      show own_GoW p e below s Z consts_1 _ _ _ (T30.setTop (mkF m 75 #[.val (.int ln), .val (.int c0), .val (.int c1), .val (.int ((ln &&& (2147483647 : Int32)) % (3 : Int32)))] [(.ref x)]))
      exact own_retRW X30 hx hlk hS (by rw [e30]; exact hk) hZ hEL (by rw [hh, e30]; exact Hr) Bd.returns rfl rfl (hb hby own_d_method_2_75) (by decide) (by decide) (by rw [e30]; exact ⟨N30, Kp, x, rfl, gz_x⟩)
theorem own_pn3 : plainName "java/lang/Record" = true := by first | (simp [plainName, overriddenIn]; done) | decide +kernel
theorem own_d_jdk_30_method_1_0 : decode jdk_30_method_1_code 0 = .ok (.aload_n 0, 1) := by decide +kernel
theorem own_d_jdk_30_method_1_1 : decode jdk_30_method_1_code 1 = .ok (.invokespecial 1, 3) := by decide +kernel
theorem own_d_jdk_30_method_1_4 : decode jdk_30_method_1_code 4 = .ok (.return_, 1) := by decide +kernel
theorem own_ef_rec (m : MethodId) (x0 : Addr) : entryFrame m #[(.ref x0)] 1 = mkF m 0 #[.val (.ref x0)] [] := by first | (simp [entryFrame, mkF, argsToLocals, Value.category]; done) | rfl
def own_Q_rec (Z : State)  (h0 : Heap) (n0 : Nat) (v : Option Value) (h : Heap) (L : List Loc) : Prop := v = none ∧ Fr n0 L ∧ h = h0
set_option maxRecDepth 65536 in
set_option maxHeartbeats 40000000 in
theorem own_rm_rec (l : Launch) (Z : State) (a0 : Array Value) (hw : ∀ d ∈ tables_1, d.before a0 Z = true) (ws : List Jvm.Cond) (x : Addr) (h0 : Heap) (n0 : Nat) (Od : Old Z n0 h0) :
    MetFree l (⟨"java/lang/Record", "<init>", "()V"⟩ : MethodName) (head1 (Jvm.Cond.code (⟨"java/lang/Record", "<init>", "()V"⟩ : MethodName) jdk_30_method_1_code 1 none :: ws) ({ frames := 1, cells := 0, slots := 0, locals := 12 } : Room)) (fun a9 U => a9 = #[(.ref x)] ∧ Z.Warmed39 U.vm ∧ U.heap = h0) (fun _ _ _ _ _ => True) (fun _ U o U' => ∃ v L, o = .returned v ∧ own_Q_rec Z  h0 n0 v U'.heap L ∧ FrameEnd U o U' L ({ frames := 1, cells := 0, slots := 0, locals := 12 } : Room).cells ({ frames := 1, cells := 0, slots := 0, locals := 12 } : Room).slots) := by
  refine MetFree.of_bodySF (plainFor_of_name own_pn3) hisR ?_
  intro p e s m args below meth c s₁ Bd hml0 hP hK
  obtain ⟨rfl, hZ, hh⟩ := hP
  have hx := Bd.exec
  have hby := Bd.bytes
  have hml : c.maxLocals = 1 := hml0
  have hown : s.vm.findClass "java/lang/Record" = some m.cls := findClass_of_methodNamed Bd.named
  have hnm := (name_of_methodNamed Bd.named Bd.method).1
  have hlk : meth.locks = false := Bd.notSynchronized
  have X0 : Stand p l e ({ frames := 1, cells := 0, slots := 0, locals := 12 } : Room) s m #[(.ref x)] below meth c s₁ [] 0 0 := Stand.of_body Bd
  have e0 : s₁.heap = h0 := by rw [← hh, Bd.state]; rfl
  have N0 := Fr.nil n0
  show own_Go p e below s (own_Q_rec Z  h0 n0) ({ frames := 1, cells := 0, slots := 0, locals := 12 } : Room).cells ({ frames := 1, cells := 0, slots := 0, locals := 12 } : Room).slots (s₁.setTop (entryFrame m #[(.ref x)] 1))
  refine own_st (fun t9 k9 => castTop (own_ef_rec m x) k9) ?_
  show own_Go p e below s _ _ _ (s₁.setTop (mkF m 0 #[.val (.ref x)] []))
  refine own_st (fun t9 k9 => XS.aloadN X0.here hx rfl (hb hby own_d_jdk_30_method_1_0) rfl rfl k9) ?_
  show own_Go p e below s _ _ _ (s₁.setTop (mkF m 1 #[.val (.ref x)] [(.ref x)]))
  obtain ⟨T31, X31, e31, st31⟩ := initO X0 hx hZ hown (hw _ (List.mem_of_getElem? (i := 111) rfl)) (hw _ (List.mem_of_getElem? (i := 20) rfl)) (hw _ (List.mem_of_getElem? (i := 21) rfl)) e0 (g := (mkF m 1 #[.val (.ref x)] [(.ref x)])) rfl (by rw [hml]; rfl) rfl (hb hby own_d_jdk_30_method_1_1) (by decide) (W := 0) (by show 2 * 0 + _ ≤ _; exact Nat.le_of_eq rfl) (by decide)
  refine own_st st31 ?_
  show own_Go p e below s _ _ _ (T31.setTop (mkF m 4 #[.val (.ref x)] []))
  exact own_retV X31 hx hlk Bd.returns (hb hby own_d_jdk_30_method_1_4) (by decide) (by decide) (by rw [e31]; exact ⟨rfl, N0, rfl⟩)
theorem own_pn4 : plainName "java/util/AbstractCollection" = true := by first | (simp [plainName, overriddenIn]; done) | decide +kernel
theorem own_d_jdk_22_method_1_0 : decode jdk_22_method_1_code 0 = .ok (.aload_n 0, 1) := by decide +kernel
theorem own_d_jdk_22_method_1_1 : decode jdk_22_method_1_code 1 = .ok (.invokespecial 1, 3) := by decide +kernel
theorem own_d_jdk_22_method_1_4 : decode jdk_22_method_1_code 4 = .ok (.return_, 1) := by decide +kernel
theorem own_ef_ac (m : MethodId) (x0 : Addr) : entryFrame m #[(.ref x0)] 1 = mkF m 0 #[.val (.ref x0)] [] := by first | (simp [entryFrame, mkF, argsToLocals, Value.category]; done) | rfl
def own_Q_ac (Z : State)  (h0 : Heap) (n0 : Nat) (v : Option Value) (h : Heap) (L : List Loc) : Prop := v = none ∧ Fr n0 L ∧ h = h0
set_option maxRecDepth 65536 in
set_option maxHeartbeats 40000000 in
theorem own_rm_ac (l : Launch) (Z : State) (a0 : Array Value) (hw : ∀ d ∈ tables_1, d.before a0 Z = true) (ws : List Jvm.Cond) (x : Addr) (h0 : Heap) (n0 : Nat) (Od : Old Z n0 h0) :
    MetFree l (⟨"java/util/AbstractCollection", "<init>", "()V"⟩ : MethodName) (head1 (Jvm.Cond.code (⟨"java/util/AbstractCollection", "<init>", "()V"⟩ : MethodName) jdk_22_method_1_code 1 none :: ws) ({ frames := 1, cells := 0, slots := 0, locals := 12 } : Room)) (fun a9 U => a9 = #[(.ref x)] ∧ Z.Warmed39 U.vm ∧ U.heap = h0) (fun _ _ _ _ _ => True) (fun _ U o U' => ∃ v L, o = .returned v ∧ own_Q_ac Z  h0 n0 v U'.heap L ∧ FrameEnd U o U' L ({ frames := 1, cells := 0, slots := 0, locals := 12 } : Room).cells ({ frames := 1, cells := 0, slots := 0, locals := 12 } : Room).slots) := by
  refine MetFree.of_bodySF (plainFor_of_name own_pn4) hisR ?_
  intro p e s m args below meth c s₁ Bd hml0 hP hK
  obtain ⟨rfl, hZ, hh⟩ := hP
  have hx := Bd.exec
  have hby := Bd.bytes
  have hml : c.maxLocals = 1 := hml0
  have hown : s.vm.findClass "java/util/AbstractCollection" = some m.cls := findClass_of_methodNamed Bd.named
  have hnm := (name_of_methodNamed Bd.named Bd.method).1
  have hlk : meth.locks = false := Bd.notSynchronized
  have X0 : Stand p l e ({ frames := 1, cells := 0, slots := 0, locals := 12 } : Room) s m #[(.ref x)] below meth c s₁ [] 0 0 := Stand.of_body Bd
  have e0 : s₁.heap = h0 := by rw [← hh, Bd.state]; rfl
  have N0 := Fr.nil n0
  show own_Go p e below s (own_Q_ac Z  h0 n0) ({ frames := 1, cells := 0, slots := 0, locals := 12 } : Room).cells ({ frames := 1, cells := 0, slots := 0, locals := 12 } : Room).slots (s₁.setTop (entryFrame m #[(.ref x)] 1))
  refine own_st (fun t9 k9 => castTop (own_ef_ac m x) k9) ?_
  show own_Go p e below s _ _ _ (s₁.setTop (mkF m 0 #[.val (.ref x)] []))
  refine own_st (fun t9 k9 => XS.aloadN X0.here hx rfl (hb hby own_d_jdk_22_method_1_0) rfl rfl k9) ?_
  show own_Go p e below s _ _ _ (s₁.setTop (mkF m 1 #[.val (.ref x)] [(.ref x)]))
  obtain ⟨T32, X32, e32, st32⟩ := initO X0 hx hZ hown (hw _ (List.mem_of_getElem? (i := 67) rfl)) (hw _ (List.mem_of_getElem? (i := 20) rfl)) (hw _ (List.mem_of_getElem? (i := 21) rfl)) e0 (g := (mkF m 1 #[.val (.ref x)] [(.ref x)])) rfl (by rw [hml]; rfl) rfl (hb hby own_d_jdk_22_method_1_1) (by decide) (W := 0) (by show 2 * 0 + _ ≤ _; exact Nat.le_of_eq rfl) (by decide)
  refine own_st st32 ?_
  show own_Go p e below s _ _ _ (T32.setTop (mkF m 4 #[.val (.ref x)] []))
  exact own_retV X32 hx hlk Bd.returns (hb hby own_d_jdk_22_method_1_4) (by decide) (by decide) (by rw [e32]; exact ⟨rfl, N0, rfl⟩)
theorem own_pn5 : plainName "java/util/AbstractList" = true := by first | (simp [plainName, overriddenIn]; done) | decide +kernel
theorem own_d_jdk_39_method_1_0 : decode jdk_39_method_1_code 0 = .ok (.aload_n 0, 1) := by decide +kernel
theorem own_pd5 : parseMethodDescriptor "()V" = some ⟨[], none⟩ := by decide +kernel
theorem own_d_jdk_39_method_1_1 : decode jdk_39_method_1_code 1 = .ok (.invokespecial 1, 3) := by decide +kernel
theorem own_d_jdk_39_method_1_4 : decode jdk_39_method_1_code 4 = .ok (.aload_n 0, 1) := by decide +kernel
theorem own_d_jdk_39_method_1_5 : decode jdk_39_method_1_code 5 = .ok (.iconst 0, 1) := by decide +kernel
theorem own_d_jdk_39_method_1_6 : decode jdk_39_method_1_code 6 = .ok (.putfield 7, 3) := by decide +kernel
theorem own_d_jdk_39_method_1_9 : decode jdk_39_method_1_code 9 = .ok (.return_, 1) := by decide +kernel
theorem own_ef_abl (m : MethodId) (x0 : Addr) : entryFrame m #[(.ref x0)] 1 = mkF m 0 #[.val (.ref x0)] [] := by first | (simp [entryFrame, mkF, argsToLocals, Value.category]; done) | rfl
def own_Q_abl (Z : State) (x : Addr) (h0 : Heap) (n0 : Nat) (v : Option Value) (h : Heap) (L : List Loc) : Prop := v = none ∧ Fr n0 L ∧ Keep h0 h [x] ∧ Exa Z h x "java/util/ArrayList" ∧ Fld Z h x "java/util/ArrayList" "size" "I" (.int (0 : Int32)) ∧ Fld Z h x "java/util/ArrayList" "elementData" "[Ljava/lang/Object;" .null
set_option maxRecDepth 65536 in
set_option maxHeartbeats 40000000 in
theorem own_rm_abl (l : Launch) (Z : State) (a0 : Array Value) (hw : ∀ d ∈ tables_1, d.before a0 Z = true) (ws : List Jvm.Cond) (x : Addr) (h0 : Heap) (n0 : Nat) (Od : Old Z n0 h0) (E_x : Exa Z h0 x "java/util/ArrayList") (F_s : Fld Z h0 x "java/util/ArrayList" "size" "I" (.int (0 : Int32))) (F_m : Fld Z h0 x "java/util/AbstractList" "modCount" "I" (.int (0 : Int32))) (F_e : Fld Z h0 x "java/util/ArrayList" "elementData" "[Ljava/lang/Object;" .null) (ge_x : n0 ≤ x) :
    MetFree l (⟨"java/util/AbstractList", "<init>", "()V"⟩ : MethodName) (head1 (Jvm.Cond.code (⟨"java/util/AbstractList", "<init>", "()V"⟩ : MethodName) jdk_39_method_1_code 1 none :: ws) ({ frames := 2, cells := 0, slots := 0, locals := 24 } : Room)) (fun a9 U => a9 = #[(.ref x)] ∧ Z.Warmed39 U.vm ∧ U.heap = h0) (fun _ _ _ _ _ => True) (fun _ U o U' => ∃ v L, o = .returned v ∧ own_Q_abl Z x h0 n0 v U'.heap L ∧ FrameEnd U o U' L ({ frames := 2, cells := 0, slots := 0, locals := 24 } : Room).cells ({ frames := 2, cells := 0, slots := 0, locals := 24 } : Room).slots) := by
  refine MetFree.of_bodySF (plainFor_of_name own_pn5) hisR ?_
  intro p e s m args below meth c s₁ Bd hml0 hP hK
  obtain ⟨rfl, hZ, hh⟩ := hP
  have hx := Bd.exec
  have hby := Bd.bytes
  have hml : c.maxLocals = 1 := hml0
  have hown : s.vm.findClass "java/util/AbstractList" = some m.cls := findClass_of_methodNamed Bd.named
  have hnm := (name_of_methodNamed Bd.named Bd.method).1
  have hlk : meth.locks = false := Bd.notSynchronized
  have X0 : Stand p l e ({ frames := 2, cells := 0, slots := 0, locals := 24 } : Room) s m #[(.ref x)] below meth c s₁ [] 0 0 := Stand.of_body Bd
  have e0 : s₁.heap = h0 := by rw [← hh, Bd.state]; rfl
  have N0 := Fr.nil n0
  show own_Go p e below s (own_Q_abl Z x h0 n0) ({ frames := 2, cells := 0, slots := 0, locals := 24 } : Room).cells ({ frames := 2, cells := 0, slots := 0, locals := 24 } : Room).slots (s₁.setTop (entryFrame m #[(.ref x)] 1))
  refine own_st (fun t9 k9 => castTop (own_ef_abl m x) k9) ?_
  show own_Go p e below s _ _ _ (s₁.setTop (mkF m 0 #[.val (.ref x)] []))
  have Kp : Keep h0 h0 [x] := Keep.refl h0 [x]
  refine own_st (fun t9 k9 => XS.aloadN X0.here hx rfl (hb hby own_d_jdk_39_method_1_0) rfl rfl k9) ?_
  show own_Go p e below s _ _ _ (s₁.setTop (mkF m 1 #[.val (.ref x)] [(.ref x)]))
  obtain ⟨_, T33, h33, L33, X33, e33, ⟨rfl, Nc, hu⟩, st33⟩ := own_callI X0 hx hZ hown rfl (hw _ (List.mem_of_getElem? (i := 61) rfl)) (hw _ (List.mem_of_getElem? (i := 62) rfl)) (hw _ (List.mem_of_getElem? (i := 65) rfl)) (hw _ (List.mem_of_getElem? (i := 66) rfl)) (by decide) (own_rm_ac l Z a0 hw [] x h0 n0 Od) (by decide) (by decide) e0 (a := x) (W := 0) (g := (mkF m 1 #[.val (.ref x)] [(.ref x)])) rfl (by rw [hml]; rfl) (argsL := []) (rest := []) rfl (lenOf own_pd5 rfl) rfl (by show 2 * 0 + _ ≤ _; exact Nat.le_of_eq rfl) (hb hby own_d_jdk_39_method_1_1) (by decide) (by decide)
  have N33 := Fr.app N0 Nc
  refine own_st st33 ?_
  show own_Go p e below s _ _ _ (T33.setTop (mkF m 4 #[.val (.ref x)] []))
  refine own_st (fun t9 k9 => XS.aloadN X33.here hx rfl (hb hby own_d_jdk_39_method_1_4) rfl rfl k9) ?_
  show own_Go p e below s _ _ _ (T33.setTop (mkF m 5 #[.val (.ref x)] [(.ref x)]))
  refine own_st (fun t9 k9 => XS.iconst X33.here hx rfl (hb hby own_d_jdk_39_method_1_5) k9) ?_
  show own_Go p e below s _ _ _ (T33.setTop (mkF m 6 #[.val (.ref x)] [(.int (0 : Int32)), (.ref x)]))
  obtain ⟨T34, h34, X34, e34, W34, st34⟩ := putF X33 hx hZ hown (host := "") (Or.inl (hw _ (List.mem_of_getElem? (i := 68) rfl))) Via.refl (e33.trans hu) F_m E_x (Or.inl (hw _ (List.mem_of_getElem? (i := 69) rfl))) (hw _ (List.mem_of_getElem? (i := 50) rfl)) (ty := .int) (by decide) rfl rfl (g := (mkF m 6 #[.val (.ref x)] [(.int (0 : Int32)), (.ref x)])) rfl rfl (hb hby own_d_jdk_39_method_1_6)
  have N34 := Fr.snoc X34 N33 ge_x
  have E_x := E_x.wr W34
  have F_s := F_s.other W34 (Or.inr (RoadKit.slot_ne (Or.inl (hw _ (List.mem_of_getElem? (i := 92) rfl))) (Or.inl (hw _ (List.mem_of_getElem? (i := 69) rfl))) (by decide) (t := .int) (t' := .int) (by decide) (by decide)))
  have F_m := F_m.same W34
  have F_e := F_e.other W34 (Or.inr (RoadKit.slot_ne (Or.inl (hw _ (List.mem_of_getElem? (i := 72) rfl))) (Or.inl (hw _ (List.mem_of_getElem? (i := 69) rfl))) (by decide) (t := (.array (.object "java/lang/Object"))) (t' := .int) (by decide) (by decide)))
  have Od := Od.wr W34 ge_x
  have Kp := Kp.wr W34 (Or.inl (List.mem_of_getElem? (i := 0) rfl))
  refine own_st st34 ?_
  show own_Go p e below s _ _ _ (T34.setTop (mkF m 9 #[.val (.ref x)] []))
  exact own_retV X34 hx hlk Bd.returns (hb hby own_d_jdk_39_method_1_9) (by decide) (by decide) (by rw [e34]; exact ⟨rfl, N34, Kp, E_x, F_s, F_e⟩)
theorem own_pn6 : plainName "java/util/ArrayList" = true := by first | (simp [plainName, overriddenIn]; done) | decide +kernel
theorem own_d_jdk_38_method_2_0 : decode jdk_38_method_2_code 0 = .ok (.aload_n 0, 1) := by decide +kernel
theorem own_d_jdk_38_method_2_1 : decode jdk_38_method_2_code 1 = .ok (.invokespecial 1, 3) := by decide +kernel
theorem own_d_jdk_38_method_2_4 : decode jdk_38_method_2_code 4 = .ok (.aload_n 0, 1) := by decide +kernel
theorem own_d_jdk_38_method_2_5 : decode jdk_38_method_2_code 5 = .ok (.getstatic 39, 3) := by decide +kernel
theorem own_d_jdk_38_method_2_8 : decode jdk_38_method_2_code 8 = .ok (.putfield 9, 3) := by decide +kernel
theorem own_d_jdk_38_method_2_11 : decode jdk_38_method_2_code 11 = .ok (.return_, 1) := by decide +kernel
theorem own_ef_ali (m : MethodId) (x0 : Addr) : entryFrame m #[(.ref x0)] 1 = mkF m 0 #[.val (.ref x0)] [] := by first | (simp [entryFrame, mkF, argsToLocals, Value.category]; done) | rfl
def own_Q_ali (Z : State) (x : Addr) (h0 : Heap) (n0 : Nat) (v : Option Value) (h : Heap) (L : List Loc) : Prop := v = none ∧ Fr n0 L ∧ Keep h0 h [x] ∧ Exa Z h x "java/util/ArrayList" ∧ Fld Z h x "java/util/ArrayList" "size" "I" (.int (0 : Int32))
set_option maxRecDepth 65536 in
set_option maxHeartbeats 40000000 in
theorem own_rm_ali (l : Launch) (Z : State) (a0 : Array Value) (hw : ∀ d ∈ tables_1, d.before a0 Z = true) (ws : List Jvm.Cond) (x : Addr) (de : Addr) (h0 : Heap) (n0 : Nat) (Od : Old Z n0 h0) (E_x : Exa Z h0 x "java/util/ArrayList") (F_s : Fld Z h0 x "java/util/ArrayList" "size" "I" (.int (0 : Int32))) (F_m : Fld Z h0 x "java/util/AbstractList" "modCount" "I" (.int (0 : Int32))) (F_e : Fld Z h0 x "java/util/ArrayList" "elementData" "[Ljava/lang/Object;" .null) (ge_x : n0 ≤ x) (SD0 : Sta Z Z.heap "java/util/ArrayList" "DEFAULTCAPACITY_EMPTY_ELEMENTDATA" "[Ljava/lang/Object;" (.ref de)) :
    MetFree l (⟨"java/util/ArrayList", "<init>", "()V"⟩ : MethodName) (head1 (Jvm.Cond.code (⟨"java/util/ArrayList", "<init>", "()V"⟩ : MethodName) jdk_38_method_2_code 1 none :: ws) ({ frames := 3, cells := 0, slots := 0, locals := 36 } : Room)) (fun a9 U => a9 = #[(.ref x)] ∧ Z.Warmed39 U.vm ∧ U.heap = h0) (fun _ _ _ _ _ => True) (fun _ U o U' => ∃ v L, o = .returned v ∧ own_Q_ali Z x h0 n0 v U'.heap L ∧ FrameEnd U o U' L ({ frames := 3, cells := 0, slots := 0, locals := 36 } : Room).cells ({ frames := 3, cells := 0, slots := 0, locals := 36 } : Room).slots) := by
  refine MetFree.of_bodySF (plainFor_of_name own_pn6) hisR ?_
  intro p e s m args below meth c s₁ Bd hml0 hP hK
  obtain ⟨rfl, hZ, hh⟩ := hP
  have hx := Bd.exec
  have hby := Bd.bytes
  have hml : c.maxLocals = 1 := hml0
  have hown : s.vm.findClass "java/util/ArrayList" = some m.cls := findClass_of_methodNamed Bd.named
  have hnm := (name_of_methodNamed Bd.named Bd.method).1
  have hlk : meth.locks = false := Bd.notSynchronized
  have X0 : Stand p l e ({ frames := 3, cells := 0, slots := 0, locals := 36 } : Room) s m #[(.ref x)] below meth c s₁ [] 0 0 := Stand.of_body Bd
  have e0 : s₁.heap = h0 := by rw [← hh, Bd.state]; rfl
  have N0 := Fr.nil n0
  show own_Go p e below s (own_Q_ali Z x h0 n0) ({ frames := 3, cells := 0, slots := 0, locals := 36 } : Room).cells ({ frames := 3, cells := 0, slots := 0, locals := 36 } : Room).slots (s₁.setTop (entryFrame m #[(.ref x)] 1))
  refine own_st (fun t9 k9 => castTop (own_ef_ali m x) k9) ?_
  show own_Go p e below s _ _ _ (s₁.setTop (mkF m 0 #[.val (.ref x)] []))
  have Kp : Keep h0 h0 [x] := Keep.refl h0 [x]
  refine own_st (fun t9 k9 => XS.aloadN X0.here hx rfl (hb hby own_d_jdk_38_method_2_0) rfl rfl k9) ?_
  show own_Go p e below s _ _ _ (s₁.setTop (mkF m 1 #[.val (.ref x)] [(.ref x)]))
  obtain ⟨_, T35, h35, L35, X35, e35, ⟨rfl, Nc, Kc, E_y, F_t, F_f⟩, st35⟩ := own_callI X0 hx hZ hown rfl (hw _ (List.mem_of_getElem? (i := 55) rfl)) (hw _ (List.mem_of_getElem? (i := 56) rfl)) (hw _ (List.mem_of_getElem? (i := 59) rfl)) (hw _ (List.mem_of_getElem? (i := 60) rfl)) (by decide) (own_rm_abl l Z a0 hw [] x h0 n0 Od E_x F_s F_m F_e ge_x) (by decide) (by decide) e0 (a := x) (W := 0) (g := (mkF m 1 #[.val (.ref x)] [(.ref x)])) rfl (by rw [hml]; rfl) (argsL := []) (rest := []) rfl (lenOf own_pd5 rfl) rfl (by show 2 * 0 + _ ≤ _; exact Nat.le_of_eq rfl) (hb hby own_d_jdk_38_method_2_1) (by decide) (by decide)
  have N35 := Fr.app N0 Nc
  have E_x := E_x.keep Kc
  have Od := Od.keep Kc (allS ge_x all0)
  have Kp := Kp.trans Kc (allS (Or.inl (List.mem_of_getElem? (i := 0) rfl)) all0)
  refine own_st st35 ?_
  show own_Go p e below s _ _ _ (T35.setTop (mkF m 4 #[.val (.ref x)] []))
  have F_s := F_t
  have F_e := F_f
  refine own_st (fun t9 k9 => XS.aloadN X35.here hx rfl (hb hby own_d_jdk_38_method_2_4) rfl rfl k9) ?_
  show own_Go p e below s _ _ _ (T35.setTop (mkF m 5 #[.val (.ref x)] [(.ref x)]))
  obtain ⟨T36, X36, e36, st36⟩ := getS (host := "") X35 hx hZ hown (hw _ (List.mem_of_getElem? (i := 70) rfl)) Via.refl e35 (SD0.ext Od.2) (g := (mkF m 5 #[.val (.ref x)] [(.ref x)])) rfl (hb hby own_d_jdk_38_method_2_5)
  refine own_st st36 ?_
  show own_Go p e below s _ _ _ (T36.setTop (mkF m 8 #[.val (.ref x)] [(.ref de), (.ref x)]))
  obtain ⟨T37, h37, X37, e37, W37, st37⟩ := putF X36 hx hZ hown (host := "") (Or.inl (hw _ (List.mem_of_getElem? (i := 71) rfl))) Via.refl e36 F_e E_x (Or.inl (hw _ (List.mem_of_getElem? (i := 72) rfl))) (hw _ (List.mem_of_getElem? (i := 50) rfl)) (ty := (.array (.object "java/lang/Object"))) (by decide) rfl rfl (g := (mkF m 8 #[.val (.ref x)] [(.ref de), (.ref x)])) rfl rfl (hb hby own_d_jdk_38_method_2_8)
  have N37 := Fr.snoc X37 N35 ge_x
  have E_x := E_x.wr W37
  have F_s := F_s.other W37 (Or.inr (RoadKit.slot_ne (Or.inl (hw _ (List.mem_of_getElem? (i := 92) rfl))) (Or.inl (hw _ (List.mem_of_getElem? (i := 72) rfl))) (by decide) (t := .int) (t' := (.array (.object "java/lang/Object"))) (by decide) (by decide)))
  have F_e := F_e.same W37
  have Od := Od.wr W37 ge_x
  have Kp := Kp.wr W37 (Or.inl (List.mem_of_getElem? (i := 0) rfl))
  refine own_st st37 ?_
  show own_Go p e below s _ _ _ (T37.setTop (mkF m 11 #[.val (.ref x)] []))
  exact own_retV X37 hx hlk Bd.returns (hb hby own_d_jdk_38_method_2_11) (by decide) (by decide) (by rw [e37]; exact ⟨rfl, N37, Kp, E_x, F_s⟩)
theorem own_d_jdk_38_method_9_0 : decode jdk_38_method_9_code 0 = .ok (.aload_n 0, 1) := by decide +kernel
theorem own_d_jdk_38_method_9_1 : decode jdk_38_method_9_code 1 = .ok (.getfield 48, 3) := by decide +kernel
theorem own_d_jdk_38_method_9_4 : decode jdk_38_method_9_code 4 = .ok (.ifCond .ne 7, 3) := by decide +kernel
theorem own_d_jdk_38_method_9_7 : decode jdk_38_method_9_code 7 = .ok (.iconst 1, 1) := by decide +kernel
theorem own_d_jdk_38_method_9_8 : decode jdk_38_method_9_code 8 = .ok (.goto 4, 3) := by decide +kernel
theorem own_d_jdk_38_method_9_12 : decode jdk_38_method_9_code 12 = .ok (.ireturn, 1) := by decide +kernel
theorem own_ef_alie (m : MethodId) (x0 : Addr) : entryFrame m #[(.ref x0)] 1 = mkF m 0 #[.val (.ref x0)] [] := by first | (simp [entryFrame, mkF, argsToLocals, Value.category]; done) | rfl
def own_Q_alie (Z : State)  (h0 : Heap) (n0 : Nat) (v : Option Value) (h : Heap) (L : List Loc) : Prop := v = some (.int (1 : Int32)) ∧ Fr n0 L ∧ h = h0
set_option maxRecDepth 65536 in
set_option maxHeartbeats 40000000 in
theorem own_rm_alie (l : Launch) (Z : State) (a0 : Array Value) (hw : ∀ d ∈ tables_1, d.before a0 Z = true) (ws : List Jvm.Cond) (x : Addr) (h0 : Heap) (n0 : Nat) (Od : Old Z n0 h0) (F_s : Fld Z h0 x "java/util/ArrayList" "size" "I" (.int (0 : Int32))) :
    MetFree l (⟨"java/util/ArrayList", "isEmpty", "()Z"⟩ : MethodName) (head1 (Jvm.Cond.code (⟨"java/util/ArrayList", "isEmpty", "()Z"⟩ : MethodName) jdk_38_method_9_code 1 (some .boolean) :: ws) ({ frames := 0, cells := 0, slots := 0, locals := 0 } : Room)) (fun a9 U => a9 = #[(.ref x)] ∧ Z.Warmed39 U.vm ∧ U.heap = h0) (fun _ _ _ _ _ => True) (fun _ U o U' => ∃ v L, o = .returned v ∧ own_Q_alie Z  h0 n0 v U'.heap L ∧ FrameEnd U o U' L ({ frames := 0, cells := 0, slots := 0, locals := 0 } : Room).cells ({ frames := 0, cells := 0, slots := 0, locals := 0 } : Room).slots) := by
  refine MetFree.of_bodySF (plainFor_of_name own_pn6) hisR ?_
  intro p e s m args below meth c s₁ Bd hml0 hP hK
  obtain ⟨rfl, hZ, hh⟩ := hP
  have hx := Bd.exec
  have hby := Bd.bytes
  have hml : c.maxLocals = 1 := hml0
  have hown : s.vm.findClass "java/util/ArrayList" = some m.cls := findClass_of_methodNamed Bd.named
  have hnm := (name_of_methodNamed Bd.named Bd.method).1
  have hlk : meth.locks = false := Bd.notSynchronized
  have X0 : Stand p l e ({ frames := 0, cells := 0, slots := 0, locals := 0 } : Room) s m #[(.ref x)] below meth c s₁ [] 0 0 := Stand.of_body Bd
  have e0 : s₁.heap = h0 := by rw [← hh, Bd.state]; rfl
  have N0 := Fr.nil n0
  show own_Go p e below s (own_Q_alie Z  h0 n0) ({ frames := 0, cells := 0, slots := 0, locals := 0 } : Room).cells ({ frames := 0, cells := 0, slots := 0, locals := 0 } : Room).slots (s₁.setTop (entryFrame m #[(.ref x)] 1))
  refine own_st (fun t9 k9 => castTop (own_ef_alie m x) k9) ?_
  show own_Go p e below s _ _ _ (s₁.setTop (mkF m 0 #[.val (.ref x)] []))
  refine own_st (fun t9 k9 => XS.aloadN X0.here hx rfl (hb hby own_d_jdk_38_method_9_0) rfl rfl k9) ?_
  show own_Go p e below s _ _ _ (s₁.setTop (mkF m 1 #[.val (.ref x)] [(.ref x)]))
  obtain ⟨T38, X38, e38, st38⟩ := getF X0 hx hZ hown (host := "") (Or.inl (hw _ (List.mem_of_getElem? (i := 91) rfl))) Via.refl e0 F_s (g := (mkF m 1 #[.val (.ref x)] [(.ref x)])) rfl rfl (hb hby own_d_jdk_38_method_9_1)
  refine own_st st38 ?_
  show own_Go p e below s _ _ _ (T38.setTop (mkF m 4 #[.val (.ref x)] [(.int (0 : Int32))]))
  refine own_st (fun t9 k9 => XS.ifNo X38.here hx rfl (hb hby own_d_jdk_38_method_9_4) rfl (by decide) k9) ?_
  show own_Go p e below s _ _ _ (T38.setTop (mkF m 7 #[.val (.ref x)] []))
  refine own_st (fun t9 k9 => XS.iconst X38.here hx rfl (hb hby own_d_jdk_38_method_9_7) k9) ?_
  show own_Go p e below s _ _ _ (T38.setTop (mkF m 8 #[.val (.ref x)] [(.int (1 : Int32))]))
  refine own_st (fun t9 k9 => XS.goto X38.here hx rfl (pc0 := 8) (pc' := 12) rfl (hb hby own_d_jdk_38_method_9_8) (by decide) (by decide) k9) ?_
  show own_Go p e below s _ _ _ (T38.setTop (mkF m 12 #[.val (.ref x)] [(.int (1 : Int32))]))
  exact own_retN X38 hx hlk (t := .boolean) Bd.returns (by simp) (hb hby own_d_jdk_38_method_9_12) (by decide) (by decide) (by rw [e38]; exact ⟨rfl, N0, rfl⟩)
def own_DR (Z : State) (h : Heap) (r a : Addr) (b fl : Value) : Prop := Exa Z h r "com/example/strict_grants/strictgrants/DefectReport" ∧ Fld Z h r "com/example/strict_grants/strictgrants/DefectReport" "defects" "Ljava/util/List;" (.ref a) ∧ Fld Z h r "com/example/strict_grants/strictgrants/DefectReport" "brokenOff" "Lcom/example/strict_grants/strictgrants/StoreDefect;" b ∧ Fld Z h r "com/example/strict_grants/strictgrants/DefectReport" "file" "Ljava/lang/String;" fl ∧ Exa Z h a "java/util/ArrayList" ∧ Fld Z h a "java/util/ArrayList" "size" "I" (.int (0 : Int32))
theorem own_pn7 : plainName "com/example/strict_grants/strictgrants/DefectReport" = true := by first | (simp [plainName, overriddenIn]; done) | decide +kernel
theorem own_d_prog_5_method_1_0 : decode prog_5_method_1_code 0 = .ok (.aload_n 0, 1) := by decide +kernel
theorem own_d_prog_5_method_1_1 : decode prog_5_method_1_code 1 = .ok (.invokespecial 1, 3) := by decide +kernel
theorem own_d_prog_5_method_1_4 : decode prog_5_method_1_code 4 = .ok (.aload_n 0, 1) := by decide +kernel
theorem own_d_prog_5_method_1_5 : decode prog_5_method_1_code 5 = .ok (.new 7, 3) := by decide +kernel
theorem own_d_prog_5_method_1_8 : decode prog_5_method_1_code 8 = .ok (.dup, 1) := by decide +kernel
theorem own_d_prog_5_method_1_9 : decode prog_5_method_1_code 9 = .ok (.invokespecial 9, 3) := by decide +kernel
theorem own_d_prog_5_method_1_12 : decode prog_5_method_1_code 12 = .ok (.putfield 10, 3) := by decide +kernel
theorem own_d_prog_5_method_1_15 : decode prog_5_method_1_code 15 = .ok (.aload_n 0, 1) := by decide +kernel
theorem own_d_prog_5_method_1_16 : decode prog_5_method_1_code 16 = .ok (.aload_n 1, 1) := by decide +kernel
theorem own_d_prog_5_method_1_17 : decode prog_5_method_1_code 17 = .ok (.putfield 16, 3) := by decide +kernel
theorem own_d_prog_5_method_1_20 : decode prog_5_method_1_code 20 = .ok (.return_, 1) := by decide +kernel
theorem own_ef_dri (m : MethodId) (x0 : Addr) (x1 : Addr) : entryFrame m #[(.ref x0), (.ref x1)] 2 = mkF m 0 #[.val (.ref x0), .val (.ref x1)] [] := by first | (simp [entryFrame, mkF, argsToLocals, Value.category]; done) | rfl
def own_Q_dri (Z : State) (r f : Addr) (h0 : Heap) (n0 : Nat) (v : Option Value) (h : Heap) (L : List Loc) : Prop := v = none ∧ Fr n0 L ∧ Keep h0 h [r] ∧ ∃ a, h0.size ≤ a ∧ own_DR Z h r a .null (.ref f)
set_option maxRecDepth 65536 in
set_option maxHeartbeats 40000000 in
theorem own_rm_dri (l : Launch) (Z : State) (a0 : Array Value) (hw : ∀ d ∈ tables_1, d.before a0 Z = true) (ws : List Jvm.Cond) (r f : Addr) (de : Addr) (h0 : Heap) (n0 : Nat) (Od : Old Z n0 h0) (E_r : Exa Z h0 r "com/example/strict_grants/strictgrants/DefectReport") (F_d : Fld Z h0 r "com/example/strict_grants/strictgrants/DefectReport" "defects" "Ljava/util/List;" .null) (F_b : Fld Z h0 r "com/example/strict_grants/strictgrants/DefectReport" "brokenOff" "Lcom/example/strict_grants/strictgrants/StoreDefect;" .null) (F_f : Fld Z h0 r "com/example/strict_grants/strictgrants/DefectReport" "file" "Ljava/lang/String;" .null) (ge_r : n0 ≤ r) (SD0 : Sta Z Z.heap "java/util/ArrayList" "DEFAULTCAPACITY_EMPTY_ELEMENTDATA" "[Ljava/lang/Object;" (.ref de)) :
    MetFree l (⟨"com/example/strict_grants/strictgrants/DefectReport", "<init>", "(Ljava/lang/String;)V"⟩ : MethodName) (head1 (Jvm.Cond.code (⟨"com/example/strict_grants/strictgrants/DefectReport", "<init>", "(Ljava/lang/String;)V"⟩ : MethodName) prog_5_method_1_code 2 none :: ws) ({ frames := 4, cells := 1, slots := 3, locals := 50 } : Room)) (fun a9 U => a9 = #[(.ref r), (.ref f)] ∧ Z.Warmed39 U.vm ∧ U.heap = h0) (fun _ _ _ _ _ => True) (fun _ U o U' => ∃ v L, o = .returned v ∧ own_Q_dri Z r f h0 n0 v U'.heap L ∧ FrameEnd U o U' L ({ frames := 4, cells := 1, slots := 3, locals := 50 } : Room).cells ({ frames := 4, cells := 1, slots := 3, locals := 50 } : Room).slots) := by
  refine MetFree.of_bodySF (plainFor_of_name own_pn7) hisR ?_
  intro p e s m args below meth c s₁ Bd hml0 hP hK
  obtain ⟨rfl, hZ, hh⟩ := hP
  have hx := Bd.exec
  have hby := Bd.bytes
  have hml : c.maxLocals = 2 := hml0
  have hown : s.vm.findClass "com/example/strict_grants/strictgrants/DefectReport" = some m.cls := findClass_of_methodNamed Bd.named
  have hnm := (name_of_methodNamed Bd.named Bd.method).1
  have hlk : meth.locks = false := Bd.notSynchronized
  have X0 : Stand p l e ({ frames := 4, cells := 1, slots := 3, locals := 50 } : Room) s m #[(.ref r), (.ref f)] below meth c s₁ [] 0 0 := Stand.of_body Bd
  have e0 : s₁.heap = h0 := by rw [← hh, Bd.state]; rfl
  have N0 := Fr.nil n0
  show own_Go p e below s (own_Q_dri Z r f h0 n0) ({ frames := 4, cells := 1, slots := 3, locals := 50 } : Room).cells ({ frames := 4, cells := 1, slots := 3, locals := 50 } : Room).slots (s₁.setTop (entryFrame m #[(.ref r), (.ref f)] 2))
  refine own_st (fun t9 k9 => castTop (own_ef_dri m r f) k9) ?_
  show own_Go p e below s _ _ _ (s₁.setTop (mkF m 0 #[.val (.ref r), .val (.ref f)] []))
  have Kp : Keep h0 h0 [r] := Keep.refl h0 [r]
  refine own_st (fun t9 k9 => XS.aloadN X0.here hx rfl (hb hby own_d_prog_5_method_1_0) rfl rfl k9) ?_
  show own_Go p e below s _ _ _ (s₁.setTop (mkF m 1 #[.val (.ref r), .val (.ref f)] [(.ref r)]))
  obtain ⟨T39, X39, e39, st39⟩ := initO X0 hx hZ hown (hw _ (List.mem_of_getElem? (i := 48) rfl)) (hw _ (List.mem_of_getElem? (i := 20) rfl)) (hw _ (List.mem_of_getElem? (i := 21) rfl)) e0 (g := (mkF m 1 #[.val (.ref r), .val (.ref f)] [(.ref r)])) rfl (by rw [hml]; rfl) rfl (hb hby own_d_prog_5_method_1_1) (by decide) (W := 0) (by show 2 * 0 + _ ≤ _; exact Nat.le_of_eq rfl) (by decide)
  refine own_st st39 ?_
  show own_Go p e below s _ _ _ (T39.setTop (mkF m 4 #[.val (.ref r), .val (.ref f)] []))
  refine own_st (fun t9 k9 => XS.aloadN X39.here hx rfl (hb hby own_d_prog_5_method_1_4) rfl rfl k9) ?_
  show own_Go p e below s _ _ _ (T39.setTop (mkF m 5 #[.val (.ref r), .val (.ref f)] [(.ref r)]))
  obtain ⟨T40, h40, X40, e40, E40, A40, D40, U40, st40⟩ := newO X39 hx hZ hown (hw _ (List.mem_of_getElem? (i := 49) rfl)) (hw _ (List.mem_of_getElem? (i := 50) rfl)) (hw _ (List.mem_of_getElem? (i := 51) rfl)) e39 (g := (mkF m 5 #[.val (.ref r), .val (.ref f)] [(.ref r)])) rfl (hb hby own_d_prog_5_method_1_5) (by decide) (by decide)
  obtain ⟨a, g40⟩ : ∃ z, z = h0.size := ⟨_, rfl⟩
  rw [← g40] at A40 D40 st40 U40
  have ne_r_a : r ≠ a := Nat.ne_of_lt (Nat.lt_of_lt_of_le E_r.lt (Nat.le_of_eq g40.symm))
  have ge_a : n0 ≤ a := Nat.le_trans (own_z0 Od) (Nat.le_of_eq g40.symm)
  have gz_a : h0.size ≤ a := Nat.le_trans Kp.1 (Nat.le_of_eq g40.symm)
  have E_r := E_r.ext E40
  have F_d := F_d.ext E40
  have F_b := F_b.ext E40
  have F_f := F_f.ext E40
  have Od := Od.ext E40
  have Kp := Kp.ext E40
  refine own_st st40 ?_
  show own_Go p e below s _ _ _ (T40.setTop (mkF m 8 #[.val (.ref r), .val (.ref f)] [(.ref a), (.ref r)]))
  have E_a : Exa Z h40 a "java/util/ArrayList" := A40
  have F_s : Fld Z h40 a "java/util/ArrayList" "size" "I" (.int (0 : Int32)) := D40 (Or.inl (hw _ (List.mem_of_getElem? (i := 92) rfl))) (ty := .int) (by decide)
  have F_m : Fld Z h40 a "java/util/AbstractList" "modCount" "I" (.int (0 : Int32)) := D40 (Or.inl (hw _ (List.mem_of_getElem? (i := 69) rfl))) (ty := .int) (by decide)
  have F_e : Fld Z h40 a "java/util/ArrayList" "elementData" "[Ljava/lang/Object;" .null := D40 (Or.inl (hw _ (List.mem_of_getElem? (i := 72) rfl))) (ty := (.array (.object "java/lang/Object"))) (by decide)
  refine own_st (fun t9 k9 => XS.dup X40.here hx rfl (hb hby own_d_prog_5_method_1_8) rfl rfl k9) ?_
  show own_Go p e below s _ _ _ (T40.setTop (mkF m 9 #[.val (.ref r), .val (.ref f)] [(.ref a), (.ref a), (.ref r)]))
  obtain ⟨_, T41, h41, L41, X41, e41, ⟨rfl, Nc, Kc, E_y, F_t⟩, st41⟩ := own_callI X40 hx hZ hown rfl (hw _ (List.mem_of_getElem? (i := 52) rfl)) (hw _ (List.mem_of_getElem? (i := 53) rfl)) (hw _ (List.mem_of_getElem? (i := 51) rfl)) (hw _ (List.mem_of_getElem? (i := 54) rfl)) (by decide) (own_rm_ali l Z a0 hw [] a de h40 n0 Od E_a F_s F_m F_e ge_a SD0) (by decide) (by decide) e40 (a := a) (W := 2) (g := (mkF m 9 #[.val (.ref r), .val (.ref f)] [(.ref a), (.ref a), (.ref r)])) rfl (by rw [hml]; rfl) (argsL := []) (rest := [(.ref a), (.ref r)]) rfl (lenOf own_pd5 rfl) rfl (by show 2 * 0 + _ ≤ _; exact Nat.le_of_eq rfl) (hb hby own_d_prog_5_method_1_9) (by decide) (by decide)
  have N41 := Fr.app N0 Nc
  have E_r := E_r.keep Kc
  have F_d := F_d.keep Kc (ninS ne_r_a nin0)
  have F_b := F_b.keep Kc (ninS ne_r_a nin0)
  have F_f := F_f.keep Kc (ninS ne_r_a nin0)
  have E_a := E_a.keep Kc
  have Od := Od.keep Kc (allS ge_a all0)
  have Kp := Kp.trans Kc (allS (Or.inr gz_a) all0)
  refine own_st st41 ?_
  show own_Go p e below s _ _ _ (T41.setTop (mkF m 12 #[.val (.ref r), .val (.ref f)] [(.ref a), (.ref r)]))
  have F_s := F_t
  obtain ⟨T42, h42, X42, e42, W42, st42⟩ := putF X41 hx hZ hown (host := "") (Or.inl (hw _ (List.mem_of_getElem? (i := 73) rfl))) Via.refl e41 F_d E_r (Or.inr ⟨(hw _ (List.mem_of_getElem? (i := 74) rfl)), rfl, hnm⟩) (hw _ (List.mem_of_getElem? (i := 43) rfl)) (ty := (.object "java/util/List")) (by decide) rfl rfl (g := (mkF m 12 #[.val (.ref r), .val (.ref f)] [(.ref a), (.ref r)])) rfl rfl (hb hby own_d_prog_5_method_1_12)
  have N42 := Fr.snoc X42 N41 ge_r
  have E_r := E_r.wr W42
  have F_d := F_d.same W42
  have F_b := F_b.other W42 (Or.inr (RoadKit.slot_ne (Or.inl (hw _ (List.mem_of_getElem? (i := 94) rfl))) (Or.inr (hw _ (List.mem_of_getElem? (i := 74) rfl))) (by decide) (t := (.object "com/example/strict_grants/strictgrants/StoreDefect")) (t' := (.object "java/util/List")) (by decide) (by decide)))
  have F_f := F_f.other W42 (Or.inr (RoadKit.slot_ne (Or.inr (hw _ (List.mem_of_getElem? (i := 76) rfl))) (Or.inr (hw _ (List.mem_of_getElem? (i := 74) rfl))) (by decide) (t := (.object "java/lang/String")) (t' := (.object "java/util/List")) (by decide) (by decide)))
  have E_a := E_a.wr W42
  have F_s := F_s.other W42 (Or.inl (Ne.symm ne_r_a))
  have Od := Od.wr W42 ge_r
  have Kp := Kp.wr W42 (Or.inl (List.mem_of_getElem? (i := 0) rfl))
  refine own_st st42 ?_
  show own_Go p e below s _ _ _ (T42.setTop (mkF m 15 #[.val (.ref r), .val (.ref f)] []))
  refine own_st (fun t9 k9 => XS.aloadN X42.here hx rfl (hb hby own_d_prog_5_method_1_15) rfl rfl k9) ?_
  show own_Go p e below s _ _ _ (T42.setTop (mkF m 16 #[.val (.ref r), .val (.ref f)] [(.ref r)]))
  refine own_st (fun t9 k9 => XS.aloadN X42.here hx rfl (hb hby own_d_prog_5_method_1_16) rfl rfl k9) ?_
  show own_Go p e below s _ _ _ (T42.setTop (mkF m 17 #[.val (.ref r), .val (.ref f)] [(.ref f), (.ref r)]))
  obtain ⟨T43, h43, X43, e43, W43, st43⟩ := putF X42 hx hZ hown (host := "") (Or.inl (hw _ (List.mem_of_getElem? (i := 75) rfl))) Via.refl e42 F_f E_r (Or.inr ⟨(hw _ (List.mem_of_getElem? (i := 76) rfl)), rfl, hnm⟩) (hw _ (List.mem_of_getElem? (i := 43) rfl)) (ty := (.object "java/lang/String")) (by decide) rfl rfl (g := (mkF m 17 #[.val (.ref r), .val (.ref f)] [(.ref f), (.ref r)])) rfl rfl (hb hby own_d_prog_5_method_1_17)
  have N43 := Fr.snoc X43 N42 ge_r
  have E_r := E_r.wr W43
  have F_d := F_d.other W43 (Or.inr (RoadKit.slot_ne (Or.inr (hw _ (List.mem_of_getElem? (i := 74) rfl))) (Or.inr (hw _ (List.mem_of_getElem? (i := 76) rfl))) (by decide) (t := (.object "java/util/List")) (t' := (.object "java/lang/String")) (by decide) (by decide)))
  have F_b := F_b.other W43 (Or.inr (RoadKit.slot_ne (Or.inl (hw _ (List.mem_of_getElem? (i := 94) rfl))) (Or.inr (hw _ (List.mem_of_getElem? (i := 76) rfl))) (by decide) (t := (.object "com/example/strict_grants/strictgrants/StoreDefect")) (t' := (.object "java/lang/String")) (by decide) (by decide)))
  have F_f := F_f.same W43
  have E_a := E_a.wr W43
  have F_s := F_s.other W43 (Or.inl (Ne.symm ne_r_a))
  have Od := Od.wr W43 ge_r
  have Kp := Kp.wr W43 (Or.inl (List.mem_of_getElem? (i := 0) rfl))
  refine own_st st43 ?_
  show own_Go p e below s _ _ _ (T43.setTop (mkF m 20 #[.val (.ref r), .val (.ref f)] []))
  exact own_retV X43 hx hlk Bd.returns (hb hby own_d_prog_5_method_1_20) (by decide) (by decide) (by rw [e43]; exact ⟨rfl, N43, Kp, a, gz_a, E_r, F_d, F_b, F_f, E_a, F_s⟩)
theorem own_d_prog_5_method_4_0 : decode prog_5_method_4_code 0 = .ok (.aload_n 0, 1) := by decide +kernel
theorem own_d_prog_5_method_4_1 : decode prog_5_method_4_code 1 = .ok (.getfield 10, 3) := by decide +kernel
theorem own_pd6 : parseMethodDescriptor "()Z" = some ⟨[], some .boolean⟩ := by decide +kernel
theorem own_d_prog_5_method_4_4 : decode prog_5_method_4_code 4 = .ok (.invokeinterface 49 1, 5) := by decide +kernel
theorem own_d_prog_5_method_4_9 : decode prog_5_method_4_code 9 = .ok (.ifCond .eq 14, 3) := by decide +kernel
theorem own_d_prog_5_method_4_12 : decode prog_5_method_4_code 12 = .ok (.aload_n 0, 1) := by decide +kernel
theorem own_d_prog_5_method_4_13 : decode prog_5_method_4_code 13 = .ok (.getfield 52, 3) := by decide +kernel
theorem own_d_prog_5_method_4_16 : decode prog_5_method_4_code 16 = .ok (.ifnonnull 7, 3) := by decide +kernel
theorem own_d_prog_5_method_4_19 : decode prog_5_method_4_code 19 = .ok (.iconst 1, 1) := by decide +kernel
theorem own_d_prog_5_method_4_20 : decode prog_5_method_4_code 20 = .ok (.goto 4, 3) := by decide +kernel
theorem own_d_prog_5_method_4_24 : decode prog_5_method_4_code 24 = .ok (.ireturn, 1) := by decide +kernel
theorem own_ef_die1 (m : MethodId) (x0 : Addr) : entryFrame m #[(.ref x0)] 1 = mkF m 0 #[.val (.ref x0)] [] := by first | (simp [entryFrame, mkF, argsToLocals, Value.category]; done) | rfl
def own_Q_die1 (Z : State)  (h0 : Heap) (n0 : Nat) (v : Option Value) (h : Heap) (L : List Loc) : Prop := v = some (.int (1 : Int32)) ∧ Fr n0 L ∧ h = h0
set_option maxRecDepth 65536 in
set_option maxHeartbeats 40000000 in
theorem own_rm_die1 (l : Launch) (Z : State) (a0 : Array Value) (hw : ∀ d ∈ tables_1, d.before a0 Z = true) (ws : List Jvm.Cond) (r a : Addr) (fl : Value) (h0 : Heap) (n0 : Nat) (Od : Old Z n0 h0) (B : own_DR Z h0 r a .null fl) :
    MetFree l (⟨"com/example/strict_grants/strictgrants/DefectReport", "isEmpty", "()Z"⟩ : MethodName) (head1 (Jvm.Cond.code (⟨"com/example/strict_grants/strictgrants/DefectReport", "isEmpty", "()Z"⟩ : MethodName) prog_5_method_4_code 1 (some .boolean) :: ws) ({ frames := 1, cells := 0, slots := 0, locals := 12 } : Room)) (fun a9 U => a9 = #[(.ref r)] ∧ Z.Warmed39 U.vm ∧ U.heap = h0) (fun _ _ _ _ _ => True) (fun _ U o U' => ∃ v L, o = .returned v ∧ own_Q_die1 Z  h0 n0 v U'.heap L ∧ FrameEnd U o U' L ({ frames := 1, cells := 0, slots := 0, locals := 12 } : Room).cells ({ frames := 1, cells := 0, slots := 0, locals := 12 } : Room).slots) := by
  refine MetFree.of_bodySF (plainFor_of_name own_pn7) hisR ?_
  intro p e s m args below meth c s₁ Bd hml0 hP hK
  obtain ⟨rfl, hZ, hh⟩ := hP
  have hx := Bd.exec
  have hby := Bd.bytes
  have hml : c.maxLocals = 1 := hml0
  have hown : s.vm.findClass "com/example/strict_grants/strictgrants/DefectReport" = some m.cls := findClass_of_methodNamed Bd.named
  have hnm := (name_of_methodNamed Bd.named Bd.method).1
  have hlk : meth.locks = false := Bd.notSynchronized
  have X0 : Stand p l e ({ frames := 1, cells := 0, slots := 0, locals := 12 } : Room) s m #[(.ref r)] below meth c s₁ [] 0 0 := Stand.of_body Bd
  have e0 : s₁.heap = h0 := by rw [← hh, Bd.state]; rfl
  have N0 := Fr.nil n0
  show own_Go p e below s (own_Q_die1 Z  h0 n0) ({ frames := 1, cells := 0, slots := 0, locals := 12 } : Room).cells ({ frames := 1, cells := 0, slots := 0, locals := 12 } : Room).slots (s₁.setTop (entryFrame m #[(.ref r)] 1))
  refine own_st (fun t9 k9 => castTop (own_ef_die1 m r) k9) ?_
  show own_Go p e below s _ _ _ (s₁.setTop (mkF m 0 #[.val (.ref r)] []))
  obtain ⟨E_r, F_d, F_b, F_f, E_a, F_s⟩ := B
  refine own_st (fun t9 k9 => XS.aloadN X0.here hx rfl (hb hby own_d_prog_5_method_4_0) rfl rfl k9) ?_
  show own_Go p e below s _ _ _ (s₁.setTop (mkF m 1 #[.val (.ref r)] [(.ref r)]))
  obtain ⟨T44, X44, e44, st44⟩ := getF X0 hx hZ hown (host := "") (Or.inl (hw _ (List.mem_of_getElem? (i := 73) rfl))) Via.refl e0 F_d (g := (mkF m 1 #[.val (.ref r)] [(.ref r)])) rfl rfl (hb hby own_d_prog_5_method_4_1)
  refine own_st st44 ?_
  show own_Go p e below s _ _ _ (T44.setTop (mkF m 4 #[.val (.ref r)] [(.ref a)]))
  obtain ⟨_, T45, h45, L45, X45, e45, ⟨rfl, Nc, hu⟩, st45⟩ := own_callF X44 hx hZ hown (hw _ (List.mem_of_getElem? (i := 82) rfl)) (hw _ (List.mem_of_getElem? (i := 83) rfl)) (mvT hZ (hw _ (List.mem_of_getElem? (i := 84) rfl))) (hw _ (List.mem_of_getElem? (i := 85) rfl)) (hw _ (List.mem_of_getElem? (i := 86) rfl)) (hw _ (List.mem_of_getElem? (i := 87) rfl)) (hw _ (List.mem_of_getElem? (i := 88) rfl)) (hw _ (List.mem_of_getElem? (i := 89) rfl)) (hw _ (List.mem_of_getElem? (i := 51) rfl)) (hw _ (List.mem_of_getElem? (i := 90) rfl)) (by decide) (own_rm_alie l Z a0 hw [] a h0 n0 Od F_s) (by decide) (by decide) e44 (b := a) E_a (W := 0) (g := (mkF m 4 #[.val (.ref r)] [(.ref a)])) rfl (by rw [hml]; rfl) (argsL := []) (rest := []) rfl (lenOf own_pd6 rfl) rfl (by show 2 * 0 + _ ≤ _; exact Nat.le_of_eq rfl) (hb hby own_d_prog_5_method_4_4) (by decide) (by decide)
  have N45 := Fr.app N0 Nc
  refine own_st st45 ?_
  show own_Go p e below s _ _ _ (T45.setTop (mkF m 9 #[.val (.ref r)] [(.int (1 : Int32))]))
  refine own_st (fun t9 k9 => XS.ifNo X45.here hx rfl (hb hby own_d_prog_5_method_4_9) rfl (by decide) k9) ?_
  show own_Go p e below s _ _ _ (T45.setTop (mkF m 12 #[.val (.ref r)] []))
  refine own_st (fun t9 k9 => XS.aloadN X45.here hx rfl (hb hby own_d_prog_5_method_4_12) rfl rfl k9) ?_
  show own_Go p e below s _ _ _ (T45.setTop (mkF m 13 #[.val (.ref r)] [(.ref r)]))
  obtain ⟨T46, X46, e46, st46⟩ := getF X45 hx hZ hown (host := "") (Or.inl (hw _ (List.mem_of_getElem? (i := 93) rfl))) Via.refl (e45.trans hu) F_b (g := (mkF m 13 #[.val (.ref r)] [(.ref r)])) rfl rfl (hb hby own_d_prog_5_method_4_13)
  refine own_st st46 ?_
  show own_Go p e below s _ _ _ (T46.setTop (mkF m 16 #[.val (.ref r)] [.null]))
  refine own_st (fun t9 k9 => XT.ifnonnullNo X46.here hx rfl (hb hby own_d_prog_5_method_4_16) rfl k9) ?_
  show own_Go p e below s _ _ _ (T46.setTop (mkF m 19 #[.val (.ref r)] []))
  refine own_st (fun t9 k9 => XS.iconst X46.here hx rfl (hb hby own_d_prog_5_method_4_19) k9) ?_
  show own_Go p e below s _ _ _ (T46.setTop (mkF m 20 #[.val (.ref r)] [(.int (1 : Int32))]))
  refine own_st (fun t9 k9 => XS.goto X46.here hx rfl (pc0 := 20) (pc' := 24) rfl (hb hby own_d_prog_5_method_4_20) (by decide) (by decide) k9) ?_
  show own_Go p e below s _ _ _ (T46.setTop (mkF m 24 #[.val (.ref r)] [(.int (1 : Int32))]))
  exact own_retN X46 hx hlk (t := .boolean) Bd.returns (by simp) (hb hby own_d_prog_5_method_4_24) (by decide) (by decide) (by rw [e46]; exact ⟨rfl, N45, rfl⟩)
theorem own_d_prog_5_method_4_23 : decode prog_5_method_4_code 23 = .ok (.iconst 0, 1) := by decide +kernel
theorem own_ef_die0 (m : MethodId) (x0 : Addr) : entryFrame m #[(.ref x0)] 1 = mkF m 0 #[.val (.ref x0)] [] := by first | (simp [entryFrame, mkF, argsToLocals, Value.category]; done) | rfl
def own_Q_die0 (Z : State)  (h0 : Heap) (n0 : Nat) (v : Option Value) (h : Heap) (L : List Loc) : Prop := v = some (.int (0 : Int32)) ∧ Fr n0 L ∧ h = h0
set_option maxRecDepth 65536 in
set_option maxHeartbeats 40000000 in
theorem own_rm_die0 (l : Launch) (Z : State) (a0 : Array Value) (hw : ∀ d ∈ tables_1, d.before a0 Z = true) (ws : List Jvm.Cond) (r a : Addr) (fl : Value) (bb : Addr) (h0 : Heap) (n0 : Nat) (Od : Old Z n0 h0) (B : own_DR Z h0 r a (.ref bb) fl) :
    MetFree l (⟨"com/example/strict_grants/strictgrants/DefectReport", "isEmpty", "()Z"⟩ : MethodName) (head1 (Jvm.Cond.code (⟨"com/example/strict_grants/strictgrants/DefectReport", "isEmpty", "()Z"⟩ : MethodName) prog_5_method_4_code 1 (some .boolean) :: ws) ({ frames := 1, cells := 0, slots := 0, locals := 12 } : Room)) (fun a9 U => a9 = #[(.ref r)] ∧ Z.Warmed39 U.vm ∧ U.heap = h0) (fun _ _ _ _ _ => True) (fun _ U o U' => ∃ v L, o = .returned v ∧ own_Q_die0 Z  h0 n0 v U'.heap L ∧ FrameEnd U o U' L ({ frames := 1, cells := 0, slots := 0, locals := 12 } : Room).cells ({ frames := 1, cells := 0, slots := 0, locals := 12 } : Room).slots) := by
  refine MetFree.of_bodySF (plainFor_of_name own_pn7) hisR ?_
  intro p e s m args below meth c s₁ Bd hml0 hP hK
  obtain ⟨rfl, hZ, hh⟩ := hP
  have hx := Bd.exec
  have hby := Bd.bytes
  have hml : c.maxLocals = 1 := hml0
  have hown : s.vm.findClass "com/example/strict_grants/strictgrants/DefectReport" = some m.cls := findClass_of_methodNamed Bd.named
  have hnm := (name_of_methodNamed Bd.named Bd.method).1
  have hlk : meth.locks = false := Bd.notSynchronized
  have X0 : Stand p l e ({ frames := 1, cells := 0, slots := 0, locals := 12 } : Room) s m #[(.ref r)] below meth c s₁ [] 0 0 := Stand.of_body Bd
  have e0 : s₁.heap = h0 := by rw [← hh, Bd.state]; rfl
  have N0 := Fr.nil n0
  show own_Go p e below s (own_Q_die0 Z  h0 n0) ({ frames := 1, cells := 0, slots := 0, locals := 12 } : Room).cells ({ frames := 1, cells := 0, slots := 0, locals := 12 } : Room).slots (s₁.setTop (entryFrame m #[(.ref r)] 1))
  refine own_st (fun t9 k9 => castTop (own_ef_die0 m r) k9) ?_
  show own_Go p e below s _ _ _ (s₁.setTop (mkF m 0 #[.val (.ref r)] []))
  obtain ⟨E_r, F_d, F_b, F_f, E_a, F_s⟩ := B
  refine own_st (fun t9 k9 => XS.aloadN X0.here hx rfl (hb hby own_d_prog_5_method_4_0) rfl rfl k9) ?_
  show own_Go p e below s _ _ _ (s₁.setTop (mkF m 1 #[.val (.ref r)] [(.ref r)]))
  obtain ⟨T47, X47, e47, st47⟩ := getF X0 hx hZ hown (host := "") (Or.inl (hw _ (List.mem_of_getElem? (i := 73) rfl))) Via.refl e0 F_d (g := (mkF m 1 #[.val (.ref r)] [(.ref r)])) rfl rfl (hb hby own_d_prog_5_method_4_1)
  refine own_st st47 ?_
  show own_Go p e below s _ _ _ (T47.setTop (mkF m 4 #[.val (.ref r)] [(.ref a)]))
  obtain ⟨_, T48, h48, L48, X48, e48, ⟨rfl, Nc, hu⟩, st48⟩ := own_callF X47 hx hZ hown (hw _ (List.mem_of_getElem? (i := 82) rfl)) (hw _ (List.mem_of_getElem? (i := 83) rfl)) (mvT hZ (hw _ (List.mem_of_getElem? (i := 84) rfl))) (hw _ (List.mem_of_getElem? (i := 85) rfl)) (hw _ (List.mem_of_getElem? (i := 86) rfl)) (hw _ (List.mem_of_getElem? (i := 87) rfl)) (hw _ (List.mem_of_getElem? (i := 88) rfl)) (hw _ (List.mem_of_getElem? (i := 89) rfl)) (hw _ (List.mem_of_getElem? (i := 51) rfl)) (hw _ (List.mem_of_getElem? (i := 90) rfl)) (by decide) (own_rm_alie l Z a0 hw [] a h0 n0 Od F_s) (by decide) (by decide) e47 (b := a) E_a (W := 0) (g := (mkF m 4 #[.val (.ref r)] [(.ref a)])) rfl (by rw [hml]; rfl) (argsL := []) (rest := []) rfl (lenOf own_pd6 rfl) rfl (by show 2 * 0 + _ ≤ _; exact Nat.le_of_eq rfl) (hb hby own_d_prog_5_method_4_4) (by decide) (by decide)
  have N48 := Fr.app N0 Nc
  refine own_st st48 ?_
  show own_Go p e below s _ _ _ (T48.setTop (mkF m 9 #[.val (.ref r)] [(.int (1 : Int32))]))
  refine own_st (fun t9 k9 => XS.ifNo X48.here hx rfl (hb hby own_d_prog_5_method_4_9) rfl (by decide) k9) ?_
  show own_Go p e below s _ _ _ (T48.setTop (mkF m 12 #[.val (.ref r)] []))
  refine own_st (fun t9 k9 => XS.aloadN X48.here hx rfl (hb hby own_d_prog_5_method_4_12) rfl rfl k9) ?_
  show own_Go p e below s _ _ _ (T48.setTop (mkF m 13 #[.val (.ref r)] [(.ref r)]))
  obtain ⟨T49, X49, e49, st49⟩ := getF X48 hx hZ hown (host := "") (Or.inl (hw _ (List.mem_of_getElem? (i := 93) rfl))) Via.refl (e48.trans hu) F_b (g := (mkF m 13 #[.val (.ref r)] [(.ref r)])) rfl rfl (hb hby own_d_prog_5_method_4_13)
  refine own_st st49 ?_
  show own_Go p e below s _ _ _ (T49.setTop (mkF m 16 #[.val (.ref r)] [(.ref bb)]))
  refine own_st (fun t9 k9 => XT.ifnonnullYes X49.here hx rfl (pc0 := 16) (pc' := 23) rfl (hb hby own_d_prog_5_method_4_16) rfl (by decide) (by decide) k9) ?_
  show own_Go p e below s _ _ _ (T49.setTop (mkF m 23 #[.val (.ref r)] []))
  refine own_st (fun t9 k9 => XS.iconst X49.here hx rfl (hb hby own_d_prog_5_method_4_23) k9) ?_
  show own_Go p e below s _ _ _ (T49.setTop (mkF m 24 #[.val (.ref r)] [(.int (0 : Int32))]))
  exact own_retN X49 hx hlk (t := .boolean) Bd.returns (by simp) (hb hby own_d_prog_5_method_4_24) (by decide) (by decide) (by rw [e49]; exact ⟨rfl, N48, rfl⟩)
theorem own_pn8 : plainName "com/example/strict_grants/strictgrants/StoreDefect" = true := by first | (simp [plainName, overriddenIn]; done) | decide +kernel
theorem own_d_prog_31_method_1_0 : decode prog_31_method_1_code 0 = .ok (.aload_n 0, 1) := by decide +kernel
theorem own_d_prog_31_method_1_1 : decode prog_31_method_1_code 1 = .ok (.invokespecial 1, 3) := by decide +kernel
theorem own_d_prog_31_method_1_4 : decode prog_31_method_1_code 4 = .ok (.aload_n 0, 1) := by decide +kernel
theorem own_d_prog_31_method_1_5 : decode prog_31_method_1_code 5 = .ok (.aload_n 1, 1) := by decide +kernel
theorem own_d_prog_31_method_1_6 : decode prog_31_method_1_code 6 = .ok (.putfield 7, 3) := by decide +kernel
theorem own_d_prog_31_method_1_9 : decode prog_31_method_1_code 9 = .ok (.aload_n 0, 1) := by decide +kernel
theorem own_d_prog_31_method_1_10 : decode prog_31_method_1_code 10 = .ok (.iload_n 2, 1) := by decide +kernel
theorem own_d_prog_31_method_1_11 : decode prog_31_method_1_code 11 = .ok (.putfield 13, 3) := by decide +kernel
theorem own_d_prog_31_method_1_14 : decode prog_31_method_1_code 14 = .ok (.aload_n 0, 1) := by decide +kernel
theorem own_d_prog_31_method_1_15 : decode prog_31_method_1_code 15 = .ok (.iload_n 3, 1) := by decide +kernel
theorem own_d_prog_31_method_1_16 : decode prog_31_method_1_code 16 = .ok (.putfield 17, 3) := by decide +kernel
theorem own_d_prog_31_method_1_19 : decode prog_31_method_1_code 19 = .ok (.aload_n 0, 1) := by decide +kernel
theorem own_d_prog_31_method_1_20 : decode prog_31_method_1_code 20 = .ok (.aload 4, 2) := by decide +kernel
theorem own_d_prog_31_method_1_22 : decode prog_31_method_1_code 22 = .ok (.putfield 20, 3) := by decide +kernel
theorem own_d_prog_31_method_1_25 : decode prog_31_method_1_code 25 = .ok (.return_, 1) := by decide +kernel
theorem own_ef_sdi (m : MethodId) (x0 : Addr) (x1 : Addr) (x2 : Int32) (x3 : Int32) (x4 : Addr) : entryFrame m #[(.ref x0), (.ref x1), (.int x2), (.int x3), (.ref x4)] 5 = mkF m 0 #[.val (.ref x0), .val (.ref x1), .val (.int x2), .val (.int x3), .val (.ref x4)] [] := by first | (simp [entryFrame, mkF, argsToLocals, Value.category]; done) | rfl
def own_Q_sdi (Z : State) (x : Addr) (h0 : Heap) (n0 : Nat) (v : Option Value) (h : Heap) (L : List Loc) : Prop := v = none ∧ Fr n0 L ∧ Keep h0 h [x]
set_option maxRecDepth 65536 in
set_option maxHeartbeats 40000000 in
theorem own_rm_sdi (l : Launch) (Z : State) (a0 : Array Value) (hw : ∀ d ∈ tables_1, d.before a0 Z = true) (ws : List Jvm.Cond) (x f g0 : Addr) (i j : Int32) (h0 : Heap) (n0 : Nat) (Od : Old Z n0 h0) (E_x : Exa Z h0 x "com/example/strict_grants/strictgrants/StoreDefect") (ge_x : n0 ≤ x) (F0 : Fld Z h0 x "com/example/strict_grants/strictgrants/StoreDefect" "file" "Ljava/lang/String;" .null) (F1 : Fld Z h0 x "com/example/strict_grants/strictgrants/StoreDefect" "line" "I" (.int (0 : Int32))) (F2 : Fld Z h0 x "com/example/strict_grants/strictgrants/StoreDefect" "column" "I" (.int (0 : Int32))) (F3 : Fld Z h0 x "com/example/strict_grants/strictgrants/StoreDefect" "message" "Ljava/lang/String;" .null) :
    MetFree l (⟨"com/example/strict_grants/strictgrants/StoreDefect", "<init>", "(Ljava/lang/String;IILjava/lang/String;)V"⟩ : MethodName) (head1 (Jvm.Cond.code (⟨"com/example/strict_grants/strictgrants/StoreDefect", "<init>", "(Ljava/lang/String;IILjava/lang/String;)V"⟩ : MethodName) prog_31_method_1_code 5 none :: ws) ({ frames := 2, cells := 0, slots := 0, locals := 24 } : Room)) (fun a9 U => a9 = #[(.ref x), (.ref f), (.int i), (.int j), (.ref g0)] ∧ Z.Warmed39 U.vm ∧ U.heap = h0) (fun _ _ _ _ _ => True) (fun _ U o U' => ∃ v L, o = .returned v ∧ own_Q_sdi Z x h0 n0 v U'.heap L ∧ FrameEnd U o U' L ({ frames := 2, cells := 0, slots := 0, locals := 24 } : Room).cells ({ frames := 2, cells := 0, slots := 0, locals := 24 } : Room).slots) := by
  refine MetFree.of_bodySF (plainFor_of_name own_pn8) hisR ?_
  intro p e s m args below meth c s₁ Bd hml0 hP hK
  obtain ⟨rfl, hZ, hh⟩ := hP
  have hx := Bd.exec
  have hby := Bd.bytes
  have hml : c.maxLocals = 5 := hml0
  have hown : s.vm.findClass "com/example/strict_grants/strictgrants/StoreDefect" = some m.cls := findClass_of_methodNamed Bd.named
  have hnm := (name_of_methodNamed Bd.named Bd.method).1
  have hlk : meth.locks = false := Bd.notSynchronized
  have X0 : Stand p l e ({ frames := 2, cells := 0, slots := 0, locals := 24 } : Room) s m #[(.ref x), (.ref f), (.int i), (.int j), (.ref g0)] below meth c s₁ [] 0 0 := Stand.of_body Bd
  have e0 : s₁.heap = h0 := by rw [← hh, Bd.state]; rfl
  have N0 := Fr.nil n0
  show own_Go p e below s (own_Q_sdi Z x h0 n0) ({ frames := 2, cells := 0, slots := 0, locals := 24 } : Room).cells ({ frames := 2, cells := 0, slots := 0, locals := 24 } : Room).slots (s₁.setTop (entryFrame m #[(.ref x), (.ref f), (.int i), (.int j), (.ref g0)] 5))
  refine own_st (fun t9 k9 => castTop (own_ef_sdi m x f i j g0) k9) ?_
  show own_Go p e below s _ _ _ (s₁.setTop (mkF m 0 #[.val (.ref x), .val (.ref f), .val (.int i), .val (.int j), .val (.ref g0)] []))
  have Kp : Keep h0 h0 [x] := Keep.refl h0 [x]
  refine own_st (fun t9 k9 => XS.aloadN X0.here hx rfl (hb hby own_d_prog_31_method_1_0) rfl rfl k9) ?_
  show own_Go p e below s _ _ _ (s₁.setTop (mkF m 1 #[.val (.ref x), .val (.ref f), .val (.int i), .val (.int j), .val (.ref g0)] [(.ref x)]))
  obtain ⟨_, T50, h50, L50, X50, e50, ⟨rfl, Nc, hu⟩, st50⟩ := own_callI X0 hx hZ hown rfl (hw _ (List.mem_of_getElem? (i := 106) rfl)) (hw _ (List.mem_of_getElem? (i := 107) rfl)) (hw _ (List.mem_of_getElem? (i := 109) rfl)) (hw _ (List.mem_of_getElem? (i := 110) rfl)) (by decide) (own_rm_rec l Z a0 hw [] x h0 n0 Od) (by decide) (by decide) e0 (a := x) (W := 0) (g := (mkF m 1 #[.val (.ref x), .val (.ref f), .val (.int i), .val (.int j), .val (.ref g0)] [(.ref x)])) rfl (by rw [hml]; rfl) (argsL := []) (rest := []) rfl (lenOf own_pd5 rfl) rfl (by show 2 * 0 + _ ≤ _; exact Nat.le_of_eq rfl) (hb hby own_d_prog_31_method_1_1) (by decide) (by decide)
  have N50 := Fr.app N0 Nc
  refine own_st st50 ?_
  show own_Go p e below s _ _ _ (T50.setTop (mkF m 4 #[.val (.ref x), .val (.ref f), .val (.int i), .val (.int j), .val (.ref g0)] []))
  refine own_st (fun t9 k9 => XS.aloadN X50.here hx rfl (hb hby own_d_prog_31_method_1_4) rfl rfl k9) ?_
  show own_Go p e below s _ _ _ (T50.setTop (mkF m 5 #[.val (.ref x), .val (.ref f), .val (.int i), .val (.int j), .val (.ref g0)] [(.ref x)]))
  refine own_st (fun t9 k9 => XS.aloadN X50.here hx rfl (hb hby own_d_prog_31_method_1_5) rfl rfl k9) ?_
  show own_Go p e below s _ _ _ (T50.setTop (mkF m 6 #[.val (.ref x), .val (.ref f), .val (.int i), .val (.int j), .val (.ref g0)] [(.ref f), (.ref x)]))
  obtain ⟨T51, h51, X51, e51, W51, st51⟩ := putF X50 hx hZ hown (host := "") (Or.inl (hw _ (List.mem_of_getElem? (i := 112) rfl))) Via.refl (e50.trans hu) F0 E_x (Or.inr ⟨(hw _ (List.mem_of_getElem? (i := 113) rfl)), rfl, hnm⟩) (hw _ (List.mem_of_getElem? (i := 101) rfl)) (ty := (.object "java/lang/String")) (by decide) rfl rfl (g := (mkF m 6 #[.val (.ref x), .val (.ref f), .val (.int i), .val (.int j), .val (.ref g0)] [(.ref f), (.ref x)])) rfl rfl (hb hby own_d_prog_31_method_1_6)
  have N51 := Fr.snoc X51 N50 ge_x
  have E_x := E_x.wr W51
  have F0 := F0.same W51
  have F1 := F1.other W51 (Or.inr (RoadKit.slot_ne (Or.inr (hw _ (List.mem_of_getElem? (i := 115) rfl))) (Or.inr (hw _ (List.mem_of_getElem? (i := 113) rfl))) (by decide) (t := .int) (t' := (.object "java/lang/String")) (by decide) (by decide)))
  have F2 := F2.other W51 (Or.inr (RoadKit.slot_ne (Or.inr (hw _ (List.mem_of_getElem? (i := 117) rfl))) (Or.inr (hw _ (List.mem_of_getElem? (i := 113) rfl))) (by decide) (t := .int) (t' := (.object "java/lang/String")) (by decide) (by decide)))
  have F3 := F3.other W51 (Or.inr (RoadKit.slot_ne (Or.inr (hw _ (List.mem_of_getElem? (i := 119) rfl))) (Or.inr (hw _ (List.mem_of_getElem? (i := 113) rfl))) (by decide) (t := (.object "java/lang/String")) (t' := (.object "java/lang/String")) (by decide) (by decide)))
  have Od := Od.wr W51 ge_x
  have Kp := Kp.wr W51 (Or.inl (List.mem_of_getElem? (i := 0) rfl))
  refine own_st st51 ?_
  show own_Go p e below s _ _ _ (T51.setTop (mkF m 9 #[.val (.ref x), .val (.ref f), .val (.int i), .val (.int j), .val (.ref g0)] []))
  refine own_st (fun t9 k9 => XS.aloadN X51.here hx rfl (hb hby own_d_prog_31_method_1_9) rfl rfl k9) ?_
  show own_Go p e below s _ _ _ (T51.setTop (mkF m 10 #[.val (.ref x), .val (.ref f), .val (.int i), .val (.int j), .val (.ref g0)] [(.ref x)]))
  refine own_st (fun t9 k9 => XS.iloadN X51.here hx rfl (hb hby own_d_prog_31_method_1_10) rfl  k9) ?_
  show own_Go p e below s _ _ _ (T51.setTop (mkF m 11 #[.val (.ref x), .val (.ref f), .val (.int i), .val (.int j), .val (.ref g0)] [(.int i), (.ref x)]))
  obtain ⟨T52, h52, X52, e52, W52, st52⟩ := putF X51 hx hZ hown (host := "") (Or.inl (hw _ (List.mem_of_getElem? (i := 114) rfl))) Via.refl e51 F1 E_x (Or.inr ⟨(hw _ (List.mem_of_getElem? (i := 115) rfl)), rfl, hnm⟩) (hw _ (List.mem_of_getElem? (i := 101) rfl)) (ty := .int) (by decide) rfl rfl (g := (mkF m 11 #[.val (.ref x), .val (.ref f), .val (.int i), .val (.int j), .val (.ref g0)] [(.int i), (.ref x)])) rfl rfl (hb hby own_d_prog_31_method_1_11)
  have N52 := Fr.snoc X52 N51 ge_x
  have E_x := E_x.wr W52
  have F0 := F0.other W52 (Or.inr (RoadKit.slot_ne (Or.inr (hw _ (List.mem_of_getElem? (i := 113) rfl))) (Or.inr (hw _ (List.mem_of_getElem? (i := 115) rfl))) (by decide) (t := (.object "java/lang/String")) (t' := .int) (by decide) (by decide)))
  have F1 := F1.same W52
  have F2 := F2.other W52 (Or.inr (RoadKit.slot_ne (Or.inr (hw _ (List.mem_of_getElem? (i := 117) rfl))) (Or.inr (hw _ (List.mem_of_getElem? (i := 115) rfl))) (by decide) (t := .int) (t' := .int) (by decide) (by decide)))
  have F3 := F3.other W52 (Or.inr (RoadKit.slot_ne (Or.inr (hw _ (List.mem_of_getElem? (i := 119) rfl))) (Or.inr (hw _ (List.mem_of_getElem? (i := 115) rfl))) (by decide) (t := (.object "java/lang/String")) (t' := .int) (by decide) (by decide)))
  have Od := Od.wr W52 ge_x
  have Kp := Kp.wr W52 (Or.inl (List.mem_of_getElem? (i := 0) rfl))
  refine own_st st52 ?_
  show own_Go p e below s _ _ _ (T52.setTop (mkF m 14 #[.val (.ref x), .val (.ref f), .val (.int i), .val (.int j), .val (.ref g0)] []))
  refine own_st (fun t9 k9 => XS.aloadN X52.here hx rfl (hb hby own_d_prog_31_method_1_14) rfl rfl k9) ?_
  show own_Go p e below s _ _ _ (T52.setTop (mkF m 15 #[.val (.ref x), .val (.ref f), .val (.int i), .val (.int j), .val (.ref g0)] [(.ref x)]))
  refine own_st (fun t9 k9 => XS.iloadN X52.here hx rfl (hb hby own_d_prog_31_method_1_15) rfl  k9) ?_
  show own_Go p e below s _ _ _ (T52.setTop (mkF m 16 #[.val (.ref x), .val (.ref f), .val (.int i), .val (.int j), .val (.ref g0)] [(.int j), (.ref x)]))
  obtain ⟨T53, h53, X53, e53, W53, st53⟩ := putF X52 hx hZ hown (host := "") (Or.inl (hw _ (List.mem_of_getElem? (i := 116) rfl))) Via.refl e52 F2 E_x (Or.inr ⟨(hw _ (List.mem_of_getElem? (i := 117) rfl)), rfl, hnm⟩) (hw _ (List.mem_of_getElem? (i := 101) rfl)) (ty := .int) (by decide) rfl rfl (g := (mkF m 16 #[.val (.ref x), .val (.ref f), .val (.int i), .val (.int j), .val (.ref g0)] [(.int j), (.ref x)])) rfl rfl (hb hby own_d_prog_31_method_1_16)
  have N53 := Fr.snoc X53 N52 ge_x
  have E_x := E_x.wr W53
  have F0 := F0.other W53 (Or.inr (RoadKit.slot_ne (Or.inr (hw _ (List.mem_of_getElem? (i := 113) rfl))) (Or.inr (hw _ (List.mem_of_getElem? (i := 117) rfl))) (by decide) (t := (.object "java/lang/String")) (t' := .int) (by decide) (by decide)))
  have F1 := F1.other W53 (Or.inr (RoadKit.slot_ne (Or.inr (hw _ (List.mem_of_getElem? (i := 115) rfl))) (Or.inr (hw _ (List.mem_of_getElem? (i := 117) rfl))) (by decide) (t := .int) (t' := .int) (by decide) (by decide)))
  have F2 := F2.same W53
  have F3 := F3.other W53 (Or.inr (RoadKit.slot_ne (Or.inr (hw _ (List.mem_of_getElem? (i := 119) rfl))) (Or.inr (hw _ (List.mem_of_getElem? (i := 117) rfl))) (by decide) (t := (.object "java/lang/String")) (t' := .int) (by decide) (by decide)))
  have Od := Od.wr W53 ge_x
  have Kp := Kp.wr W53 (Or.inl (List.mem_of_getElem? (i := 0) rfl))
  refine own_st st53 ?_
  show own_Go p e below s _ _ _ (T53.setTop (mkF m 19 #[.val (.ref x), .val (.ref f), .val (.int i), .val (.int j), .val (.ref g0)] []))
  refine own_st (fun t9 k9 => XS.aloadN X53.here hx rfl (hb hby own_d_prog_31_method_1_19) rfl rfl k9) ?_
  show own_Go p e below s _ _ _ (T53.setTop (mkF m 20 #[.val (.ref x), .val (.ref f), .val (.int i), .val (.int j), .val (.ref g0)] [(.ref x)]))
  refine own_st (fun t9 k9 => XS.aload X53.here hx rfl (hb hby own_d_prog_31_method_1_20) rfl rfl k9) ?_
  show own_Go p e below s _ _ _ (T53.setTop (mkF m 22 #[.val (.ref x), .val (.ref f), .val (.int i), .val (.int j), .val (.ref g0)] [(.ref g0), (.ref x)]))
  obtain ⟨T54, h54, X54, e54, W54, st54⟩ := putF X53 hx hZ hown (host := "") (Or.inl (hw _ (List.mem_of_getElem? (i := 118) rfl))) Via.refl e53 F3 E_x (Or.inr ⟨(hw _ (List.mem_of_getElem? (i := 119) rfl)), rfl, hnm⟩) (hw _ (List.mem_of_getElem? (i := 101) rfl)) (ty := (.object "java/lang/String")) (by decide) rfl rfl (g := (mkF m 22 #[.val (.ref x), .val (.ref f), .val (.int i), .val (.int j), .val (.ref g0)] [(.ref g0), (.ref x)])) rfl rfl (hb hby own_d_prog_31_method_1_22)
  have N54 := Fr.snoc X54 N53 ge_x
  have E_x := E_x.wr W54
  have F0 := F0.other W54 (Or.inr (RoadKit.slot_ne (Or.inr (hw _ (List.mem_of_getElem? (i := 113) rfl))) (Or.inr (hw _ (List.mem_of_getElem? (i := 119) rfl))) (by decide) (t := (.object "java/lang/String")) (t' := (.object "java/lang/String")) (by decide) (by decide)))
  have F1 := F1.other W54 (Or.inr (RoadKit.slot_ne (Or.inr (hw _ (List.mem_of_getElem? (i := 115) rfl))) (Or.inr (hw _ (List.mem_of_getElem? (i := 119) rfl))) (by decide) (t := .int) (t' := (.object "java/lang/String")) (by decide) (by decide)))
  have F2 := F2.other W54 (Or.inr (RoadKit.slot_ne (Or.inr (hw _ (List.mem_of_getElem? (i := 117) rfl))) (Or.inr (hw _ (List.mem_of_getElem? (i := 119) rfl))) (by decide) (t := .int) (t' := (.object "java/lang/String")) (by decide) (by decide)))
  have F3 := F3.same W54
  have Od := Od.wr W54 ge_x
  have Kp := Kp.wr W54 (Or.inl (List.mem_of_getElem? (i := 0) rfl))
  refine own_st st54 ?_
  show own_Go p e below s _ _ _ (T54.setTop (mkF m 25 #[.val (.ref x), .val (.ref f), .val (.int i), .val (.int j), .val (.ref g0)] []))
  exact own_retV X54 hx hlk Bd.returns (hb hby own_d_prog_31_method_1_25) (by decide) (by decide) (by rw [e54]; exact ⟨rfl, N54, Kp⟩)
theorem own_d_prog_5_method_5_0 : decode prog_5_method_5_code 0 = .ok (.aload_n 0, 1) := by decide +kernel
theorem own_d_prog_5_method_5_1 : decode prog_5_method_5_code 1 = .ok (.new 20, 3) := by decide +kernel
theorem own_d_prog_5_method_5_4 : decode prog_5_method_5_code 4 = .ok (.dup, 1) := by decide +kernel
theorem own_d_prog_5_method_5_5 : decode prog_5_method_5_code 5 = .ok (.aload_n 0, 1) := by decide +kernel
theorem own_d_prog_5_method_5_6 : decode prog_5_method_5_code 6 = .ok (.getfield 16, 3) := by decide +kernel
theorem own_d_prog_5_method_5_9 : decode prog_5_method_5_code 9 = .ok (.iload_n 1, 1) := by decide +kernel
theorem own_d_prog_5_method_5_10 : decode prog_5_method_5_code 10 = .ok (.iload_n 2, 1) := by decide +kernel
theorem own_d_prog_5_method_5_11 : decode prog_5_method_5_code 11 = .ok (.aload_n 3, 1) := by decide +kernel
theorem own_pd7 : parseMethodDescriptor "(Ljava/lang/String;IILjava/lang/String;)V" = some ⟨[(.object "java/lang/String"), .int, .int, (.object "java/lang/String")], none⟩ := by decide +kernel
theorem own_d_prog_5_method_5_12 : decode prog_5_method_5_code 12 = .ok (.invokespecial 22, 3) := by decide +kernel
theorem own_d_prog_5_method_5_15 : decode prog_5_method_5_code 15 = .ok (.putfield 52, 3) := by decide +kernel
theorem own_d_prog_5_method_5_18 : decode prog_5_method_5_code 18 = .ok (.return_, 1) := by decide +kernel
theorem own_ef_abo (m : MethodId) (x0 : Addr) (x1 : Int32) (x2 : Int32) (x3 : Addr) : entryFrame m #[(.ref x0), (.int x1), (.int x2), (.ref x3)] 4 = mkF m 0 #[.val (.ref x0), .val (.int x1), .val (.int x2), .val (.ref x3)] [] := by first | (simp [entryFrame, mkF, argsToLocals, Value.category]; done) | rfl
def own_Q_abo (Z : State) (r a f : Addr) (h0 : Heap) (n0 : Nat) (v : Option Value) (h : Heap) (L : List Loc) : Prop := v = none ∧ Fr n0 L ∧ Keep h0 h [r] ∧ ∃ bb, own_DR Z h r a (.ref bb) (.ref f)
set_option maxRecDepth 65536 in
set_option maxHeartbeats 40000000 in
theorem own_rm_abo (l : Launch) (Z : State) (a0 : Array Value) (hw : ∀ d ∈ tables_1, d.before a0 Z = true) (ws : List Jvm.Cond) (r a f g0 : Addr) (i j : Int32) (b : Value) (h0 : Heap) (n0 : Nat) (Od : Old Z n0 h0) (B : own_DR Z h0 r a b (.ref f)) (ge_r : n0 ≤ r) :
    MetFree l (⟨"com/example/strict_grants/strictgrants/DefectReport", "addBrokenOff", "(IILjava/lang/String;)V"⟩ : MethodName) (head1 (Jvm.Cond.code (⟨"com/example/strict_grants/strictgrants/DefectReport", "addBrokenOff", "(IILjava/lang/String;)V"⟩ : MethodName) prog_5_method_5_code 4 none :: ws) ({ frames := 3, cells := 1, slots := 4, locals := 42 } : Room)) (fun a9 U => a9 = #[(.ref r), (.int i), (.int j), (.ref g0)] ∧ Z.Warmed39 U.vm ∧ U.heap = h0) (fun _ _ _ _ _ => True) (fun _ U o U' => ∃ v L, o = .returned v ∧ own_Q_abo Z r a f h0 n0 v U'.heap L ∧ FrameEnd U o U' L ({ frames := 3, cells := 1, slots := 4, locals := 42 } : Room).cells ({ frames := 3, cells := 1, slots := 4, locals := 42 } : Room).slots) := by
  refine MetFree.of_bodySF (plainFor_of_name own_pn7) hisR ?_
  intro p e s m args below meth c s₁ Bd hml0 hP hK
  obtain ⟨rfl, hZ, hh⟩ := hP
  have hx := Bd.exec
  have hby := Bd.bytes
  have hml : c.maxLocals = 4 := hml0
  have hown : s.vm.findClass "com/example/strict_grants/strictgrants/DefectReport" = some m.cls := findClass_of_methodNamed Bd.named
  have hnm := (name_of_methodNamed Bd.named Bd.method).1
  have hlk : meth.locks = false := Bd.notSynchronized
  have X0 : Stand p l e ({ frames := 3, cells := 1, slots := 4, locals := 42 } : Room) s m #[(.ref r), (.int i), (.int j), (.ref g0)] below meth c s₁ [] 0 0 := Stand.of_body Bd
  have e0 : s₁.heap = h0 := by rw [← hh, Bd.state]; rfl
  have N0 := Fr.nil n0
  show own_Go p e below s (own_Q_abo Z r a f h0 n0) ({ frames := 3, cells := 1, slots := 4, locals := 42 } : Room).cells ({ frames := 3, cells := 1, slots := 4, locals := 42 } : Room).slots (s₁.setTop (entryFrame m #[(.ref r), (.int i), (.int j), (.ref g0)] 4))
  refine own_st (fun t9 k9 => castTop (own_ef_abo m r i j g0) k9) ?_
  show own_Go p e below s _ _ _ (s₁.setTop (mkF m 0 #[.val (.ref r), .val (.int i), .val (.int j), .val (.ref g0)] []))
  obtain ⟨E_r, F_d, F_b, F_f, E_a, F_s⟩ := B
  have ne_r_a : r ≠ a := Exa.ne E_r E_a (by decide)
  have Kp : Keep h0 h0 [r] := Keep.refl h0 [r]
  refine own_st (fun t9 k9 => XS.aloadN X0.here hx rfl (hb hby own_d_prog_5_method_5_0) rfl rfl k9) ?_
  show own_Go p e below s _ _ _ (s₁.setTop (mkF m 1 #[.val (.ref r), .val (.int i), .val (.int j), .val (.ref g0)] [(.ref r)]))
  obtain ⟨T55, h55, X55, e55, E55, A55, D55, U55, st55⟩ := newO X0 hx hZ hown (hw _ (List.mem_of_getElem? (i := 100) rfl)) (hw _ (List.mem_of_getElem? (i := 101) rfl)) (hw _ (List.mem_of_getElem? (i := 102) rfl)) e0 (g := (mkF m 1 #[.val (.ref r), .val (.int i), .val (.int j), .val (.ref g0)] [(.ref r)])) rfl (hb hby own_d_prog_5_method_5_1) (by decide) (by decide)
  obtain ⟨x, g55⟩ : ∃ z, z = h0.size := ⟨_, rfl⟩
  rw [← g55] at A55 D55 st55 U55
  have ne_r_x : r ≠ x := Nat.ne_of_lt (Nat.lt_of_lt_of_le E_r.lt (Nat.le_of_eq g55.symm))
  have ne_a_x : a ≠ x := Nat.ne_of_lt (Nat.lt_of_lt_of_le E_a.lt (Nat.le_of_eq g55.symm))
  have ge_x : n0 ≤ x := Nat.le_trans (own_z0 Od) (Nat.le_of_eq g55.symm)
  have gz_x : h0.size ≤ x := Nat.le_trans Kp.1 (Nat.le_of_eq g55.symm)
  have E_r := E_r.ext E55
  have F_d := F_d.ext E55
  have F_b := F_b.ext E55
  have F_f := F_f.ext E55
  have E_a := E_a.ext E55
  have F_s := F_s.ext E55
  have Od := Od.ext E55
  have Kp := Kp.ext E55
  refine own_st st55 ?_
  show own_Go p e below s _ _ _ (T55.setTop (mkF m 4 #[.val (.ref r), .val (.int i), .val (.int j), .val (.ref g0)] [(.ref x), (.ref r)]))
  have E_x : Exa Z h55 x "com/example/strict_grants/strictgrants/StoreDefect" := A55
  have G0 : Fld Z h55 x "com/example/strict_grants/strictgrants/StoreDefect" "file" "Ljava/lang/String;" .null := D55 (Or.inr (hw _ (List.mem_of_getElem? (i := 113) rfl))) (ty := (.object "java/lang/String")) (by decide)
  have G1 : Fld Z h55 x "com/example/strict_grants/strictgrants/StoreDefect" "line" "I" (.int (0 : Int32)) := D55 (Or.inr (hw _ (List.mem_of_getElem? (i := 115) rfl))) (ty := .int) (by decide)
  have G2 : Fld Z h55 x "com/example/strict_grants/strictgrants/StoreDefect" "column" "I" (.int (0 : Int32)) := D55 (Or.inr (hw _ (List.mem_of_getElem? (i := 117) rfl))) (ty := .int) (by decide)
  have G3 : Fld Z h55 x "com/example/strict_grants/strictgrants/StoreDefect" "message" "Ljava/lang/String;" .null := D55 (Or.inr (hw _ (List.mem_of_getElem? (i := 119) rfl))) (ty := (.object "java/lang/String")) (by decide)
  refine own_st (fun t9 k9 => XS.dup X55.here hx rfl (hb hby own_d_prog_5_method_5_4) rfl rfl k9) ?_
  show own_Go p e below s _ _ _ (T55.setTop (mkF m 5 #[.val (.ref r), .val (.int i), .val (.int j), .val (.ref g0)] [(.ref x), (.ref x), (.ref r)]))
  refine own_st (fun t9 k9 => XS.aloadN X55.here hx rfl (hb hby own_d_prog_5_method_5_5) rfl rfl k9) ?_
  show own_Go p e below s _ _ _ (T55.setTop (mkF m 6 #[.val (.ref r), .val (.int i), .val (.int j), .val (.ref g0)] [(.ref r), (.ref x), (.ref x), (.ref r)]))
  obtain ⟨T56, X56, e56, st56⟩ := getF X55 hx hZ hown (host := "") (Or.inl (hw _ (List.mem_of_getElem? (i := 75) rfl))) Via.refl e55 F_f (g := (mkF m 6 #[.val (.ref r), .val (.int i), .val (.int j), .val (.ref g0)] [(.ref r), (.ref x), (.ref x), (.ref r)])) rfl rfl (hb hby own_d_prog_5_method_5_6)
  refine own_st st56 ?_
  show own_Go p e below s _ _ _ (T56.setTop (mkF m 9 #[.val (.ref r), .val (.int i), .val (.int j), .val (.ref g0)] [(.ref f), (.ref x), (.ref x), (.ref r)]))
  refine own_st (fun t9 k9 => XS.iloadN X56.here hx rfl (hb hby own_d_prog_5_method_5_9) rfl  k9) ?_
  show own_Go p e below s _ _ _ (T56.setTop (mkF m 10 #[.val (.ref r), .val (.int i), .val (.int j), .val (.ref g0)] [(.int i), (.ref f), (.ref x), (.ref x), (.ref r)]))
  refine own_st (fun t9 k9 => XS.iloadN X56.here hx rfl (hb hby own_d_prog_5_method_5_10) rfl  k9) ?_
  show own_Go p e below s _ _ _ (T56.setTop (mkF m 11 #[.val (.ref r), .val (.int i), .val (.int j), .val (.ref g0)] [(.int j), (.int i), (.ref f), (.ref x), (.ref x), (.ref r)]))
  refine own_st (fun t9 k9 => XS.aloadN X56.here hx rfl (hb hby own_d_prog_5_method_5_11) rfl rfl k9) ?_
  show own_Go p e below s _ _ _ (T56.setTop (mkF m 12 #[.val (.ref r), .val (.int i), .val (.int j), .val (.ref g0)] [(.ref g0), (.int j), (.int i), (.ref f), (.ref x), (.ref x), (.ref r)]))
  obtain ⟨_, T57, h57, L57, X57, e57, ⟨rfl, Nc, Kc⟩, st57⟩ := own_callI X56 hx hZ hown rfl (hw _ (List.mem_of_getElem? (i := 103) rfl)) (hw _ (List.mem_of_getElem? (i := 104) rfl)) (hw _ (List.mem_of_getElem? (i := 102) rfl)) (hw _ (List.mem_of_getElem? (i := 105) rfl)) (by decide) (own_rm_sdi l Z a0 hw [] x f g0 i j h55 n0 Od E_x ge_x G0 G1 G2 G3) (by decide) (by decide) e56 (a := x) (W := 2) (g := (mkF m 12 #[.val (.ref r), .val (.int i), .val (.int j), .val (.ref g0)] [(.ref g0), (.int j), (.int i), (.ref f), (.ref x), (.ref x), (.ref r)])) rfl (by rw [hml]; rfl) (argsL := [(.ref f), (.int i), (.int j), (.ref g0)]) (rest := [(.ref x), (.ref r)]) rfl (lenOf own_pd7 rfl) rfl (by show 2 * 0 + _ ≤ _; exact Nat.le_of_eq rfl) (hb hby own_d_prog_5_method_5_12) (by decide) (by decide)
  have N57 := Fr.app N0 Nc
  have E_r := E_r.keep Kc
  have F_d := F_d.keep Kc (ninS ne_r_x nin0)
  have F_b := F_b.keep Kc (ninS ne_r_x nin0)
  have F_f := F_f.keep Kc (ninS ne_r_x nin0)
  have E_a := E_a.keep Kc
  have F_s := F_s.keep Kc (ninS ne_a_x nin0)
  have E_x := E_x.keep Kc
  have Od := Od.keep Kc (allS ge_x all0)
  have Kp := Kp.trans Kc (allS (Or.inr gz_x) all0)
  refine own_st st57 ?_
  show own_Go p e below s _ _ _ (T57.setTop (mkF m 15 #[.val (.ref r), .val (.int i), .val (.int j), .val (.ref g0)] [(.ref x), (.ref r)]))
  obtain ⟨T58, h58, X58, e58, W58, st58⟩ := putF X57 hx hZ hown (host := "") (Or.inl (hw _ (List.mem_of_getElem? (i := 93) rfl))) Via.refl e57 F_b E_r (Or.inl (hw _ (List.mem_of_getElem? (i := 94) rfl))) (hw _ (List.mem_of_getElem? (i := 43) rfl)) (ty := (.object "com/example/strict_grants/strictgrants/StoreDefect")) (by decide) rfl rfl (g := (mkF m 15 #[.val (.ref r), .val (.int i), .val (.int j), .val (.ref g0)] [(.ref x), (.ref r)])) rfl rfl (hb hby own_d_prog_5_method_5_15)
  have N58 := Fr.snoc X58 N57 ge_r
  have E_r := E_r.wr W58
  have F_d := F_d.other W58 (Or.inr (RoadKit.slot_ne (Or.inr (hw _ (List.mem_of_getElem? (i := 74) rfl))) (Or.inl (hw _ (List.mem_of_getElem? (i := 94) rfl))) (by decide) (t := (.object "java/util/List")) (t' := (.object "com/example/strict_grants/strictgrants/StoreDefect")) (by decide) (by decide)))
  have F_b := F_b.same W58
  have F_f := F_f.other W58 (Or.inr (RoadKit.slot_ne (Or.inr (hw _ (List.mem_of_getElem? (i := 76) rfl))) (Or.inl (hw _ (List.mem_of_getElem? (i := 94) rfl))) (by decide) (t := (.object "java/lang/String")) (t' := (.object "com/example/strict_grants/strictgrants/StoreDefect")) (by decide) (by decide)))
  have E_a := E_a.wr W58
  have F_s := F_s.other W58 (Or.inl (Ne.symm ne_r_a))
  have E_x := E_x.wr W58
  have Od := Od.wr W58 ge_r
  have Kp := Kp.wr W58 (Or.inl (List.mem_of_getElem? (i := 0) rfl))
  refine own_st st58 ?_
  show own_Go p e below s _ _ _ (T58.setTop (mkF m 18 #[.val (.ref r), .val (.int i), .val (.int j), .val (.ref g0)] []))
  exact own_retV X58 hx hlk Bd.returns (hb hby own_d_prog_5_method_5_18) (by decide) (by decide) (by rw [e58]; exact ⟨rfl, N58, Kp, x, E_r, F_d, F_b, F_f, E_a, F_s⟩)
theorem own_pd8 : parseMethodDescriptor "(C)Ljava/lang/String;" = some ⟨[.char], some (.object "java/lang/String")⟩ := by decide +kernel
theorem own_pd9 : parseMethodDescriptor "(III)Ljava/lang/String;" = some ⟨[.int, .int, .int], some (.object "java/lang/String")⟩ := by decide +kernel
theorem own_pd10 : parseMethodDescriptor "(Ljava/lang/String;)V" = some ⟨[(.object "java/lang/String")], none⟩ := by decide +kernel
theorem own_pd11 : parseMethodDescriptor "(IILjava/lang/String;)V" = some ⟨[.int, .int, (.object "java/lang/String")], none⟩ := by decide +kernel
theorem own_ef_law (m : MethodId) (x0 : Int32) (x1 : Int32) (x2 : Int32) (x3 : Int32) (x4 : Int32) (x5 : Int32) : entryFrame m #[(.int x0), (.int x1), (.int x2), (.int x3), (.int x4), (.int x5)] maxLocals = mkF m 0 #[.val (.int x0), .val (.int x1), .val (.int x2), .val (.int x3), .val (.int x4), .val (.int x5), .unset, .unset, .unset, .unset, .unset, .unset] [] := by first | (simp [entryFrame, mkF, argsToLocals, Value.category, maxLocals]; done) | rfl
def own_Q_law (Z : State)  (h0 : Heap) (n0 : Nat) (v : Option Value) (h : Heap) (L : List Loc) : Prop := v = some (.int 1) ∧ Fr n0 L
set_option maxRecDepth 65536 in
set_option maxHeartbeats 40000000 in
theorem own_rm_law (l : Launch) (Z : State) (a0 : Array Value) (hw : ∀ d ∈ tables_1, d.before a0 Z = true) (hEL : EW Z a0 consts_1) (ws : List Jvm.Cond) (p0 p1 p2 p3 p4 p5 G : Int32) (de : Addr) (h0 : Heap) (n0 : Nat) (Od : Old Z n0 h0) (O2 : Sta Z Z.heap "java/lang/String" "COMPACT_STRINGS" "Z" (.int G)) (P5 : ¬ (G = (0 : Int32))) (SD0 : Sta Z Z.heap "java/util/ArrayList" "DEFAULTCAPACITY_EMPTY_ELEMENTDATA" "[Ljava/lang/Object;" (.ref de)) :
    MetFree l x (head1 (Jvm.Cond.code x code maxLocals ret :: ws) room_1) (fun a9 U => a9 = #[(.int p0), (.int p1), (.int p2), (.int p3), (.int p4), (.int p5)] ∧ Z.Warmed39 U.vm ∧ U.heap = h0 ∧ CHv Z consts_1 U.vm h0 ∧ ∀ x9 ∈ ([] : List Addr), Safe Z consts_1 U.vm h0 x9) (fun _ _ _ _ _ => True) (fun _ U o U' => ∃ v L, o = .returned v ∧ own_Q_law Z  h0 n0 v U'.heap L ∧ CHr Z consts_1 U.vm U.heap U'.vm U'.heap ∧ ReturnedEndW U o U' L 32 1152) := by
  refine MetFree.of_bodySF (plainFor_of_name own_pn2) hisR ?_
  intro p e s m args below meth c s₁ Bd hml0 hP hK
  obtain ⟨rfl, hZ, hh, Hc, Hs⟩ := hP
  have hx := Bd.exec
  have hby := Bd.bytes
  have hml : c.maxLocals = 12 := hml0
  have hown : s.vm.findClass "com/example/strict_grants/strictgrants/DefectReportAddBrokenOffPinLaw" = some m.cls := findClass_of_methodNamed Bd.named
  have hnm := (name_of_methodNamed Bd.named Bd.method).1
  have hlk : meth.locks = false := Bd.notSynchronized
  have X0 : Stand p l e room_1 (s.setVm s.vm) m #[(.int p0), (.int p1), (.int p2), (.int p3), (.int p4), (.int p5)] below meth c s₁ [] 0 0 := Stand.of_body Bd
  have e0 : s₁.heap = h0 := by rw [← hh, Bd.state]; rfl
  have N0 := Fr.nil n0
  have hS : s.Since s.vm h0.size := (State.WarmedH.refl s).since _
  have hk : h0.size ≤ h0.size := Nat.le_refl _
  have Hr : CHr Z consts_1 s.vm h0 s.vm h0 := CHr.refl Hc
  skip
  show own_GoW p e below s Z consts_1 (own_Q_law Z  h0 n0) 32 1152 (s₁.setTop (entryFrame m #[(.int p0), (.int p1), (.int p2), (.int p3), (.int p4), (.int p5)] maxLocals))
  refine own_stW (fun t9 k9 => castTop (own_ef_law m p0 p1 p2 p3 p4 p5) k9) ?_
  show own_GoW p e below s Z consts_1 _ _ _ (s₁.setTop (mkF m 0 #[.val (.int p0), .val (.int p1), .val (.int p2), .val (.int p3), .val (.int p4), .val (.int p5), .unset, .unset, .unset, .unset, .unset, .unset] []))
  refine own_stW (fun t9 k9 => XS.iloadN X0.here hx rfl (hb hby at_0) rfl  k9) ?_
  show own_GoW p e below s Z consts_1 _ _ _ (s₁.setTop (mkF m 1 #[.val (.int p0), .val (.int p1), .val (.int p2), .val (.int p3), .val (.int p4), .val (.int p5), .unset, .unset, .unset, .unset, .unset, .unset] [(.int p2)]))
  refine own_stW (fun t9 k9 => XS.sipush X0.here hx rfl (hb hby at_1) k9) ?_
  show own_GoW p e below s Z consts_1 _ _ _ (s₁.setTop (mkF m 4 #[.val (.int p0), .val (.int p1), .val (.int p2), .val (.int p3), .val (.int p4), .val (.int p5), .unset, .unset, .unset, .unset, .unset, .unset] [(.int (255 : Int32)), (.int p2)]))
  refine own_stW (fun t9 k9 => XS.iand X0.here hx rfl (hb hby at_4) rfl k9) ?_
  show own_GoW p e below s Z consts_1 _ _ _ (s₁.setTop (mkF m 5 #[.val (.int p0), .val (.int p1), .val (.int p2), .val (.int p3), .val (.int p4), .val (.int p5), .unset, .unset, .unset, .unset, .unset, .unset] [(.int (p2 &&& (255 : Int32)))]))
  refine own_stW (fun t9 k9 => XT.i2c X0.here hx rfl (hb hby at_5) rfl k9) ?_
  show own_GoW p e below s Z consts_1 _ _ _ (s₁.setTop (mkF m 6 #[.val (.int p0), .val (.int p1), .val (.int p2), .val (.int p3), .val (.int p4), .val (.int p5), .unset, .unset, .unset, .unset, .unset, .unset] [(.int ((p2 &&& (255 : Int32)).toUInt32.toUInt16.toUInt32.toInt32))]))
  have hb1 : ¬ (255 : Int32) < ((p2 &&& (255 : Int32)).toUInt32.toUInt16.toUInt32.toInt32) := by have q := (own_and255 p2).2; rw [own_nc] at q; exact q
  obtain ⟨_, T59, h59, L59, X59, e59, ⟨Na, Ka, f, ft, kf, rfl, gf, gft, Ef, Ff1, Ff2, Vf⟩, st59⟩ := own_callS X0 hx hZ hown (hw _ (List.mem_of_getElem? (i := 0) rfl)) (hw _ (List.mem_of_getElem? (i := 1) rfl)) (hw _ (List.mem_of_getElem? (i := 2) rfl)) (hw _ (List.mem_of_getElem? (i := 3) rfl)) (by decide) (own_rm_vof l Z a0 hw [] ((p2 &&& (255 : Int32)).toUInt32.toUInt16.toUInt32.toInt32) G h0 n0 Od hb1 O2 P5) (by decide) (by decide) e0 (W := 0) (g := (mkF m 6 #[.val (.int p0), .val (.int p1), .val (.int p2), .val (.int p3), .val (.int p4), .val (.int p5), .unset, .unset, .unset, .unset, .unset, .unset] [(.int ((p2 &&& (255 : Int32)).toUInt32.toUInt16.toUInt32.toInt32))])) rfl (by rw [hml]; rfl) (argsL := [(.int ((p2 &&& (255 : Int32)).toUInt32.toUInt16.toUInt32.toInt32))]) (rest := []) rfl (lenOf own_pd8 rfl) rfl (by show 2 * 0 + _ ≤ _; exact Nat.le_of_eq rfl) (hb hby at_6) (by decide) (by decide)
  have N59 := Fr.app N0 Na
  have ge_f : n0 ≤ f := Nat.le_trans (own_z0 Od) gf
  have Od := Od.keep Ka all0
  have Hr0 := Hr.1
  have Hr := Hr.trans (CHr.keep Ka sf0 Hr.1)
  have hk := Nat.le_trans hk Ka.1
  have Sf_f := Safe.keep Ka sf0 Hr0 (Safe.new gf)
  refine own_stW st59 ?_
  show own_GoW p e below s Z consts_1 _ _ _ (T59.setTop (mkF m 9 #[.val (.int p0), .val (.int p1), .val (.int p2), .val (.int p3), .val (.int p4), .val (.int p5), .unset, .unset, .unset, .unset, .unset, .unset] [(.ref f)]))
  refine own_stW (fun t9 k9 => XS.astore X59.here hx rfl (hb hby at_9) rfl rfl (l' := #[.val (.int p0), .val (.int p1), .val (.int p2), .val (.int p3), .val (.int p4), .val (.int p5), .val (.ref f), .unset, .unset, .unset, .unset, .unset]) rfl k9) ?_
  show own_GoW p e below s Z consts_1 _ _ _ (T59.setTop (mkF m 11 #[.val (.int p0), .val (.int p1), .val (.int p2), .val (.int p3), .val (.int p4), .val (.int p5), .val (.ref f), .unset, .unset, .unset, .unset, .unset] []))
  refine own_stW (fun t9 k9 => XS.iload X59.here hx rfl (hb hby at_11) rfl  k9) ?_
  show own_GoW p e below s Z consts_1 _ _ _ (T59.setTop (mkF m 13 #[.val (.int p0), .val (.int p1), .val (.int p2), .val (.int p3), .val (.int p4), .val (.int p5), .val (.ref f), .unset, .unset, .unset, .unset, .unset] [(.int p5)]))
  refine own_stW (fun t9 k9 => XS.iloadN X59.here hx rfl (hb hby at_13) rfl  k9) ?_
  show own_GoW p e below s Z consts_1 _ _ _ (T59.setTop (mkF m 14 #[.val (.int p0), .val (.int p1), .val (.int p2), .val (.int p3), .val (.int p4), .val (.int p5), .val (.ref f), .unset, .unset, .unset, .unset, .unset] [(.int p3), (.int p5)]))
  refine own_stW (fun t9 k9 => XS.iload X59.here hx rfl (hb hby at_14) rfl  k9) ?_
  show own_GoW p e below s Z consts_1 _ _ _ (T59.setTop (mkF m 16 #[.val (.int p0), .val (.int p1), .val (.int p2), .val (.int p3), .val (.int p4), .val (.int p5), .val (.ref f), .unset, .unset, .unset, .unset, .unset] [(.int p4), (.int p3), (.int p5)]))
  obtain ⟨_, T60, h60, L60, X60, e60, ⟨Nb, Kb, x, rfl, gx⟩, hS60, hg60, hZ60, hown60, R60, st60⟩ := own_callSW X59 hx hZ hown hS hk (hw _ (List.mem_of_getElem? (i := 26) rfl)) (hw _ (List.mem_of_getElem? (i := 27) rfl)) (hw _ (List.mem_of_getElem? (i := 28) rfl)) (hw _ (List.mem_of_getElem? (i := 29) rfl)) (by decide) (own_payW (W := 0) (K := (fun _ _ _ _ _ => True)) (own_rm_draw l Z a0 hw hEL [] p5 p3 p4 G h59 n0 Od O2 P5) (fun _ _ _ _ _ _ _ _ _ => trivial) hZ (hw _ (List.mem_of_getElem? (i := 29) rfl)) (hw _ (List.mem_of_getElem? (i := 28) rfl)) (by decide) (by decide) hEL Hr.1 own_sf0) e59 (g := (mkF m 16 #[.val (.int p0), .val (.int p1), .val (.int p2), .val (.int p3), .val (.int p4), .val (.int p5), .val (.ref f), .unset, .unset, .unset, .unset, .unset] [(.int p4), (.int p3), (.int p5)])) rfl (by rw [hml]; rfl) (argsL := [(.int p5), (.int p3), (.int p4)]) (rest := []) rfl (lenOf own_pd9 rfl) rfl (by show 2 * 0 + _ ≤ _; exact Nat.le_of_eq rfl) (hb hby at_16) (by decide) (by decide)
  have N60 := Fr.app N59 Nb
  have ge_x : n0 ≤ x := Nat.le_trans (own_z0 Od) gx
  have Od := Od.keep Kb all0
  have Hr := Hr.trans R60
  have hS := hS60
  have hk : h60.size ≤ h60.size := Nat.le_refl _
  have hZ := hZ60
  have hown := hown60
  refine own_stW st60 ?_
  show own_GoW p e below s Z consts_1 _ _ _ (T60.setTop (mkF m 19 #[.val (.int p0), .val (.int p1), .val (.int p2), .val (.int p3), .val (.int p4), .val (.int p5), .val (.ref f), .unset, .unset, .unset, .unset, .unset] [(.ref x)]))
  refine own_stW (fun t9 k9 => XS.astore X60.here hx rfl (hb hby at_19) rfl rfl (l' := #[.val (.int p0), .val (.int p1), .val (.int p2), .val (.int p3), .val (.int p4), .val (.int p5), .val (.ref f), .val (.ref x), .unset, .unset, .unset, .unset]) rfl k9) ?_
  show own_GoW p e below s Z consts_1 _ _ _ (T60.setTop (mkF m 21 #[.val (.int p0), .val (.int p1), .val (.int p2), .val (.int p3), .val (.int p4), .val (.int p5), .val (.ref f), .val (.ref x), .unset, .unset, .unset, .unset] []))
  obtain ⟨T61, h61, X61, e61, E61, A61, D61, U61, st61⟩ := newO X60 hx hZ hown (hw _ (List.mem_of_getElem? (i := 42) rfl)) (hw _ (List.mem_of_getElem? (i := 43) rfl)) (hw _ (List.mem_of_getElem? (i := 44) rfl)) e60 (g := (mkF m 21 #[.val (.int p0), .val (.int p1), .val (.int p2), .val (.int p3), .val (.int p4), .val (.int p5), .val (.ref f), .val (.ref x), .unset, .unset, .unset, .unset] [])) rfl (hb hby at_21) (by decide) (by decide)
  obtain ⟨r, g61⟩ : ∃ z, z = h60.size := ⟨_, rfl⟩
  rw [← g61] at A61 D61 st61 U61
  have ge_r : n0 ≤ r := Nat.le_trans (own_z0 Od) (Nat.le_of_eq g61.symm)
  have Sf_r : Safe Z consts_1 T60.vm h60 r := Safe.new (Nat.le_of_eq g61.symm)
  have Sf_r := Safe.ext E61 Hr.1 Sf_r
  have Od := Od.ext E61
  have Hr := Hr.trans (CHr.ext E61 Hr.1)
  have hk := Nat.le_trans hk E61.1
  refine own_stW st61 ?_
  show own_GoW p e below s Z consts_1 _ _ _ (T61.setTop (mkF m 24 #[.val (.int p0), .val (.int p1), .val (.int p2), .val (.int p3), .val (.int p4), .val (.int p5), .val (.ref f), .val (.ref x), .unset, .unset, .unset, .unset] [(.ref r)]))
  have E_r : Exa Z h61 r "com/example/strict_grants/strictgrants/DefectReport" := A61
  have F_d : Fld Z h61 r "com/example/strict_grants/strictgrants/DefectReport" "defects" "Ljava/util/List;" .null := D61 (Or.inr (hw _ (List.mem_of_getElem? (i := 74) rfl))) (ty := (.object "java/util/List")) (by decide)
  have F_b : Fld Z h61 r "com/example/strict_grants/strictgrants/DefectReport" "brokenOff" "Lcom/example/strict_grants/strictgrants/StoreDefect;" .null := D61 (Or.inl (hw _ (List.mem_of_getElem? (i := 94) rfl))) (ty := (.object "com/example/strict_grants/strictgrants/StoreDefect")) (by decide)
  have F_f : Fld Z h61 r "com/example/strict_grants/strictgrants/DefectReport" "file" "Ljava/lang/String;" .null := D61 (Or.inr (hw _ (List.mem_of_getElem? (i := 76) rfl))) (ty := (.object "java/lang/String")) (by decide)
  refine own_stW (fun t9 k9 => XS.dup X61.here hx rfl (hb hby at_24) rfl rfl k9) ?_
  show own_GoW p e below s Z consts_1 _ _ _ (T61.setTop (mkF m 25 #[.val (.int p0), .val (.int p1), .val (.int p2), .val (.int p3), .val (.int p4), .val (.int p5), .val (.ref f), .val (.ref x), .unset, .unset, .unset, .unset] [(.ref r), (.ref r)]))
  refine own_stW (fun t9 k9 => XS.aload X61.here hx rfl (hb hby at_25) rfl rfl k9) ?_
  show own_GoW p e below s Z consts_1 _ _ _ (T61.setTop (mkF m 27 #[.val (.int p0), .val (.int p1), .val (.int p2), .val (.int p3), .val (.int p4), .val (.int p5), .val (.ref f), .val (.ref x), .unset, .unset, .unset, .unset] [(.ref f), (.ref r), (.ref r)]))
  obtain ⟨_, T62, h62, L62, X62, e62, ⟨rfl, Nc, Kc, a, gea, B⟩, st62⟩ := own_callI X61 hx hZ hown rfl (hw _ (List.mem_of_getElem? (i := 45) rfl)) (hw _ (List.mem_of_getElem? (i := 46) rfl)) (hw _ (List.mem_of_getElem? (i := 44) rfl)) (hw _ (List.mem_of_getElem? (i := 47) rfl)) (by decide) (own_rm_dri l Z a0 hw [] r f de h61 n0 Od E_r F_d F_b F_f ge_r SD0) (by decide) (by decide) e61 (a := r) (W := 1) (g := (mkF m 27 #[.val (.int p0), .val (.int p1), .val (.int p2), .val (.int p3), .val (.int p4), .val (.int p5), .val (.ref f), .val (.ref x), .unset, .unset, .unset, .unset] [(.ref f), (.ref r), (.ref r)])) rfl (by rw [hml]; rfl) (argsL := [(.ref f)]) (rest := [(.ref r)]) rfl (lenOf own_pd10 rfl) rfl (by show 2 * 0 + _ ≤ _; exact Nat.le_of_eq rfl) (hb hby at_27) (by decide) (by decide)
  have N62 := Fr.app N60 Nc
  have QSf_r := Safe.keep Kc (sfS Sf_r sf0) Hr.1 Sf_r
  have E_r := E_r.keep Kc
  have Od := Od.keep Kc (allS ge_r all0)
  have Hr0 := Hr.1
  have Hr := Hr.trans (CHr.keep Kc (sfS Sf_r sf0) Hr.1)
  have hk := Nat.le_trans hk Kc.1
  have Sf_r := QSf_r
  refine own_stW st62 ?_
  show own_GoW p e below s Z consts_1 _ _ _ (T62.setTop (mkF m 30 #[.val (.int p0), .val (.int p1), .val (.int p2), .val (.int p3), .val (.int p4), .val (.int p5), .val (.ref f), .val (.ref x), .unset, .unset, .unset, .unset] [(.ref r)]))
  refine own_stW (fun t9 k9 => XS.astore X62.here hx rfl (hb hby at_30) rfl rfl (l' := #[.val (.int p0), .val (.int p1), .val (.int p2), .val (.int p3), .val (.int p4), .val (.int p5), .val (.ref f), .val (.ref x), .val (.ref r), .unset, .unset, .unset]) rfl k9) ?_
  show own_GoW p e below s Z consts_1 _ _ _ (T62.setTop (mkF m 32 #[.val (.int p0), .val (.int p1), .val (.int p2), .val (.int p3), .val (.int p4), .val (.int p5), .val (.ref f), .val (.ref x), .val (.ref r), .unset, .unset, .unset] []))
  refine own_stW (fun t9 k9 => XS.aload X62.here hx rfl (hb hby at_32) rfl rfl k9) ?_
  show own_GoW p e below s Z consts_1 _ _ _ (T62.setTop (mkF m 34 #[.val (.int p0), .val (.int p1), .val (.int p2), .val (.int p3), .val (.int p4), .val (.int p5), .val (.ref f), .val (.ref x), .val (.ref r), .unset, .unset, .unset] [(.ref r)]))
  obtain ⟨_, T63, h63, L63, X63, e63, ⟨rfl, Nd, hu⟩, st63⟩ := own_callV X62 hx hZ hown (hw _ (List.mem_of_getElem? (i := 77) rfl)) (hw _ (List.mem_of_getElem? (i := 78) rfl)) (hw _ (List.mem_of_getElem? (i := 80) rfl)) (hw _ (List.mem_of_getElem? (i := 79) rfl)) (hw _ (List.mem_of_getElem? (i := 44) rfl)) (hw _ (List.mem_of_getElem? (i := 81) rfl)) (by decide) (own_rm_die1 l Z a0 hw [] r a (.ref f) h62 n0 Od B) (by decide) (by decide) e62 (b := r) E_r (W := 0) (g := (mkF m 34 #[.val (.int p0), .val (.int p1), .val (.int p2), .val (.int p3), .val (.int p4), .val (.int p5), .val (.ref f), .val (.ref x), .val (.ref r), .unset, .unset, .unset] [(.ref r)])) rfl (by rw [hml]; rfl) (argsL := []) (rest := []) rfl (lenOf own_pd6 rfl) rfl (by show 2 * 0 + _ ≤ _; exact Nat.le_of_eq rfl) (hb hby at_34) (by decide) (by decide)
  have N63 := Fr.app N62 Nd
  refine own_stW st63 ?_
  show own_GoW p e below s Z consts_1 _ _ _ (T63.setTop (mkF m 37 #[.val (.int p0), .val (.int p1), .val (.int p2), .val (.int p3), .val (.int p4), .val (.int p5), .val (.ref f), .val (.ref x), .val (.ref r), .unset, .unset, .unset] [(.int (1 : Int32))]))
  refine own_stW (fun t9 k9 => XS.istore X63.here hx rfl (hb hby at_37) rfl (l' := #[.val (.int p0), .val (.int p1), .val (.int p2), .val (.int p3), .val (.int p4), .val (.int p5), .val (.ref f), .val (.ref x), .val (.ref r), .val (.int (1 : Int32)), .unset, .unset]) rfl k9) ?_
  show own_GoW p e below s Z consts_1 _ _ _ (T63.setTop (mkF m 39 #[.val (.int p0), .val (.int p1), .val (.int p2), .val (.int p3), .val (.int p4), .val (.int p5), .val (.ref f), .val (.ref x), .val (.ref r), .val (.int (1 : Int32)), .unset, .unset] []))
  refine own_stW (fun t9 k9 => XS.aload X63.here hx rfl (hb hby at_39) rfl rfl k9) ?_
  show own_GoW p e below s Z consts_1 _ _ _ (T63.setTop (mkF m 41 #[.val (.int p0), .val (.int p1), .val (.int p2), .val (.int p3), .val (.int p4), .val (.int p5), .val (.ref f), .val (.ref x), .val (.ref r), .val (.int (1 : Int32)), .unset, .unset] [(.ref r)]))
  refine own_stW (fun t9 k9 => XS.iloadN X63.here hx rfl (hb hby at_41) rfl  k9) ?_
  show own_GoW p e below s Z consts_1 _ _ _ (T63.setTop (mkF m 42 #[.val (.int p0), .val (.int p1), .val (.int p2), .val (.int p3), .val (.int p4), .val (.int p5), .val (.ref f), .val (.ref x), .val (.ref r), .val (.int (1 : Int32)), .unset, .unset] [(.int p0), (.ref r)]))
  refine own_stW (fun t9 k9 => XS.iloadN X63.here hx rfl (hb hby at_42) rfl  k9) ?_
  show own_GoW p e below s Z consts_1 _ _ _ (T63.setTop (mkF m 43 #[.val (.int p0), .val (.int p1), .val (.int p2), .val (.int p3), .val (.int p4), .val (.int p5), .val (.ref f), .val (.ref x), .val (.ref r), .val (.int (1 : Int32)), .unset, .unset] [(.int p1), (.int p0), (.ref r)]))
  refine own_stW (fun t9 k9 => XS.aload X63.here hx rfl (hb hby at_43) rfl rfl k9) ?_
  show own_GoW p e below s Z consts_1 _ _ _ (T63.setTop (mkF m 45 #[.val (.int p0), .val (.int p1), .val (.int p2), .val (.int p3), .val (.int p4), .val (.int p5), .val (.ref f), .val (.ref x), .val (.ref r), .val (.int (1 : Int32)), .unset, .unset] [(.ref x), (.int p1), (.int p0), (.ref r)]))
  obtain ⟨_, T64, h64, L64, X64, e64, ⟨rfl, Nq, Ke, bb, B⟩, st64⟩ := own_callV X63 hx hZ hown (hw _ (List.mem_of_getElem? (i := 95) rfl)) (hw _ (List.mem_of_getElem? (i := 96) rfl)) (hw _ (List.mem_of_getElem? (i := 98) rfl)) (hw _ (List.mem_of_getElem? (i := 97) rfl)) (hw _ (List.mem_of_getElem? (i := 44) rfl)) (hw _ (List.mem_of_getElem? (i := 99) rfl)) (by decide) (own_rm_abo l Z a0 hw [] r a f x p0 p1 .null h62 n0 Od B ge_r) (by decide) (by decide) (e63.trans hu) (b := r) E_r (W := 0) (g := (mkF m 45 #[.val (.int p0), .val (.int p1), .val (.int p2), .val (.int p3), .val (.int p4), .val (.int p5), .val (.ref f), .val (.ref x), .val (.ref r), .val (.int (1 : Int32)), .unset, .unset] [(.ref x), (.int p1), (.int p0), (.ref r)])) rfl (by rw [hml]; rfl) (argsL := [(.int p0), (.int p1), (.ref x)]) (rest := []) rfl (lenOf own_pd11 rfl) rfl (by show 2 * 0 + _ ≤ _; exact Nat.le_of_eq rfl) (hb hby at_45) (by decide) (by decide)
  have N64 := Fr.app N63 Nq
  have QSf_r := Safe.keep Ke (sfS Sf_r sf0) Hr.1 Sf_r
  have E_r := E_r.keep Ke
  have Od := Od.keep Ke (allS ge_r all0)
  have Hr0 := Hr.1
  have Hr := Hr.trans (CHr.keep Ke (sfS Sf_r sf0) Hr.1)
  have hk := Nat.le_trans hk Ke.1
  have Sf_r := QSf_r
  refine own_stW st64 ?_
  show own_GoW p e below s Z consts_1 _ _ _ (T64.setTop (mkF m 48 #[.val (.int p0), .val (.int p1), .val (.int p2), .val (.int p3), .val (.int p4), .val (.int p5), .val (.ref f), .val (.ref x), .val (.ref r), .val (.int (1 : Int32)), .unset, .unset] []))
  refine own_stW (fun t9 k9 => XS.aload X64.here hx rfl (hb hby at_48) rfl rfl k9) ?_
  show own_GoW p e below s Z consts_1 _ _ _ (T64.setTop (mkF m 50 #[.val (.int p0), .val (.int p1), .val (.int p2), .val (.int p3), .val (.int p4), .val (.int p5), .val (.ref f), .val (.ref x), .val (.ref r), .val (.int (1 : Int32)), .unset, .unset] [(.ref r)]))
  obtain ⟨_, T65, h65, L65, X65, e65, ⟨rfl, Nf, hv⟩, st65⟩ := own_callV X64 hx hZ hown (hw _ (List.mem_of_getElem? (i := 77) rfl)) (hw _ (List.mem_of_getElem? (i := 78) rfl)) (hw _ (List.mem_of_getElem? (i := 80) rfl)) (hw _ (List.mem_of_getElem? (i := 79) rfl)) (hw _ (List.mem_of_getElem? (i := 44) rfl)) (hw _ (List.mem_of_getElem? (i := 81) rfl)) (by decide) (own_rm_die0 l Z a0 hw [] r a (.ref f) bb h64 n0 Od B) (by decide) (by decide) e64 (b := r) E_r (W := 0) (g := (mkF m 50 #[.val (.int p0), .val (.int p1), .val (.int p2), .val (.int p3), .val (.int p4), .val (.int p5), .val (.ref f), .val (.ref x), .val (.ref r), .val (.int (1 : Int32)), .unset, .unset] [(.ref r)])) rfl (by rw [hml]; rfl) (argsL := []) (rest := []) rfl (lenOf own_pd6 rfl) rfl (by show 2 * 0 + _ ≤ _; exact Nat.le_of_eq rfl) (hb hby at_50) (by decide) (by decide)
  have N65 := Fr.app N64 Nf
  refine own_stW st65 ?_
  show own_GoW p e below s Z consts_1 _ _ _ (T65.setTop (mkF m 53 #[.val (.int p0), .val (.int p1), .val (.int p2), .val (.int p3), .val (.int p4), .val (.int p5), .val (.ref f), .val (.ref x), .val (.ref r), .val (.int (1 : Int32)), .unset, .unset] [(.int (0 : Int32))]))
  refine own_stW (fun t9 k9 => XS.istore X65.here hx rfl (hb hby at_53) rfl (l' := #[.val (.int p0), .val (.int p1), .val (.int p2), .val (.int p3), .val (.int p4), .val (.int p5), .val (.ref f), .val (.ref x), .val (.ref r), .val (.int (1 : Int32)), .val (.int (0 : Int32)), .unset]) rfl k9) ?_
  show own_GoW p e below s Z consts_1 _ _ _ (T65.setTop (mkF m 55 #[.val (.int p0), .val (.int p1), .val (.int p2), .val (.int p3), .val (.int p4), .val (.int p5), .val (.ref f), .val (.ref x), .val (.ref r), .val (.int (1 : Int32)), .val (.int (0 : Int32)), .unset] []))
  refine own_stW (fun t9 k9 => XS.iload X65.here hx rfl (hb hby at_55) rfl  k9) ?_
  show own_GoW p e below s Z consts_1 _ _ _ (T65.setTop (mkF m 57 #[.val (.int p0), .val (.int p1), .val (.int p2), .val (.int p3), .val (.int p4), .val (.int p5), .val (.ref f), .val (.ref x), .val (.ref r), .val (.int (1 : Int32)), .val (.int (0 : Int32)), .unset] [(.int p5)]))
  refine own_stW (fun t9 k9 => XS.iconst X65.here hx rfl (hb hby at_57) k9) ?_
  show own_GoW p e below s Z consts_1 _ _ _ (T65.setTop (mkF m 58 #[.val (.int p0), .val (.int p1), .val (.int p2), .val (.int p3), .val (.int p4), .val (.int p5), .val (.ref f), .val (.ref x), .val (.ref r), .val (.int (1 : Int32)), .val (.int (0 : Int32)), .unset] [(.int (4 : Int32)), (.int p5)]))
  refine own_stW (fun t9 k9 => XS.iand X65.here hx rfl (hb hby at_58) rfl k9) ?_
  show own_GoW p e below s Z consts_1 _ _ _ (T65.setTop (mkF m 59 #[.val (.int p0), .val (.int p1), .val (.int p2), .val (.int p3), .val (.int p4), .val (.int p5), .val (.ref f), .val (.ref x), .val (.ref r), .val (.int (1 : Int32)), .val (.int (0 : Int32)), .unset] [(.int (p5 &&& (4 : Int32)))]))
  by_cases hbz : (p5 &&& (4 : Int32)) = (0 : Int32)
  · skip
    refine own_stW (fun t9 k9 => XS.ifYes X65.here hx rfl (pc0 := 59) (pc' := 71) rfl (hb hby at_59) rfl ((if0 _ _).trans (teq (hbz : (p5 &&& (4 : Int32)) = (0 : Int32))).1) (by decide) (by decide) k9) ?_
    show own_GoW p e below s Z consts_1 _ _ _ (T65.setTop (mkF m 71 #[.val (.int p0), .val (.int p1), .val (.int p2), .val (.int p3), .val (.int p4), .val (.int p5), .val (.ref f), .val (.ref x), .val (.ref r), .val (.int (1 : Int32)), .val (.int (0 : Int32)), .unset] []))
    refine own_stW (fun t9 k9 => XS.aload X65.here hx rfl (hb hby at_71) rfl rfl k9) ?_
    show own_GoW p e below s Z consts_1 _ _ _ (T65.setTop (mkF m 73 #[.val (.int p0), .val (.int p1), .val (.int p2), .val (.int p3), .val (.int p4), .val (.int p5), .val (.ref f), .val (.ref x), .val (.ref r), .val (.int (1 : Int32)), .val (.int (0 : Int32)), .unset] [(.ref r)]))
    obtain ⟨_, T66, h66, L66, X66, e66, ⟨rfl, Ng, hv⟩, st66⟩ := own_callV X65 hx hZ hown (hw _ (List.mem_of_getElem? (i := 77) rfl)) (hw _ (List.mem_of_getElem? (i := 78) rfl)) (hw _ (List.mem_of_getElem? (i := 80) rfl)) (hw _ (List.mem_of_getElem? (i := 79) rfl)) (hw _ (List.mem_of_getElem? (i := 44) rfl)) (hw _ (List.mem_of_getElem? (i := 81) rfl)) (by decide) (own_rm_die0 l Z a0 hw [] r a (.ref f) bb h64 n0 Od B) (by decide) (by decide) (e65.trans hv) (b := r) E_r (W := 0) (g := (mkF m 73 #[.val (.int p0), .val (.int p1), .val (.int p2), .val (.int p3), .val (.int p4), .val (.int p5), .val (.ref f), .val (.ref x), .val (.ref r), .val (.int (1 : Int32)), .val (.int (0 : Int32)), .unset] [(.ref r)])) rfl (by rw [hml]; rfl) (argsL := []) (rest := []) rfl (lenOf own_pd6 rfl) rfl (by show 2 * 0 + _ ≤ _; exact Nat.le_of_eq rfl) (hb hby at_73) (by decide) (by decide)
    have N66 := Fr.app N65 Ng
    refine own_stW st66 ?_
    show own_GoW p e below s Z consts_1 _ _ _ (T66.setTop (mkF m 76 #[.val (.int p0), .val (.int p1), .val (.int p2), .val (.int p3), .val (.int p4), .val (.int p5), .val (.ref f), .val (.ref x), .val (.ref r), .val (.int (1 : Int32)), .val (.int (0 : Int32)), .unset] [(.int (0 : Int32))]))
    refine own_stW (fun t9 k9 => XS.istore X66.here hx rfl (hb hby at_76) rfl (l' := #[.val (.int p0), .val (.int p1), .val (.int p2), .val (.int p3), .val (.int p4), .val (.int p5), .val (.ref f), .val (.ref x), .val (.ref r), .val (.int (1 : Int32)), .val (.int (0 : Int32)), .val (.int (0 : Int32))]) rfl k9) ?_
    show own_GoW p e below s Z consts_1 _ _ _ (T66.setTop (mkF m 78 #[.val (.int p0), .val (.int p1), .val (.int p2), .val (.int p3), .val (.int p4), .val (.int p5), .val (.ref f), .val (.ref x), .val (.ref r), .val (.int (1 : Int32)), .val (.int (0 : Int32)), .val (.int (0 : Int32))] []))
    refine own_stW (fun t9 k9 => XS.iload X66.here hx rfl (hb hby at_78) rfl  k9) ?_
    show own_GoW p e below s Z consts_1 _ _ _ (T66.setTop (mkF m 80 #[.val (.int p0), .val (.int p1), .val (.int p2), .val (.int p3), .val (.int p4), .val (.int p5), .val (.ref f), .val (.ref x), .val (.ref r), .val (.int (1 : Int32)), .val (.int (0 : Int32)), .val (.int (0 : Int32))] [(.int (1 : Int32))]))
    refine own_stW (fun t9 k9 => XS.ifNo X66.here hx rfl (hb hby at_80) rfl (by decide) k9) ?_
    show own_GoW p e below s Z consts_1 _ _ _ (T66.setTop (mkF m 83 #[.val (.int p0), .val (.int p1), .val (.int p2), .val (.int p3), .val (.int p4), .val (.int p5), .val (.ref f), .val (.ref x), .val (.ref r), .val (.int (1 : Int32)), .val (.int (0 : Int32)), .val (.int (0 : Int32))] []))
    refine own_stW (fun t9 k9 => XS.iload X66.here hx rfl (hb hby at_83) rfl  k9) ?_
    show own_GoW p e below s Z consts_1 _ _ _ (T66.setTop (mkF m 85 #[.val (.int p0), .val (.int p1), .val (.int p2), .val (.int p3), .val (.int p4), .val (.int p5), .val (.ref f), .val (.ref x), .val (.ref r), .val (.int (1 : Int32)), .val (.int (0 : Int32)), .val (.int (0 : Int32))] [(.int (0 : Int32))]))
    refine own_stW (fun t9 k9 => XS.ifNo X66.here hx rfl (hb hby at_85) rfl (by decide) k9) ?_
    show own_GoW p e below s Z consts_1 _ _ _ (T66.setTop (mkF m 88 #[.val (.int p0), .val (.int p1), .val (.int p2), .val (.int p3), .val (.int p4), .val (.int p5), .val (.ref f), .val (.ref x), .val (.ref r), .val (.int (1 : Int32)), .val (.int (0 : Int32)), .val (.int (0 : Int32))] []))
    refine own_stW (fun t9 k9 => XS.iload X66.here hx rfl (hb hby at_88) rfl  k9) ?_
    show own_GoW p e below s Z consts_1 _ _ _ (T66.setTop (mkF m 90 #[.val (.int p0), .val (.int p1), .val (.int p2), .val (.int p3), .val (.int p4), .val (.int p5), .val (.ref f), .val (.ref x), .val (.ref r), .val (.int (1 : Int32)), .val (.int (0 : Int32)), .val (.int (0 : Int32))] [(.int (0 : Int32))]))
    refine own_stW (fun t9 k9 => XS.ifNo X66.here hx rfl (hb hby at_90) rfl (by decide) k9) ?_
    show own_GoW p e below s Z consts_1 _ _ _ (T66.setTop (mkF m 93 #[.val (.int p0), .val (.int p1), .val (.int p2), .val (.int p3), .val (.int p4), .val (.int p5), .val (.ref f), .val (.ref x), .val (.ref r), .val (.int (1 : Int32)), .val (.int (0 : Int32)), .val (.int (0 : Int32))] []))
    refine own_stW (fun t9 k9 => XS.iconst X66.here hx rfl (hb hby at_93) k9) ?_
    show own_GoW p e below s Z consts_1 _ _ _ (T66.setTop (mkF m 94 #[.val (.int p0), .val (.int p1), .val (.int p2), .val (.int p3), .val (.int p4), .val (.int p5), .val (.ref f), .val (.ref x), .val (.ref r), .val (.int (1 : Int32)), .val (.int (0 : Int32)), .val (.int (0 : Int32))] [(.int (1 : Int32))]))
    refine own_stW (fun t9 k9 => XS.goto X66.here hx rfl (pc0 := 94) (pc' := 98) rfl (hb hby at_94) (by decide) (by decide) k9) ?_
    show own_GoW p e below s Z consts_1 _ _ _ (T66.setTop (mkF m 98 #[.val (.int p0), .val (.int p1), .val (.int p2), .val (.int p3), .val (.int p4), .val (.int p5), .val (.ref f), .val (.ref x), .val (.ref r), .val (.int (1 : Int32)), .val (.int (0 : Int32)), .val (.int (0 : Int32))] [(.int (1 : Int32))]))
    exact own_retNW X66 hx hlk hS (by rw [(e66.trans hv)]; exact hk) hZ hEL (by rw [hh, (e66.trans hv)]; exact Hr) (t := .boolean) Bd.returns (by simp) (hb hby at_98) (by decide) (by decide) (by rw [(e66.trans hv)]; exact ⟨rfl, N66⟩)
  · skip
    refine own_stW (fun t9 k9 => XS.ifNo X65.here hx rfl (hb hby at_59) rfl ((if0 _ _).trans (feq (hbz : ¬ ((p5 &&& (4 : Int32)) = (0 : Int32)))).1) k9) ?_
    show own_GoW p e below s Z consts_1 _ _ _ (T65.setTop (mkF m 62 #[.val (.int p0), .val (.int p1), .val (.int p2), .val (.int p3), .val (.int p4), .val (.int p5), .val (.ref f), .val (.ref x), .val (.ref r), .val (.int (1 : Int32)), .val (.int (0 : Int32)), .unset] []))
    refine own_stW (fun t9 k9 => XS.aload X65.here hx rfl (hb hby at_62) rfl rfl k9) ?_
    show own_GoW p e below s Z consts_1 _ _ _ (T65.setTop (mkF m 64 #[.val (.int p0), .val (.int p1), .val (.int p2), .val (.int p3), .val (.int p4), .val (.int p5), .val (.ref f), .val (.ref x), .val (.ref r), .val (.int (1 : Int32)), .val (.int (0 : Int32)), .unset] [(.ref r)]))
    refine own_stW (fun t9 k9 => XS.iloadN X65.here hx rfl (hb hby at_64) rfl  k9) ?_
    show own_GoW p e below s Z consts_1 _ _ _ (T65.setTop (mkF m 65 #[.val (.int p0), .val (.int p1), .val (.int p2), .val (.int p3), .val (.int p4), .val (.int p5), .val (.ref f), .val (.ref x), .val (.ref r), .val (.int (1 : Int32)), .val (.int (0 : Int32)), .unset] [(.int p1), (.ref r)]))
    refine own_stW (fun t9 k9 => XS.iloadN X65.here hx rfl (hb hby at_65) rfl  k9) ?_
    show own_GoW p e below s Z consts_1 _ _ _ (T65.setTop (mkF m 66 #[.val (.int p0), .val (.int p1), .val (.int p2), .val (.int p3), .val (.int p4), .val (.int p5), .val (.ref f), .val (.ref x), .val (.ref r), .val (.int (1 : Int32)), .val (.int (0 : Int32)), .unset] [(.int p0), (.int p1), (.ref r)]))
    refine own_stW (fun t9 k9 => XS.aload X65.here hx rfl (hb hby at_66) rfl rfl k9) ?_
    show own_GoW p e below s Z consts_1 _ _ _ (T65.setTop (mkF m 68 #[.val (.int p0), .val (.int p1), .val (.int p2), .val (.int p3), .val (.int p4), .val (.int p5), .val (.ref f), .val (.ref x), .val (.ref r), .val (.int (1 : Int32)), .val (.int (0 : Int32)), .unset] [(.ref x), (.int p0), (.int p1), (.ref r)]))
    obtain ⟨_, T67, h67, L67, X67, e67, ⟨rfl, Nq, Ke, b2, B⟩, st67⟩ := own_callV X65 hx hZ hown (hw _ (List.mem_of_getElem? (i := 95) rfl)) (hw _ (List.mem_of_getElem? (i := 96) rfl)) (hw _ (List.mem_of_getElem? (i := 98) rfl)) (hw _ (List.mem_of_getElem? (i := 97) rfl)) (hw _ (List.mem_of_getElem? (i := 44) rfl)) (hw _ (List.mem_of_getElem? (i := 99) rfl)) (by decide) (own_rm_abo l Z a0 hw [] r a f x p1 p0 (.ref bb) h64 n0 Od B ge_r) (by decide) (by decide) (e65.trans hv) (b := r) E_r (W := 0) (g := (mkF m 68 #[.val (.int p0), .val (.int p1), .val (.int p2), .val (.int p3), .val (.int p4), .val (.int p5), .val (.ref f), .val (.ref x), .val (.ref r), .val (.int (1 : Int32)), .val (.int (0 : Int32)), .unset] [(.ref x), (.int p0), (.int p1), (.ref r)])) rfl (by rw [hml]; rfl) (argsL := [(.int p1), (.int p0), (.ref x)]) (rest := []) rfl (lenOf own_pd11 rfl) rfl (by show 2 * 0 + _ ≤ _; exact Nat.le_of_eq rfl) (hb hby at_68) (by decide) (by decide)
    have N67 := Fr.app N65 Nq
    have QSf_r := Safe.keep Ke (sfS Sf_r sf0) Hr.1 Sf_r
    have E_r := E_r.keep Ke
    have Od := Od.keep Ke (allS ge_r all0)
    have Hr0 := Hr.1
    have Hr := Hr.trans (CHr.keep Ke (sfS Sf_r sf0) Hr.1)
    have hk := Nat.le_trans hk Ke.1
    have Sf_r := QSf_r
    refine own_stW st67 ?_
    show own_GoW p e below s Z consts_1 _ _ _ (T67.setTop (mkF m 71 #[.val (.int p0), .val (.int p1), .val (.int p2), .val (.int p3), .val (.int p4), .val (.int p5), .val (.ref f), .val (.ref x), .val (.ref r), .val (.int (1 : Int32)), .val (.int (0 : Int32)), .unset] []))
    refine own_stW (fun t9 k9 => XS.aload X67.here hx rfl (hb hby at_71) rfl rfl k9) ?_
    show own_GoW p e below s Z consts_1 _ _ _ (T67.setTop (mkF m 73 #[.val (.int p0), .val (.int p1), .val (.int p2), .val (.int p3), .val (.int p4), .val (.int p5), .val (.ref f), .val (.ref x), .val (.ref r), .val (.int (1 : Int32)), .val (.int (0 : Int32)), .unset] [(.ref r)]))
    obtain ⟨_, T68, h68, L68, X68, e68, ⟨rfl, Ng, hv⟩, st68⟩ := own_callV X67 hx hZ hown (hw _ (List.mem_of_getElem? (i := 77) rfl)) (hw _ (List.mem_of_getElem? (i := 78) rfl)) (hw _ (List.mem_of_getElem? (i := 80) rfl)) (hw _ (List.mem_of_getElem? (i := 79) rfl)) (hw _ (List.mem_of_getElem? (i := 44) rfl)) (hw _ (List.mem_of_getElem? (i := 81) rfl)) (by decide) (own_rm_die0 l Z a0 hw [] r a (.ref f) b2 h67 n0 Od B) (by decide) (by decide) e67 (b := r) E_r (W := 0) (g := (mkF m 73 #[.val (.int p0), .val (.int p1), .val (.int p2), .val (.int p3), .val (.int p4), .val (.int p5), .val (.ref f), .val (.ref x), .val (.ref r), .val (.int (1 : Int32)), .val (.int (0 : Int32)), .unset] [(.ref r)])) rfl (by rw [hml]; rfl) (argsL := []) (rest := []) rfl (lenOf own_pd6 rfl) rfl (by show 2 * 0 + _ ≤ _; exact Nat.le_of_eq rfl) (hb hby at_73) (by decide) (by decide)
    have N68 := Fr.app N67 Ng
    refine own_stW st68 ?_
    show own_GoW p e below s Z consts_1 _ _ _ (T68.setTop (mkF m 76 #[.val (.int p0), .val (.int p1), .val (.int p2), .val (.int p3), .val (.int p4), .val (.int p5), .val (.ref f), .val (.ref x), .val (.ref r), .val (.int (1 : Int32)), .val (.int (0 : Int32)), .unset] [(.int (0 : Int32))]))
    refine own_stW (fun t9 k9 => XS.istore X68.here hx rfl (hb hby at_76) rfl (l' := #[.val (.int p0), .val (.int p1), .val (.int p2), .val (.int p3), .val (.int p4), .val (.int p5), .val (.ref f), .val (.ref x), .val (.ref r), .val (.int (1 : Int32)), .val (.int (0 : Int32)), .val (.int (0 : Int32))]) rfl k9) ?_
    show own_GoW p e below s Z consts_1 _ _ _ (T68.setTop (mkF m 78 #[.val (.int p0), .val (.int p1), .val (.int p2), .val (.int p3), .val (.int p4), .val (.int p5), .val (.ref f), .val (.ref x), .val (.ref r), .val (.int (1 : Int32)), .val (.int (0 : Int32)), .val (.int (0 : Int32))] []))
    refine own_stW (fun t9 k9 => XS.iload X68.here hx rfl (hb hby at_78) rfl  k9) ?_
    show own_GoW p e below s Z consts_1 _ _ _ (T68.setTop (mkF m 80 #[.val (.int p0), .val (.int p1), .val (.int p2), .val (.int p3), .val (.int p4), .val (.int p5), .val (.ref f), .val (.ref x), .val (.ref r), .val (.int (1 : Int32)), .val (.int (0 : Int32)), .val (.int (0 : Int32))] [(.int (1 : Int32))]))
    refine own_stW (fun t9 k9 => XS.ifNo X68.here hx rfl (hb hby at_80) rfl (by decide) k9) ?_
    show own_GoW p e below s Z consts_1 _ _ _ (T68.setTop (mkF m 83 #[.val (.int p0), .val (.int p1), .val (.int p2), .val (.int p3), .val (.int p4), .val (.int p5), .val (.ref f), .val (.ref x), .val (.ref r), .val (.int (1 : Int32)), .val (.int (0 : Int32)), .val (.int (0 : Int32))] []))
    refine own_stW (fun t9 k9 => XS.iload X68.here hx rfl (hb hby at_83) rfl  k9) ?_
    show own_GoW p e below s Z consts_1 _ _ _ (T68.setTop (mkF m 85 #[.val (.int p0), .val (.int p1), .val (.int p2), .val (.int p3), .val (.int p4), .val (.int p5), .val (.ref f), .val (.ref x), .val (.ref r), .val (.int (1 : Int32)), .val (.int (0 : Int32)), .val (.int (0 : Int32))] [(.int (0 : Int32))]))
    refine own_stW (fun t9 k9 => XS.ifNo X68.here hx rfl (hb hby at_85) rfl (by decide) k9) ?_
    show own_GoW p e below s Z consts_1 _ _ _ (T68.setTop (mkF m 88 #[.val (.int p0), .val (.int p1), .val (.int p2), .val (.int p3), .val (.int p4), .val (.int p5), .val (.ref f), .val (.ref x), .val (.ref r), .val (.int (1 : Int32)), .val (.int (0 : Int32)), .val (.int (0 : Int32))] []))
    refine own_stW (fun t9 k9 => XS.iload X68.here hx rfl (hb hby at_88) rfl  k9) ?_
    show own_GoW p e below s Z consts_1 _ _ _ (T68.setTop (mkF m 90 #[.val (.int p0), .val (.int p1), .val (.int p2), .val (.int p3), .val (.int p4), .val (.int p5), .val (.ref f), .val (.ref x), .val (.ref r), .val (.int (1 : Int32)), .val (.int (0 : Int32)), .val (.int (0 : Int32))] [(.int (0 : Int32))]))
    refine own_stW (fun t9 k9 => XS.ifNo X68.here hx rfl (hb hby at_90) rfl (by decide) k9) ?_
    show own_GoW p e below s Z consts_1 _ _ _ (T68.setTop (mkF m 93 #[.val (.int p0), .val (.int p1), .val (.int p2), .val (.int p3), .val (.int p4), .val (.int p5), .val (.ref f), .val (.ref x), .val (.ref r), .val (.int (1 : Int32)), .val (.int (0 : Int32)), .val (.int (0 : Int32))] []))
    refine own_stW (fun t9 k9 => XS.iconst X68.here hx rfl (hb hby at_93) k9) ?_
    show own_GoW p e below s Z consts_1 _ _ _ (T68.setTop (mkF m 94 #[.val (.int p0), .val (.int p1), .val (.int p2), .val (.int p3), .val (.int p4), .val (.int p5), .val (.ref f), .val (.ref x), .val (.ref r), .val (.int (1 : Int32)), .val (.int (0 : Int32)), .val (.int (0 : Int32))] [(.int (1 : Int32))]))
    refine own_stW (fun t9 k9 => XS.goto X68.here hx rfl (pc0 := 94) (pc' := 98) rfl (hb hby at_94) (by decide) (by decide) k9) ?_
    show own_GoW p e below s Z consts_1 _ _ _ (T68.setTop (mkF m 98 #[.val (.int p0), .val (.int p1), .val (.int p2), .val (.int p3), .val (.int p4), .val (.int p5), .val (.ref f), .val (.ref x), .val (.ref r), .val (.int (1 : Int32)), .val (.int (0 : Int32)), .val (.int (0 : Int32))] [(.int (1 : Int32))]))
    exact own_retNW X68 hx hlk hS (by rw [(e68.trans hv)]; exact hk) hZ hEL (by rw [hh, (e68.trans hv)]; exact Hr) (t := .boolean) Bd.returns (by simp) (hb hby at_98) (by decide) (by decide) (by rw [(e68.trans hv)]; exact ⟨rfl, N68⟩)
set_option maxRecDepth 65536 in
set_option maxHeartbeats 40000000 in
theorem comes_1 {Post : Tables → Env → Array Value → State → Outcome → State → Prop} (hpost : ∀ tb e args s v u, (limb_1_1.after args s (.returned v) u = true ∧ limb_1_2.after args s (.returned v) u = true ∧ True) → ReturnedEndW s (.returned v) u (Jvm.fieldLocs frame_1_writes args s ++ Jvm.arrayLocs frame_1_arrays args s ++ Jvm.staticLocs frame_1_statics s) 32 1152 → Post tb e args s (.returned v) u) :
    ArmFor flags0 classFile x code maxLocals ret World_1 tables_1 room_1 Calls_1 rest_1 Pre_1 Post := by
  intro l hfl _ _ p e ha hc hk s m args below hf hA hF happ hP
  obtain ⟨hcalls, hrest, hpre⟩ := hP
  obtain ⟨-, -, -, hnamed, -, -, -, hat⟩ := (Spec.applies_iff hf).mp happ
  obtain ⟨hg, hn⟩ := and_e (Cond.before_iff.mp (show (Jvm.Cond.and given_1 narrow_1).before args s = true from hpre))
  obtain ⟨gc, g0⟩ := and_e hg
  obtain ⟨ga0, g1⟩ := and_e g0
  obtain ⟨ga1, g2⟩ := and_e g1
  obtain ⟨ga2, g3⟩ := and_e g2
  obtain ⟨ga3, g4⟩ := and_e g3
  obtain ⟨ga4, g5⟩ := and_e g4
  obtain ⟨w0, w1, w2, w3, w4, w5, rfl⟩ : ∃ w0 w1 w2 w3 w4 w5 : Value, args = #[w0, w1, w2, w3, w4, w5] := by
    have hs : args.size = 6 := by simpa [Cond.value, given_1] using gc
    obtain ⟨L⟩ := args
    match L, hs with
    | [w0, w1, w2, w3, w4, w5], _ => exact ⟨w0, w1, w2, w3, w4, w5, rfl⟩
  have hw := fun d (hd : d ∈ tables_1) => atoms_spec (ws := Jvm.Cond.code x code maxLocals ret :: tables_1) hat d (List.mem_cons_of_mem _ hd)
  have hfit : Fit s := fun {y c} hc i hi => by
    obtain ⟨ha, rfl⟩ := Array.getElem?_eq_some_iff.mp hc
    have q := List.all_eq_true.mp ((Array.all_eq_true_iff_forall_mem.mp hF) _ (Array.getElem_mem ha)) i (List.mem_range.mpr hi)
    simpa [Array.getElem?_eq_getElem hi] using q
  obtain ⟨hsets, hown0⟩ := atoms_of _ (rest_1_c_eq ▸ (show rest_1_c.before _ s = true from hrest))
  have s0 := hsets _ (List.mem_of_getElem? (i := 0) rfl)
  obtain ⟨G, eG⟩ := is_v (Cond.before_iff.mp (hsets _ (List.mem_of_getElem? (i := 1) rfl)))
  have hcw := hsets _ (List.mem_of_getElem? (i := 2) rfl)
  have hG := not_v (Cond.before_iff.mp hcw)
  have O2 := Sta.start eG (Or.inl s0)
  have P5 : ¬ (G = (0 : Int32)) := fun q => by
    subst q
    rw [eq_i eG (Term.int_eval (0)) rfl] at hG
    cases hG
  obtain ⟨i0, ei0⟩ := is_v ga0
  obtain rfl : w0 = (.int i0) := Option.some.inj ei0
  obtain ⟨i1, ei1⟩ := is_v ga1
  obtain rfl : w1 = (.int i1) := Option.some.inj ei1
  obtain ⟨i2, ei2⟩ := is_v ga2
  obtain rfl : w2 = (.int i2) := Option.some.inj ei2
  obtain ⟨i3, ei3⟩ := is_v ga3
  obtain rfl : w3 = (.int i3) := Option.some.inj ei3
  obtain ⟨i4, ei4⟩ := is_v ga4
  obtain rfl : w4 = (.int i4) := Option.some.inj ei4
  obtain ⟨i5, ei5⟩ := is_v g5
  obtain rfl : w5 = (.int i5) := Option.some.inj ei5
  have hheld := hcalls.1
  have hEL : EW s _ consts_1 := (EW.cons (hw _ (List.mem_of_getElem? (i := 39) rfl)) (by decide) EW.nil)
  have hCH : CHv s consts_1 s.vm s.heap := CHv.start hEL (fun p hp => hheld p hp) (show Jvm.Lit.compactW.before _ s = true from hcw) (hw _ (List.mem_of_getElem? (i := 14) rfl)) (hw _ (List.mem_of_getElem? (i := 10) rfl))
  obtain ⟨de, ede⟩ := arr_v (Cond.before_iff.mp (hsets _ (List.mem_of_getElem? (i := 15) rfl)))
  have SD0 := Sta.start ede (Or.inr ⟨(hw _ (List.mem_of_getElem? (i := 51) rfl)), hsets _ (List.mem_of_getElem? (i := 11) rfl)⟩)
  obtain ⟨n, o, h1, h2, h3, _, L, rfl, ⟨rfl, N⟩, -, hq⟩ := own_rm_law l s _ hw hEL tables_1 i0 i1 i2 i3 i4 i5 G de s.heap s.heap.size (Old.start s) O2 P5 SD0 p e ha hc hk s m _ below hf ((Spec.applies_iff_loose hf).mp happ).1 ⟨rfl, State.Warmed39.refl s, rfl, hCH, own_nosf⟩ trivial
  refine ⟨n, _, h1, h2, h3, hpost _ _ _ _ _ _ ⟨Cond.after_iff.mpr rfl, Cond.after_iff.mpr (eq_i res_at (Term.int_eval (1)) rfl), trivial⟩ ⟨hq.1, hq.2.1, hq.2.2.1, (hq.2.2.2.sift fun y hy => Or.inr (N y hy)).mono (by decide) (by decide)⟩⟩
theorem main_1_1 : Claimed_1_1 := comes_1 fun _ _ _ _ _ _ h hF => ⟨h.1, hF⟩
theorem main_1_2 : Claimed_1_2 := comes_1 fun _ _ _ _ _ _ h hF => ⟨h.2.1, hF⟩
end Jvm.Pilot.@@N@@
namespace Jvm.Pilot.@@N@@
open Jvm Jvm.ClassFile Sem Op Lib Jvm.Free Jvm.Stand Jvm.Pilot.@@N@@.Jvm.D
/-! MADE BY PROGRAM (witnessworld.py) out of the Statement's table words and the real class files: 31 classes; the members and pool entries that the words name. The judged class is class 1, her method 2. -/
namespace start1
open Jvm.ClassFile
def u (s : String) : CpInfo := .utf8 (stringToUtf16 s)
/-- a pool by its gaps: so many unusable entries, then the entry; so many at the end -/
def gap : Nat → List CpInfo → List CpInfo
  | 0, r => r
  | n + 1, r => .unusable :: gap n r
def poolList (es : List (Nat × CpInfo)) (last : Nat) : List CpInfo := es.foldr (fun e r => gap e.1 (e.2 :: r)) (gap last [])
def pool (es : List (Nat × CpInfo)) (last : Nat) : Array CpInfo := ⟨poolList es last⟩
def fileOf (pool : Array CpInfo) (this : Nat) (attrs : Array Attribute := #[]) (ms : Array MethodInfo := #[]) (fl : Nat := 33) (sup : Nat := 0) (ifs : Array Nat := #[]) (fds : Array FieldInfo := #[]) : ClassFile where
  minorVersion := 0
  majorVersion := 65
  constantPool := pool
  accessFlags := fl
  thisClass := this
  superClass := sup
  interfaces := ifs
  fields := fds
  methods := ms
  attributes := attrs
def plain (name : String) (sup : Option ClassId) : Class where
  name := name
  kind := .ordinary
  loader := none
  accessFlags := 33
  super := sup
  interfaces := #[]
  cf := none
  fields := #[]
  methods := #[]
  instanceTypes := #[]
  staticTypes := #[]
  resolved := #[]
  callSites := []
  init := .initialized
  statics := none
  mirror := none

def pool0 : Array CpInfo := pool [(5, u "<init>"), (0, u "()V"), (1, .class_ 10), (1, u "java/lang/Object")] 113

def k0c0 : Code := { maxStack := 0, maxLocals := 1, code := object_method_1_code, exceptionTable := #[], attributes := #[] }
def k0m0 : Method := { name := "<init>", desc := "()V", sig := { parameters := [], returnType := none }, accessFlags := 1, code := some k0c0 }
/-- java/lang/Object -/
def k0 : Class := { plain "java/lang/Object" none with
  accessFlags := 33
  interfaces := #[]
  cf := some (fileOf pool0 8 #[] #[{ accessFlags := 1, nameIndex := 5, descriptorIndex := 6, attributes := #[] }] 33 0 #[] #[])
  fields := #[]
  methods := #[k0m0]
  instanceTypes := #[]
  staticTypes := #[]
  resolved := Array.replicate 124 none
  statics := none }

def pool1 : Array CpInfo := pool [(2, .class_ 4), (1, u "java/lang/Object"), (0, u "<init>"), (0, u "()V"), (0, .integer 2147483647), (0, .class_ 9), (0, u "java/lang/String"), (0, .methodref 8 11), (0, .nameAndType 5 12), (0, u "([C)V"), (0, .methodref 8 14), (0, .nameAndType 15 16), (0, u "valueOf"), (0, u "(C)Ljava/lang/String;"), (0, .methodref 18 19), (0, .class_ 20), (0, .nameAndType 21 22), (0, u "com/example/strict_grants/strictgrants/DefectReportAddBrokenOffPinLaw"), (0, u "drawn"), (0, u "(III)Ljava/lang/String;"), (0, .class_ 24), (0, u "com/example/strict_grants/strictgrants/DefectReport"), (0, .methodref 23 26), (0, .nameAndType 5 27), (0, u "(Ljava/lang/String;)V"), (0, .methodref 23 29), (0, .nameAndType 30 31), (0, u "isEmpty"), (0, u "()Z"), (0, .methodref 23 33), (0, .nameAndType 34 35), (0, u "addBrokenOff"), (0, u "(IILjava/lang/String;)V"), (3, u "law"), (0, u "(IIIIII)Z")] 2

def k1m0 : Method := { name := "<init>", desc := "()V", sig := { parameters := [], returnType := none }, accessFlags := 1, code := none }
def k1c1 : Code := { maxStack := 7, maxLocals := 4, code := method_2_code, exceptionTable := #[], attributes := #[] }
def k1m1 : Method := { name := "drawn", desc := "(III)Ljava/lang/String;", sig := { parameters := [.int, .int, .int], returnType := some (.object "java/lang/String") }, accessFlags := 10, code := some k1c1 }
def k1c2 : Code := { maxStack := 4, maxLocals := 12, code := code, exceptionTable := #[], attributes := #[] }
def k1m2 : Method := { name := "law", desc := "(IIIIII)Z", sig := { parameters := [.int, .int, .int, .int, .int, .int], returnType := some .boolean }, accessFlags := 9, code := some k1c2 }
/-- com/example/strict_grants/strictgrants/DefectReportAddBrokenOffPinLaw -/
def k1 : Class := { plain "com/example/strict_grants/strictgrants/DefectReportAddBrokenOffPinLaw" (some 0) with
  accessFlags := 49
  interfaces := #[]
  cf := some (fileOf pool1 18 #[] #[{ accessFlags := 1, nameIndex := 5, descriptorIndex := 6, attributes := #[] }, { accessFlags := 10, nameIndex := 21, descriptorIndex := 22, attributes := #[] }, { accessFlags := 9, nameIndex := 39, descriptorIndex := 40, attributes := #[] }] 49 2 #[] #[])
  fields := #[]
  methods := #[k1m0, k1m1, k1m2]
  instanceTypes := #[]
  staticTypes := #[]
  resolved := Array.replicate 43 none
  statics := none }

def pool2 : Array CpInfo := pool [(1, .class_ 2), (0, u "java/io/Serializable"), (0, .class_ 4), (0, u "java/lang/Object")] 2

/-- java/io/Serializable -/
def k2 : Class := { plain "java/io/Serializable" (some 0) with
  accessFlags := 1537
  interfaces := #[]
  cf := some (fileOf pool2 1 #[] #[] 1537 3 #[] #[])
  fields := #[]
  methods := #[]
  instanceTypes := #[]
  staticTypes := #[]
  resolved := Array.replicate 7 none
  statics := none }

def pool3 : Array CpInfo := pool [(1, .class_ 2), (0, u "java/lang/Comparable"), (0, .class_ 4), (0, u "java/lang/Object")] 7

/-- java/lang/Comparable -/
def k3 : Class := { plain "java/lang/Comparable" (some 0) with
  accessFlags := 1537
  interfaces := #[]
  cf := some (fileOf pool3 1 #[] #[] 1537 3 #[] #[])
  fields := #[]
  methods := #[]
  instanceTypes := #[]
  staticTypes := #[]
  resolved := Array.replicate 12 none
  statics := none }

def pool4 : Array CpInfo := pool [(2, .class_ 4), (1, u "java/lang/CharSequence"), (42, .class_ 48), (0, u "java/lang/CharSequence$1CodePointIterator"), (10, .class_ 60), (0, u "java/lang/CharSequence$1CharIterator"), (5, .class_ 67), (0, u "java/lang/Object")] 63

/-- java/lang/CharSequence -/
def k4 : Class := { plain "java/lang/CharSequence" (some 0) with
  accessFlags := 1537
  interfaces := #[]
  cf := some (fileOf pool4 2 #[.nestMembers #[47, 59]] #[] 1537 66 #[] #[])
  fields := #[]
  methods := #[]
  instanceTypes := #[]
  staticTypes := #[]
  resolved := Array.replicate 131 none
  statics := none }

def pool5 : Array CpInfo := pool [(1, .class_ 2), (0, u "java/lang/constant/Constable"), (0, .class_ 4), (0, u "java/lang/Object")] 6

/-- java/lang/constant/Constable -/
def k5 : Class := { plain "java/lang/constant/Constable" (some 0) with
  accessFlags := 1537
  interfaces := #[]
  cf := some (fileOf pool5 1 #[] #[] 1537 3 #[] #[])
  fields := #[]
  methods := #[]
  instanceTypes := #[]
  staticTypes := #[]
  resolved := Array.replicate 11 none
  statics := none }

def pool6 : Array CpInfo := pool [(1, .class_ 2), (0, u "java/lang/constant/ConstantDesc"), (0, .class_ 4), (0, u "java/lang/Object")] 32

/-- java/lang/constant/ConstantDesc -/
def k6 : Class := { plain "java/lang/constant/ConstantDesc" (some 0) with
  accessFlags := 1537
  interfaces := #[]
  cf := some (fileOf pool6 1 #[] #[] 1537 3 #[] #[])
  fields := #[]
  methods := #[]
  instanceTypes := #[]
  staticTypes := #[]
  resolved := Array.replicate 37 none
  statics := none }

def pool7 : Array CpInfo := pool [(1, .methodref 2 3), (0, .class_ 4), (0, .nameAndType 5 6), (0, u "java/lang/Object"), (0, u "<init>"), (0, u "()V"), (0, .string 8), (0, u ""), (0, .fieldref 10 11), (0, .class_ 12), (0, .nameAndType 13 14), (0, u "java/lang/String"), (0, u "value"), (0, u "[B"), (0, .fieldref 10 16), (0, .nameAndType 17 18), (0, u "coder"), (0, u "B"), (2, u "hash"), (0, u "I"), (2, u "hashIsZero"), (0, u "Z"), (0, .methodref 10 28), (0, .nameAndType 5 29), (0, u "([CIILjava/lang/Void;)V"), (8, .fieldref 10 39), (0, .nameAndType 40 26), (0, u "COMPACT_STRINGS"), (1, .class_ 44), (1, u "java/lang/StringUTF16"), (0, u "compress"), (1, .methodref 42 48), (0, .nameAndType 49 50), (0, u "coderFromArrayLen"), (0, u "([BI)B"), (2, u "toBytes"), (53, .class_ 109), (1, u "java/lang/StringLatin1"), (67, .methodref 42 178), (0, .nameAndType 45 179), (0, u "([CII)[B"), (29, .methodref 10 210), (0, .nameAndType 5 211), (0, u "([BB)V"), (157, u "(C)Z"), (205, .class_ 576), (0, u "java/lang/CharSequence"), (22, u "CASE_INSENSITIVE_ORDER"), (0, u "Ljava/util/Comparator;"), (181, u "valueOf"), (0, u "(C)Ljava/lang/String;"), (226, u "([C)V"), (4, .methodref 107 1016), (0, .nameAndType 1017 369), (0, u "canEncode"), (0, .methodref 107 1019), (0, .nameAndType 53 1020), (0, u "(C)[B"), (80, u "serialPersistentFields"), (0, u "[Ljava/io/ObjectStreamField;"), (0, .class_ 1104), (0, u "java/lang/String$CaseInsensitiveComparator"), (1, .class_ 1107), (0, u "java/io/Serializable"), (0, .class_ 1109), (0, u "java/lang/Comparable"), (0, .class_ 1111), (0, u "java/lang/constant/Constable"), (0, .class_ 1113), (0, u "java/lang/constant/ConstantDesc"), (2, u "serialVersionUID"), (0, u "J"), (3, u "REPL"), (0, u "C"), (2, u "LATIN1"), (1, u "UTF16")] 323

def k7m0 : Method := { name := "<init>", desc := "()V", sig := { parameters := [], returnType := none }, accessFlags := 1, code := none }
def k7c1 : Code := { maxStack := 5, maxLocals := 2, code := jdk_42_method_3_code, exceptionTable := #[], attributes := #[] }
def k7m1 : Method := { name := "<init>", desc := "([C)V", sig := { parameters := [(.array .char)], returnType := none }, accessFlags := 1, code := some k7c1 }
def k7c2 : Code := { maxStack := 4, maxLocals := 1, code := jdk_42_method_139_code, exceptionTable := #[], attributes := #[] }
def k7m2 : Method := { name := "valueOf", desc := "(C)Ljava/lang/String;", sig := { parameters := [.char], returnType := some (.object "java/lang/String") }, accessFlags := 9, code := some k7c2 }
def k7c3 : Code := { maxStack := 4, maxLocals := 6, code := jdk_42_method_149_code, exceptionTable := #[], attributes := #[] }
def k7m3 : Method := { name := "<init>", desc := "([CIILjava/lang/Void;)V", sig := { parameters := [(.array .char), .int, .int, (.object "java/lang/Void")], returnType := none }, accessFlags := 2, code := some k7c3 }
def k7c4 : Code := { maxStack := 2, maxLocals := 3, code := jdk_42_method_151_code, exceptionTable := #[], attributes := #[] }
def k7m4 : Method := { name := "<init>", desc := "([BB)V", sig := { parameters := [(.array .byte), .byte], returnType := none }, accessFlags := 0, code := some k7c4 }
/-- java/lang/String -/
def k7 : Class := { plain "java/lang/String" (some 0) with
  accessFlags := 49
  interfaces := #[2, 3, 4, 5, 6]
  cf := some (fileOf pool7 10 #[.nestMembers #[1103]] #[{ accessFlags := 1, nameIndex := 5, descriptorIndex := 6, attributes := #[] }, { accessFlags := 1, nameIndex := 5, descriptorIndex := 1010, attributes := #[] }, { accessFlags := 9, nameIndex := 782, descriptorIndex := 783, attributes := #[] }, { accessFlags := 2, nameIndex := 5, descriptorIndex := 29, attributes := #[] }, { accessFlags := 0, nameIndex := 5, descriptorIndex := 211, attributes := #[] }] 49 2 #[1106, 1108, 575, 1110, 1112] #[{ accessFlags := 18, nameIndex := 13, descriptorIndex := 14, attributes := #[] }, { accessFlags := 18, nameIndex := 17, descriptorIndex := 18, attributes := #[] }, { accessFlags := 2, nameIndex := 21, descriptorIndex := 22, attributes := #[] }, { accessFlags := 2, nameIndex := 25, descriptorIndex := 26, attributes := #[] }, { accessFlags := 26, nameIndex := 1116, descriptorIndex := 1117, attributes := #[] }, { accessFlags := 24, nameIndex := 40, descriptorIndex := 26, attributes := #[] }, { accessFlags := 26, nameIndex := 1101, descriptorIndex := 1102, attributes := #[] }, { accessFlags := 26, nameIndex := 1121, descriptorIndex := 1122, attributes := #[] }, { accessFlags := 25, nameIndex := 599, descriptorIndex := 600, attributes := #[] }, { accessFlags := 24, nameIndex := 1125, descriptorIndex := 18, attributes := #[] }, { accessFlags := 24, nameIndex := 1127, descriptorIndex := 18, attributes := #[] }])
  fields := #[{ name := "value", type := (.array .byte), accessFlags := 18, slot := 0, constantValue := 0 }, { name := "coder", type := .byte, accessFlags := 18, slot := 1, constantValue := 0 }, { name := "hash", type := .int, accessFlags := 2, slot := 2, constantValue := 0 }, { name := "hashIsZero", type := .boolean, accessFlags := 2, slot := 3, constantValue := 0 }, { name := "serialVersionUID", type := .long, accessFlags := 26, slot := 0, constantValue := 0 }, { name := "COMPACT_STRINGS", type := .boolean, accessFlags := 24, slot := 1, constantValue := 0 }, { name := "serialPersistentFields", type := (.array (.object "java/io/ObjectStreamField")), accessFlags := 26, slot := 2, constantValue := 0 }, { name := "REPL", type := .char, accessFlags := 26, slot := 3, constantValue := 0 }, { name := "CASE_INSENSITIVE_ORDER", type := (.object "java/util/Comparator"), accessFlags := 25, slot := 4, constantValue := 0 }, { name := "LATIN1", type := .byte, accessFlags := 24, slot := 5, constantValue := 0 }, { name := "UTF16", type := .byte, accessFlags := 24, slot := 6, constantValue := 0 }]
  methods := #[k7m0, k7m1, k7m2, k7m3, k7m4]
  instanceTypes := #[(.array .byte), .byte, .int, .boolean]
  staticTypes := #[.long, .boolean, (.array (.object "java/io/ObjectStreamField")), .char, (.object "java/util/Comparator"), .byte, .byte]
  resolved := Array.replicate 1451 none
  statics := some 0 }

def pool8 : Array CpInfo := pool [(4, .class_ 6), (1, u "java/lang/Object"), (0, u "<init>"), (0, u "()V"), (5, .class_ 16), (1, u "java/lang/StringLatin1"), (73, u "canEncode"), (14, u "(C)Z"), (15, u "$assertionsDisabled"), (0, u "Z"), (98, .class_ 223), (1, u "java/lang/StringLatin1$LinesSpliterator"), (156, u "toBytes"), (1, u "(C)[B"), (7, .class_ 391), (0, u "java/lang/StringLatin1$CharsSpliterator")] 3

def k8m0 : Method := { name := "<init>", desc := "()V", sig := { parameters := [], returnType := none }, accessFlags := 0, code := none }
def k8c1 : Code := { maxStack := 2, maxLocals := 1, code := jdk_43_method_3_code, exceptionTable := #[], attributes := #[] }
def k8m1 : Method := { name := "canEncode", desc := "(C)Z", sig := { parameters := [.char], returnType := some .boolean }, accessFlags := 9, code := some k8c1 }
def k8c2 : Code := { maxStack := 4, maxLocals := 1, code := jdk_43_method_46_code, exceptionTable := #[], attributes := #[] }
def k8m2 : Method := { name := "toBytes", desc := "(C)[B", sig := { parameters := [.char], returnType := some (.array .byte) }, accessFlags := 9, code := some k8c2 }
/-- java/lang/StringLatin1 -/
def k8 : Class := { plain "java/lang/StringLatin1" (some 0) with
  accessFlags := 48
  interfaces := #[]
  cf := some (fileOf pool8 14 #[.nestMembers #[390, 221]] #[{ accessFlags := 0, nameIndex := 7, descriptorIndex := 8, attributes := #[] }, { accessFlags := 9, nameIndex := 90, descriptorIndex := 105, attributes := #[] }, { accessFlags := 9, nameIndex := 380, descriptorIndex := 382, attributes := #[] }] 48 4 #[] #[{ accessFlags := 4120, nameIndex := 121, descriptorIndex := 122, attributes := #[] }])
  fields := #[{ name := "$assertionsDisabled", type := .boolean, accessFlags := 4120, slot := 0, constantValue := 0 }]
  methods := #[k8m0, k8m1, k8m2]
  instanceTypes := #[]
  staticTypes := #[.boolean]
  resolved := Array.replicate 395 none
  statics := none }

def pool9 : Array CpInfo := pool [(1, .methodref 2 3), (0, .class_ 4), (0, .nameAndType 5 6), (0, u "java/lang/Object"), (0, u "<init>"), (0, u "()V"), (0, .class_ 8), (0, u "java/util/ArrayList"), (0, .methodref 7 3), (0, .fieldref 11 12), (0, .class_ 13), (0, .nameAndType 14 15), (0, u "com/example/strict_grants/strictgrants/DefectReport"), (0, u "defects"), (0, u "Ljava/util/List;"), (0, .fieldref 11 17), (0, .nameAndType 18 19), (0, u "file"), (0, u "Ljava/lang/String;"), (0, .class_ 21), (0, u "com/example/strict_grants/strictgrants/StoreDefect"), (0, .methodref 20 23), (0, .nameAndType 5 24), (0, u "(Ljava/lang/String;IILjava/lang/String;)V"), (5, .class_ 32), (1, u "java/util/List"), (7, u "()Z"), (6, u "unreported"), (0, u "I"), (0, .interfaceMethodref 30 50), (0, .nameAndType 51 40), (0, u "isEmpty"), (0, .fieldref 11 53), (0, .nameAndType 54 55), (0, u "brokenOff"), (0, u "Lcom/example/strict_grants/strictgrants/StoreDefect;"), (23, u "BY_PLACE"), (0, u "Ljava/util/Comparator;"), (25, u "MOST_REPORTED"), (5, u "(Ljava/lang/String;)V"), (2, u "(IILjava/lang/String;)V"), (3, u "addBrokenOff")] 31

def k9c0 : Code := { maxStack := 3, maxLocals := 2, code := prog_5_method_1_code, exceptionTable := #[], attributes := #[] }
def k9m0 : Method := { name := "<init>", desc := "(Ljava/lang/String;)V", sig := { parameters := [(.object "java/lang/String")], returnType := none }, accessFlags := 0, code := some k9c0 }
def k9c1 : Code := { maxStack := 1, maxLocals := 1, code := prog_5_method_4_code, exceptionTable := #[], attributes := #[] }
def k9m1 : Method := { name := "isEmpty", desc := "()Z", sig := { parameters := [], returnType := some .boolean }, accessFlags := 0, code := some k9c1 }
def k9c2 : Code := { maxStack := 7, maxLocals := 4, code := prog_5_method_5_code, exceptionTable := #[], attributes := #[] }
def k9m2 : Method := { name := "addBrokenOff", desc := "(IILjava/lang/String;)V", sig := { parameters := [.int, .int, (.object "java/lang/String")], returnType := none }, accessFlags := 0, code := some k9c2 }
/-- com/example/strict_grants/strictgrants/DefectReport -/
def k9 : Class := { plain "com/example/strict_grants/strictgrants/DefectReport" (some 0) with
  accessFlags := 48
  interfaces := #[]
  cf := some (fileOf pool9 11 #[] #[{ accessFlags := 0, nameIndex := 5, descriptorIndex := 112, attributes := #[] }, { accessFlags := 0, nameIndex := 51, descriptorIndex := 40, attributes := #[] }, { accessFlags := 0, nameIndex := 119, descriptorIndex := 115, attributes := #[] }] 48 2 #[] #[{ accessFlags := 24, nameIndex := 106, descriptorIndex := 48, attributes := #[] }, { accessFlags := 26, nameIndex := 79, descriptorIndex := 80, attributes := #[] }, { accessFlags := 18, nameIndex := 18, descriptorIndex := 19, attributes := #[] }, { accessFlags := 18, nameIndex := 14, descriptorIndex := 15, attributes := #[] }, { accessFlags := 2, nameIndex := 54, descriptorIndex := 55, attributes := #[] }, { accessFlags := 2, nameIndex := 47, descriptorIndex := 48, attributes := #[] }])
  fields := #[{ name := "MOST_REPORTED", type := .int, accessFlags := 24, slot := 0, constantValue := 0 }, { name := "BY_PLACE", type := (.object "java/util/Comparator"), accessFlags := 26, slot := 1, constantValue := 0 }, { name := "file", type := (.object "java/lang/String"), accessFlags := 18, slot := 0, constantValue := 0 }, { name := "defects", type := (.object "java/util/List"), accessFlags := 18, slot := 1, constantValue := 0 }, { name := "brokenOff", type := (.object "com/example/strict_grants/strictgrants/StoreDefect"), accessFlags := 2, slot := 2, constantValue := 0 }, { name := "unreported", type := .int, accessFlags := 2, slot := 3, constantValue := 0 }]
  methods := #[k9m0, k9m1, k9m2]
  instanceTypes := #[(.object "java/lang/String"), (.object "java/util/List"), (.object "com/example/strict_grants/strictgrants/StoreDefect"), .int]
  staticTypes := #[.int, (.object "java/util/Comparator")]
  resolved := Array.replicate 151 none
  statics := none }

def pool10 : Array CpInfo := pool [(8, .class_ 10), (1, u "java/lang/Iterable"), (24, .class_ 36), (0, u "java/lang/Object")] 25

/-- java/lang/Iterable -/
def k10 : Class := { plain "java/lang/Iterable" (some 0) with
  accessFlags := 1537
  interfaces := #[]
  cf := some (fileOf pool10 8 #[] #[] 1537 35 #[] #[])
  fields := #[]
  methods := #[]
  instanceTypes := #[]
  staticTypes := #[]
  resolved := Array.replicate 62 none
  statics := none }

def pool11 : Array CpInfo := pool [(10, .class_ 12), (1, u "java/util/Collection"), (47, .class_ 61), (0, u "java/lang/Object"), (0, .class_ 63), (0, u "java/lang/Iterable")] 51

/-- java/util/Collection -/
def k11 : Class := { plain "java/util/Collection" (some 0) with
  accessFlags := 1537
  interfaces := #[10]
  cf := some (fileOf pool11 10 #[] #[] 1537 60 #[62] #[])
  fields := #[]
  methods := #[]
  instanceTypes := #[]
  staticTypes := #[]
  resolved := Array.replicate 115 none
  statics := none }

def pool12 : Array CpInfo := pool [(1, .methodref 2 3), (0, .class_ 4), (0, .nameAndType 5 6), (0, u "java/lang/Object"), (0, u "<init>"), (0, u "()V"), (1, .class_ 10), (1, u "java/util/AbstractCollection"), (66, .class_ 78), (0, u "java/util/Collection")] 81

def k12c0 : Code := { maxStack := 1, maxLocals := 1, code := jdk_22_method_1_code, exceptionTable := #[], attributes := #[] }
def k12m0 : Method := { name := "<init>", desc := "()V", sig := { parameters := [], returnType := none }, accessFlags := 4, code := some k12c0 }
/-- java/util/AbstractCollection -/
def k12 : Class := { plain "java/util/AbstractCollection" (some 0) with
  accessFlags := 1057
  interfaces := #[11]
  cf := some (fileOf pool12 8 #[] #[{ accessFlags := 4, nameIndex := 5, descriptorIndex := 6, attributes := #[] }] 1057 2 #[77] #[])
  fields := #[]
  methods := #[k12m0]
  instanceTypes := #[]
  staticTypes := #[]
  resolved := Array.replicate 160 none
  statics := none }

def pool13 : Array CpInfo := pool [(8, .class_ 10), (1, u "java/util/SequencedCollection"), (15, .class_ 27), (0, u "java/lang/Object"), (0, .class_ 29), (0, u "java/util/Collection")] 27

/-- java/util/SequencedCollection -/
def k13 : Class := { plain "java/util/SequencedCollection" (some 0) with
  accessFlags := 1537
  interfaces := #[11]
  cf := some (fileOf pool13 8 #[] #[] 1537 26 #[28] #[])
  fields := #[]
  methods := #[]
  instanceTypes := #[]
  staticTypes := #[]
  resolved := Array.replicate 57 none
  statics := none }

def pool14 : Array CpInfo := pool [(8, .class_ 10), (1, u "java/util/List"), (7, u "()Z"), (48, u "isEmpty"), (35, .class_ 104), (0, u "java/lang/Object"), (15, .class_ 121), (0, u "java/util/SequencedCollection")] 129

def k14m0 : Method := { name := "isEmpty", desc := "()Z", sig := { parameters := [], returnType := some .boolean }, accessFlags := 1025, code := none }
/-- java/util/List -/
def k14 : Class := { plain "java/util/List" (some 0) with
  accessFlags := 1537
  interfaces := #[13]
  cf := some (fileOf pool14 8 #[] #[{ accessFlags := 1025, nameIndex := 67, descriptorIndex := 18, attributes := #[] }] 1537 103 #[120] #[])
  fields := #[]
  methods := #[k14m0]
  instanceTypes := #[]
  staticTypes := #[]
  resolved := Array.replicate 251 none
  statics := none }

def pool15 : Array CpInfo := pool [(1, .methodref 2 3), (0, .class_ 4), (0, .nameAndType 5 6), (0, u "java/util/AbstractCollection"), (0, u "<init>"), (0, u "()V"), (0, .fieldref 8 9), (0, .class_ 10), (0, .nameAndType 11 12), (0, u "java/util/AbstractList"), (0, u "modCount"), (0, u "I"), (64, .class_ 78), (0, u "java/util/AbstractList$Itr"), (3, .class_ 83), (0, u "java/util/AbstractList$ListItr"), (9, .class_ 94), (0, u "java/util/AbstractList$RandomAccessSubList"), (3, .class_ 99), (0, u "java/util/AbstractList$SubList"), (33, .class_ 134), (0, u "java/util/List"), (73, .class_ 209), (0, u "java/util/AbstractList$SubList$1"), (0, .class_ 211), (0, u "java/util/AbstractList$RandomAccessSpliterator")] 6

def k15c0 : Code := { maxStack := 2, maxLocals := 1, code := jdk_39_method_1_code, exceptionTable := #[], attributes := #[] }
def k15m0 : Method := { name := "<init>", desc := "()V", sig := { parameters := [], returnType := none }, accessFlags := 4, code := some k15c0 }
/-- java/util/AbstractList -/
def k15 : Class := { plain "java/util/AbstractList" (some 12) with
  accessFlags := 1057
  interfaces := #[14]
  cf := some (fileOf pool15 8 #[.nestMembers #[93, 98, 208, 210, 82, 77]] #[{ accessFlags := 4, nameIndex := 5, descriptorIndex := 6, attributes := #[] }] 1057 2 #[133] #[{ accessFlags := 132, nameIndex := 11, descriptorIndex := 12, attributes := #[] }])
  fields := #[{ name := "modCount", type := .int, accessFlags := 132, slot := 0, constantValue := 0 }]
  methods := #[k15m0]
  instanceTypes := #[.int]
  staticTypes := #[]
  resolved := Array.replicate 218 none
  statics := none }

def pool16 : Array CpInfo := pool [(1, .class_ 2), (0, u "java/util/RandomAccess"), (0, .class_ 4), (0, u "java/lang/Object")] 2

/-- java/util/RandomAccess -/
def k16 : Class := { plain "java/util/RandomAccess" (some 0) with
  accessFlags := 1537
  interfaces := #[]
  cf := some (fileOf pool16 1 #[] #[] 1537 3 #[] #[])
  fields := #[]
  methods := #[]
  instanceTypes := #[]
  staticTypes := #[]
  resolved := Array.replicate 7 none
  statics := none }

def pool17 : Array CpInfo := pool [(1, .class_ 2), (0, u "java/lang/Cloneable"), (0, .class_ 4), (0, u "java/lang/Object")] 2

/-- java/lang/Cloneable -/
def k17 : Class := { plain "java/lang/Cloneable" (some 0) with
  accessFlags := 1537
  interfaces := #[]
  cf := some (fileOf pool17 1 #[] #[] 1537 3 #[] #[])
  fields := #[]
  methods := #[]
  instanceTypes := #[]
  staticTypes := #[]
  resolved := Array.replicate 7 none
  statics := none }

def pool18 : Array CpInfo := pool [(1, .methodref 2 3), (0, .class_ 4), (0, .nameAndType 5 6), (0, u "java/util/AbstractList"), (0, u "<init>"), (0, u "()V"), (2, .fieldref 10 11), (0, .class_ 12), (0, .nameAndType 13 14), (0, u "java/util/ArrayList"), (0, u "elementData"), (0, u "[Ljava/lang/Object;"), (2, u "EMPTY_ELEMENTDATA"), (21, .fieldref 10 40), (0, .nameAndType 41 14), (0, u "DEFAULTCAPACITY_EMPTY_ELEMENTDATA"), (6, .fieldref 10 49), (0, .nameAndType 50 51), (0, u "size"), (0, u "I"), (96, .class_ 149), (0, u "java/util/List"), (23, u "()Z"), (88, .class_ 263), (0, u "java/util/ArrayList$ListItr"), (3, .class_ 268), (0, u "java/util/ArrayList$Itr"), (7, .class_ 277), (0, u "java/util/ArrayList$SubList"), (12, .class_ 291), (0, u "java/util/ArrayList$ArrayListSpliterator"), (37, .class_ 330), (0, u "java/util/RandomAccess"), (0, .class_ 332), (0, u "java/lang/Cloneable"), (0, .class_ 334), (0, u "java/io/Serializable"), (0, u "serialVersionUID"), (0, u "J"), (3, u "DEFAULT_CAPACITY"), (22, u "isEmpty"), (136, .class_ 501), (0, u "java/util/ArrayList$SubList$2"), (0, .class_ 503), (0, u "java/util/ArrayList$SubList$1")] 5

def k18c0 : Code := { maxStack := 2, maxLocals := 1, code := jdk_38_method_2_code, exceptionTable := #[], attributes := #[] }
def k18m0 : Method := { name := "<init>", desc := "()V", sig := { parameters := [], returnType := none }, accessFlags := 1, code := some k18c0 }
def k18c1 : Code := { maxStack := 1, maxLocals := 1, code := jdk_38_method_9_code, exceptionTable := #[], attributes := #[] }
def k18m1 : Method := { name := "isEmpty", desc := "()Z", sig := { parameters := [], returnType := some .boolean }, accessFlags := 1, code := some k18c1 }
/-- java/util/ArrayList -/
def k18 : Class := { plain "java/util/ArrayList" (some 15) with
  accessFlags := 33
  interfaces := #[14, 16, 17, 2]
  cf := some (fileOf pool18 10 #[.nestMembers #[290, 276, 500, 502, 262, 267]] #[{ accessFlags := 1, nameIndex := 5, descriptorIndex := 6, attributes := #[] }, { accessFlags := 1, nameIndex := 363, descriptorIndex := 173, attributes := #[] }] 33 2 #[148, 329, 331, 333] #[{ accessFlags := 26, nameIndex := 335, descriptorIndex := 336, attributes := #[] }, { accessFlags := 26, nameIndex := 340, descriptorIndex := 51, attributes := #[] }, { accessFlags := 26, nameIndex := 17, descriptorIndex := 14, attributes := #[] }, { accessFlags := 26, nameIndex := 41, descriptorIndex := 14, attributes := #[] }, { accessFlags := 128, nameIndex := 13, descriptorIndex := 14, attributes := #[] }, { accessFlags := 2, nameIndex := 50, descriptorIndex := 51, attributes := #[] }])
  fields := #[{ name := "serialVersionUID", type := .long, accessFlags := 26, slot := 0, constantValue := 0 }, { name := "DEFAULT_CAPACITY", type := .int, accessFlags := 26, slot := 1, constantValue := 0 }, { name := "EMPTY_ELEMENTDATA", type := (.array (.object "java/lang/Object")), accessFlags := 26, slot := 2, constantValue := 0 }, { name := "DEFAULTCAPACITY_EMPTY_ELEMENTDATA", type := (.array (.object "java/lang/Object")), accessFlags := 26, slot := 3, constantValue := 0 }, { name := "elementData", type := (.array (.object "java/lang/Object")), accessFlags := 128, slot := 1, constantValue := 0 }, { name := "size", type := .int, accessFlags := 2, slot := 2, constantValue := 0 }]
  methods := #[k18m0, k18m1]
  instanceTypes := #[.int, (.array (.object "java/lang/Object")), .int]
  staticTypes := #[.long, .int, (.array (.object "java/lang/Object")), (.array (.object "java/lang/Object"))]
  resolved := Array.replicate 509 none
  statics := some 1 }

def pool19 : Array CpInfo := pool [(1, .methodref 2 3), (0, .class_ 4), (0, .nameAndType 5 6), (0, u "java/lang/Object"), (0, u "<init>"), (0, u "()V"), (0, .class_ 8), (0, u "java/lang/Record")] 13

def k19c0 : Code := { maxStack := 1, maxLocals := 1, code := jdk_30_method_1_code, exceptionTable := #[], attributes := #[] }
def k19m0 : Method := { name := "<init>", desc := "()V", sig := { parameters := [], returnType := none }, accessFlags := 4, code := some k19c0 }
/-- java/lang/Record -/
def k19 : Class := { plain "java/lang/Record" (some 0) with
  accessFlags := 1057
  interfaces := #[]
  cf := some (fileOf pool19 7 #[] #[{ accessFlags := 4, nameIndex := 5, descriptorIndex := 6, attributes := #[] }] 1057 2 #[] #[])
  fields := #[]
  methods := #[k19m0]
  instanceTypes := #[]
  staticTypes := #[]
  resolved := Array.replicate 22 none
  statics := none }

def pool20 : Array CpInfo := pool [(1, .methodref 2 3), (0, .class_ 4), (0, .nameAndType 5 6), (0, u "java/lang/Record"), (0, u "<init>"), (0, u "()V"), (0, .fieldref 8 9), (0, .class_ 10), (0, .nameAndType 11 12), (0, u "com/example/strict_grants/strictgrants/StoreDefect"), (0, u "file"), (0, u "Ljava/lang/String;"), (0, .fieldref 8 14), (0, .nameAndType 15 16), (0, u "line"), (0, u "I"), (0, .fieldref 8 18), (0, .nameAndType 19 16), (0, u "column"), (0, .fieldref 8 21), (0, .nameAndType 22 12), (0, u "message"), (18, .class_ 42), (0, u "java/io/Serializable"), (0, u "(Ljava/lang/String;IILjava/lang/String;)V")] 38

def k20c0 : Code := { maxStack := 2, maxLocals := 5, code := prog_31_method_1_code, exceptionTable := #[], attributes := #[] }
def k20m0 : Method := { name := "<init>", desc := "(Ljava/lang/String;IILjava/lang/String;)V", sig := { parameters := [(.object "java/lang/String"), .int, .int, (.object "java/lang/String")], returnType := none }, accessFlags := 1, code := some k20c0 }
/-- com/example/strict_grants/strictgrants/StoreDefect -/
def k20 : Class := { plain "com/example/strict_grants/strictgrants/StoreDefect" (some 19) with
  accessFlags := 49
  interfaces := #[2]
  cf := some (fileOf pool20 8 #[] #[{ accessFlags := 1, nameIndex := 5, descriptorIndex := 43, attributes := #[] }] 49 2 #[41] #[{ accessFlags := 18, nameIndex := 11, descriptorIndex := 12, attributes := #[] }, { accessFlags := 18, nameIndex := 15, descriptorIndex := 16, attributes := #[] }, { accessFlags := 18, nameIndex := 19, descriptorIndex := 16, attributes := #[] }, { accessFlags := 18, nameIndex := 22, descriptorIndex := 12, attributes := #[] }])
  fields := #[{ name := "file", type := (.object "java/lang/String"), accessFlags := 18, slot := 0, constantValue := 0 }, { name := "line", type := .int, accessFlags := 18, slot := 1, constantValue := 0 }, { name := "column", type := .int, accessFlags := 18, slot := 2, constantValue := 0 }, { name := "message", type := (.object "java/lang/String"), accessFlags := 18, slot := 3, constantValue := 0 }]
  methods := #[k20m0]
  instanceTypes := #[(.object "java/lang/String"), .int, .int, (.object "java/lang/String")]
  staticTypes := #[]
  resolved := Array.replicate 82 none
  statics := none }

def pool21 : Array CpInfo := pool [(6, .class_ 8), (1, u "java/lang/Object"), (0, u "<init>"), (0, u "()V"), (1, .class_ 14), (1, u "java/lang/StringUTF16"), (31, u "$assertionsDisabled"), (0, u "Z"), (13, u "HI_BYTE_SHIFT"), (0, u "I"), (2, u "LO_BYTE_SHIFT"), (49, .methodref 12 116), (0, .nameAndType 117 118), (0, u "compress"), (0, u "([CI[BII)I"), (3, u "([CII)[B"), (138, u "coderFromArrayLen"), (0, u "([BI)B"), (106, .class_ 371), (1, u "java/lang/StringUTF16$LinesSpliterator"), (58, u "MAX_LENGTH"), (196, .class_ 628), (0, u "java/lang/StringUTF16$CodePointsSpliterator"), (0, .class_ 630), (0, u "java/lang/StringUTF16$CharsSpliterator")] 4

def k21m0 : Method := { name := "<init>", desc := "()V", sig := { parameters := [], returnType := none }, accessFlags := 0, code := none }
def k21c1 : Code := { maxStack := 2, maxLocals := 2, code := jdk_52_method_15_code, exceptionTable := #[], attributes := #[] }
def k21m1 : Method := { name := "coderFromArrayLen", desc := "([BI)B", sig := { parameters := [(.array .byte), .int], returnType := some .byte }, accessFlags := 8, code := some k21c1 }
def k21c2 : Code := { maxStack := 5, maxLocals := 6, code := jdk_52_method_16_code, exceptionTable := #[], attributes := #[] }
def k21m2 : Method := { name := "compress", desc := "([CII)[B", sig := { parameters := [(.array .char), .int, .int], returnType := some (.array .byte) }, accessFlags := 9, code := some k21c2 }
def k21c3 : Code := { maxStack := 3, maxLocals := 7, code := jdk_52_method_21_code, exceptionTable := #[], attributes := #[] }
def k21m3 : Method := { name := "compress", desc := "([CI[BII)I", sig := { parameters := [(.array .char), .int, (.array .byte), .int, .int], returnType := some .int }, accessFlags := 9, code := some k21c3 }
/-- java/lang/StringUTF16 -/
def k21 : Class := { plain "java/lang/StringUTF16" (some 0) with
  accessFlags := 48
  interfaces := #[]
  cf := some (fileOf pool21 12 #[.nestMembers #[627, 629, 369]] #[{ accessFlags := 0, nameIndex := 9, descriptorIndex := 10, attributes := #[] }, { accessFlags := 8, nameIndex := 261, descriptorIndex := 262, attributes := #[] }, { accessFlags := 9, nameIndex := 117, descriptorIndex := 122, attributes := #[] }, { accessFlags := 9, nameIndex := 117, descriptorIndex := 118, attributes := #[] }] 48 6 #[] #[{ accessFlags := 26, nameIndex := 61, descriptorIndex := 62, attributes := #[] }, { accessFlags := 26, nameIndex := 65, descriptorIndex := 62, attributes := #[] }, { accessFlags := 24, nameIndex := 430, descriptorIndex := 62, attributes := #[] }, { accessFlags := 4120, nameIndex := 46, descriptorIndex := 47, attributes := #[] }])
  fields := #[{ name := "HI_BYTE_SHIFT", type := .int, accessFlags := 26, slot := 0, constantValue := 0 }, { name := "LO_BYTE_SHIFT", type := .int, accessFlags := 26, slot := 1, constantValue := 0 }, { name := "MAX_LENGTH", type := .int, accessFlags := 24, slot := 2, constantValue := 0 }, { name := "$assertionsDisabled", type := .boolean, accessFlags := 4120, slot := 3, constantValue := 0 }]
  methods := #[k21m0, k21m1, k21m2, k21m3]
  instanceTypes := #[]
  staticTypes := #[.int, .int, .int, .boolean]
  resolved := Array.replicate 635 none
  statics := none }

def pool22 : Array CpInfo := pool [(2, .class_ 4), (1, u "java/lang/Object"), (0, u "<init>"), (0, u "()V"), (17, .class_ 26), (1, u "jdk/internal/util/Preconditions"), (28, .class_ 56), (0, u "jdk/internal/util/Preconditions$4"), (57, .class_ 115), (0, u "jdk/internal/util/Preconditions$1"), (7, u "SIOOBE_FORMATTER"), (0, u "Ljava/util/function/BiFunction;"), (0, .class_ 126), (0, u "jdk/internal/util/Preconditions$2"), (3, u "AIOOBE_FORMATTER"), (0, .class_ 132), (0, u "jdk/internal/util/Preconditions$3"), (3, u "IOOBE_FORMATTER")] 57

def k22m0 : Method := { name := "<init>", desc := "()V", sig := { parameters := [], returnType := none }, accessFlags := 1, code := none }
/-- jdk/internal/util/Preconditions -/
def k22 : Class := { plain "jdk/internal/util/Preconditions" (some 0) with
  accessFlags := 33
  interfaces := #[]
  cf := some (fileOf pool22 24 #[.nestMembers #[55, 131, 125, 114]] #[{ accessFlags := 1, nameIndex := 5, descriptorIndex := 6, attributes := #[] }] 33 2 #[] #[{ accessFlags := 25, nameIndex := 123, descriptorIndex := 124, attributes := #[] }, { accessFlags := 25, nameIndex := 130, descriptorIndex := 124, attributes := #[] }, { accessFlags := 25, nameIndex := 136, descriptorIndex := 124, attributes := #[] }])
  fields := #[{ name := "SIOOBE_FORMATTER", type := (.object "java/util/function/BiFunction"), accessFlags := 25, slot := 0, constantValue := 0 }, { name := "AIOOBE_FORMATTER", type := (.object "java/util/function/BiFunction"), accessFlags := 25, slot := 1, constantValue := 0 }, { name := "IOOBE_FORMATTER", type := (.object "java/util/function/BiFunction"), accessFlags := 25, slot := 2, constantValue := 0 }]
  methods := #[k22m0]
  instanceTypes := #[]
  staticTypes := #[(.object "java/util/function/BiFunction"), (.object "java/util/function/BiFunction"), (.object "java/util/function/BiFunction")]
  resolved := Array.replicate 194 none
  statics := some 2 }

def pool23 : Array CpInfo := pool [(9, u "<init>"), (6, .class_ 18), (1, u "java/lang/Object"), (0, u "()V"), (1, .class_ 23), (1, u "jdk/internal/util/ArraysSupport"), (0, u "LOG2_ARRAY_LONG_INDEX_SCALE"), (0, u "I"), (2, u "U"), (0, u "Ljdk/internal/misc/Unsafe;"), (8, u "BIG_ENDIAN"), (0, u "Z"), (8, u "LOG2_BYTE_BIT_SIZE"), (4, u "LOG2_ARRAY_INT_INDEX_SCALE"), (54, u "JLA"), (0, u "Ljdk/internal/access/JavaLangAccess;"), (11, u "LOG2_ARRAY_BOOLEAN_INDEX_SCALE"), (9, u "LOG2_ARRAY_BYTE_INDEX_SCALE"), (5, u "LOG2_ARRAY_CHAR_INDEX_SCALE"), (5, u "LOG2_ARRAY_SHORT_INDEX_SCALE"), (18, u "LOG2_ARRAY_FLOAT_INDEX_SCALE"), (24, u "LOG2_ARRAY_DOUBLE_INDEX_SCALE"), (89, u "T_BOOLEAN"), (2, u "T_CHAR"), (1, u "T_FLOAT"), (1, u "T_DOUBLE"), (1, u "T_BYTE"), (1, u "T_SHORT"), (1, u "T_INT"), (1, u "T_LONG"), (1, u "SOFT_MAX_ARRAY_LENGTH")] 83

def k23m0 : Method := { name := "<init>", desc := "()V", sig := { parameters := [], returnType := none }, accessFlags := 2, code := none }
/-- jdk/internal/util/ArraysSupport -/
def k23 : Class := { plain "jdk/internal/util/ArraysSupport" (some 0) with
  accessFlags := 33
  interfaces := #[]
  cf := some (fileOf pool23 21 #[] #[{ accessFlags := 2, nameIndex := 9, descriptorIndex := 19, attributes := #[] }] 33 16 #[] #[{ accessFlags := 24, nameIndex := 28, descriptorIndex := 29, attributes := #[] }, { accessFlags := 26, nameIndex := 38, descriptorIndex := 39, attributes := #[] }, { accessFlags := 25, nameIndex := 121, descriptorIndex := 25, attributes := #[] }, { accessFlags := 25, nameIndex := 131, descriptorIndex := 25, attributes := #[] }, { accessFlags := 25, nameIndex := 137, descriptorIndex := 25, attributes := #[] }, { accessFlags := 25, nameIndex := 143, descriptorIndex := 25, attributes := #[] }, { accessFlags := 25, nameIndex := 53, descriptorIndex := 25, attributes := #[] }, { accessFlags := 25, nameIndex := 24, descriptorIndex := 25, attributes := #[] }, { accessFlags := 25, nameIndex := 162, descriptorIndex := 25, attributes := #[] }, { accessFlags := 25, nameIndex := 187, descriptorIndex := 25, attributes := #[] }, { accessFlags := 26, nameIndex := 48, descriptorIndex := 25, attributes := #[] }, { accessFlags := 25, nameIndex := 277, descriptorIndex := 25, attributes := #[] }, { accessFlags := 25, nameIndex := 280, descriptorIndex := 25, attributes := #[] }, { accessFlags := 25, nameIndex := 282, descriptorIndex := 25, attributes := #[] }, { accessFlags := 25, nameIndex := 284, descriptorIndex := 25, attributes := #[] }, { accessFlags := 25, nameIndex := 286, descriptorIndex := 25, attributes := #[] }, { accessFlags := 25, nameIndex := 288, descriptorIndex := 25, attributes := #[] }, { accessFlags := 25, nameIndex := 290, descriptorIndex := 25, attributes := #[] }, { accessFlags := 25, nameIndex := 292, descriptorIndex := 25, attributes := #[] }, { accessFlags := 26, nameIndex := 108, descriptorIndex := 109, attributes := #[] }, { accessFlags := 25, nameIndex := 294, descriptorIndex := 25, attributes := #[] }])
  fields := #[{ name := "U", type := (.object "jdk/internal/misc/Unsafe"), accessFlags := 24, slot := 0, constantValue := 0 }, { name := "BIG_ENDIAN", type := .boolean, accessFlags := 26, slot := 1, constantValue := 0 }, { name := "LOG2_ARRAY_BOOLEAN_INDEX_SCALE", type := .int, accessFlags := 25, slot := 2, constantValue := 0 }, { name := "LOG2_ARRAY_BYTE_INDEX_SCALE", type := .int, accessFlags := 25, slot := 3, constantValue := 0 }, { name := "LOG2_ARRAY_CHAR_INDEX_SCALE", type := .int, accessFlags := 25, slot := 4, constantValue := 0 }, { name := "LOG2_ARRAY_SHORT_INDEX_SCALE", type := .int, accessFlags := 25, slot := 5, constantValue := 0 }, { name := "LOG2_ARRAY_INT_INDEX_SCALE", type := .int, accessFlags := 25, slot := 6, constantValue := 0 }, { name := "LOG2_ARRAY_LONG_INDEX_SCALE", type := .int, accessFlags := 25, slot := 7, constantValue := 0 }, { name := "LOG2_ARRAY_FLOAT_INDEX_SCALE", type := .int, accessFlags := 25, slot := 8, constantValue := 0 }, { name := "LOG2_ARRAY_DOUBLE_INDEX_SCALE", type := .int, accessFlags := 25, slot := 9, constantValue := 0 }, { name := "LOG2_BYTE_BIT_SIZE", type := .int, accessFlags := 26, slot := 10, constantValue := 0 }, { name := "T_BOOLEAN", type := .int, accessFlags := 25, slot := 11, constantValue := 0 }, { name := "T_CHAR", type := .int, accessFlags := 25, slot := 12, constantValue := 0 }, { name := "T_FLOAT", type := .int, accessFlags := 25, slot := 13, constantValue := 0 }, { name := "T_DOUBLE", type := .int, accessFlags := 25, slot := 14, constantValue := 0 }, { name := "T_BYTE", type := .int, accessFlags := 25, slot := 15, constantValue := 0 }, { name := "T_SHORT", type := .int, accessFlags := 25, slot := 16, constantValue := 0 }, { name := "T_INT", type := .int, accessFlags := 25, slot := 17, constantValue := 0 }, { name := "T_LONG", type := .int, accessFlags := 25, slot := 18, constantValue := 0 }, { name := "JLA", type := (.object "jdk/internal/access/JavaLangAccess"), accessFlags := 26, slot := 19, constantValue := 0 }, { name := "SOFT_MAX_ARRAY_LENGTH", type := .int, accessFlags := 25, slot := 20, constantValue := 0 }]
  methods := #[k23m0]
  instanceTypes := #[]
  staticTypes := #[(.object "jdk/internal/misc/Unsafe"), .boolean, .int, .int, .int, .int, .int, .int, .int, .int, .int, .int, .int, .int, .int, .int, .int, .int, .int, (.object "jdk/internal/access/JavaLangAccess"), .int]
  resolved := Array.replicate 378 none
  statics := none }

/-- the primitive byte -/
def k24 : Class := { plain "byte" none with kind := .primitive 'B', accessFlags := 0x411 }
/-- [B -/
def k25 : Class := { plain "[B" (some 0) with kind := .array 24 .byte, interfaces := #[17, 2], accessFlags := 1041 }

/-- the primitive char -/
def k26 : Class := { plain "char" none with kind := .primitive 'C', accessFlags := 0x411 }
/-- [C -/
def k27 : Class := { plain "[C" (some 0) with kind := .array 26 .char, interfaces := #[17, 2], accessFlags := 1041 }

/-- the primitive int -/
def k28 : Class := { plain "int" none with kind := .primitive 'I', accessFlags := 0x411 }
/-- [I -/
def k29 : Class := { plain "[I" (some 0) with kind := .array 28 .int, interfaces := #[17, 2], accessFlags := 1041 }

/-- [Ljava/lang/Object; -/
def k30 : Class := { plain "[Ljava/lang/Object;" (some 0) with kind := .array 0 (.object "java/lang/Object"), interfaces := #[17, 2], accessFlags := 1041 }

def heap : Heap := #[{ cls := 7, slots := #[.long 0, .int 1, .null, .int 0, .null, .int 0, .int 0], vm := .statics 7 },
  { cls := 18, slots := #[.long 0, .int 0, .ref 3, .ref 4], vm := .statics 18 },
  { cls := 22, slots := #[.null, .null, .null], vm := .statics 22 },
  { cls := 30, slots := #[], vm := .none },
  { cls := 30, slots := #[], vm := .none }]
def classes : Array Class := #[k0, k1, k2, k3, k4, k5, k6, k7, k8, k9, k10, k11, k12, k13, k14, k15, k16, k17, k18, k19, k20, k21, k22, k23, k24, k25, k26, k27, k28, k29, k30]
def interned : List (Array UInt16 × Addr) := []
def slotsUsed : Nat := 14
def theMethod : MethodId := ⟨1, 2⟩
def args0 : Array Value := #[.int 2, .int 65, .int 66, .int 30, .int 68, .int 5]
def aboutOver (below : List Frame) : State where
  vm := { classes := classes, interned := interned.toArray }
  heap := heap
  slotsUsed := slotsUsed
  threads := #[{ frames := .invoking theMethod args0 :: below }]
def below0 : List Frame := [.native { method := ⟨0, 0⟩, args := #[] }]
def about1 : State := aboutOver below0
def p0 : Program := .bare "" "" ""
def e0 : Env := launch0.env 0 0 0
theorem w_frames : about1.frames = Frame.invoking theMethod args0 :: below0 := rfl
set_option maxRecDepth 65536 in
theorem w_args : argsFit about1.vm theMethod args0 = true := by decide +kernel
set_option maxRecDepth 65536 in
theorem w_heap : heapFits about1 = true := by decide +kernel
set_option maxRecDepth 65536 in
theorem w_runnable : about1.curStatus? = some .runnable := by decide +kernel
set_option maxRecDepth 65536 in
theorem w_alone : about1.alone = true := by decide +kernel
set_option maxRecDepth 65536 in
theorem w_named : about1.methodNamed? x = some theMethod := by decide +kernel
set_option maxRecDepth 65536 in
theorem w_hears : about1.hears theMethod below0 = true := by decide +kernel
set_option maxRecDepth 65536 in
theorem w_ripe : about1.ripe theMethod args0 below0 = true := by decide +kernel
theorem w_running : about1.status = .running := rfl
set_option maxRecDepth 65536 in
theorem w_room : about1.hasRoom e0.platform room_1 = true :=
  launch0.hasRoom_least _ room_1 (by decide +kernel) (by decide +kernel) (by decide +kernel) (by decide +kernel) (by decide +kernel) (by decide +kernel)
theorem allAtoms_all (ts : List Jvm.Cond) (a : Array Jvm.Value) (st : Jvm.State) : (allAtoms ts).before a st = ts.all (fun c => c.before a st) := by
  induction ts with
  | nil => rfl
  | cons c t ih =>
    show (Jvm.Cond.and c (allAtoms t)).before a st = _
    rw [Jvm.Cond.before_and, ih, List.all_cons]
def words1 : List Jvm.Cond := Jvm.Cond.code x code maxLocals ret :: tables_1
/-- a 'code' word, met by the world's own term for the bytes: nothing is compared byte by byte -/
theorem code_word {y : MethodName} {bytes : ByteArray} {mx : Nat} {rt : Option FieldType} {a : Array Value} {s : State} {m : MethodId} {meth : Method} {c : Code} (h1 : s.methodNamed? y = some m) (h2 : s.vm.method? m = some meth) (h3 : meth.code = some c) (h4 : c.code = bytes)
    (h5 : (c.maxLocals == mx && c.exceptionTable.isEmpty && decide (c.maxStack ≤ mostOperands) && decide (meth.sig.returnType = rt) && !meth.locks && decide (parseMethodDescriptor y.desc = some meth.sig)) = true) : (Jvm.Cond.code y bytes mx rt).before a s = true := by
  simp only [Bool.and_eq_true, beq_iff_eq, Bool.not_eq_true', decide_eq_true_eq] at h5
  obtain ⟨⟨⟨⟨⟨g1, g2⟩, g3⟩, g4⟩, g5⟩, g6⟩ := h5
  simp [Cond.before, Cond.holds, Cond.value, h1, h2, h3, h4, g1, g2, g3, g4, g5, g6]
def isCode : Jvm.Cond → Bool
  | .code _ _ _ _ => true
  | _ => false
theorem all_split {L : List Jvm.Cond} {P : Jvm.Cond → Bool} (h1 : L.all (fun c => isCode c || P c) = true) (h2 : ∀ c ∈ L.filter isCode, P c = true) : L.all P = true := by
  refine List.all_eq_true.mpr fun c hc => ?_
  have h := List.all_eq_true.mp h1 c hc
  rcases Bool.eq_false_or_eq_true (isCode c) with hi | hi
  · exact h2 c (List.mem_filter.mpr ⟨hc, hi⟩)
  · simpa [hi] using h
set_option maxRecDepth 65536 in
theorem w_c0 : (Jvm.Cond.code x code maxLocals ret).before args0 about1 = true := code_word (m := ⟨1, 2⟩) (meth := k1m2) (c := k1c2) (by decide +kernel) rfl rfl rfl (by decide +kernel)
set_option maxRecDepth 65536 in
theorem w_c1 : (Jvm.Cond.code ({ cls := "java/lang/String", name := "valueOf", desc := "(C)Ljava/lang/String;" } : Jvm.MethodName) jdk_42_method_139_code (1 : Nat) (Option.some (Jvm.ClassFile.FieldType.object "java/lang/String"))).before args0 about1 = true := code_word (m := ⟨7, 2⟩) (meth := k7m2) (c := k7c2) (by decide +kernel) rfl rfl rfl (by decide +kernel)
set_option maxRecDepth 65536 in
theorem w_c2 : (Jvm.Cond.code ({ cls := "java/lang/StringLatin1", name := "canEncode", desc := "(C)Z" } : Jvm.MethodName) jdk_43_method_3_code (1 : Nat) (Option.some Jvm.ClassFile.FieldType.boolean)).before args0 about1 = true := code_word (m := ⟨8, 1⟩) (meth := k8m1) (c := k8c1) (by decide +kernel) rfl rfl rfl (by decide +kernel)
set_option maxRecDepth 65536 in
theorem w_c3 : (Jvm.Cond.code ({ cls := "java/lang/StringLatin1", name := "toBytes", desc := "(C)[B" } : Jvm.MethodName) jdk_43_method_46_code (1 : Nat) (Option.some (Jvm.ClassFile.FieldType.array Jvm.ClassFile.FieldType.byte))).before args0 about1 = true := code_word (m := ⟨8, 2⟩) (meth := k8m2) (c := k8c2) (by decide +kernel) rfl rfl rfl (by decide +kernel)
set_option maxRecDepth 65536 in
theorem w_c4 : (Jvm.Cond.code ({ cls := "java/lang/String", name := "<init>", desc := "([BB)V" } : Jvm.MethodName) jdk_42_method_151_code (3 : Nat) (Option.none : Option Jvm.ClassFile.FieldType)).before args0 about1 = true := code_word (m := ⟨7, 4⟩) (meth := k7m4) (c := k7c4) (by decide +kernel) rfl rfl rfl (by decide +kernel)
set_option maxRecDepth 65536 in
theorem w_c5 : (Jvm.Cond.code ({ cls := "java/lang/Object", name := "<init>", desc := "()V" } : Jvm.MethodName) object_method_1_code (1 : Nat) (Option.none : Option Jvm.ClassFile.FieldType)).before args0 about1 = true := code_word (m := ⟨0, 0⟩) (meth := k0m0) (c := k0c0) (by decide +kernel) rfl rfl rfl (by decide +kernel)
set_option maxRecDepth 65536 in
theorem w_c6 : (Jvm.Cond.code ({ cls := "com/example/strict_grants/strictgrants/DefectReportAddBrokenOffPinLaw", name := "drawn", desc := "(III)Ljava/lang/String;" } : Jvm.MethodName) method_2_code (4 : Nat) (Option.some (Jvm.ClassFile.FieldType.object "java/lang/String"))).before args0 about1 = true := code_word (m := ⟨1, 1⟩) (meth := k1m1) (c := k1c1) (by decide +kernel) rfl rfl rfl (by decide +kernel)
set_option maxRecDepth 65536 in
theorem w_c7 : (Jvm.Cond.code ({ cls := "java/lang/String", name := "<init>", desc := "([C)V" } : Jvm.MethodName) jdk_42_method_3_code (2 : Nat) (Option.none : Option Jvm.ClassFile.FieldType)).before args0 about1 = true := code_word (m := ⟨7, 1⟩) (meth := k7m1) (c := k7c1) (by decide +kernel) rfl rfl rfl (by decide +kernel)
set_option maxRecDepth 65536 in
theorem w_c8 : (Jvm.Cond.code ({ cls := "java/lang/String", name := "<init>", desc := "([CIILjava/lang/Void;)V" } : Jvm.MethodName) jdk_42_method_149_code (6 : Nat) (Option.none : Option Jvm.ClassFile.FieldType)).before args0 about1 = true := code_word (m := ⟨7, 3⟩) (meth := k7m3) (c := k7c3) (by decide +kernel) rfl rfl rfl (by decide +kernel)
set_option maxRecDepth 65536 in
theorem w_c9 : (Jvm.Cond.code ({ cls := "com/example/strict_grants/strictgrants/DefectReport", name := "<init>", desc := "(Ljava/lang/String;)V" } : Jvm.MethodName) prog_5_method_1_code (2 : Nat) (Option.none : Option Jvm.ClassFile.FieldType)).before args0 about1 = true := code_word (m := ⟨9, 0⟩) (meth := k9m0) (c := k9c0) (by decide +kernel) rfl rfl rfl (by decide +kernel)
set_option maxRecDepth 65536 in
theorem w_c10 : (Jvm.Cond.code ({ cls := "java/util/ArrayList", name := "<init>", desc := "()V" } : Jvm.MethodName) jdk_38_method_2_code (1 : Nat) (Option.none : Option Jvm.ClassFile.FieldType)).before args0 about1 = true := code_word (m := ⟨18, 0⟩) (meth := k18m0) (c := k18c0) (by decide +kernel) rfl rfl rfl (by decide +kernel)
set_option maxRecDepth 65536 in
theorem w_c11 : (Jvm.Cond.code ({ cls := "java/util/AbstractList", name := "<init>", desc := "()V" } : Jvm.MethodName) jdk_39_method_1_code (1 : Nat) (Option.none : Option Jvm.ClassFile.FieldType)).before args0 about1 = true := code_word (m := ⟨15, 0⟩) (meth := k15m0) (c := k15c0) (by decide +kernel) rfl rfl rfl (by decide +kernel)
set_option maxRecDepth 65536 in
theorem w_c12 : (Jvm.Cond.code ({ cls := "java/util/AbstractCollection", name := "<init>", desc := "()V" } : Jvm.MethodName) jdk_22_method_1_code (1 : Nat) (Option.none : Option Jvm.ClassFile.FieldType)).before args0 about1 = true := code_word (m := ⟨12, 0⟩) (meth := k12m0) (c := k12c0) (by decide +kernel) rfl rfl rfl (by decide +kernel)
set_option maxRecDepth 65536 in
theorem w_c13 : (Jvm.Cond.code ({ cls := "com/example/strict_grants/strictgrants/DefectReport", name := "isEmpty", desc := "()Z" } : Jvm.MethodName) prog_5_method_4_code (1 : Nat) (Option.some Jvm.ClassFile.FieldType.boolean)).before args0 about1 = true := code_word (m := ⟨9, 1⟩) (meth := k9m1) (c := k9c1) (by decide +kernel) rfl rfl rfl (by decide +kernel)
set_option maxRecDepth 65536 in
theorem w_c14 : (Jvm.Cond.code ({ cls := "java/util/ArrayList", name := "isEmpty", desc := "()Z" } : Jvm.MethodName) jdk_38_method_9_code (1 : Nat) (Option.some Jvm.ClassFile.FieldType.boolean)).before args0 about1 = true := code_word (m := ⟨18, 1⟩) (meth := k18m1) (c := k18c1) (by decide +kernel) rfl rfl rfl (by decide +kernel)
set_option maxRecDepth 65536 in
theorem w_c15 : (Jvm.Cond.code ({ cls := "com/example/strict_grants/strictgrants/DefectReport", name := "addBrokenOff", desc := "(IILjava/lang/String;)V" } : Jvm.MethodName) prog_5_method_5_code (4 : Nat) (Option.none : Option Jvm.ClassFile.FieldType)).before args0 about1 = true := code_word (m := ⟨9, 2⟩) (meth := k9m2) (c := k9c2) (by decide +kernel) rfl rfl rfl (by decide +kernel)
set_option maxRecDepth 65536 in
theorem w_c16 : (Jvm.Cond.code ({ cls := "com/example/strict_grants/strictgrants/StoreDefect", name := "<init>", desc := "(Ljava/lang/String;IILjava/lang/String;)V" } : Jvm.MethodName) prog_31_method_1_code (5 : Nat) (Option.none : Option Jvm.ClassFile.FieldType)).before args0 about1 = true := code_word (m := ⟨20, 0⟩) (meth := k20m0) (c := k20c0) (by decide +kernel) rfl rfl rfl (by decide +kernel)
set_option maxRecDepth 65536 in
theorem w_c17 : (Jvm.Cond.code ({ cls := "java/lang/Record", name := "<init>", desc := "()V" } : Jvm.MethodName) jdk_30_method_1_code (1 : Nat) (Option.none : Option Jvm.ClassFile.FieldType)).before args0 about1 = true := code_word (m := ⟨19, 0⟩) (meth := k19m0) (c := k19c0) (by decide +kernel) rfl rfl rfl (by decide +kernel)
set_option maxRecDepth 65536 in
theorem w_c18 : (Jvm.Cond.code ({ cls := "java/lang/StringUTF16", name := "compress", desc := "([CII)[B" } : Jvm.MethodName) jdk_52_method_16_code (6 : Nat) (Option.some (Jvm.ClassFile.FieldType.array Jvm.ClassFile.FieldType.byte))).before args0 about1 = true := code_word (m := ⟨21, 2⟩) (meth := k21m2) (c := k21c2) (by decide +kernel) rfl rfl rfl (by decide +kernel)
set_option maxRecDepth 65536 in
theorem w_c19 : (Jvm.Cond.code ({ cls := "java/lang/StringUTF16", name := "compress", desc := "([CI[BII)I" } : Jvm.MethodName) jdk_52_method_21_code (7 : Nat) (Option.some Jvm.ClassFile.FieldType.int)).before args0 about1 = true := code_word (m := ⟨21, 3⟩) (meth := k21m3) (c := k21c3) (by decide +kernel) rfl rfl rfl (by decide +kernel)
set_option maxRecDepth 65536 in
theorem w_c20 : (Jvm.Cond.code ({ cls := "java/lang/StringUTF16", name := "coderFromArrayLen", desc := "([BI)B" } : Jvm.MethodName) jdk_52_method_15_code (2 : Nat) (Option.some Jvm.ClassFile.FieldType.byte)).before args0 about1 = true := code_word (m := ⟨21, 1⟩) (meth := k21m1) (c := k21c1) (by decide +kernel) rfl rfl rfl (by decide +kernel)
def codes1 : List Jvm.Cond := [Jvm.Cond.code x code maxLocals ret, Jvm.Cond.code ({ cls := "java/lang/String", name := "valueOf", desc := "(C)Ljava/lang/String;" } : Jvm.MethodName) jdk_42_method_139_code (1 : Nat) (Option.some (Jvm.ClassFile.FieldType.object "java/lang/String")), Jvm.Cond.code ({ cls := "java/lang/StringLatin1", name := "canEncode", desc := "(C)Z" } : Jvm.MethodName) jdk_43_method_3_code (1 : Nat) (Option.some Jvm.ClassFile.FieldType.boolean), Jvm.Cond.code ({ cls := "java/lang/StringLatin1", name := "toBytes", desc := "(C)[B" } : Jvm.MethodName) jdk_43_method_46_code (1 : Nat) (Option.some (Jvm.ClassFile.FieldType.array Jvm.ClassFile.FieldType.byte)), Jvm.Cond.code ({ cls := "java/lang/String", name := "<init>", desc := "([BB)V" } : Jvm.MethodName) jdk_42_method_151_code (3 : Nat) (Option.none : Option Jvm.ClassFile.FieldType), Jvm.Cond.code ({ cls := "java/lang/Object", name := "<init>", desc := "()V" } : Jvm.MethodName) object_method_1_code (1 : Nat) (Option.none : Option Jvm.ClassFile.FieldType), Jvm.Cond.code ({ cls := "com/example/strict_grants/strictgrants/DefectReportAddBrokenOffPinLaw", name := "drawn", desc := "(III)Ljava/lang/String;" } : Jvm.MethodName) method_2_code (4 : Nat) (Option.some (Jvm.ClassFile.FieldType.object "java/lang/String")), Jvm.Cond.code ({ cls := "java/lang/String", name := "<init>", desc := "([C)V" } : Jvm.MethodName) jdk_42_method_3_code (2 : Nat) (Option.none : Option Jvm.ClassFile.FieldType), Jvm.Cond.code ({ cls := "java/lang/String", name := "<init>", desc := "([CIILjava/lang/Void;)V" } : Jvm.MethodName) jdk_42_method_149_code (6 : Nat) (Option.none : Option Jvm.ClassFile.FieldType), Jvm.Cond.code ({ cls := "com/example/strict_grants/strictgrants/DefectReport", name := "<init>", desc := "(Ljava/lang/String;)V" } : Jvm.MethodName) prog_5_method_1_code (2 : Nat) (Option.none : Option Jvm.ClassFile.FieldType), Jvm.Cond.code ({ cls := "java/util/ArrayList", name := "<init>", desc := "()V" } : Jvm.MethodName) jdk_38_method_2_code (1 : Nat) (Option.none : Option Jvm.ClassFile.FieldType), Jvm.Cond.code ({ cls := "java/util/AbstractList", name := "<init>", desc := "()V" } : Jvm.MethodName) jdk_39_method_1_code (1 : Nat) (Option.none : Option Jvm.ClassFile.FieldType), Jvm.Cond.code ({ cls := "java/util/AbstractCollection", name := "<init>", desc := "()V" } : Jvm.MethodName) jdk_22_method_1_code (1 : Nat) (Option.none : Option Jvm.ClassFile.FieldType), Jvm.Cond.code ({ cls := "com/example/strict_grants/strictgrants/DefectReport", name := "isEmpty", desc := "()Z" } : Jvm.MethodName) prog_5_method_4_code (1 : Nat) (Option.some Jvm.ClassFile.FieldType.boolean), Jvm.Cond.code ({ cls := "java/util/ArrayList", name := "isEmpty", desc := "()Z" } : Jvm.MethodName) jdk_38_method_9_code (1 : Nat) (Option.some Jvm.ClassFile.FieldType.boolean), Jvm.Cond.code ({ cls := "com/example/strict_grants/strictgrants/DefectReport", name := "addBrokenOff", desc := "(IILjava/lang/String;)V" } : Jvm.MethodName) prog_5_method_5_code (4 : Nat) (Option.none : Option Jvm.ClassFile.FieldType), Jvm.Cond.code ({ cls := "com/example/strict_grants/strictgrants/StoreDefect", name := "<init>", desc := "(Ljava/lang/String;IILjava/lang/String;)V" } : Jvm.MethodName) prog_31_method_1_code (5 : Nat) (Option.none : Option Jvm.ClassFile.FieldType), Jvm.Cond.code ({ cls := "java/lang/Record", name := "<init>", desc := "()V" } : Jvm.MethodName) jdk_30_method_1_code (1 : Nat) (Option.none : Option Jvm.ClassFile.FieldType), Jvm.Cond.code ({ cls := "java/lang/StringUTF16", name := "compress", desc := "([CII)[B" } : Jvm.MethodName) jdk_52_method_16_code (6 : Nat) (Option.some (Jvm.ClassFile.FieldType.array Jvm.ClassFile.FieldType.byte)), Jvm.Cond.code ({ cls := "java/lang/StringUTF16", name := "compress", desc := "([CI[BII)I" } : Jvm.MethodName) jdk_52_method_21_code (7 : Nat) (Option.some Jvm.ClassFile.FieldType.int), Jvm.Cond.code ({ cls := "java/lang/StringUTF16", name := "coderFromArrayLen", desc := "([BI)B" } : Jvm.MethodName) jdk_52_method_15_code (2 : Nat) (Option.some Jvm.ClassFile.FieldType.byte)]
set_option maxRecDepth 65536 in
theorem codes_eq : words1.filter isCode = codes1 := rfl
theorem w_codes : ∀ c ∈ words1.filter isCode, c.before args0 about1 = true := by
  rw [codes_eq]
  intro c hc
  simp only [codes1, List.mem_cons, List.not_mem_nil, or_false] at hc
  rcases hc with rfl | rfl | rfl | rfl | rfl | rfl | rfl | rfl | rfl | rfl | rfl | rfl | rfl | rfl | rfl | rfl | rfl | rfl | rfl | rfl | rfl
  · exact w_c0
  · exact w_c1
  · exact w_c2
  · exact w_c3
  · exact w_c4
  · exact w_c5
  · exact w_c6
  · exact w_c7
  · exact w_c8
  · exact w_c9
  · exact w_c10
  · exact w_c11
  · exact w_c12
  · exact w_c13
  · exact w_c14
  · exact w_c15
  · exact w_c16
  · exact w_c17
  · exact w_c18
  · exact w_c19
  · exact w_c20
set_option maxRecDepth 65536 in
theorem w_t1 : (words1.take 24).all (fun c => isCode c || c.before args0 about1) = true := by decide +kernel
set_option maxRecDepth 65536 in
theorem w_t2 : ((words1.drop 24).take 24).all (fun c => isCode c || c.before args0 about1) = true := by decide +kernel
set_option maxRecDepth 65536 in
theorem w_t3 : (((words1.drop 24).drop 24).take 24).all (fun c => isCode c || c.before args0 about1) = true := by decide +kernel
set_option maxRecDepth 65536 in
theorem w_t4 : ((((words1.drop 24).drop 24).drop 24).take 24).all (fun c => isCode c || c.before args0 about1) = true := by decide +kernel
set_option maxRecDepth 65536 in
theorem w_t5 : (((((words1.drop 24).drop 24).drop 24).drop 24).take 24).all (fun c => isCode c || c.before args0 about1) = true := by decide +kernel
set_option maxRecDepth 65536 in
theorem w_t6 : (((((words1.drop 24).drop 24).drop 24).drop 24).drop 24).all (fun c => isCode c || c.before args0 about1) = true := by decide +kernel
theorem w_tables : (allAtoms (Jvm.Cond.code x code maxLocals ret :: tables_1)).before args0 about1 = true := by
  rw [allAtoms_all]
  show words1.all (fun c => c.before args0 about1) = true
  refine all_split ?_ w_codes
  rw [← List.take_append_drop 24 words1, List.all_append, w_t1, ← List.take_append_drop 24 (words1.drop 24), List.all_append, w_t2, ← List.take_append_drop 24 ((words1.drop 24).drop 24), List.all_append, w_t3, ← List.take_append_drop 24 (((words1.drop 24).drop 24).drop 24), List.all_append, w_t4, ← List.take_append_drop 24 ((((words1.drop 24).drop 24).drop 24).drop 24), List.all_append, w_t5, w_t6]
  rfl
set_option maxRecDepth 65536 in
theorem w_rest : rest_1_c.before args0 about1 = true := by decide +kernel
set_option maxRecDepth 65536 in
theorem w_case : (Jvm.Cond.and given_1 narrow_1).before args0 about1 = true := by decide +kernel
set_option maxRecDepth 65536 in
theorem w_consts : constsHeld consts_1 about1 := Jvm.Lit.constsHeldB_iff.mp (by decide +kernel)
theorem w_applies : (headSpec (Jvm.Cond.code x code maxLocals ret :: tables_1) room_1).applies x e0.platform about1 = true :=
  (Spec.applies_iff w_frames).mpr ⟨w_running, w_runnable, w_alone, w_named, w_hears, w_ripe, w_room, w_tables⟩
theorem atStart : AtStart classFile x code maxLocals ret World_1 tables_1 room_1 Calls_1 rest_1 Pre_1 launch0 p0 e0 about1 theMethod args0 below0 :=
  ⟨lists_1, trivial, launch0.admits_env _ _ _, launch0.least_env, fairChoices_fair.cas, fairChoices_fair.clock, w_frames, w_args, w_heap, w_applies, ⟨w_consts, trivial⟩, w_rest, w_case⟩
end start1
theorem witness_1 : WitnessClaimed_1 := ⟨start1.p0, start1.e0, start1.about1, start1.theMethod, start1.args0, start1.below0, start1.atStart⟩
end Jvm.Pilot.@@N@@
