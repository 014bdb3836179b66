import JvmDerived
import JvmDerived.Pilot.@@N@@Statement
import JvmDerived.Pilot.@@N@@Code
set_option linter.unusedVariables false
set_option linter.unusedSimpArgs false
/- laws to paste: Road.backV, pair_says, StrChars.shr0 (cut by pick.py; bodies as the Statement names them) -/
namespace Jvm.Pilot.@@N@@
namespace StrChars
open Jvm Sem ClassFile Op Lib Jvm.Stand Jvm.Free.XT Jvm.Free.ALB Jvm.Free.JM Jvm.Free
open Jvm.Lib.Cold (StaticIs)
/-- a char array whose places are chars -/
def Ch (a : Addr) (A : Cell) (U : State) : Prop := Arr .char a A U ∧ Typed .char A
theorem Ch.mv {a : Addr} {A : Cell} {U U' : State} (h : Ch a A U) (hal : U.vm.Alike U'.vm) (hh : U'.heap = U.heap) : Ch a A U' := ⟨h.1.mv hal hh, h.2⟩
theorem Ch.keep {a : Addr} {A : Cell} {U U' : State} (h : Ch a A U) (hal : U.vm.Alike U'.vm) (hk : U'.heap[a]? = some A) : Ch a A U' := ⟨h.1.keep hal hk, h.2⟩
/-- what place i of a char[]'s cell holds -/
def cv (A : Cell) (i : Nat) : Int32 := match A.slots[i]? with | some (.int x) => x | _ => 0
theorem Ch.get {a : Addr} {A : Cell} {U : State} (h : Ch a A U) {i : Nat} (hi : i < A.slots.size) : A.slots[i]? = some (.int (cv A i)) := by
  have e := Array.getElem?_eq_getElem hi
  have f := h.2 i _ e
  unfold cv; rw [e]
  generalize A.slots[i] = v at f
  cases v <;> simp [fits] at f ⊢
/-- the byte that i2b leaves of a char -/
def lo8 (x : Int32) : Int32 := x.toInt8.toInt32
theorem fits_lo8 (y : Int32) : fits .byte (.int (lo8 y)) = true := by
  have h1 := y.toInt8.le_toInt
  have h2 := y.toInt8.toInt_lt
  simp only [lo8, fits, Bool.and_eq_true, decide_eq_true_eq, Int32.le_iff_toInt_le, Int8.toInt_toInt32, show (-128 : Int32).toInt = -128 from by decide, show (127 : Int32).toInt = 127 from by decide]
  omega
/-- A' is A but that each place j of lo .. hi - 1 holds f j -/
def Laid (A A' : Cell) (lo hi : Nat) (f : Nat → Value) : Prop := A'.cls = A.cls ∧ A'.vm = A.vm ∧ A'.slots.size = A.slots.size ∧ ∀ i, A'.slots[i]? = if lo ≤ i ∧ i < hi then some (f i) else A.slots[i]?
theorem Laid.zero (A : Cell) (lo : Nat) (f : Nat → Value) : Laid A A lo (lo + 0) f := ⟨rfl, rfl, rfl, fun i => by rw [if_neg (by omega)]⟩
theorem Laid.step {A Ak : Cell} {lo k : Nat} {f : Nat → Value} {v : Value} (h : Laid A Ak lo k f) (hlo : lo ≤ k) (hk : k < Ak.slots.size) (hv : v = f k) : Laid A (Ak.setSlot k v) lo (k + 1) f := by
  refine ⟨h.1, h.2.1, by simpa [Cell.setSlot] using h.2.2.1, fun i => ?_⟩
  by_cases e : k = i
  · subst e; rw [Cell.slots_setSlot_self v hk, if_pos (by omega), hv]
  · rw [Cell.slots_setSlot_ne v e, h.2.2.2 i]
    by_cases q : lo ≤ i ∧ i < k
    · rw [if_pos q, if_pos (by omega)]
    · rw [if_neg q, if_neg (by omega)]
def U16 : String := "java/lang/StringUTF16"
namespace Cmp5
def yN : MethodName := ⟨"java/lang/StringUTF16", "compress", "([CI[BII)I"⟩
abbrev yB : ByteArray := jdk_52_method_21_code
theorem d0 : decode yB 0 = .ok (.iconst 0, 1) := by decide +kernel
theorem d1 : decode yB 1 = .ok (.istore 5, 2) := by decide +kernel
theorem d3 : decode yB 3 = .ok (.iload 5, 2) := by decide +kernel
theorem d5 : decode yB 5 = .ok (.iload 4, 2) := by decide +kernel
theorem d7 : decode yB 7 = .ok (.if_icmp (.ge) 37, 3) := by decide +kernel
theorem d10 : decode yB 10 = .ok (.aload_n 0, 1) := by decide +kernel
theorem d11 : decode yB 11 = .ok (.iload_n 1, 1) := by decide +kernel
theorem d12 : decode yB 12 = .ok (.caload, 1) := by decide +kernel
theorem d13 : decode yB 13 = .ok (.istore 6, 2) := by decide +kernel
theorem d15 : decode yB 15 = .ok (.iload 6, 2) := by decide +kernel
theorem d17 : decode yB 17 = .ok (.sipush 255, 3) := by decide +kernel
theorem d20 : decode yB 20 = .ok (.if_icmp (.le) 6, 3) := by decide +kernel
theorem d26 : decode yB 26 = .ok (.aload_n 2, 1) := by decide +kernel
theorem d27 : decode yB 27 = .ok (.iload_n 3, 1) := by decide +kernel
theorem d28 : decode yB 28 = .ok (.iload 6, 2) := by decide +kernel
theorem d30 : decode yB 30 = .ok (.i2b, 1) := by decide +kernel
theorem d31 : decode yB 31 = .ok (.bastore, 1) := by decide +kernel
theorem d32 : decode yB 32 = .ok (.iinc 1 1, 3) := by decide +kernel
theorem d35 : decode yB 35 = .ok (.iinc 3 1, 3) := by decide +kernel
theorem d38 : decode yB 38 = .ok (.iinc 5 1, 3) := by decide +kernel
theorem d41 : decode yB 41 = .ok (.goto (-38), 3) := by decide +kernel
theorem d44 : decode yB 44 = .ok (.iload 4, 2) := by decide +kernel
theorem d46 : decode yB 46 = .ok (.ireturn, 1) := by decide +kernel
def site : List Cond := []
def tab : Cond := tabOf yN yB 7 (some .int) site
def P (b : Addr) (A : Cell) (d : Addr) (B : Cell) (o q len : Nat) (args : Array Value) (s : State) : Prop := args = #[.ref b, .int (Int32.ofNat o), .ref d, .int (Int32.ofNat q), .int (Int32.ofNat len)] ∧ Ch b A s ∧ Arr .byte d B s ∧ b ≠ d ∧ o + len ≤ A.slots.size ∧ q + len ≤ B.slots.size ∧ ∀ i, i < len → ¬ 255 < cv A (o + i)
def E (b : Addr) (A : Cell) (d : Addr) (B : Cell) (o q len : Nat) (r : Option Value) (s u : State) : Prop := r = some (.int (Int32.ofNat len)) ∧ ∃ B', Put d B' s u ∧ Laid B B' q (q + len) (fun j => Value.int (lo8 (cv A (o + (j - q)))))
/-- no char of the range above 255: len; the places written hold each char's low byte -/
theorem law (l : Launch) (b : Addr) (A : Cell) (d : Addr) (B : Cell) (o q len : Nat) : Law l yN 5 5 0 0 yB 7 (some .int) site (P b A d B o q len) (E b A d B o q len) (copyLocs d q len) 0 0 := by
  refine Law.of_walk (plainFor_of_name (by decide +kernel)) (by decide +kernel) (by decide +kernel) (by decide) (fun _ _ h => by rw [h.1]; rfl) (fun _ U U' hal hh h => ⟨h.1, h.2.1.mv hal hh, h.2.2.1.mv hal hh, h.2.2.2⟩) (fun r U U' V V' h1 hal h2 h => ⟨h.1, h.2.elim fun B' q => ⟨B', q.1.mv h1 h2, q.2⟩⟩) ?_
  intro p e s m args below meth c s₁ X0 hexec hbytes hml hret hlk hnm hown hh0 W hP
  obtain ⟨rfl, hA, hB, hne, l1, l2, hp⟩ := hP
  have c1 : Steps p.tables e below (s₁.setTop (entryFrame m #[.ref b, .int (Int32.ofNat o), .ref d, .int (Int32.ofNat q), .int (Int32.ofNat len)] 7)) (s₁.setTop (mkF m 0 #[.val (.ref b), .val (.int (Int32.ofNat o)), .val (.ref d), .val (.int (Int32.ofNat q)), .val (.int (Int32.ofNat len)), .unset, .unset] [])) := entry rfl
  have hA0 := hA.1.mv X0.warmed.alike hh0
  have hB0 := hB.mv X0.warmed.alike hh0
  have a31 := hA.1.2.2.2
  have c2 : Steps p.tables e below (s₁.setTop (entryFrame m #[.ref b, .int (Int32.ofNat o), .ref d, .int (Int32.ofNat q), .int (Int32.ofNat len)] 7)) (s₁.setTop (mkF m 3 #[.val (.ref b), .val (.int (Int32.ofNat o)), .val (.ref d), .val (.int (Int32.ofNat q)), .val (.int (Int32.ofNat len)), .val (.int 0), .unset] [])) := c1.trans (by
    refine iconstV X0.here hexec rfl 0 (hb hbytes d0) (by decide) ?_
    refine XS.istore X0.here hexec rfl (hb hbytes d1) rfl rfl ?_
    exact Steps.refl _)
  have loop : ∀ (r i : Nat), i + r = len → ∀ (z : Slot), (z = .unset ∨ ∃ w, z = .val w ∧ w.category = 1) → ∀ (Tl : State) (Bk : Cell), Stand p l e { frames := 0, locals := 0, cells := 0, slots := 0 } s m #[.ref b, .int (Int32.ofNat o), .ref d, .int (Int32.ofNat q), .int (Int32.ofNat len)] below meth c Tl ([] ++ copyLocs d q i) 0 0 → Put d Bk s₁ Tl → Laid B Bk q (q + i) (fun j => Value.int (lo8 (cv A (o + (j - q))))) →
      Steps p.tables e below (s₁.setTop (entryFrame m #[.ref b, .int (Int32.ofNat o), .ref d, .int (Int32.ofNat q), .int (Int32.ofNat len)] 7)) (Tl.setTop (mkF m 3 #[.val (.ref b), .val (.int (Int32.ofNat (o + i))), .val (.ref d), .val (.int (Int32.ofNat (q + i))), .val (.int (Int32.ofNat len)), .val (.int (Int32.ofNat i)), z] [])) → ∃ (T' : State) (B' : Cell) (z' : Slot), Stand p l e { frames := 0, locals := 0, cells := 0, slots := 0 } s m #[.ref b, .int (Int32.ofNat o), .ref d, .int (Int32.ofNat q), .int (Int32.ofNat len)] below meth c T' ([] ++ copyLocs d q len) 0 0 ∧ Put d B' s₁ T' ∧ Laid B B' q (q + len) (fun j => Value.int (lo8 (cv A (o + (j - q))))) ∧
      Steps p.tables e below (s₁.setTop (entryFrame m #[.ref b, .int (Int32.ofNat o), .ref d, .int (Int32.ofNat q), .int (Int32.ofNat len)] 7)) (T'.setTop (mkF m 3 #[.val (.ref b), .val (.int (Int32.ofNat (o + len))), .val (.ref d), .val (.int (Int32.ofNat (q + len))), .val (.int (Int32.ofNat len)), .val (.int (Int32.ofNat len)), z'] [])) := by
    intro r
    induction r with
    | zero =>
      intro i hi z hz Tl Bk Xl pl fl cl
      have hil : i = len := by omega
      rw [hil] at Xl fl cl
      exact ⟨Tl, Bk, z, Xl, pl, fl, cl⟩
    | succ r ih =>
      intro i hi z hz Tl Bk Xl pl fl cl
      have all := X0.warmed.alike.symm.trans Xl.warmed.alike
      have hAl := hA0.keep all (pl.other hne hA0.1)
      have hBk := hB0.like all pl.1 fl.1 fl.2.1 fl.2.2.1
      have hlt : q + i < Bk.slots.size := by rw [fl.2.2.1]; omega
      have c3 : Steps p.tables e below (s₁.setTop (entryFrame m #[.ref b, .int (Int32.ofNat o), .ref d, .int (Int32.ofNat q), .int (Int32.ofNat len)] 7)) (Tl.setTop (mkF m 12 #[.val (.ref b), .val (.int (Int32.ofNat (o + i))), .val (.ref d), .val (.int (Int32.ofNat (q + i))), .val (.int (Int32.ofNat len)), .val (.int (Int32.ofNat i)), z] [.int (Int32.ofNat (o + i)), .ref b])) := cl.trans (by
        refine XS.iload Xl.here hexec rfl (hb hbytes d3) rfl ?_
        refine XS.iload Xl.here hexec rfl (hb hbytes d5) rfl ?_
        refine XS.icmpNo Xl.here hexec rfl (hb hbytes d7) rfl (ii_ge_f (lt32 (by omega) (by omega))) ?_
        refine XS.aloadN Xl.here hexec rfl (hb hbytes d10) rfl rfl ?_
        refine XS.iloadN Xl.here hexec rfl (hb hbytes d11) rfl ?_
        exact Steps.refl _)
      have c4 : Steps p.tables e below (s₁.setTop (entryFrame m #[.ref b, .int (Int32.ofNat o), .ref d, .int (Int32.ofNat q), .int (Int32.ofNat len)] 7)) (Tl.setTop (mkF m 13 #[.val (.ref b), .val (.int (Int32.ofNat (o + i))), .val (.ref d), .val (.int (Int32.ofNat (q + i))), .val (.int (Int32.ofNat len)), .val (.int (Int32.ofNat i)), z] [.int (cv A (o + i))])) := c3.trans (by
        refine Xl.aget hexec hAl rfl (hA.get (i := o + i) (by omega)) rfl rfl (hb hbytes d12) ?_
        exact Steps.refl _)
      have c5 : Steps p.tables e below (s₁.setTop (entryFrame m #[.ref b, .int (Int32.ofNat o), .ref d, .int (Int32.ofNat q), .int (Int32.ofNat len)] 7)) (Tl.setTop (mkF m 15 #[.val (.ref b), .val (.int (Int32.ofNat (o + i))), .val (.ref d), .val (.int (Int32.ofNat (q + i))), .val (.int (Int32.ofNat len)), .val (.int (Int32.ofNat i)), .val (.int (cv A (o + i)))] [])) := c4.trans (by
        refine XS.istoreS Xl.here hexec rfl (hb hbytes d13) rfl rfl hz ?_
        exact Steps.refl _)
      have c6 : Steps p.tables e below (s₁.setTop (entryFrame m #[.ref b, .int (Int32.ofNat o), .ref d, .int (Int32.ofNat q), .int (Int32.ofNat len)] 7)) (Tl.setTop (mkF m 31 #[.val (.ref b), .val (.int (Int32.ofNat (o + i))), .val (.ref d), .val (.int (Int32.ofNat (q + i))), .val (.int (Int32.ofNat len)), .val (.int (Int32.ofNat i)), .val (.int (cv A (o + i)))] [.int (lo8 (cv A (o + i))), .int (Int32.ofNat (q + i)), .ref d])) := c5.trans (by
        refine XS.iload Xl.here hexec rfl (hb hbytes d15) rfl ?_
        refine sipushV Xl.here hexec rfl 255 (hb hbytes d17) (by decide) ?_
        refine XS.icmpYes Xl.here hexec rfl (pc0 := 20) rfl (hb hbytes d20) rfl (ii_le_t (hp i (by omega))) (by decide) rfl ?_
        refine XS.aloadN Xl.here hexec rfl (hb hbytes d26) rfl rfl ?_
        refine XS.iloadN Xl.here hexec rfl (hb hbytes d27) rfl ?_
        refine XS.iload Xl.here hexec rfl (hb hbytes d28) rfl ?_
        refine i2b Xl.here hexec rfl (hb hbytes d30) rfl ?_
        exact Steps.refl _)
      obtain ⟨T7, X7, p7, st7⟩ := Xl.aput hexec hBk rfl hlt rfl (fits_lo8 (cv A (o + i))) (g := (mkF m 31 #[.val (.ref b), .val (.int (Int32.ofNat (o + i))), .val (.ref d), .val (.int (Int32.ofNat (q + i))), .val (.int (Int32.ofNat len)), .val (.int (Int32.ofNat i)), .val (.int (cv A (o + i)))] [.int (lo8 (cv A (o + i))), .int (Int32.ofNat (q + i)), .ref d])) rfl (rest := []) rfl (hb hbytes d31)
      have c8 : Steps p.tables e below (s₁.setTop (entryFrame m #[.ref b, .int (Int32.ofNat o), .ref d, .int (Int32.ofNat q), .int (Int32.ofNat len)] 7)) (T7.setTop (mkF m 32 #[.val (.ref b), .val (.int (Int32.ofNat (o + i))), .val (.ref d), .val (.int (Int32.ofNat (q + i))), .val (.int (Int32.ofNat len)), .val (.int (Int32.ofNat i)), .val (.int (cv A (o + i)))] [])) := c6.trans (st7 _ (Steps.refl _))
      have c9 : Steps p.tables e below (s₁.setTop (entryFrame m #[.ref b, .int (Int32.ofNat o), .ref d, .int (Int32.ofNat q), .int (Int32.ofNat len)] 7)) (T7.setTop (mkF m 3 #[.val (.ref b), .val (.int (Int32.ofNat (o + i) + 1)), .val (.ref d), .val (.int (Int32.ofNat (q + i) + 1)), .val (.int (Int32.ofNat len)), .val (.int (Int32.ofNat i + 1)), .val (.int (cv A (o + i)))] [])) := c8.trans (by
        refine iincV X7.here hexec rfl 1 (hb hbytes d32) (by decide) rfl rfl ?_
        refine iincV X7.here hexec rfl 1 (hb hbytes d35) (by decide) rfl rfl ?_
        refine iincV X7.here hexec rfl 1 (hb hbytes d38) (by decide) rfl rfl ?_
        refine XS.goto X7.here hexec rfl (pc0 := 41) rfl (hb hbytes d41) (by decide) rfl ?_
        exact Steps.refl _)
      have c10 : Steps p.tables e below (s₁.setTop (entryFrame m #[.ref b, .int (Int32.ofNat o), .ref d, .int (Int32.ofNat q), .int (Int32.ofNat len)] 7)) (T7.setTop (mkF m 3 #[.val (.ref b), .val (.int (Int32.ofNat (o + (i + 1)))), .val (.ref d), .val (.int (Int32.ofNat (q + (i + 1)))), .val (.int (Int32.ofNat len)), .val (.int (Int32.ofNat (i + 1))), .val (.int (cv A (o + i)))] [])) := by
        have := c9
        rw [succ32, succ32, succ32] at this
        exact this
      exact ih (i + 1) (by omega) _ (Or.inr ⟨_, rfl, rfl⟩) T7 _ (by rw [copyLocs_step, ← List.append_assoc]; exact X7) (pl.trans p7) (fl.step (by omega) hlt (by simp)) c10
  obtain ⟨T9, B9, z9, X9, p9, f9, g9⟩ := loop len 0 (by omega) .unset (Or.inl rfl) s₁ B (by simpa [copyLocs] using X0) ⟨hB0.1, fun _ _ => rfl, rfl⟩ (Laid.zero _ _ _) c2
  have c11 : Steps p.tables e below (s₁.setTop (entryFrame m #[.ref b, .int (Int32.ofNat o), .ref d, .int (Int32.ofNat q), .int (Int32.ofNat len)] 7)) (T9.setTop (mkF m 46 #[.val (.ref b), .val (.int (Int32.ofNat (o + len))), .val (.ref d), .val (.int (Int32.ofNat (q + len))), .val (.int (Int32.ofNat len)), .val (.int (Int32.ofNat len)), z9] [.int (Int32.ofNat len)])) := g9.trans (by
    refine XS.iload X9.here hexec rfl (hb hbytes d3) rfl ?_
    refine XS.iload X9.here hexec rfl (hb hbytes d5) rfl ?_
    refine XS.icmpYes X9.here hexec rfl (pc0 := 7) rfl (hb hbytes d7) rfl (ii_ge_t (nlt32 (by omega) (Nat.le_refl _))) (by decide) rfl ?_
    refine XS.iload X9.here hexec rfl (hb hbytes d44) rfl ?_
    exact Steps.refl _)
  exact ⟨T9, some (.int (Int32.ofNat len)), _, _, _, X9, by simp, rfl, rfl, (fun h => by cases h), ⟨rfl, B9, p9.from hh0, f9⟩, fun fs hl => c11.trans (X9.ireturnOut hexec hret rfl (Or.inl rfl) (hb hbytes d46) hl)⟩
end Cmp5
namespace Cmp3
def yN : MethodName := ⟨"java/lang/StringUTF16", "compress", "([CII)[B"⟩
abbrev yB : ByteArray := jdk_52_method_16_code
theorem d0 : decode yB 0 = .ok (.iload_n 2, 1) := by decide +kernel
theorem d1 : decode yB 1 = .ok (.newarray .byte, 2) := by decide +kernel
theorem d3 : decode yB 3 = .ok (.astore_n 3, 1) := by decide +kernel
theorem d4 : decode yB 4 = .ok (.aload_n 0, 1) := by decide +kernel
theorem d5 : decode yB 5 = .ok (.iload_n 1, 1) := by decide +kernel
theorem d6 : decode yB 6 = .ok (.aload_n 3, 1) := by decide +kernel
theorem d7 : decode yB 7 = .ok (.iconst 0, 1) := by decide +kernel
theorem d8 : decode yB 8 = .ok (.iload_n 2, 1) := by decide +kernel
theorem d9 : decode yB 9 = .ok (.invokestatic 115, 3) := by decide +kernel
theorem d12 : decode yB 12 = .ok (.istore 4, 2) := by decide +kernel
theorem d14 : decode yB 14 = .ok (.iload 4, 2) := by decide +kernel
theorem d16 : decode yB 16 = .ok (.iload_n 2, 1) := by decide +kernel
theorem d17 : decode yB 17 = .ok (.if_icmp (.eq) 40, 3) := by decide +kernel
theorem d57 : decode yB 57 = .ok (.aload_n 3, 1) := by decide +kernel
theorem d58 : decode yB 58 = .ok (.areturn, 1) := by decide +kernel
def site : List Cond := [.arrayClass .byte, Cmp5.tab] ++ staticW U16 115 Cmp5.yN
def tab : Cond := tabOf yN yB 6 (some (.array .byte)) site
def P (b : Addr) (A : Cell) (o len : Nat) (args : Array Value) (s : State) : Prop := args = #[.ref b, .int (Int32.ofNat o), .int (Int32.ofNat len)] ∧ Ch b A s ∧ o + len ≤ A.slots.size ∧ len ≤ 536870912 ∧ ∀ i, i < len → ¬ 255 < cv A (o + i)
def E (b : Addr) (A : Cell) (o len : Nat) (r : Option Value) (s u : State) : Prop := NewArr .byte "[B" len (fun j => .int (lo8 (cv A (o + j)))) r s u ∧ u.heap.size = s.heap.size + 1
/-- no char of the range above 255: a new byte[] of their low bytes -/
theorem law (l : Launch) (b : Addr) (A : Cell) (o len : Nat) : Law l yN 3 3 1 18 yB 6 (some (.array .byte)) site (P b A o len) (E b A o len) [] 1 len := by
  refine Law.of_walk (plainFor_of_name (by decide +kernel)) (by decide +kernel) (by decide +kernel) (by decide) (fun _ _ h => by rw [h.1]; rfl) (fun _ U U' hal hh h => ⟨h.1, h.2.1.mv hal hh, h.2.2⟩) (fun r U U' V V' h1 hal h2 h => ⟨NewArr.mv r U U' V V' h1 hal h2 h.1, by rw [h1, h2]; exact h.2⟩) ?_
  intro p e s m args below meth c s₁ X0 hexec hbytes hml hret hlk hnm hown hh0 W hP
  obtain ⟨rfl, hA, l1, l2, hp⟩ := hP
  have a31 := hA.1.2.2.2
  have c1 : Steps p.tables e below (s₁.setTop (entryFrame m #[.ref b, .int (Int32.ofNat o), .int (Int32.ofNat len)] 6)) (s₁.setTop (mkF m 0 #[.val (.ref b), .val (.int (Int32.ofNat o)), .val (.int (Int32.ofNat len)), .unset, .unset, .unset] [])) := entry rfl
  have c2 : Steps p.tables e below (s₁.setTop (entryFrame m #[.ref b, .int (Int32.ofNat o), .int (Int32.ofNat len)] 6)) (s₁.setTop (mkF m 1 #[.val (.ref b), .val (.int (Int32.ofNat o)), .val (.int (Int32.ofNat len)), .unset, .unset, .unset] [.int (Int32.ofNat len)])) := c1.trans (by
    refine XS.iloadN X0.here hexec rfl (hb hbytes d0) rfl ?_
    exact Steps.refl _)
  obtain ⟨T3, B3, X3, ba3, bs3, bv3, bh3, bf3, st3⟩ := X0.anew hexec (atype := .byte) (wk W (.arrayClass .byte)) rfl (by show len * 1 ≤ _; omega) (by omega) (g := (mkF m 1 #[.val (.ref b), .val (.int (Int32.ofNat o)), .val (.int (Int32.ofNat len)), .unset, .unset, .unset] [.int (Int32.ofNat len)])) rfl (hb hbytes d1) (rest := []) rfl (Nat.le_refl _) (by show 0 + len ≤ len; omega)
  rw [hh0] at ba3 st3
  have kp3 : XT.Kept s T3 := (XT.Kept.of_eq hh0).push bh3
  have hA3 := hA.keep X3.warmed.alike (kp3 _ _ hA.1.1)
  have hne : b ≠ s.heap.size := hA.1.ne
  have c4 : Steps p.tables e below (s₁.setTop (entryFrame m #[.ref b, .int (Int32.ofNat o), .int (Int32.ofNat len)] 6)) (T3.setTop (mkF m 3 #[.val (.ref b), .val (.int (Int32.ofNat o)), .val (.int (Int32.ofNat len)), .unset, .unset, .unset] [.ref s.heap.size])) := c2.trans (st3 _ (Steps.refl _))
  have c5 : Steps p.tables e below (s₁.setTop (entryFrame m #[.ref b, .int (Int32.ofNat o), .int (Int32.ofNat len)] 6)) (T3.setTop (mkF m 9 #[.val (.ref b), .val (.int (Int32.ofNat o)), .val (.int (Int32.ofNat len)), .val (.ref s.heap.size), .unset, .unset] [.int (Int32.ofNat len), .int 0, .ref s.heap.size, .int (Int32.ofNat o), .ref b])) := c4.trans (by
    refine XS.astoreN X3.here hexec rfl (hb hbytes d3) rfl rfl rfl ?_
    refine XS.aloadN X3.here hexec rfl (hb hbytes d4) rfl rfl ?_
    refine XS.iloadN X3.here hexec rfl (hb hbytes d5) rfl ?_
    refine XS.aloadN X3.here hexec rfl (hb hbytes d6) rfl rfl ?_
    refine iconstV X3.here hexec rfl 0 (hb hbytes d7) (by decide) ?_
    refine XS.iloadN X3.here hexec rfl (hb hbytes d8) rfl ?_
    exact Steps.refl _)
  obtain ⟨v6, T6, X6, E6, g6⟩ := X3.callS hexec (Cmp5.law l b A s.heap.size B3 o 0 len) hown (wks W (staticW U16 115 Cmp5.yN)) (wk W Cmp5.tab) (W := 0) (Nat.le_of_ble_eq_true rfl) (Nat.le_of_ble_eq_true rfl) (Nat.le_refl _) (by show 0 + len + 0 ≤ len; omega) (g := (mkF m 9 #[.val (.ref b), .val (.int (Int32.ofNat o)), .val (.int (Int32.ofNat len)), .val (.ref s.heap.size), .unset, .unset] [.int (Int32.ofNat len), .int (Int32.ofNat 0), .ref s.heap.size, .int (Int32.ofNat o), .ref b])) rfl (by rw [hml]; rfl) c5 (argsL := [.ref b, .int (Int32.ofNat o), .ref s.heap.size, .int (Int32.ofNat 0), .int (Int32.ofNat len)]) (rest := []) rfl rfl (by show 2 * 0 + 0 ≤ _; decide) (hb hbytes d9) (⟨rfl, hA3, ba3, hne, l1, by rw [bs3]; simp, hp⟩)
  obtain ⟨rfl, B6, p6, f6⟩ := E6
  have c7 : Steps p.tables e below (s₁.setTop (entryFrame m #[.ref b, .int (Int32.ofNat o), .int (Int32.ofNat len)] 6)) (T6.setTop (mkF m 12 #[.val (.ref b), .val (.int (Int32.ofNat o)), .val (.int (Int32.ofNat len)), .val (.ref s.heap.size), .unset, .unset] [.int (Int32.ofNat len)])) := g6
  have c8 : Steps p.tables e below (s₁.setTop (entryFrame m #[.ref b, .int (Int32.ofNat o), .int (Int32.ofNat len)] 6)) (T6.setTop (mkF m 58 #[.val (.ref b), .val (.int (Int32.ofNat o)), .val (.int (Int32.ofNat len)), .val (.ref s.heap.size), .val (.int (Int32.ofNat len)), .unset] [.ref s.heap.size])) := c7.trans (by
    refine XS.istore X6.here hexec rfl (hb hbytes d12) rfl rfl ?_
    refine XS.iload X6.here hexec rfl (hb hbytes d14) rfl ?_
    refine XS.iloadN X6.here hexec rfl (hb hbytes d16) rfl ?_
    refine XS.icmpYes X6.here hexec rfl (pc0 := 17) rfl (hb hbytes d17) rfl (ii_eq_t rfl) (by decide) rfl ?_
    refine XS.aloadN X6.here hexec rfl (hb hbytes d57) rfl rfl ?_
    exact Steps.refl _)
  have X8 := X6.wide (L' := []) (cells' := 1) (slots' := len) (fun x hx hlt => by
    simp only [List.nil_append, copyLocs, List.mem_map, List.mem_range] at hx
    obtain ⟨i, -, rfl⟩ := hx
    exact absurd hlt (Nat.lt_irrefl _)) (Nat.le_refl _) (by omega)
  exact ⟨T6, some (.ref s.heap.size), _, _, _, X8, rfl, rfl, rfl, (fun h => by cases h), ⟨⟨rfl, B6, ba3.like (X3.warmed.alike.symm.trans X6.warmed.alike) p6.1 f6.1 f6.2.1 f6.2.2.1, f6.2.1.trans bv3, by rw [X6.warmed.alike.findClass, f6.1]; exact bf3, by rw [f6.2.2.1, bs3]; simp, fun j hj => by rw [f6.2.2.2 j, if_pos (by omega)]; rfl, kp3.put p6 (Nat.le_refl _)⟩, by rw [p6.2.2, bh3, hh0]; simp⟩, fun fs hl => c8.trans (X8.areturnOut hexec rfl hret rfl (hb hbytes d58) hl)⟩
end Cmp3
namespace CodL
def yN : MethodName := ⟨"java/lang/StringUTF16", "coderFromArrayLen", "([BI)B"⟩
abbrev yB : ByteArray := jdk_52_method_15_code
theorem d0 : decode yB 0 = .ok (.iload_n 1, 1) := by decide +kernel
theorem d1 : decode yB 1 = .ok (.aload_n 0, 1) := by decide +kernel
theorem d2 : decode yB 2 = .ok (.arraylength, 1) := by decide +kernel
theorem d3 : decode yB 3 = .ok (.isub, 1) := by decide +kernel
theorem d4 : decode yB 4 = .ok (.bipush 31, 2) := by decide +kernel
theorem d6 : decode yB 6 = .ok (.iushr, 1) := by decide +kernel
theorem d7 : decode yB 7 = .ok (.i2b, 1) := by decide +kernel
theorem d8 : decode yB 8 = .ok (.ireturn, 1) := by decide +kernel
def site : List Cond := []
def tab : Cond := tabOf yN yB 2 (some .byte) site
def P (d : Addr) (B : Cell) (args : Array Value) (s : State) : Prop := args = #[.ref d, .int (Int32.ofNat B.slots.size)] ∧ Arr .byte d B s
def E (r : Option Value) (s u : State) : Prop := XT.PureE (some (.int 0)) r s u
/-- an array as long as the number of chars: LATIN1 -/
theorem law (l : Launch) (d : Addr) (B : Cell) : Law l yN 2 2 0 0 yB 2 (some .byte) site (P d B) E [] 0 0 := by
  refine Law.of_walk (plainFor_of_name (by decide +kernel)) (by decide +kernel) (by decide +kernel) (by decide) (fun _ _ h => by rw [h.1]; rfl) (fun _ U U' hal hh h => ⟨h.1, h.2.mv hal hh⟩) (fun r U U' V V' h1 hal h2 h => XT.PureE.mv r U U' V V' h1 hal h2 h) ?_
  intro p e s m args below meth c s₁ X0 hexec hbytes hml hret hlk hnm hown hh0 W hP
  obtain ⟨rfl, hB⟩ := hP
  have hB0 := hB.mv X0.warmed.alike hh0
  have c1 : Steps p.tables e below (s₁.setTop (entryFrame m #[.ref d, .int (Int32.ofNat B.slots.size)] 2)) (s₁.setTop (mkF m 0 #[.val (.ref d), .val (.int (Int32.ofNat B.slots.size))] [])) := entry rfl
  have c2 : Steps p.tables e below (s₁.setTop (entryFrame m #[.ref d, .int (Int32.ofNat B.slots.size)] 2)) (s₁.setTop (mkF m 2 #[.val (.ref d), .val (.int (Int32.ofNat B.slots.size))] [.ref d, .int (Int32.ofNat B.slots.size)])) := c1.trans (by
    refine XS.iloadN X0.here hexec rfl (hb hbytes d0) rfl ?_
    refine XS.aloadN X0.here hexec rfl (hb hbytes d1) rfl rfl ?_
    exact Steps.refl _)
  have c3 : Steps p.tables e below (s₁.setTop (entryFrame m #[.ref d, .int (Int32.ofNat B.slots.size)] 2)) (s₁.setTop (mkF m 8 #[.val (.ref d), .val (.int (Int32.ofNat B.slots.size))] [.int (lo8 (ushr (Int32.ofNat B.slots.size - Int32.ofNat B.slots.size) 31))])) := c2.trans (by
    refine X0.alen hexec hB0 rfl rfl (hb hbytes d2) ?_
    refine XS.isub X0.here hexec rfl (hb hbytes d3) rfl ?_
    refine bipushV X0.here hexec rfl 31 (hb hbytes d4) (by decide) ?_
    refine iushr X0.here hexec rfl (hb hbytes d6) rfl ?_
    refine i2b X0.here hexec rfl (hb hbytes d7) rfl ?_
    exact Steps.refl _)
  have e0 : lo8 (ushr (Int32.ofNat B.slots.size - Int32.ofNat B.slots.size) 31) = 0 := by rw [Int32.sub_self]; decide
  rw [e0] at c3
  exact ⟨s₁, some (.int 0), _, _, _, X0, rfl, rfl, rfl, (fun h => by cases h), ⟨rfl, hh0⟩, fun fs hl => c3.trans (X0.ireturnOut hexec hret rfl (Or.inr (Or.inr (Or.inl rfl))) (hb hbytes d8) hl)⟩
end CodL
/-- the String at a is Latin-1 over a new byte[] (the heap's one new cell): the low bytes of the len chars of A from o on; every cell but a is kept -/
def Got (a : Addr) (D : Cell) (fV fC : Field) (A : Cell) (o len : Nat) (r : Option Value) (s u : State) : Prop := r = none ∧ ∃ D' V : Cell, Blank "java/lang/String" a D' u ∧ Same D D' [fV.slot, fC.slot] ∧ D'.slots[fV.slot]? = some (.ref s.heap.size) ∧ D'.slots[fC.slot]? = some (.int 0) ∧ Arr .byte s.heap.size V u ∧ V.vm = .none ∧ u.vm.findClass "[B" = some V.cls ∧ V.slots.size = len ∧ (∀ j, j < len → V.slots[j]? = some (.int (lo8 (cv A (o + j))))) ∧ (∀ (y : Addr) (c : Cell), y ≠ a → s.heap[y]? = some c → u.heap[y]? = some c) ∧ u.heap.size = s.heap.size + 1
theorem Got.mv {a : Addr} {D A : Cell} {fV fC : Field} {o len : Nat} : ∀ r (U U' V V' : State), U'.heap = U.heap → V.vm.Alike V'.vm → V'.heap = V.heap → Got a D fV fC A o len r U V → Got a D fV fC A o len r U' V' :=
  fun r U U' V V' h1 hal h2 ⟨e0, D', X, a1, a2, a3, a4, a5, a6, a7, a8, a9, a10, a11⟩ => ⟨e0, D', X, a1.mv hal h2, a2, by rw [h1]; exact a3, a4, by rw [h1]; exact a5.mv hal h2, a6, by rw [hal.findClass]; exact a7, a8, a9, by rw [h1, h2]; exact a10, by rw [h1, h2]; exact a11⟩
namespace New4
def yN : MethodName := ⟨"java/lang/String", "<init>", "([CIILjava/lang/Void;)V"⟩
abbrev yB : ByteArray := jdk_42_method_149_code
theorem d0 : decode yB 0 = .ok (.aload_n 0, 1) := by decide +kernel
theorem d1 : decode yB 1 = .ok (.invokespecial 1, 3) := by decide +kernel
theorem d4 : decode yB 4 = .ok (.iload_n 3, 1) := by decide +kernel
theorem d5 : decode yB 5 = .ok (.ifCond (.ne) 22, 3) := by decide +kernel
theorem d27 : decode yB 27 = .ok (.getstatic 38, 3) := by decide +kernel
theorem d30 : decode yB 30 = .ok (.ifCond (.eq) 28, 3) := by decide +kernel
theorem d33 : decode yB 33 = .ok (.aload_n 1, 1) := by decide +kernel
theorem d34 : decode yB 34 = .ok (.iload_n 2, 1) := by decide +kernel
theorem d35 : decode yB 35 = .ok (.iload_n 3, 1) := by decide +kernel
theorem d36 : decode yB 36 = .ok (.invokestatic 177, 3) := by decide +kernel
theorem d39 : decode yB 39 = .ok (.astore 5, 2) := by decide +kernel
theorem d41 : decode yB 41 = .ok (.aload_n 0, 1) := by decide +kernel
theorem d42 : decode yB 42 = .ok (.aload 5, 2) := by decide +kernel
theorem d44 : decode yB 44 = .ok (.iload_n 3, 1) := by decide +kernel
theorem d45 : decode yB 45 = .ok (.invokestatic 47, 3) := by decide +kernel
theorem d48 : decode yB 48 = .ok (.putfield 15, 3) := by decide +kernel
theorem d51 : decode yB 51 = .ok (.aload_n 0, 1) := by decide +kernel
theorem d52 : decode yB 52 = .ok (.aload 5, 2) := by decide +kernel
theorem d54 : decode yB 54 = .ok (.putfield 9, 3) := by decide +kernel
theorem d57 : decode yB 57 = .ok (.return_, 1) := by decide +kernel
def site : List Cond := [.fieldLink "java/lang/String" 38 "java/lang/String" "COMPACT_STRINGS" "Z", Cmp3.tab, CodL.tab, .laysFinal "java/lang/String" "java/lang/String" "value" "[B", .fieldLink "java/lang/String" 9 "java/lang/String" "value" "[B", .laysFinal "java/lang/String" "java/lang/String" "coder" "B", .fieldLink "java/lang/String" 15 "java/lang/String" "coder" "B"] ++ objW "java/lang/String" 1 ++ staticW "java/lang/String" 177 Cmp3.yN ++ staticW "java/lang/String" 47 CodL.yN
def tab : Cond := tabOf yN yB 6 none site
def P (a : Addr) (D : Cell) (fV fC : Field) (b : Addr) (A : Cell) (z : Int32) (o len : Nat) (args : Array Value) (s : State) : Prop := args = #[.ref a, .ref b, .int (Int32.ofNat o), .int (Int32.ofNat len), .null] ∧ Blank "java/lang/String" a D s ∧ Found "java/lang/String" "value" "[B" fV s ∧ Found "java/lang/String" "coder" "B" fC s ∧ Ch b A s ∧ StaticIs s "java/lang/String" "COMPACT_STRINGS" "Z" (.int z) ∧ ¬ z = 0 ∧ 0 < len ∧ o + len ≤ A.slots.size ∧ len ≤ 536870912 ∧ ∀ i, i < len → ¬ 255 < cv A (o + i)
def E (a : Addr) (D : Cell) (fV fC : Field) (A : Cell) (o len : Nat) (r : Option Value) (s u : State) : Prop := Got a D fV fC A o len r s u
/-- len > 0, no char of the range above 255: a Latin-1 String of their low bytes -/
theorem law (l : Launch) (a : Addr) (D : Cell) (fV fC : Field) (b : Addr) (A : Cell) (z : Int32) (o len : Nat) : Law l yN 5 4 2 35 yB 6 none site (P a D fV fC b A z o len) (E a D fV fC A o len) [⟨a, fC.slot⟩, ⟨a, fV.slot⟩] 1 len := by
  refine Law.of_walk (plainFor_of_name (by decide +kernel)) (by decide +kernel) (by decide +kernel) (by decide) (fun _ _ h => by rw [h.1]; rfl) (fun _ U U' hal hh h => ⟨h.1, h.2.1.mv hal hh, h.2.2.1.al hal, h.2.2.2.1.al hal, h.2.2.2.2.1.mv hal hh, h.2.2.2.2.2.1.there hal hh, h.2.2.2.2.2.2⟩) (fun r U U' V V' h1 hal h2 h => Got.mv r U U' V V' h1 hal h2 h) ?_
  intro p e s m args below meth c s₁ X0 hexec hbytes hml hret hlk hnm hown hh0 W hP
  obtain ⟨rfl, hB, f1, f2, hA, s1, hz, l0, l1, l2, hp⟩ := hP
  have a31 := hA.1.2.2.2
  have c1 : Steps p.tables e below (s₁.setTop (entryFrame m #[.ref a, .ref b, .int (Int32.ofNat o), .int (Int32.ofNat len), .null] 6)) (s₁.setTop (mkF m 0 #[.val (.ref a), .val (.ref b), .val (.int (Int32.ofNat o)), .val (.int (Int32.ofNat len)), .val .null, .unset] [])) := entry rfl
  have c2 : Steps p.tables e below (s₁.setTop (entryFrame m #[.ref a, .ref b, .int (Int32.ofNat o), .int (Int32.ofNat len), .null] 6)) (s₁.setTop (mkF m 1 #[.val (.ref a), .val (.ref b), .val (.int (Int32.ofNat o)), .val (.int (Int32.ofNat len)), .val .null, .unset] [.ref a])) := c1.trans (by
    refine XS.aloadN X0.here hexec rfl (hb hbytes d0) rfl rfl ?_
    exact Steps.refl _)
  obtain ⟨T3, X3, q3, st3⟩ := X0.oinit hexec hown (wks W (objW "java/lang/String" 1)) (g := (mkF m 1 #[.val (.ref a), .val (.ref b), .val (.int (Int32.ofNat o)), .val (.int (Int32.ofNat len)), .val .null, .unset] [.ref a])) rfl (by rw [hml]; rfl) (rest := []) rfl (hb hbytes d1) (W := 0) (by show 2 * 0 + 0 ≤ _; decide) (Nat.le_of_ble_eq_true rfl) (Nat.le_of_ble_eq_true rfl)
  have hh3 := q3.trans hh0
  have c4 : Steps p.tables e below (s₁.setTop (entryFrame m #[.ref a, .ref b, .int (Int32.ofNat o), .int (Int32.ofNat len), .null] 6)) (T3.setTop (mkF m 27 #[.val (.ref a), .val (.ref b), .val (.int (Int32.ofNat o)), .val (.int (Int32.ofNat len)), .val .null, .unset] [])) := (c2.trans (st3 _ (Steps.refl _))).trans (by
    refine XS.iloadN X3.here hexec rfl (hb hbytes d4) rfl ?_
    refine XS.ifYes X3.here hexec rfl (pc0 := 5) rfl (hb hbytes d5) rfl (i0_ne_t (nz32 (by omega) l0)) (by decide) rfl ?_
    exact Steps.refl _)
  obtain ⟨T5, X5, q5, st5⟩ := X3.sget hexec hown (wk W (.fieldLink "java/lang/String" 38 "java/lang/String" "COMPACT_STRINGS" "Z")) s1 (fun _ _ h => by rw [hh3]; exact h) (g := (mkF m 27 #[.val (.ref a), .val (.ref b), .val (.int (Int32.ofNat o)), .val (.int (Int32.ofNat len)), .val .null, .unset] [])) rfl (hb hbytes d27)
  have hh5 := q5.trans hh3
  have c6 : Steps p.tables e below (s₁.setTop (entryFrame m #[.ref a, .ref b, .int (Int32.ofNat o), .int (Int32.ofNat len), .null] 6)) (T5.setTop (mkF m 30 #[.val (.ref a), .val (.ref b), .val (.int (Int32.ofNat o)), .val (.int (Int32.ofNat len)), .val .null, .unset] [.int z])) := c4.trans (st5 _ (Steps.refl _))
  have c7 : Steps p.tables e below (s₁.setTop (entryFrame m #[.ref a, .ref b, .int (Int32.ofNat o), .int (Int32.ofNat len), .null] 6)) (T5.setTop (mkF m 36 #[.val (.ref a), .val (.ref b), .val (.int (Int32.ofNat o)), .val (.int (Int32.ofNat len)), .val .null, .unset] [.int (Int32.ofNat len), .int (Int32.ofNat o), .ref b])) := c6.trans (by
    refine XS.ifNo X5.here hexec rfl (hb hbytes d30) rfl (i0_eq_f hz) ?_
    refine XS.aloadN X5.here hexec rfl (hb hbytes d33) rfl rfl ?_
    refine XS.iloadN X5.here hexec rfl (hb hbytes d34) rfl ?_
    refine XS.iloadN X5.here hexec rfl (hb hbytes d35) rfl ?_
    exact Steps.refl _)
  obtain ⟨v8, T8, X8, E8, g8⟩ := X5.callS hexec (Cmp3.law l b A o len) hown (wks W (staticW "java/lang/String" 177 Cmp3.yN)) (wk W Cmp3.tab) (W := 0) (Nat.le_of_ble_eq_true rfl) (Nat.le_of_ble_eq_true rfl) (Nat.le_refl _) (by show 0 + len ≤ len; omega) (g := (mkF m 36 #[.val (.ref a), .val (.ref b), .val (.int (Int32.ofNat o)), .val (.int (Int32.ofNat len)), .val .null, .unset] [.int (Int32.ofNat len), .int (Int32.ofNat o), .ref b])) rfl (by rw [hml]; rfl) c7 (argsL := [.ref b, .int (Int32.ofNat o), .int (Int32.ofNat len)]) (rest := []) rfl rfl (by show 2 * 0 + 0 ≤ _; decide) (hb hbytes d36) (⟨rfl, hA.mv X5.warmed.alike hh5, l1, l2, hp⟩)
  obtain ⟨e8, z8⟩ := E8
  obtain ⟨rfl, N, n1, n2, n3, n4, n5, n6⟩ := NewArr.mv _ T5 s _ _ hh5.symm (Vm.Alike.refl _) rfl e8
  rw [hh5] at z8
  have hB1 := hB.keep X8.warmed.alike (n6 _ _ hB.1)
  have hne : s.heap.size ≠ a := (Nat.ne_of_lt (Array.getElem?_eq_some_iff.mp hB.1).1).symm
  have c9 : Steps p.tables e below (s₁.setTop (entryFrame m #[.ref a, .ref b, .int (Int32.ofNat o), .int (Int32.ofNat len), .null] 6)) (T8.setTop (mkF m 39 #[.val (.ref a), .val (.ref b), .val (.int (Int32.ofNat o)), .val (.int (Int32.ofNat len)), .val .null, .unset] [.ref s.heap.size])) := g8
  have c10 : Steps p.tables e below (s₁.setTop (entryFrame m #[.ref a, .ref b, .int (Int32.ofNat o), .int (Int32.ofNat len), .null] 6)) (T8.setTop (mkF m 45 #[.val (.ref a), .val (.ref b), .val (.int (Int32.ofNat o)), .val (.int (Int32.ofNat len)), .val .null, .val (.ref s.heap.size)] [.int (Int32.ofNat N.slots.size), .ref s.heap.size, .ref a])) := by
    have hc : Steps p.tables e below (s₁.setTop (entryFrame m #[.ref a, .ref b, .int (Int32.ofNat o), .int (Int32.ofNat len), .null] 6)) (T8.setTop (mkF m 45 #[.val (.ref a), .val (.ref b), .val (.int (Int32.ofNat o)), .val (.int (Int32.ofNat len)), .val .null, .val (.ref s.heap.size)] [.int (Int32.ofNat len), .ref s.heap.size, .ref a])) := c9.trans (by
      refine XS.astore X8.here hexec rfl (hb hbytes d39) rfl rfl rfl ?_
      refine XS.aloadN X8.here hexec rfl (hb hbytes d41) rfl rfl ?_
      refine XS.aload X8.here hexec rfl (hb hbytes d42) rfl rfl ?_
      refine XS.iloadN X8.here hexec rfl (hb hbytes d44) rfl ?_
      exact Steps.refl _)
    rw [n4]; exact hc
  obtain ⟨v11, T11, X11, E11, g11⟩ := X8.callS hexec (CodL.law l s.heap.size N) hown (wks W (staticW "java/lang/String" 47 CodL.yN)) (wk W CodL.tab) (W := 1) (Nat.le_of_ble_eq_true rfl) (Nat.le_of_ble_eq_true rfl) (Nat.le_refl _) (by show 0 + len + 0 ≤ len; omega) (g := (mkF m 45 #[.val (.ref a), .val (.ref b), .val (.int (Int32.ofNat o)), .val (.int (Int32.ofNat len)), .val .null, .val (.ref s.heap.size)] [.int (Int32.ofNat N.slots.size), .ref s.heap.size, .ref a])) rfl (by rw [hml]; rfl) c10 (argsL := [.ref s.heap.size, .int (Int32.ofNat N.slots.size)]) (rest := [.ref a]) rfl rfl (by show 2 * 0 + (1 + 0) ≤ _; decide) (hb hbytes d45) (⟨rfl, n1⟩)
  obtain ⟨rfl, q11⟩ := E11
  have hB11 := hB1.mv (X8.warmed.alike.symm.trans X11.warmed.alike) q11
  have c12 : Steps p.tables e below (s₁.setTop (entryFrame m #[.ref a, .ref b, .int (Int32.ofNat o), .int (Int32.ofNat len), .null] 6)) (T11.setTop (mkF m 48 #[.val (.ref a), .val (.ref b), .val (.int (Int32.ofNat o)), .val (.int (Int32.ofNat len)), .val .null, .val (.ref s.heap.size)] [.int 0, .ref a])) := g11
  obtain ⟨T13, X13, p13, bl13, sl13, st13⟩ := X11.finit hexec hown (wk W (.fieldLink "java/lang/String" 15 "java/lang/String" "coder" "B")) (Or.inr ⟨_, (wk W (.laysFinal "java/lang/String" "java/lang/String" "coder" "B"))⟩) (Or.inl ⟨rfl, hnm⟩) f2 (Or.inl rfl) hB11 (t := .byte) (by decide +kernel) rfl (g := (mkF m 48 #[.val (.ref a), .val (.ref b), .val (.int (Int32.ofNat o)), .val (.int (Int32.ofNat len)), .val .null, .val (.ref s.heap.size)] [.int 0, .ref a])) rfl (rest := []) rfl (hb hbytes d48)
  have c14 : Steps p.tables e below (s₁.setTop (entryFrame m #[.ref a, .ref b, .int (Int32.ofNat o), .int (Int32.ofNat len), .null] 6)) (T13.setTop (mkF m 54 #[.val (.ref a), .val (.ref b), .val (.int (Int32.ofNat o)), .val (.int (Int32.ofNat len)), .val .null, .val (.ref s.heap.size)] [.ref s.heap.size, .ref a])) := (c12.trans (st13 _ (Steps.refl _))).trans (by
    refine XS.aloadN X13.here hexec rfl (hb hbytes d51) rfl rfl ?_
    refine XS.aload X13.here hexec rfl (hb hbytes d52) rfl rfl ?_
    exact Steps.refl _)
  obtain ⟨T15, X15, p15, bl15, sl15, st15⟩ := X13.finit hexec hown (wk W (.fieldLink "java/lang/String" 9 "java/lang/String" "value" "[B")) (Or.inr ⟨_, (wk W (.laysFinal "java/lang/String" "java/lang/String" "value" "[B"))⟩) (Or.inl ⟨rfl, hnm⟩) f1 (Or.inl rfl) bl13 (t := (.array .byte)) (by decide +kernel) rfl (g := (mkF m 54 #[.val (.ref a), .val (.ref b), .val (.int (Int32.ofNat o)), .val (.int (Int32.ofNat len)), .val .null, .val (.ref s.heap.size)] [.ref s.heap.size, .ref a])) rfl (rest := []) rfl (hb hbytes d54)
  have c16 : Steps p.tables e below (s₁.setTop (entryFrame m #[.ref a, .ref b, .int (Int32.ofNat o), .int (Int32.ofNat len), .null] 6)) (T15.setTop (mkF m 57 #[.val (.ref a), .val (.ref b), .val (.int (Int32.ofNat o)), .val (.int (Int32.ofNat len)), .val .null, .val (.ref s.heap.size)] [])) := c14.trans (st15 _ (Steps.refl _))
  have ap := apart (Or.inr ⟨_, (wk W (.laysFinal "java/lang/String" "java/lang/String" "value" "[B"))⟩) (Or.inr ⟨_, (wk W (.laysFinal "java/lang/String" "java/lang/String" "coder" "B"))⟩) f1 f2 (t₁ := .array .byte) (t₂ := .byte) (by decide +kernel) (by decide +kernel) (by decide)
  have al := X8.warmed.alike.symm.trans X15.warmed.alike
  have n7 : T11.heap[s.heap.size]? = some N := by rw [q11]; exact n1.1
  exact ⟨T15, none, _, _, _, X15, by simp, rfl, by omega, (fun _ => rfl), ⟨rfl, _, N, bl15, ((Same.refl D _).set _ (by simp)).set _ (by simp), sl15, (Cell.slots_setSlot_ne _ ap).trans sl13, n1.keep al (p15.other hne (p13.other hne n7)), n2, by rw [al.findClass]; exact n3, n4, n5, fun y c h1 h2 => p15.other h1 (p13.other h1 (by rw [q11]; exact n6 y c h2)), by rw [p15.2.2, p13.2.2, q11]; exact z8⟩, fun fs hl => c16.trans (X15.returnOut hexec hret (hb hbytes d57) hl)⟩
end New4
namespace New1
def yN : MethodName := ⟨"java/lang/String", "<init>", "([C)V"⟩
abbrev yB : ByteArray := jdk_42_method_3_code
theorem d0 : decode yB 0 = .ok (.aload_n 0, 1) := by decide +kernel
theorem d1 : decode yB 1 = .ok (.aload_n 1, 1) := by decide +kernel
theorem d2 : decode yB 2 = .ok (.iconst 0, 1) := by decide +kernel
theorem d3 : decode yB 3 = .ok (.aload_n 1, 1) := by decide +kernel
theorem d4 : decode yB 4 = .ok (.arraylength, 1) := by decide +kernel
theorem d5 : decode yB 5 = .ok (.aconst_null, 1) := by decide +kernel
theorem d6 : decode yB 6 = .ok (.invokespecial 27, 3) := by decide +kernel
theorem d9 : decode yB 9 = .ok (.return_, 1) := by decide +kernel
def site : List Cond := [New4.tab] ++ initW "java/lang/String" 27 New4.yN
def tab : Cond := tabOf yN yB 2 none site
def P (a : Addr) (D : Cell) (fV fC : Field) (b : Addr) (A : Cell) (z : Int32) (args : Array Value) (s : State) : Prop := args = #[.ref a, .ref b] ∧ Blank "java/lang/String" a D s ∧ Found "java/lang/String" "value" "[B" fV s ∧ Found "java/lang/String" "coder" "B" fC s ∧ Ch b A s ∧ StaticIs s "java/lang/String" "COMPACT_STRINGS" "Z" (.int z) ∧ ¬ z = 0 ∧ 0 < A.slots.size ∧ A.slots.size ≤ 536870912 ∧ ∀ i, i < A.slots.size → ¬ 255 < cv A i
def E (a : Addr) (D : Cell) (fV fC : Field) (A : Cell) (r : Option Value) (s u : State) : Prop := Got a D fV fC A 0 A.slots.size r s u
/-- new String(chars), not empty, no char above 255: a Latin-1 String of their low bytes -/
theorem law (l : Launch) (a : Addr) (D : Cell) (fV fC : Field) (b : Addr) (A : Cell) (z : Int32) : Law l yN 2 1 3 52 yB 2 none site (P a D fV fC b A z) (E a D fV fC A) [⟨a, fC.slot⟩, ⟨a, fV.slot⟩] 1 A.slots.size := by
  refine Law.of_walk (plainFor_of_name (by decide +kernel)) (by decide +kernel) (by decide +kernel) (by decide) (fun _ _ h => by rw [h.1]; rfl) (fun _ U U' hal hh h => ⟨h.1, h.2.1.mv hal hh, h.2.2.1.al hal, h.2.2.2.1.al hal, h.2.2.2.2.1.mv hal hh, h.2.2.2.2.2.1.there hal hh, h.2.2.2.2.2.2⟩) (fun r U U' V V' h1 hal h2 h => Got.mv r U U' V V' h1 hal h2 h) ?_
  intro p e s m args below meth c s₁ X0 hexec hbytes hml hret hlk hnm hown hh0 W hP
  obtain ⟨rfl, hB, f1, f2, hA, s1, hz, l0, l2, hp⟩ := hP
  have c1 : Steps p.tables e below (s₁.setTop (entryFrame m #[.ref a, .ref b] 2)) (s₁.setTop (mkF m 0 #[.val (.ref a), .val (.ref b)] [])) := entry rfl
  have c2 : Steps p.tables e below (s₁.setTop (entryFrame m #[.ref a, .ref b] 2)) (s₁.setTop (mkF m 6 #[.val (.ref a), .val (.ref b)] [.null, .int (Int32.ofNat A.slots.size), .int 0, .ref b, .ref a])) := c1.trans (by
    refine XS.aloadN X0.here hexec rfl (hb hbytes d0) rfl rfl ?_
    refine XS.aloadN X0.here hexec rfl (hb hbytes d1) rfl rfl ?_
    refine iconstV X0.here hexec rfl 0 (hb hbytes d2) (by decide) ?_
    refine XS.aloadN X0.here hexec rfl (hb hbytes d3) rfl rfl ?_
    refine X0.alen hexec (hA.1.mv X0.warmed.alike hh0) rfl rfl (hb hbytes d4) ?_
    refine XS.aconstNull X0.here hexec rfl (hb hbytes d5) ?_
    exact Steps.refl _)
  obtain ⟨v3, T3, X3, E3, g3⟩ := X0.callN hexec (New4.law l a D fV fC b A z 0 A.slots.size) rfl hown (wks W (initW "java/lang/String" 27 New4.yN)) (W New4.tab (by simp only [site, List.mem_cons, List.mem_append, true_or, or_true])) (W := 0) (Nat.le_of_ble_eq_true rfl) (Nat.le_of_ble_eq_true rfl) (Nat.le_refl _) (by show 0 + A.slots.size ≤ A.slots.size; omega) (g := (mkF m 6 #[.val (.ref a), .val (.ref b)] [.null, .int (Int32.ofNat A.slots.size), .int (Int32.ofNat 0), .ref b, .ref a])) rfl (by rw [hml]; rfl) c2 (argsL := [.ref b, .int (Int32.ofNat 0), .int (Int32.ofNat A.slots.size), .null]) (rest := []) rfl rfl (by show 2 * 0 + 0 ≤ _; decide) (hb hbytes d6) (⟨rfl, hB.mv X0.warmed.alike hh0, f1.al X0.warmed.alike, f2.al X0.warmed.alike, hA.mv X0.warmed.alike hh0, s1.there X0.warmed.alike hh0, hz, l0, by omega, l2, fun i hi => by rw [Nat.zero_add]; exact hp i hi⟩)
  have e0 := Got.mv _ s₁ s _ _ hh0.symm (Vm.Alike.refl _) rfl E3
  obtain rfl := e0.1
  have c4 : Steps p.tables e below (s₁.setTop (entryFrame m #[.ref a, .ref b] 2)) (T3.setTop (mkF m 9 #[.val (.ref a), .val (.ref b)] [])) := g3
  exact ⟨T3, none, _, _, _, X3, by simp, rfl, by omega, (fun _ => rfl), e0, fun fs hl => c4.trans (X3.returnOut hexec hret (hb hbytes d9) hl)⟩
theorem pays {l : Launch} {R : Room} {p : Program} {e : Env} {below : List Frame} {s : State} {sargs : Array Value} {len W : Nat} (a : Addr) (D : Cell) (fV fC : Field) (b : Addr) (A : Cell) (z : Int32) (htab : tab.before sargs s = true) (hfr : 4 ≤ R.frames) (hlo : W + 65 ≤ R.locals) :
    Back l R p e below s sargs yN len W (fun A₁ a₁ => A₁.cells + 1 ≤ R.cells ∧ A₁.slots + A.slots.size ≤ R.slots ∧ P a D fV fC b A z a₁ A₁.U) (fun A₁ _ v₁ B₁ => E a D fV fC A v₁ A₁.U B₁.U ∧ B₁.locs = A₁.locs ++ [⟨a, fC.slot⟩, ⟨a, fV.slot⟩] ∧ B₁.cells = A₁.cells + 1 ∧ B₁.slots = A₁.slots + A.slots.size) :=
  (law l a D fV fC b A z).pays htab hfr (by omega)
end New1
end StrChars
namespace StrChars.Road
open Jvm Sem ClassFile Op Lib Jvm.Stand Jvm.Free Jvm.Free.XT
open Jvm.Lib.Cold (StaticIs)
abbrev ST : String := "java/lang/String"
/-- every table word that New1's law asks, flat -/
abbrev words : List Jvm.Cond := [.code New1.yN New1.yB 2 none, .initialized ST, .methodLink ST 27 New4.yN, .instanceMethod New4.yN,
  .code New4.yN New4.yB 6 none, .fieldLink ST 38 ST "COMPACT_STRINGS" "Z", .laysFinal ST ST "value" "[B", .fieldLink ST 9 ST "value" "[B", .laysFinal ST ST "coder" "B", .fieldLink ST 15 ST "coder" "B",
  .methodLink ST 1 Lib.objectInit, .instanceMethod Lib.objectInit, .code Lib.objectInit ⟨#[0xb1]⟩ 1 none, .methodLink ST 177 Cmp3.yN, .static Cmp3.yN, .methodLink ST 47 CodL.yN, .static CodL.yN,
  .code Cmp3.yN Cmp3.yB 6 (some (.array .byte)), .initialized U16, .arrayClass .byte, .methodLink U16 115 Cmp5.yN, .static Cmp5.yN, .code Cmp5.yN Cmp5.yB 7 (some .int), .code CodL.yN CodL.yB 2 (some .byte)]
theorem tab_of {a : Array Value} {s : State} (h : ∀ w ∈ words, w.before a s = true) : New1.tab.before a s = true := by
  have h5 : Cmp5.tab.before a s = true := unparts (wk h (.code Cmp5.yN Cmp5.yB 7 (some .int))) (wks h (.initialized Cmp5.yN.cls :: Cmp5.site))
  have hc : CodL.tab.before a s = true := unparts (wk h (.code CodL.yN CodL.yB 2 (some .byte))) (wks h (.initialized CodL.yN.cls :: CodL.site))
  have q5 : ∀ w ∈ Cmp5.tab :: words, w.before a s = true := fun w hw => (List.mem_cons.mp hw).elim (fun e => e ▸ h5) (h w)
  have h3 : Cmp3.tab.before a s = true := unparts (wk q5 (.code Cmp3.yN Cmp3.yB 6 (some (.array .byte)))) (wks q5 (.initialized Cmp3.yN.cls :: Cmp3.site))
  have q3 : ∀ w ∈ Cmp3.tab :: CodL.tab :: words, w.before a s = true := fun w hw => (List.mem_cons.mp hw).elim (fun e => e ▸ h3) fun hw => (List.mem_cons.mp hw).elim (fun e => e ▸ hc) (h w)
  have h4 : New4.tab.before a s = true := unparts (wk q3 (.code New4.yN New4.yB 6 none)) (wks q3 (.initialized New4.yN.cls :: New4.site))
  have q4 : ∀ w ∈ New4.tab :: words, w.before a s = true := fun w hw => (List.mem_cons.mp hw).elim (fun e => e ▸ h4) (h w)
  exact unparts (wk q4 (.code New1.yN New1.yB 2 none)) (wks q4 (.initialized New1.yN.cls :: New1.site))
/-- the words ride from the start Z to the walk's own state -/
theorem moved {Z s : State} {a0 args : Array Value} (hZ : Z.Warmed39 s.vm) (hw : ∀ d ∈ words, d.before a0 Z = true) : ∀ d ∈ words, d.before args s = true := fun d hd => by
  have q := hw d hd
  have t : ∀ d ∈ words, d = .arrayClass .byte ∨ (d.onTables && d.keepsFace) = true := by decide +kernel
  rcases t d hd with rfl | t
  · exact RoadKit.mvA hZ q
  · exact RoadKit.mv hZ q t
/-- WHAT COMES BACK, over the tables of the start Z: h the heap at the call, h' behind it -/
def Q (Z : State) (x : Addr) (A : Cell) (h : Heap) (v : Option Value) (h' : Heap) (L : List Loc) : Prop := v = none ∧ (∀ y ∈ L, y.base = x) ∧ RoadKit.Keep h h' [x] ∧ h'.size = h.size + 1 ∧ RoadKit.Exa Z h' x ST ∧ RoadKit.Fld Z h' x ST "value" "[B" (.ref h.size) ∧ RoadKit.Fld Z h' x ST "coder" "B" (.int 0) ∧
  (∃ V : Cell, RoadKit.Arr Z h' h.size V .byte ∧ V.vm = .none ∧ Z.vm.findClass "[B" = some V.cls ∧ V.slots.size = A.slots.size ∧ ∀ j, j < A.slots.size → V.slots[j]? = some (.int (lo8 (cv A j)))) ∧
  ∀ (O n d : String) (w : Value), RoadKit.Fld Z h x O n d w → RoadKit.slotOf Z O n d ≠ RoadKit.slotOf Z ST "value" "[B" → RoadKit.slotOf Z O n d ≠ RoadKit.slotOf Z ST "coder" "B" → RoadKit.Fld Z h' x O n d w
/-- **new String(chars) AT A CALL, IN THE ROAD'S FORM**: for specialBack behind newO: x the fresh String, b the char[] with the cell A -/
theorem back {p : Program} {l : Launch} {e : Env} {R : Room} {s : State} {args : Array Value} {below : List Frame} {len W : Nat} {Z : State} {a0 : Array Value} {h : Heap} (hZ : Z.Warmed39 s.vm) (hw : ∀ d ∈ words, d.before a0 Z = true) {kI : Nat} (wi : (Jvm.Cond.instantiable ST kI).before a0 Z = true)
    {x b : Addr} {A : Cell} {z : Int32} {v0 c0 : Value} (E : RoadKit.Exa Z h x ST) (V : RoadKit.Fld Z h x ST "value" "[B" v0) (C : RoadKit.Fld Z h x ST "coder" "B" c0) (K : RoadKit.Arr Z h b A .char) (hty : Typed .char A) (S : RoadKit.Sta Z h ST "COMPACT_STRINGS" "Z" (.int z)) (hz : ¬ z = 0)
    (l0 : 0 < A.slots.size) (l2 : A.slots.size ≤ 536870912) (hp : ∀ i, i < A.slots.size → ¬ 255 < cv A i) (hfr : 4 ≤ R.frames) (hlo : W + 65 ≤ R.locals) :
    Back l R p e below s args New1.yN len W (fun P a => a = #[.ref x, .ref b] ∧ P.U.heap = h ∧ P.cells + 1 ≤ R.cells ∧ P.slots + A.slots.size ≤ R.slots)
      (fun P _ v B => ∃ L, Q Z x A h v B.U.heap L ∧ B.locs = P.locs ++ L ∧ B.cells = P.cells + 1 ∧ B.slots = P.slots + A.slots.size) := by
  intro m meth c P g ig mk a X hg hsize hdg hW hn hp'
  obtain ⟨rfl, rfl, r1, r2⟩ := hp'
  have al : Z.vm.Alike P.U.vm := hZ.alike.trans X.warmed.alike
  obtain ⟨D, cfV, kV, iV, fV, hD, gV, stV, knV, obV, asV, slV⟩ := id V
  obtain ⟨D', cfC, kC, iC, fC, hD', gC, stC, -, -, asC, slC⟩ := id C
  cases hD.symm.trans hD'
  obtain ⟨D2, kD, e1, e2, e3, e4, e5⟩ := id E
  cases hD.symm.trans e1
  obtain ⟨c2, k2, i1, i2, i3, -⟩ := Cond.instantiable_spec wi
  cases e2.symm.trans i1
  cases e3.symm.trans i2
  obtain ⟨kU, u1, u2⟩ := al.2.2 _ _ e3
  have hB : Blank ST x D P.U := ⟨hD, ⟨knV, fun q hq => by rw [hq] at obV; cases obV⟩, by rw [al.findClass]; exact e2, kU, u1, by rw [u2]; exact i3, by rw [u2]; exact e5 i3⟩
  have F1 : Found ST "value" "[B" fV P.U := ⟨SBG.found_only al ⟨cfV, kV, iV, gV⟩, stV⟩
  have F2 : Found ST "coder" "B" fC P.U := ⟨SBG.found_only al ⟨cfC, kC, iC, gC⟩, stC⟩
  have hA : Ch b A P.U := ⟨⟨K.1, State.isArrayOf_alike al K.2.1, K.2.2, by omega⟩, hty⟩
  have hS : StaticIs P.U ST "COMPACT_STRINGS" "Z" (.int z) := by
    obtain ⟨cfS, iS, kS, fS, st, cS, t1, t2, t3, t4, t5, t6, t7⟩ := S
    exact StaticIs.there (s := { Z with heap := P.U.heap }) ⟨cfS, iS, kS, fS, st, cS, t1, t2, t3, t4, t5, (fun q => by rw [q] at t6; cases t6), t7⟩ al rfl
  obtain ⟨v, B, X', ⟨⟨hv, E', V', q1, q2, q3, q4, q5, q6, q7, q8, q9, q10, q11⟩, hl, hc, hs⟩, st⟩ := New1.pays x D fV fC b A z (tab_of (moved hZ hw)) hfr hlo m meth c P g ig mk _ X hg hsize hdg hW hn ⟨r1, r2, rfl, hB, F1, F2, hA, hS, hz, l0, l2, hp⟩
  have al' : Z.vm.Alike B.U.vm := hZ.alike.trans X'.warmed.alike
  have hsz : E'.slots.size = D.slots.size := by
    obtain ⟨-, -, -, kB, w1, w2, w3⟩ := q1
    obtain ⟨kB', y1, y2⟩ := al'.2.2 _ _ e3
    rw [q2.2.1] at w1
    cases w1.symm.trans y1
    rw [w3, e5 i3, y2]
  refine ⟨v, B, X', ⟨_, ⟨hv, ?_, ⟨by omega, fun y cy hy hn' => q10 y cy (by simpa using hn') hy, fun y cy hy => ?_⟩, q11, ⟨E', _, q1.1, by rw [q2.2.1]; exact e2, by rw [q2.2.1]; exact e3, by rw [q2.1]; exact obV, fun _ => by rw [hsz]; exact e5 i3⟩,
    ⟨E', cfV, kV, iV, fV, q1.1, gV, stV, by rw [q2.1]; exact knV, by rw [q2.1]; exact obV, by rw [q2.2.1]; exact asV, q3⟩, ⟨E', cfC, kC, iC, fC, q1.1, gC, stC, by rw [q2.1]; exact knV, by rw [q2.1]; exact obV, by rw [q2.2.1]; exact asC, q4⟩,
    ⟨V', ⟨q5.1, State.isArrayOf_alike al'.symm q5.2.1, q5.2.2.1⟩, q6, by rw [← al'.findClass]; exact q7, q8, fun j hj => by have := q9 j hj; rwa [Nat.zero_add] at this⟩, fun O n d w F n1 n2 => ?_⟩, hl, hc, hs⟩, st⟩
  · intro y hy
    simp only [List.mem_cons, List.not_mem_nil, or_false] at hy
    rcases hy with rfl | rfl <;> rfl
  · by_cases q : y = x
    · subst q
      cases hD.symm.trans hy
      exact ⟨E', q1.1, q2.2.1, q2.1, hsz⟩
    · exact ⟨cy, q10 y cy q hy, rfl, rfl, rfl⟩
  · obtain ⟨D3, cf, k, i, f, g1, g2, g3, g4, g5, g6, g7⟩ := F
    cases hD.symm.trans g1
    simp only [RoadKit.slotOf, g2, gV, gC, Option.map_some, Option.getD_some] at n1 n2
    exact ⟨E', cf, k, i, f, q1.1, g2, g3, by rw [q2.1]; exact g4, by rw [q2.1]; exact g5, by rw [q2.2.1]; exact g6, by rw [q2.2.2 f.slot (by simp [n1, n2])]; exact g7⟩
end StrChars.Road
namespace StrChars.Road
open Jvm Sem ClassFile Op Lib Jvm.Stand Jvm.Free Jvm.Free.XT
/-- WHAT COMES BACK, the byte[] as a list of values -/
def QA (Z : State) (x : Addr) (zn : Int32) (cs : List Int32) (h : Heap) (v : Option Value) (h' : Heap) (L : List Loc) : Prop := v = none ∧ (∀ y ∈ L, y.base = x) ∧ RoadKit.Keep h h' [x] ∧ h'.size = h.size + 1 ∧ RoadKit.Exa Z h' x ST ∧ RoadKit.Fld Z h' x ST "value" "[B" (.ref h.size) ∧ RoadKit.Fld Z h' x ST "coder" "B" (.int 0) ∧
  (∃ kb, Z.vm.findClass "[B" = some kb ∧ RoadKit.Arv Z h' h.size kb .byte zn (cs.map fun c => .int (lo8 c)) (.int 0)) ∧
  ∀ (O n d : String) (w : Value), RoadKit.Fld Z h x O n d w → RoadKit.slotOf Z O n d ≠ RoadKit.slotOf Z ST "value" "[B" → RoadKit.slotOf Z O n d ≠ RoadKit.slotOf Z ST "coder" "B" → RoadKit.Fld Z h' x O n d w
/-- **new String(chars) AT A CALL, THE ARRAYS AS LISTS**: the char[] at b holds cs, not empty, no char above 255 -/
theorem backArv {p : Program} {l : Launch} {e : Env} {R : Room} {s : State} {args : Array Value} {below : List Frame} {len W : Nat} {Z : State} {a0 : Array Value} {h : Heap} (hZ : Z.Warmed39 s.vm) (hw : ∀ d ∈ words, d.before a0 Z = true) {kI : Nat} (wi : (Jvm.Cond.instantiable ST kI).before a0 Z = true)
    {x b : Addr} {k : ClassId} {zn z : Int32} {cs : List Int32} {dv v0 c0 : Value} (E : RoadKit.Exa Z h x ST) (V : RoadKit.Fld Z h x ST "value" "[B" v0) (C : RoadKit.Fld Z h x ST "coder" "B" c0) (K : RoadKit.Arv Z h b k .char zn (cs.map Value.int) dv) (S : RoadKit.Sta Z h ST "COMPACT_STRINGS" "Z" (.int z)) (hz : ¬ z = 0)
    (hlen : zn.toNatClampNeg = cs.length) (h0 : 0 < cs.length) (hbig : cs.length ≤ 536870912) (hall : ∀ c ∈ cs, ¬ 255 < c) (hfr : 4 ≤ R.frames) (hlo : W + 65 ≤ R.locals) :
    Back l R p e below s args New1.yN len W (fun P a => a = #[.ref x, .ref b] ∧ P.U.heap = h ∧ P.cells + 1 ≤ R.cells ∧ P.slots + cs.length ≤ R.slots)
      (fun P _ v B => ∃ L, QA Z x zn cs h v B.U.heap L ∧ B.locs = P.locs ++ L ∧ B.cells = P.cells + 1 ∧ B.slots = P.slots + cs.length) := by
  obtain ⟨A, K1, K2, K3, K4, K5, K6⟩ := K
  have e : A.slots.size = cs.length := K3.trans hlen
  have hat : ∀ (i : Nat) (hi : i < cs.length), A.slots[i]? = some (.int cs[i]) := fun i hi => by rw [K5 i (by omega)]; simp [List.getD_eq_getElem?_getD, hi]
  have hcv : ∀ (i : Nat) (hi : i < cs.length), cv A i = cs[i] := fun i hi => by unfold cv; rw [hat i hi]
  have hty : Typed .char A := fun i v hv => by
    have hi : i < A.slots.size := (Array.getElem?_eq_some_iff.mp hv).1
    have q := K5 i hi
    rw [hv] at q
    rw [Option.some.inj q]
    exact K6 i hi
  refine Back.mono (back hZ hw wi E V C K1 hty S hz (by omega) (by omega) (fun i hi => by rw [hcv i (by omega)]; exact hall _ (List.getElem_mem _)) hfr hlo) (fun P a hp => ⟨hp.1, hp.2.1, hp.2.2.1, by rw [e]; exact hp.2.2.2⟩) (fun P a v B hp hq => ?_)
  obtain ⟨L, ⟨q1, q2, q3, q4, q5, q6, q7, ⟨V', v1, v2, v3, v4, v5⟩, q9⟩, hl, hc, hs⟩ := hq
  refine ⟨L, ⟨q1, q2, q3, q4, q5, q6, q7, ⟨V'.cls, v3, V', v1, rfl, by rw [v4, e, hlen], K4, fun i hi => ?_, fun i hi => ?_⟩, q9⟩, hl, hc, by rw [hs, e]⟩
  · have hi' : i < cs.length := by omega
    rw [v5 i (by omega), hcv i hi']; simp [List.getD_eq_getElem?_getD, hi']
  · have hi' : i < cs.length := by omega
    simp only [List.getD_eq_getElem?_getD, List.getElem?_map, List.getElem?_eq_getElem hi', Option.map_some, Option.getD_some]
    exact fits_lo8 _
end StrChars.Road
namespace StrChars.Road
open Jvm Sem ClassFile Op Lib Jvm.Stand Jvm.Free Jvm.Free.XT
/-- WHAT COMES BACK, in the writer's own shape -/
def QV (Z : State) (x : Addr) (N : Int32) (bs : List Int32) (h : Heap) (n0 : Nat) (v : Option Value) (h' : Heap) (L : List Loc) : Prop := v = none ∧ RoadKit.Fr n0 L ∧ RoadKit.Keep h h' [x] ∧ RoadKit.Exa Z h' x ST ∧ RoadKit.Fld Z h' x ST "coder" "B" (.int 0) ∧
  ∃ (t : Addr) (kb : ClassId), n0 ≤ t ∧ h.size ≤ t ∧ ¬ t = x ∧ RoadKit.Fld Z h' x ST "value" "[B" (.ref t) ∧ RoadKit.Arv Z h' t kb .byte N (bs.map Value.int) (.int 0)
/-- **new String(chars) AT A CALL, FOR THE WRITER**: a char[] of n known ints, each 0 to 255 -/
theorem backV {p : Program} {l : Launch} {e : Env} {R : Room} {s : State} {args : Array Value} {below : List Frame} {len W : Nat} {Z : State} {a0 : Array Value} {h : Heap} (hZ : Z.Warmed39 s.vm) (hw : ∀ d ∈ words, d.before a0 Z = true) {kI : Nat} (wi : (Jvm.Cond.instantiable ST kI).before a0 Z = true)
    {x b : Addr} {kC : ClassId} {cs bs : List Int32} {d v0 c0 : Value} {z N : Int32} {n n0 : Nat} (hx0 : n0 ≤ x) (hh0 : n0 ≤ h.size) (E : RoadKit.Exa Z h x ST) (V : RoadKit.Fld Z h x ST "value" "[B" v0) (C : RoadKit.Fld Z h x ST "coder" "B" c0) (K : RoadKit.Arv Z h b kC .char N (cs.map Value.int) d) (S : RoadKit.Sta Z h ST "COMPACT_STRINGS" "Z" (.int z)) (hz : ¬ z = 0)
    (hn : cs.length = n) (hN : N = Int32.ofNat n) (l0 : 0 < n) (l2 : n ≤ 4000) (hp : ∀ c ∈ cs, ¬ c < 0 ∧ ¬ (255 : Int32) < c) (hb : bs = cs.map (fun c => c.toInt8.toInt32)) (hfr : 4 ≤ R.frames) (hlo : W + 65 ≤ R.locals) :
    Back l R p e below s args (⟨"java/lang/String", "<init>", "([C)V"⟩ : MethodName) len W (fun P a => a = #[.ref x, .ref b] ∧ P.U.heap = h ∧ P.cells + 1 ≤ R.cells ∧ P.slots + n ≤ R.slots)
      (fun P _ v B => ∃ L, QV Z x N bs h n0 v B.U.heap L ∧ B.locs = P.locs ++ L ∧ B.cells = P.cells + 1 ∧ B.slots = P.slots + n) := by
  subst hn hN hb
  refine Back.mono (backArv hZ hw wi E V C K S hz (n32 (by omega)) l0 (by omega) (fun c hc => (hp c hc).2) hfr hlo) (fun P a hp => hp) (fun P a v B hp hq => ?_)
  obtain ⟨L, ⟨q1, q2, q3, q4, q5, q6, q7, ⟨kb, v1, v2⟩, q9⟩, hl, hc, hs⟩ := hq
  exact ⟨L, ⟨q1, fun y hy => by rw [q2 y hy]; exact hx0, q3, q5, q7, h.size, kb, hh0, Nat.le_refl _, Nat.ne_of_gt E.lt, q6, by rw [List.map_map]; exact v2⟩, hl, hc, hs⟩
end StrChars.Road
namespace StrChars
open Jvm Sem ClassFile Op Lib Jvm.Stand Jvm.Free.XT Jvm.Free.ALB Jvm.Free.JM Jvm.Free
open Jvm.Lib.Cold (StaticIs)
def hi8 (x : Int32) : Int32 := lo8 (x >>> ((8 : Int32) &&& 31))
/-- what StringUTF16.getChar makes of two bytes -/
def pairCh (u v : Int32) : Int32 := (((u &&& 255) <<< ((0 : Int32) &&& 31)) ||| ((v &&& 255) <<< ((8 : Int32) &&& 31))).toUInt32.toUInt16.toUInt32.toInt32
theorem shr0 (c : Int32) : c >>> ((0 : Int32) &&& 31) = c := by
  have e : ((0 : Int32) &&& 31) = 0 := by decide
  rw [e]
  apply Int32.toBitVec_inj.mp
  rw [Int32.toBitVec_shiftRight]
  have e1 : ((0 : Int32).toBitVec.smod 32) = 0#32 := by decide
  rw [e1, BitVec.sshiftRight_eq']
  exact BitVec.sshiftRight_zero
theorem lo8_and (x : Int32) : (lo8 x &&& 255).toBitVec.toNat = x.toBitVec.toNat % 256 := by
  have h : (lo8 x).toBitVec = (x.toBitVec.signExtend 8).signExtend 32 := by rw [lo8, Int8.toBitVec_toInt32, Int32.toBitVec_toInt8]
  rw [Int32.toBitVec_and, BitVec.toNat_and, h]
  have e : ((x.toBitVec.signExtend 8).signExtend 32).toNat % 256 = x.toBitVec.toNat % 256 := by
    rw [BitVec.toNat_signExtend]
    have hlt := x.toBitVec.isLt
    simp only [BitVec.toNat_setWidth, BitVec.toNat_signExtend]
    split <;> split <;> omega
  rw [← e]
  exact Nat.and_two_pow_sub_one_eq_mod _ 8
theorem pair_says {c : Int32} (h0 : ¬ c < 0) (h1 : ¬ 65535 < c) : pairCh (lo8 c) (hi8 c) = c := by
  rw [Int32.lt_iff_toInt_lt] at h0 h1
  have e0 : (0 : Int32).toInt = 0 := rfl
  have e1 : (65535 : Int32).toInt = 65535 := rfl
  have hc : c.toInt = c.toBitVec.toNat := by
    have := c.toBitVec.isLt
    have e : c.toInt = c.toBitVec.toInt := rfl
    rw [e] at h0 h1
    rw [e]
    rw [BitVec.toInt_eq_toNat_cond] at h0 h1 ⊢
    split at h0 <;> split <;> omega
  have hn : c.toBitVec.toNat < 65536 := by omega
  have a1 := lo8_and c
  have a2 : (hi8 c &&& 255).toBitVec.toNat = c.toBitVec.toNat / 256 := by
    rw [hi8, lo8_and]
    have e : ((8 : Int32) &&& 31) = 8 := by decide
    rw [e, Int32.toBitVec_shiftRight]
    have e2 : ((8 : Int32).toBitVec.smod 32) = 8#32 := by decide
    rw [e2, BitVec.sshiftRight_eq', BitVec.toNat_sshiftRight_of_msb_false (by rw [BitVec.msb_eq_false_iff_two_mul_lt]; omega)]
    show c.toBitVec.toNat >>> 8 % 256 = _
    rw [Nat.shiftRight_eq_div_pow]
    omega
  unfold pairCh
  apply Int32.toBitVec_inj.mp
  apply BitVec.eq_of_toNat_eq
  have f0 : ((0 : Int32) &&& 31) = 0 := by decide
  have f8 : ((8 : Int32) &&& 31) = 8 := by decide
  rw [f0, f8]
  have g : (((lo8 c &&& 255) <<< (0 : Int32)) ||| ((hi8 c &&& 255) <<< (8 : Int32))).toBitVec.toNat = c.toBitVec.toNat := by
    rw [Int32.toBitVec_or, Int32.toBitVec_shiftLeft, Int32.toBitVec_shiftLeft]
    have s0 : ((0 : Int32).toBitVec.smod 32) = 0#32 := by decide
    have s8 : ((8 : Int32).toBitVec.smod 32) = 8#32 := by decide
    rw [s0, s8, BitVec.toNat_or]
    simp only [BitVec.shiftLeft_eq', BitVec.toNat_shiftLeft, a1, a2]
    show (c.toBitVec.toNat % 256) <<< 0 % 2 ^ 32 ||| (c.toBitVec.toNat / 256) <<< 8 % 2 ^ 32 = _
    rw [Nat.shiftLeft_zero, Nat.mod_eq_of_lt (show c.toBitVec.toNat % 256 < 2 ^ 32 by omega), Nat.mod_eq_of_lt (show (c.toBitVec.toNat / 256) <<< 8 < 2 ^ 32 by rw [Nat.shiftLeft_eq]; omega), Nat.or_comm, ← Nat.shiftLeft_add_eq_or_of_lt (by omega), Nat.shiftLeft_eq]
    omega
  show BitVec.toNat (((((lo8 c &&& 255) <<< (0 : Int32)) ||| ((hi8 c &&& 255) <<< (8 : Int32))).toBitVec.setWidth 16).setWidth 32) = _
  rw [BitVec.toNat_setWidth, BitVec.toNat_setWidth, g]
  omega
end StrChars
end Jvm.Pilot.@@N@@

namespace Jvm.Pilot.@@N@@
open Jvm Jvm.ClassFile Sem Op Lib Jvm.Free Jvm.Stand Jvm.LawKit Jvm.RoadKit Bundle Jvm.Pilot.@@N@@.Jvm.D
section OwnGo
variable {p : Program} {l : Launch} {e : Env} {R : Room} {s : State} {m : MethodId} {args : Array Value} {below : List Frame} {meth : Method} {c : Code} {T : State} {locs : List Loc} {cells slots : Nat} {Z : State} {a0 : Array Value} {h : Heap} {Q : Option Value → Heap → List Loc → Prop} {kc kn : Nat} {V V' : State}
/-- from V the run comes to the body's end, and there Q holds -/
def own_Go (p : Program) (e : Env) (below : List Frame) (s : State) (Q : Option Value → Heap → List Loc → Prop) (kc kn : Nat) (V : State) : Prop :=
  ∃ U o, Steps p.tables e below V U ∧ U.status = .running ∧ Ended U below o ∧ ∃ v L, o = .returned v ∧ Q v U.heap L ∧ FrameEnd s o U L kc kn
theorem own_st (h : ∀ t, Steps p.tables e below V' t → Steps p.tables e below V t) (k : own_Go p e below s Q kc kn V') : own_Go p e below s Q kc kn V := by
  obtain ⟨U, o, h1, r⟩ := k
  exact ⟨U, o, h U h1, r⟩
theorem own_z0 {n0 : Nat} (X : Old Z n0 h) : n0 ≤ h.size := X.1 ▸ X.2.1
/-- the return of an int, a long or a reference -/
theorem own_ret (X : Stand p l e R s m args below meth c T locs cells slots) (hx : p.tables.exec = Jvm.exec) (hk : meth.locks = false) {pc : Nat} {Ls : Array Slot} {w : Value} {t : FieldType} {i : Instr} {rest : List Value} (hret : meth.sig.returnType = some t) (hn : narrow t w = w)
    (hi : (i = .ireturn ∧ (t = .int ∨ t = .boolean ∨ t = .byte ∨ t = .char ∨ t = .short) ∧ ∃ z, w = .int z) ∨ (i = .lreturn ∧ t = .long ∧ ∃ z, w = .long z) ∨ (i = .dreturn ∧ t = .double ∧ ∃ z, w = .double z) ∨ (i = .freturn ∧ t = .float ∧ ∃ z, w = .float z) ∨ (i = .areturn ∧ t.isReference = true ∧ w.isRef = true))
    (hd : decode c.code pc = .ok (i, 1)) (hc : cells ≤ kc) (hs : slots ≤ kn) (q : Q (some w) T.heap locs) : own_Go p e below s Q kc kn (T.setTop (mkF m pc Ls (w :: rest))) := by
  obtain ⟨fs, hr, hrun, hended, hW, hsame⟩ := X.leave (v := some w) (fun h => by rw [hret] at h; cases h)
  exact ⟨_, _, retOut X hx hret hn hi hd hr, hrun, hended, _, _, rfl, q, ⟨_, rfl⟩, hW, hsame.mono hc hs⟩
theorem own_retI (X : Stand p l e R s m args below meth c T locs cells slots) (hx : p.tables.exec = Jvm.exec) (hk : meth.locks = false) {pc : Nat} {Ls : Array Slot} {z : Int32} {rest : List Value} (hret : meth.sig.returnType = some .int) (hd : decode c.code pc = .ok (.ireturn, 1)) (hc : cells ≤ kc) (hs : slots ≤ kn) (q : Q (some (.int z)) T.heap locs) :
    own_Go p e below s Q kc kn (T.setTop (mkF m pc Ls (.int z :: rest))) := own_ret X hx hk hret rfl (Or.inl ⟨rfl, Or.inl rfl, z, rfl⟩) hd hc hs q
theorem own_retJ (X : Stand p l e R s m args below meth c T locs cells slots) (hx : p.tables.exec = Jvm.exec) (hk : meth.locks = false) {pc : Nat} {Ls : Array Slot} {z : Int64} {rest : List Value} (hret : meth.sig.returnType = some .long) (hd : decode c.code pc = .ok (.lreturn, 1)) (hc : cells ≤ kc) (hs : slots ≤ kn) (q : Q (some (.long z)) T.heap locs) :
    own_Go p e below s Q kc kn (T.setTop (mkF m pc Ls (.long z :: rest))) := own_ret X hx hk hret rfl (Or.inr (Or.inl ⟨rfl, rfl, z, rfl⟩)) hd hc hs q
theorem own_retR (X : Stand p l e R s m args below meth c T locs cells slots) (hx : p.tables.exec = Jvm.exec) (hk : meth.locks = false) {pc : Nat} {Ls : Array Slot} {w : Value} {t : FieldType} {rest : List Value} (hret : meth.sig.returnType = some t) (ht : t.isReference = true) (hw : w.isRef = true) (hd : decode c.code pc = .ok (.areturn, 1)) (hc : cells ≤ kc) (hs : slots ≤ kn) (q : Q (some w) T.heap locs) :
    own_Go p e below s Q kc kn (T.setTop (mkF m pc Ls (w :: rest))) := by
  refine own_ret X hx hk hret ?_ (Or.inr (Or.inr (Or.inr (Or.inr ⟨rfl, ht, hw⟩)))) hd hc hs q
  rcases ref_cases hw with rfl | ⟨b, rfl⟩ <;> cases t <;> first | rfl | (cases ht; done)
/-- the return of a boolean, byte, char or short -/
theorem own_retN (X : Stand p l e R s m args below meth c T locs cells slots) (hx : p.tables.exec = Jvm.exec) (hk : meth.locks = false) {pc : Nat} {Ls : Array Slot} {z : Int32} {t : FieldType} {rest : List Value} (hret : meth.sig.returnType = some t) (ht : t = .boolean ∨ t = .byte ∨ t = .char ∨ t = .short) (hd : decode c.code pc = .ok (.ireturn, 1)) (hc : cells ≤ kc) (hs : slots ≤ kn) (q : Q (some (.int (nar t z))) T.heap locs) :
    own_Go p e below s Q kc kn (T.setTop (mkF m pc Ls (.int z :: rest))) := by
  obtain ⟨fs, hr, hrun, hended, hW, hsame⟩ := X.leave (v := some (.int (nar t z))) (fun h => by rw [hret] at h; cases h)
  exact ⟨_, _, retN X hx hret ht hd hr, hrun, hended, _, _, rfl, q, ⟨_, rfl⟩, hW, hsame.mono hc hs⟩
theorem own_retV (X : Stand p l e R s m args below meth c T locs cells slots) (hx : p.tables.exec = Jvm.exec) (hk : meth.locks = false) {pc : Nat} {Ls : Array Slot} (hret : meth.sig.returnType = none) (hd : decode c.code pc = .ok (.return_, 1)) (hc : cells ≤ kc) (hs : slots ≤ kn) (q : Q none T.heap locs) :
    own_Go p e below s Q kc kn (T.setTop (mkF m pc Ls [])) := by
  obtain ⟨fs, hr, hrun, hended, hW, hsame⟩ := X.leave (v := none) (fun _ => rfl)
  exact ⟨_, _, X.returnOut hx hret hd hr, hrun, hended, _, _, rfl, q, ⟨_, rfl⟩, hW, hsame.mono hc hs⟩
/-! calls, by a Back or by the callee's own contract -/
variable {own : String} {index : Nat} {y z : MethodName} {bytes : ByteArray} {maxL : Nat} {ret : Option FieldType} {W k n : Nat} {as' : Array Value} {Qy : Option Value → Heap → List Loc → Prop} {g : JFrame} {argsL rest : List Value} {rm : Room}
theorem own_backS (X : Stand p l e R s m args below meth c T locs cells slots) (hx : p.tables.exec = Jvm.exec) (hZ : Z.Warmed39 s.vm) (hown : s.vm.findClass own = some m.cls) (w1 : (Cond.methodLink own index y).before a0 Z = true) (w2 : (Cond.static y).before a0 Z = true) (w3 : (Cond.initialized y.cls).before a0 Z = true) (w4 : (Cond.code y bytes maxL ret).before a0 Z = true)
    (hy : y.cls ≠ "java/lang/invoke/MethodHandle" ∧ y.cls ≠ "java/lang/invoke/VarHandle")
    (hK : Back l R p e below s args y 3 W (fun A a => a = as' ∧ A.U.heap = h ∧ A.cells + k ≤ R.cells ∧ A.slots + n ≤ R.slots) (fun A _ v B => ∃ L, Qy v B.U.heap L ∧ B.locs = A.locs ++ L ∧ B.cells = A.cells + k ∧ B.slots = A.slots + n))
    (eT : T.heap = h) (hg : g.method = m) (hsize : g.locals.size = c.maxLocals) (has : argsL.toArray = as') (hlen : ∀ sig, parseMethodDescriptor y.desc = some sig → argsL.length = sig.parameters.length) (hstack : g.stack = argsL.reverse ++ rest) (hW : 2 * g.monitorRoom + (rest.map fun v => v.category).sum ≤ W)
    (hdg : decode c.code g.pc = .ok (.invokestatic index, 3)) (hc : cells + k ≤ R.cells) (hs : slots + n ≤ R.slots) :
    ∃ v T' h' L, Stand p l e R s m args below meth c T' (locs ++ L) (cells + k) (slots + n) ∧ T'.heap = h' ∧ Qy v h' L ∧ ∀ t, Steps p.tables e below (T'.setTop { g with pc := g.pc + 3, stack := v.toList ++ rest }) t → Steps p.tables e below (T.setTop g) t := by
  obtain ⟨v, _, ⟨T', L', k', n'⟩, -, X', ⟨L, hQ, l1, l2, l3⟩, st⟩ := Jvm.LawKit.callS X hx (y := y) hown (mvT hZ w1) (mvT hZ w2) (mvT hZ w3) (mvT hZ w4) hy hK hg hsize hlen hstack hW hdg (fun _ _ => ⟨has, eT, hc, hs⟩)
  dsimp only [Pt.U, Pt.locs, Pt.cells, Pt.slots] at X' l1 l2 l3 st hQ
  subst l1 l2 l3
  exact ⟨v, T', _, L, X', rfl, hQ, st⟩
theorem own_callS (X : Stand p l e R s m args below meth c T locs cells slots) (hx : p.tables.exec = Jvm.exec) (hZ : Z.Warmed39 s.vm) (hown : s.vm.findClass own = some m.cls) (w1 : (Cond.methodLink own index y).before a0 Z = true) (w2 : (Cond.static y).before a0 Z = true) (w3 : (Cond.initialized y.cls).before a0 Z = true) (w4 : (Cond.code y bytes maxL ret).before a0 Z = true)
    (hy : y.cls ≠ "java/lang/invoke/MethodHandle" ∧ y.cls ≠ "java/lang/invoke/VarHandle")
    (hM : MetFree l y (head1 [Cond.code y bytes maxL ret] rm) (fun a U => a = as' ∧ Z.Warmed39 U.vm ∧ U.heap = h) (fun _ _ _ _ _ => True) (fun _ U o U' => ∃ v L, o = .returned v ∧ Qy v U'.heap L ∧ FrameEnd U o U' L rm.cells rm.slots)) (hf : rm.frames + 1 ≤ R.frames) (hl : W + (maxL + 11) + rm.locals ≤ R.locals)
    (eT : T.heap = h) (hg : g.method = m) (hsize : g.locals.size = c.maxLocals) (has : argsL.toArray = as') (hlen : ∀ sig, parseMethodDescriptor y.desc = some sig → argsL.length = sig.parameters.length) (hstack : g.stack = argsL.reverse ++ rest) (hW : 2 * g.monitorRoom + (rest.map fun v => v.category).sum ≤ W)
    (hdg : decode c.code g.pc = .ok (.invokestatic index, 3)) (hc : cells + rm.cells ≤ R.cells) (hs : slots + rm.slots ≤ R.slots) :
    ∃ v T' h' L, Stand p l e R s m args below meth c T' (locs ++ L) (cells + rm.cells) (slots + rm.slots) ∧ T'.heap = h' ∧ Qy v h' L ∧ ∀ t, Steps p.tables e below (T'.setTop { g with pc := g.pc + 3, stack := v.toList ++ rest }) t → Steps p.tables e below (T.setTop g) t :=
  own_backS X hx hZ hown w1 w2 w3 w4 hy (backOf hM hZ w4 w3 hf hl) eT hg hsize has hlen hstack hW hdg hc hs
theorem own_backI (X : Stand p l e R s m args below meth c T locs cells slots) (hx : p.tables.exec = Jvm.exec) (hZ : Z.Warmed39 s.vm) (hown : s.vm.findClass own = some m.cls) (hy1 : y.name = "<init>") (w1 : (Cond.methodLink own index y).before a0 Z = true) (w2 : (Cond.instanceMethod y).before a0 Z = true) (w4 : (Cond.code y bytes maxL none).before a0 Z = true)
    (hy : y.cls ≠ "java/lang/invoke/MethodHandle" ∧ y.cls ≠ "java/lang/invoke/VarHandle")
    (hK : Back l R p e below s args y 3 W (fun A a => a = as' ∧ A.U.heap = h ∧ A.cells + k ≤ R.cells ∧ A.slots + n ≤ R.slots) (fun A _ v B => ∃ L, Qy v B.U.heap L ∧ B.locs = A.locs ++ L ∧ B.cells = A.cells + k ∧ B.slots = A.slots + n))
    (eT : T.heap = h) {a : Addr} (hg : g.method = m) (hsize : g.locals.size = c.maxLocals) (has : (Value.ref a :: argsL).toArray = as') (hlen : ∀ sig, parseMethodDescriptor y.desc = some sig → argsL.length = sig.parameters.length) (hstack : g.stack = argsL.reverse ++ .ref a :: rest) (hW : 2 * g.monitorRoom + (rest.map fun v => v.category).sum ≤ W)
    (hdg : decode c.code g.pc = .ok (.invokespecial index, 3)) (hc : cells + k ≤ R.cells) (hs : slots + n ≤ R.slots) :
    ∃ v T' h' L, Stand p l e R s m args below meth c T' (locs ++ L) (cells + k) (slots + n) ∧ T'.heap = h' ∧ Qy v h' L ∧ ∀ t, Steps p.tables e below (T'.setTop { g with pc := g.pc + 3, stack := v.toList ++ rest }) t → Steps p.tables e below (T.setTop g) t := by
  obtain ⟨v, _, ⟨T', L', k', n'⟩, -, X', ⟨L, hQ, l1, l2, l3⟩, st⟩ := X.specialBack hx (y := y) hy1 hown (mvT hZ w1) (mvT hZ w2) (mvT hZ w4) hy hK hg hsize (Steps.refl _) hlen hstack hW hdg (fun _ _ => ⟨has, eT, hc, hs⟩)
  dsimp only [Pt.U, Pt.locs, Pt.cells, Pt.slots] at X' l1 l2 l3 st hQ
  subst l1 l2 l3
  exact ⟨v, T', _, L, X', rfl, hQ, fun t k => st.trans k⟩
theorem own_callI (X : Stand p l e R s m args below meth c T locs cells slots) (hx : p.tables.exec = Jvm.exec) (hZ : Z.Warmed39 s.vm) (hown : s.vm.findClass own = some m.cls) (hy1 : y.name = "<init>") (w1 : (Cond.methodLink own index y).before a0 Z = true) (w2 : (Cond.instanceMethod y).before a0 Z = true) (w3 : (Cond.initialized y.cls).before a0 Z = true) (w4 : (Cond.code y bytes maxL none).before a0 Z = true)
    (hy : y.cls ≠ "java/lang/invoke/MethodHandle" ∧ y.cls ≠ "java/lang/invoke/VarHandle")
    (hM : MetFree l y (head1 [Cond.code y bytes maxL none] rm) (fun a U => a = as' ∧ Z.Warmed39 U.vm ∧ U.heap = h) (fun _ _ _ _ _ => True) (fun _ U o U' => ∃ v L, o = .returned v ∧ Qy v U'.heap L ∧ FrameEnd U o U' L rm.cells rm.slots)) (hf : rm.frames + 1 ≤ R.frames) (hl : W + (maxL + 11) + rm.locals ≤ R.locals)
    (eT : T.heap = h) {a : Addr} (hg : g.method = m) (hsize : g.locals.size = c.maxLocals) (has : (Value.ref a :: argsL).toArray = as') (hlen : ∀ sig, parseMethodDescriptor y.desc = some sig → argsL.length = sig.parameters.length) (hstack : g.stack = argsL.reverse ++ .ref a :: rest) (hW : 2 * g.monitorRoom + (rest.map fun v => v.category).sum ≤ W)
    (hdg : decode c.code g.pc = .ok (.invokespecial index, 3)) (hc : cells + rm.cells ≤ R.cells) (hs : slots + rm.slots ≤ R.slots) :
    ∃ v T' h' L, Stand p l e R s m args below meth c T' (locs ++ L) (cells + rm.cells) (slots + rm.slots) ∧ T'.heap = h' ∧ Qy v h' L ∧ ∀ t, Steps p.tables e below (T'.setTop { g with pc := g.pc + 3, stack := v.toList ++ rest }) t → Steps p.tables e below (T.setTop g) t :=
  own_backI X hx hZ hown hy1 w1 w2 w4 hy (backOf hM hZ w4 w3 hf hl) eT hg hsize has hlen hstack hW hdg hc hs
theorem own_backV (X : Stand p l e R s m args below meth c T locs cells slots) (hx : p.tables.exec = Jvm.exec) (hZ : Z.Warmed39 s.vm) (hown : s.vm.findClass own = some m.cls) {C : String} (w1 : (Cond.methodLink own index y).before a0 Z = true) (w2 : (Cond.declares y).before a0 Z = true) (hnf : NotFace s y) (w3 : (Cond.selects C y z).before a0 Z = true) (w4 : (Cond.instanceMethod z).before a0 Z = true)
    (hy : y.cls ≠ "java/lang/invoke/MethodHandle" ∧ y.cls ≠ "java/lang/invoke/VarHandle")
    (hK : Back l R p e below s args z 3 W (fun A a => a = as' ∧ A.U.heap = h ∧ A.cells + k ≤ R.cells ∧ A.slots + n ≤ R.slots) (fun A _ v B => ∃ L, Qy v B.U.heap L ∧ B.locs = A.locs ++ L ∧ B.cells = A.cells + k ∧ B.slots = A.slots + n))
    (eT : T.heap = h) {b : Addr} (E : Exa Z h b C) (hg : g.method = m) (hsize : g.locals.size = c.maxLocals) (has : (Value.ref b :: argsL).toArray = as') (hlen : ∀ sig, parseMethodDescriptor y.desc = some sig → argsL.length = sig.parameters.length) (hstack : g.stack = argsL.reverse ++ .ref b :: rest) (hW : 2 * g.monitorRoom + (rest.map fun v => v.category).sum ≤ W)
    (hdg : decode c.code g.pc = .ok (.invokevirtual index, 3)) (hc : cells + k ≤ R.cells) (hs : slots + n ≤ R.slots) :
    ∃ v T' h' L, Stand p l e R s m args below meth c T' (locs ++ L) (cells + k) (slots + n) ∧ T'.heap = h' ∧ Qy v h' L ∧ ∀ t, Steps p.tables e below (T'.setTop { g with pc := g.pc + 3, stack := v.toList ++ rest }) t → Steps p.tables e below (T.setTop g) t := by
  obtain ⟨cq, kq, qa, qb, qc⟩ := isOf hZ eT E
  obtain ⟨v, _, ⟨T', L', k', n'⟩, -, X', ⟨L, hQ, l1, l2, l3⟩, st⟩ := X.virtualBack hx (y := y) (z := z) hown (mvT hZ w1) (mvT hZ w2) hnf (mvT hZ w3) (mvT hZ w4) hy hK qa qc hg hsize (Steps.refl _) hlen hstack hW hdg (fun _ _ => ⟨has, eT, hc, hs⟩)
  dsimp only [Pt.U, Pt.locs, Pt.cells, Pt.slots] at X' l1 l2 l3 st hQ
  subst l1 l2 l3
  exact ⟨v, T', _, L, X', rfl, hQ, fun t k => st.trans k⟩
theorem own_callV (X : Stand p l e R s m args below meth c T locs cells slots) (hx : p.tables.exec = Jvm.exec) (hZ : Z.Warmed39 s.vm) (hown : s.vm.findClass own = some m.cls) {C : String} (w1 : (Cond.methodLink own index y).before a0 Z = true) (w2 : (Cond.declares y).before a0 Z = true) (w3 : (Cond.selects C y y).before a0 Z = true) (w4 : (Cond.instanceMethod y).before a0 Z = true) (w5 : (Cond.initialized y.cls).before a0 Z = true) (w6 : (Cond.code y bytes maxL ret).before a0 Z = true)
    (hy : y.cls ≠ "java/lang/invoke/MethodHandle" ∧ y.cls ≠ "java/lang/invoke/VarHandle")
    (hM : MetFree l y (head1 [Cond.code y bytes maxL ret] rm) (fun a U => a = as' ∧ Z.Warmed39 U.vm ∧ U.heap = h) (fun _ _ _ _ _ => True) (fun _ U o U' => ∃ v L, o = .returned v ∧ Qy v U'.heap L ∧ FrameEnd U o U' L rm.cells rm.slots)) (hf : rm.frames + 1 ≤ R.frames) (hl : W + (maxL + 11) + rm.locals ≤ R.locals)
    (eT : T.heap = h) {b : Addr} (E : Exa Z h b C) (hg : g.method = m) (hsize : g.locals.size = c.maxLocals) (has : (Value.ref b :: argsL).toArray = as') (hlen : ∀ sig, parseMethodDescriptor y.desc = some sig → argsL.length = sig.parameters.length) (hstack : g.stack = argsL.reverse ++ .ref b :: rest) (hW : 2 * g.monitorRoom + (rest.map fun v => v.category).sum ≤ W)
    (hdg : decode c.code g.pc = .ok (.invokevirtual index, 3)) (hc : cells + rm.cells ≤ R.cells) (hs : slots + rm.slots ≤ R.slots) :
    ∃ v T' h' L, Stand p l e R s m args below meth c T' (locs ++ L) (cells + rm.cells) (slots + rm.slots) ∧ T'.heap = h' ∧ Qy v h' L ∧ ∀ t, Steps p.tables e below (T'.setTop { g with pc := g.pc + 3, stack := v.toList ++ rest }) t → Steps p.tables e below (T.setTop g) t :=
  own_backV X hx hZ hown w1 w2 (notFace_of_selects (args := #[]) (mvT hZ w3)) w3 w4 hy (backOf hM hZ w6 w5 hf hl) eT E hg hsize has hlen hstack hW hdg hc hs
end OwnGo
section OwnArr
variable {p : Program} {l : Launch} {e : Env} {R : Room} {s : State} {m : MethodId} {args : Array Value} {below : List Frame} {meth : Method} {c : Code} {T : State} {locs : List Loc} {cells slots : Nat} {Z : State} {a0 : Array Value} {h : Heap} {a : Addr} {k : ClassId} {ty : FieldType} {z j : Int32} {vs : List Value} {d v : Value} {g : JFrame} {rest : List Value}
theorem own_alen (X : Stand p l e R s m args below meth c T locs cells slots) (hx : p.tables.exec = Jvm.exec) (hZ : Z.Warmed39 s.vm) (eT : T.heap = h) (A : Arv Z h a k ty z vs d) (hg : g.method = m) (hs : g.stack = .ref a :: rest) (hd : decode c.code g.pc = .ok (.arraylength, 1)) (t : State)
    (hr : Steps p.tables e below (T.setTop { g with pc := g.pc + 1, stack := .int z :: rest }) t) : Steps p.tables e below (T.setTop g) t := by
  obtain ⟨cl, A1, A2, A3, A4, A5, A6⟩ := A
  refine X.arraylength hx (by rw [eT]; exact A1.1) (State.isArrayOf_alike hZ.alike A1.2.1) hg hs hd t ?_
  rw [len_of A3 A4]
  exact hr
theorem own_cald (X : Stand p l e R s m args below meth c T locs cells slots) (hx : p.tables.exec = Jvm.exec) (hZ : Z.Warmed39 s.vm) (eT : T.heap = h) (A : Arv Z h a k .char z vs d) (hj : ¬ j < 0 ∧ j < z) (hv : vs.getD j.toNatClampNeg d = v) (hg : g.method = m) (hs : g.stack = .int j :: .ref a :: rest) (hd : decode c.code g.pc = .ok (.caload, 1)) (t : State)
    (hr : Steps p.tables e below (T.setTop { g with pc := g.pc + 1, stack := v :: rest }) t) : Steps p.tables e below (T.setTop g) t := by
  obtain ⟨cl, A1, A2, A3, A4, A5, A6⟩ := A
  exact X.caload hx (by rw [eT]; exact A1.1) (State.isArrayOf_alike hZ.alike A1.2.1) A1.2.2 (inb_of A3 hj) (A5.at (inb_of A3 hj) hv) hg hs hd t hr
theorem own_bald (X : Stand p l e R s m args below meth c T locs cells slots) (hx : p.tables.exec = Jvm.exec) (hZ : Z.Warmed39 s.vm) (eT : T.heap = h) (A : Arv Z h a k .byte z vs d) (hj : ¬ j < 0 ∧ j < z) (hv : vs.getD j.toNatClampNeg d = v) (hg : g.method = m) (hs : g.stack = .int j :: .ref a :: rest) (hd : decode c.code g.pc = .ok (.baload, 1)) (t : State)
    (hr : Steps p.tables e below (T.setTop { g with pc := g.pc + 1, stack := v :: rest }) t) : Steps p.tables e below (T.setTop g) t := by
  obtain ⟨cl, A1, A2, A3, A4, A5, A6⟩ := A
  exact X.baloadBytes hx (by rw [eT]; exact A1.1) (State.isArrayOf_alike hZ.alike A1.2.1) A1.2.2 (inb_of A3 hj) (A5.at (inb_of A3 hj) hv) hg hs hd t hr
end OwnArr
section OwnFace
variable {p : Program} {l : Launch} {e : Env} {R : Room} {s : State} {m : MethodId} {args : Array Value} {below : List Frame} {meth : Method} {c : Code} {T : State} {locs : List Loc} {cells slots : Nat} {Z : State} {a0 : Array Value} {h : Heap} {own C : String} {index count : Nat} {y z : MethodName} {bytes : ByteArray} {maxL : Nat} {ret : Option FieldType} {W : Nat} {as' : Array Value} {Qy : Option Value → Heap → List Loc → Prop} {g : JFrame} {argsL rest : List Value} {rm : Room}
theorem own_callF (X : Stand p l e R s m args below meth c T locs cells slots) (hx : p.tables.exec = Jvm.exec) (hZ : Z.Warmed39 s.vm) (hown : s.vm.findClass own = some m.cls) (w1 : (Cond.methodLink own index y).before a0 Z = true) (w2 : (Cond.declares y).before a0 Z = true) (w3 : (Cond.interfaceMethod y.cls y.cls y.name y.desc).before args s = true) (w4 : (Cond.selects C y z).before a0 Z = true) (w5 : (Cond.instanceMethod z).before a0 Z = true) (w6 : (Cond.publicMethod z).before a0 Z = true) (w7 : (Cond.unhidden C y.name y.desc).before a0 Z = true) (w8 : (Cond.castable C y.cls).before a0 Z = true) (w9 : (Cond.initialized z.cls).before a0 Z = true) (w10 : (Cond.code z bytes maxL ret).before a0 Z = true)
    (hy : y.cls ≠ "java/lang/invoke/MethodHandle" ∧ y.cls ≠ "java/lang/invoke/VarHandle")
    (hM : MetFree l z (head1 [Cond.code z bytes maxL ret] rm) (fun a U => a = as' ∧ Z.Warmed39 U.vm ∧ U.heap = h) (fun _ _ _ _ _ => True) (fun _ U o U' => ∃ v L, o = .returned v ∧ Qy v U'.heap L ∧ FrameEnd U o U' L rm.cells rm.slots)) (hf : rm.frames + 1 ≤ R.frames) (hl : W + (maxL + 11) + rm.locals ≤ R.locals)
    (eT : T.heap = h) {b : Addr} (E : Exa Z h b C) (hg : g.method = m) (hsize : g.locals.size = c.maxLocals) (has : (Value.ref b :: argsL).toArray = as') (hlen : ∀ sig, parseMethodDescriptor y.desc = some sig → argsL.length = sig.parameters.length) (hstack : g.stack = argsL.reverse ++ .ref b :: rest) (hW : 2 * g.monitorRoom + (rest.map fun v => v.category).sum ≤ W)
    (hdg : decode c.code g.pc = .ok (.invokeinterface index count, 5)) (hc : cells + rm.cells ≤ R.cells) (hs : slots + rm.slots ≤ R.slots) :
    ∃ v T' h' L, Stand p l e R s m args below meth c T' (locs ++ L) (cells + rm.cells) (slots + rm.slots) ∧ T'.heap = h' ∧ Qy v h' L ∧ ∀ t, Steps p.tables e below (T'.setTop { g with pc := g.pc + 5, stack := v.toList ++ rest }) t → Steps p.tables e below (T.setTop g) t := by
  obtain ⟨cq, kq, qa, qb, qc⟩ := isOf hZ eT E
  obtain ⟨v, _, ⟨T', L', k', n'⟩, -, X', ⟨L, hQ, l1, l2, l3⟩, st⟩ := X.interfaceBack hx (xi := y) (y := z) hown (mvT hZ w1) (mvT hZ w2) w3 (mvT hZ w4) (mvT hZ w5) (mvT hZ w6) (mvT hZ w7) (mvT hZ w8) hy (backOf hM hZ w10 w9 hf hl) qa qb qc hg hsize (Steps.refl _) hlen hstack hW hdg (fun _ _ => ⟨has, eT, hc, hs⟩)
  dsimp only [Pt.U, Pt.locs, Pt.cells, Pt.slots] at X' l1 l2 l3 st hQ
  subst l1 l2 l3
  exact ⟨v, T', _, L, X', rfl, hQ, fun t k => st.trans k⟩
end OwnFace
section OwnGoW
variable {p : Program} {l : Launch} {e : Env} {R : Room} {s : State} {vm : Vm} {m : MethodId} {args : Array Value} {below : List Frame} {meth : Method} {c : Code} {T : State} {locs : List Loc} {cells slots : Nat} {Z : State} {a0 : Array Value} {h : Heap} {EL : List (String × Nat)} {Q : Option Value → Heap → List Loc → Prop} {kc kn k0 : Nat} {V V' : State}
/-- own_Go where the run may load String constants: what the literals hold is carried by CHr -/
def own_GoW (p : Program) (e : Env) (below : List Frame) (s Z : State) (EL : List (String × Nat)) (Q : Option Value → Heap → List Loc → Prop) (kc kn : Nat) (V : State) : Prop :=
  ∃ U o, Steps p.tables e below V U ∧ U.status = .running ∧ Ended U below o ∧ ∃ v L, o = .returned v ∧ Q v U.heap L ∧ CHr Z EL s.vm s.heap U.vm U.heap ∧ ReturnedEndW s o U L kc kn
theorem own_stW (h : ∀ t, Steps p.tables e below V' t → Steps p.tables e below V t) (k : own_GoW p e below s Z EL Q kc kn V') : own_GoW p e below s Z EL Q kc kn V := by
  obtain ⟨U, o, h1, r⟩ := k
  exact ⟨U, o, h U h1, r⟩
theorem own_endW {o : Outcome} {t : State} {L : List Loc} {k n k' n' : Nat} (h : ReturnedEndW s o t L k n) (hk : k ≤ k') (hn : n ≤ n') : ReturnedEndW s o t L k' n' := ⟨h.1, h.2.1, h.2.2.1, h.2.2.2.mono hk hn⟩
theorem own_retW (X : Stand p l e R (s.setVm vm) m args below meth c T locs cells slots) (hx : p.tables.exec = Jvm.exec) (hk : meth.locks = false) (hS : s.Since vm k0) (hn0 : k0 ≤ T.heap.size) (hZ : Z.Warmed39 vm) (hEL : EW Z a0 EL) (Hr : CHr Z EL s.vm s.heap vm T.heap)
    {pc : Nat} {Ls : Array Slot} {w : Value} {t : FieldType} {i : Instr} {rest : List Value} (hret : meth.sig.returnType = some t) (hn : narrow t w = w)
    (hi : (i = .ireturn ∧ (t = .int ∨ t = .boolean ∨ t = .byte ∨ t = .char ∨ t = .short) ∧ ∃ z, w = .int z) ∨ (i = .lreturn ∧ t = .long ∧ ∃ z, w = .long z) ∨ (i = .dreturn ∧ t = .double ∧ ∃ z, w = .double z) ∨ (i = .freturn ∧ t = .float ∧ ∃ z, w = .float z) ∨ (i = .areturn ∧ t.isReference = true ∧ w.isRef = true))
    (hd : decode c.code pc = .ok (i, 1)) (hc : cells ≤ kc) (hs : slots ≤ kn) (q : Q (some w) T.heap locs) : own_GoW p e below s Z EL Q kc kn (T.setTop (mkF m pc Ls (w :: rest))) := by
  obtain ⟨fs, hr, hrun, hended, hE⟩ := X.leaveW hS hn0 (v := some w) (fun h => by rw [hret] at h; cases h)
  exact ⟨_, _, retOut X hx hret hn hi hd hr, hrun, hended, _, _, rfl, q, (show CHr Z EL s.vm s.heap T.vm T.heap from Hr.trans (CHv.at X hZ hEL Hr.1)), own_endW hE hc hs⟩
theorem own_retIW (X : Stand p l e R (s.setVm vm) m args below meth c T locs cells slots) (hx : p.tables.exec = Jvm.exec) (hk : meth.locks = false) (hS : s.Since vm k0) (hn0 : k0 ≤ T.heap.size) (hZ : Z.Warmed39 vm) (hEL : EW Z a0 EL) (Hr : CHr Z EL s.vm s.heap vm T.heap)
    {pc : Nat} {Ls : Array Slot} {z : Int32} {rest : List Value} (hret : meth.sig.returnType = some .int) (hd : decode c.code pc = .ok (.ireturn, 1)) (hc : cells ≤ kc) (hs : slots ≤ kn) (q : Q (some (.int z)) T.heap locs) :
    own_GoW p e below s Z EL Q kc kn (T.setTop (mkF m pc Ls (.int z :: rest))) := own_retW X hx hk hS hn0 hZ hEL Hr hret rfl (Or.inl ⟨rfl, Or.inl rfl, z, rfl⟩) hd hc hs q
theorem own_retJW (X : Stand p l e R (s.setVm vm) m args below meth c T locs cells slots) (hx : p.tables.exec = Jvm.exec) (hk : meth.locks = false) (hS : s.Since vm k0) (hn0 : k0 ≤ T.heap.size) (hZ : Z.Warmed39 vm) (hEL : EW Z a0 EL) (Hr : CHr Z EL s.vm s.heap vm T.heap)
    {pc : Nat} {Ls : Array Slot} {z : Int64} {rest : List Value} (hret : meth.sig.returnType = some .long) (hd : decode c.code pc = .ok (.lreturn, 1)) (hc : cells ≤ kc) (hs : slots ≤ kn) (q : Q (some (.long z)) T.heap locs) :
    own_GoW p e below s Z EL Q kc kn (T.setTop (mkF m pc Ls (.long z :: rest))) := own_retW X hx hk hS hn0 hZ hEL Hr hret rfl (Or.inr (Or.inl ⟨rfl, rfl, z, rfl⟩)) hd hc hs q
theorem own_retRW (X : Stand p l e R (s.setVm vm) m args below meth c T locs cells slots) (hx : p.tables.exec = Jvm.exec) (hk : meth.locks = false) (hS : s.Since vm k0) (hn0 : k0 ≤ T.heap.size) (hZ : Z.Warmed39 vm) (hEL : EW Z a0 EL) (Hr : CHr Z EL s.vm s.heap vm T.heap)
    {pc : Nat} {Ls : Array Slot} {w : Value} {t : FieldType} {rest : List Value} (hret : meth.sig.returnType = some t) (ht : t.isReference = true) (hw : w.isRef = true) (hd : decode c.code pc = .ok (.areturn, 1)) (hc : cells ≤ kc) (hs : slots ≤ kn) (q : Q (some w) T.heap locs) :
    own_GoW p e below s Z EL Q kc kn (T.setTop (mkF m pc Ls (w :: rest))) := by
  refine own_retW X hx hk hS hn0 hZ hEL Hr hret ?_ (Or.inr (Or.inr (Or.inr (Or.inr ⟨rfl, ht, hw⟩)))) hd hc hs q
  rcases ref_cases hw with rfl | ⟨b, rfl⟩ <;> cases t <;> first | rfl | (cases ht; done)
theorem own_retNW (X : Stand p l e R (s.setVm vm) m args below meth c T locs cells slots) (hx : p.tables.exec = Jvm.exec) (hk : meth.locks = false) (hS : s.Since vm k0) (hn0 : k0 ≤ T.heap.size) (hZ : Z.Warmed39 vm) (hEL : EW Z a0 EL) (Hr : CHr Z EL s.vm s.heap vm T.heap)
    {pc : Nat} {Ls : Array Slot} {z : Int32} {t : FieldType} {rest : List Value} (hret : meth.sig.returnType = some t) (ht : t = .boolean ∨ t = .byte ∨ t = .char ∨ t = .short) (hd : decode c.code pc = .ok (.ireturn, 1)) (hc : cells ≤ kc) (hs : slots ≤ kn) (q : Q (some (.int (nar t z))) T.heap locs) :
    own_GoW p e below s Z EL Q kc kn (T.setTop (mkF m pc Ls (.int z :: rest))) := by
  obtain ⟨fs, hr, hrun, hended, hE⟩ := X.leaveW hS hn0 (v := some (.int (nar t z))) (fun h => by rw [hret] at h; cases h)
  exact ⟨_, _, retN X hx hret ht hd hr, hrun, hended, _, _, rfl, q, (show CHr Z EL s.vm s.heap T.vm T.heap from Hr.trans (CHv.at X hZ hEL Hr.1)), own_endW hE hc hs⟩
theorem own_retVW (X : Stand p l e R (s.setVm vm) m args below meth c T locs cells slots) (hx : p.tables.exec = Jvm.exec) (hk : meth.locks = false) (hS : s.Since vm k0) (hn0 : k0 ≤ T.heap.size) (hZ : Z.Warmed39 vm) (hEL : EW Z a0 EL) (Hr : CHr Z EL s.vm s.heap vm T.heap)
    {pc : Nat} {Ls : Array Slot} (hret : meth.sig.returnType = none) (hd : decode c.code pc = .ok (.return_, 1)) (hc : cells ≤ kc) (hs : slots ≤ kn) (q : Q none T.heap locs) :
    own_GoW p e below s Z EL Q kc kn (T.setTop (mkF m pc Ls [])) := by
  obtain ⟨fs, hr, hrun, hended, hE⟩ := X.leaveW hS hn0 (v := none) (fun _ => rfl)
  exact ⟨_, _, X.returnOut hx hret hd hr, hrun, hended, _, _, rfl, q, (show CHr Z EL s.vm s.heap T.vm T.heap from Hr.trans (CHv.at X hZ hEL Hr.1)), own_endW hE hc hs⟩
/-! a callee that may load constants itself: its law keeps the invariant; sf: what it writes of the caller's and what isn't a literal's -/
variable {own : String} {index : Nat} {y z : MethodName} {bytes : ByteArray} {maxL : Nat} {ret : Option FieldType} {W k n len : Nat} {as' : Array Value} {Qy : Option Value → Heap → List Loc → Prop} {g : JFrame} {argsL rest : List Value} {rm : Room} {sf : List Addr}
theorem own_payW {K : Program → Env → List Frame → State → Array Value → Prop}
    (hM : MetFree l y (head1 [Cond.code y bytes maxL ret] rm) (fun a U => a = as' ∧ Z.Warmed39 U.vm ∧ U.heap = h ∧ CHv Z EL U.vm h ∧ ∀ x ∈ sf, Safe Z EL U.vm h x) K (fun _ U o U' => ∃ v L, o = .returned v ∧ Qy v U'.heap L ∧ CHr Z EL U.vm U.heap U'.vm U'.heap ∧ ReturnedEndW U o U' L rm.cells rm.slots))
    (hK : ∀ (m : MethodId) (meth : Method) (c : Code) (A : Pt) (a : Array Value) (g : JFrame) (mk : MethodId), Stand p l e R (s.setVm vm) m args below meth c A.U A.locs A.cells A.slots → g.method = m → K p e (A.U.setTop g).frames (A.U.calling g mk a) a)
    (hZ : Z.Warmed39 vm) (wc : (Cond.code y bytes maxL ret).before a0 Z = true) (wz : (Cond.initialized y.cls).before a0 Z = true) (hf : rm.frames + 1 ≤ R.frames) (hl : W + (maxL + 11) + rm.locals ≤ R.locals) (hEL : EW Z a0 EL) (H : CHv Z EL vm h) (hsf : ∀ x ∈ sf, x < h.size ∧ Safe Z EL vm h x) :
    BackS l R p e below (s.setVm vm) args y len W (fun A a => a = as' ∧ A.U.heap = h ∧ A.cells + rm.cells ≤ R.cells ∧ A.slots + rm.slots ≤ R.slots)
      (fun A _ v B => ∃ L, Qy v B.U.heap L ∧ B.locs = A.locs ++ L ∧ B.cells = A.cells + rm.cells ∧ B.slots = A.slots + rm.slots ∧ CHr Z EL vm h B.U.vm B.U.heap) :=
  BackS.of_freeWG (bytes := bytes) (maxL := maxL) (ret := ret) (E := fun _ first o t L k n => k = rm.cells ∧ n = rm.slots ∧ (∃ v, o = .returned v ∧ Qy v t.heap L) ∧ CHr Z EL first.vm first.heap t.vm t.heap) hM hf hl
    (fun m meth c A a Y hp => have hU : Z.Warmed39 A.U.vm := wtrans (s := s.setVm vm) hZ Y.warmed
      ⟨by show (Cond.and _ .tt).before a A.U = true; rw [Cond.before_and, mv hU wc]; rfl, mv hU wc, mv hU wz, hp.2.2.1, hp.2.2.2⟩)
    (fun m meth c A a g mk Y hp => ⟨hp.1, wtrans (s := s.setVm vm) hZ Y.warmed, hp.2.1, (CHv.at Y hZ hEL H).1, fun x hx => (CHv.at Y hZ hEL H).safe (hsf x hx).1 (hsf x hx).2⟩) (fun m meth c A a g mk Y _ hg => hK m meth c A a g mk Y hg)
    (fun _ _ _ _ ⟨v, L, h1, h2, h3, h4⟩ => ⟨L, _, _, h4, rfl, rfl, ⟨v, h1, h2⟩, h3⟩)
    (fun m meth c A a g mk v t L k n Y hp _ _ ⟨e1, e2, ⟨v', e3, e4⟩, e5⟩ => by
      cases e3; subst e1 e2
      refine ⟨L, e4, rfl, rfl, rfl, (CHv.at Y hZ hEL H).trans ?_⟩
      rw [← hp.2.1]; exact e5)
theorem own_callSW (X : Stand p l e R (s.setVm vm) m args below meth c T locs cells slots) (hx : p.tables.exec = Jvm.exec) (hZ : Z.Warmed39 vm) (hown : vm.findClass own = some m.cls) (hS : s.Since vm k0) (hk : k0 ≤ h.size) (w1 : (Cond.methodLink own index y).before a0 Z = true) (w2 : (Cond.static y).before a0 Z = true) (w3 : (Cond.initialized y.cls).before a0 Z = true) (w4 : (Cond.code y bytes maxL ret).before a0 Z = true)
    (hy : y.cls ≠ "java/lang/invoke/MethodHandle" ∧ y.cls ≠ "java/lang/invoke/VarHandle")
    (hB : BackS l R p e below (s.setVm vm) args y 3 W (fun A a => a = as' ∧ A.U.heap = h ∧ A.cells + k ≤ R.cells ∧ A.slots + n ≤ R.slots) (fun A _ v B => ∃ L, Qy v B.U.heap L ∧ B.locs = A.locs ++ L ∧ B.cells = A.cells + k ∧ B.slots = A.slots + n ∧ CHr Z EL vm h B.U.vm B.U.heap))
    (eT : T.heap = h) (hg : g.method = m) (hsize : g.locals.size = c.maxLocals) (has : argsL.toArray = as') (hlen : ∀ sig, parseMethodDescriptor y.desc = some sig → argsL.length = sig.parameters.length) (hstack : g.stack = argsL.reverse ++ rest) (hW : 2 * g.monitorRoom + (rest.map fun v => v.category).sum ≤ W)
    (hdg : decode c.code g.pc = .ok (.invokestatic index, 3)) (hc : cells + k ≤ R.cells) (hs : slots + n ≤ R.slots) :
    ∃ v T' h' L, Stand p l e R (s.setVm T'.vm) m args below meth c T' (locs ++ L) (cells + k) (slots + n) ∧ T'.heap = h' ∧ Qy v h' L ∧ s.Since T'.vm h'.size ∧ h.size ≤ h'.size ∧ Z.Warmed39 T'.vm ∧ T'.vm.findClass own = some m.cls ∧ CHr Z EL vm h T'.vm h' ∧ ∀ t, Steps p.tables e below (T'.setTop { g with pc := g.pc + 3, stack := v.toList ++ rest }) t → Steps p.tables e below (T.setTop g) t := by
  obtain ⟨v, _, ⟨T', L', k', n'⟩, -, X', hS', hh', ⟨L, hQ, l1, l2, l3, l4⟩, st⟩ := callSS X hx (y := y) hown (mvT (s := s.setVm vm) hZ w1) (mvT (s := s.setVm vm) hZ w2) (mvT (s := s.setVm vm) hZ w3) (mvT (s := s.setVm vm) hZ w4) hy hB hg hsize hlen hstack hW hdg (fun _ _ => ⟨has, eT, hc, hs⟩)
  dsimp only [Pt.U, Pt.locs, Pt.cells, Pt.slots] at X' l1 l2 l3 l4 st hQ hS' hh'
  subst l1 l2 l3
  rw [eT] at hh'
  obtain ⟨X2, hS2, hZ2, hown2⟩ := rebS hS hk X' hS' hh' (Z := Z) hZ (own := own) hown
  exact ⟨v, T', _, L, X2, rfl, hQ, hS2, hh', hZ2, hown2, l4, fun t k => st.trans k⟩
theorem own_callIW (X : Stand p l e R (s.setVm vm) m args below meth c T locs cells slots) (hx : p.tables.exec = Jvm.exec) (hZ : Z.Warmed39 vm) (hown : vm.findClass own = some m.cls) (hS : s.Since vm k0) (hk : k0 ≤ h.size) (hy1 : y.name = "<init>") (w1 : (Cond.methodLink own index y).before a0 Z = true) (w2 : (Cond.instanceMethod y).before a0 Z = true) (w4 : (Cond.code y bytes maxL none).before a0 Z = true)
    (hy : y.cls ≠ "java/lang/invoke/MethodHandle" ∧ y.cls ≠ "java/lang/invoke/VarHandle")
    (hB : BackS l R p e below (s.setVm vm) args y 3 W (fun A a => a = as' ∧ A.U.heap = h ∧ A.cells + k ≤ R.cells ∧ A.slots + n ≤ R.slots) (fun A _ v B => ∃ L, Qy v B.U.heap L ∧ B.locs = A.locs ++ L ∧ B.cells = A.cells + k ∧ B.slots = A.slots + n ∧ CHr Z EL vm h B.U.vm B.U.heap))
    (eT : T.heap = h) {a : Addr} (hg : g.method = m) (hsize : g.locals.size = c.maxLocals) (has : (Value.ref a :: argsL).toArray = as') (hlen : ∀ sig, parseMethodDescriptor y.desc = some sig → argsL.length = sig.parameters.length) (hstack : g.stack = argsL.reverse ++ .ref a :: rest) (hW : 2 * g.monitorRoom + (rest.map fun v => v.category).sum ≤ W)
    (hdg : decode c.code g.pc = .ok (.invokespecial index, 3)) (hc : cells + k ≤ R.cells) (hs : slots + n ≤ R.slots) :
    ∃ v T' h' L, Stand p l e R (s.setVm T'.vm) m args below meth c T' (locs ++ L) (cells + k) (slots + n) ∧ T'.heap = h' ∧ Qy v h' L ∧ s.Since T'.vm h'.size ∧ h.size ≤ h'.size ∧ Z.Warmed39 T'.vm ∧ T'.vm.findClass own = some m.cls ∧ CHr Z EL vm h T'.vm h' ∧ ∀ t, Steps p.tables e below (T'.setTop { g with pc := g.pc + 3, stack := v.toList ++ rest }) t → Steps p.tables e below (T.setTop g) t := by
  obtain ⟨v, _, ⟨T', L', k', n'⟩, -, X', hS', hh', ⟨L, hQ, l1, l2, l3, l4⟩, st⟩ := X.specialBackS hx (y := y) hy1 hown (mvT (s := s.setVm vm) hZ w1) (mvT (s := s.setVm vm) hZ w2) (mvT (s := s.setVm vm) hZ w4) hy hB hg hsize (Steps.refl _) hlen hstack hW hdg (fun _ _ => ⟨has, eT, hc, hs⟩)
  dsimp only [Pt.U, Pt.locs, Pt.cells, Pt.slots] at X' l1 l2 l3 l4 st hQ hS' hh'
  subst l1 l2 l3
  rw [eT] at hh'
  obtain ⟨X2, hS2, hZ2, hown2⟩ := rebS hS hk X' hS' hh' (Z := Z) hZ (own := own) hown
  exact ⟨v, T', _, L, X2, rfl, hQ, hS2, hh', hZ2, hown2, l4, fun t k => st.trans k⟩
theorem own_sf0 : ∀ x ∈ ([] : List Addr), x < h.size ∧ Safe Z EL vm h x := fun _ q => nomatch q
theorem own_sfS {x : Addr} {ws : List Addr} (h1 : x < h.size) (h2 : Safe Z EL vm h x) (r : ∀ y ∈ ws, y < h.size ∧ Safe Z EL vm h y) : ∀ y ∈ x :: ws, y < h.size ∧ Safe Z EL vm h y := fun y q => by
  rcases List.mem_cons.mp q with rfl | q
  · exact ⟨h1, h2⟩
  · exact r y q
end OwnGoW
def own_first : List Int32 → Int32 → Int32
  | [], i => i
  | c :: cs, i => if 255 < c then i else own_first cs (i + 1)
theorem own_nb (y : Int32) : nar .byte (y.toInt8.toInt32) = StrChars.lo8 y := by
  show (y.toInt8.toInt32).toInt8.toInt32 = y.toInt8.toInt32
  simp
theorem own_lo (c : Int32) : nar .byte ((c >>> ((0 : Int32) &&& 31)).toInt8.toInt32) = StrChars.lo8 c := by rw [own_nb, StrChars.shr0]
theorem own_hi (c : Int32) : nar .byte ((c >>> ((8 : Int32) &&& 31)).toInt8.toInt32) = StrChars.hi8 c := own_nb _
theorem own_nc (y : Int32) : nar .char (y.toUInt32.toUInt16.toUInt32.toInt32) = y.toUInt32.toUInt16.toUInt32.toInt32 := by
  have e : ∀ u : UInt16, u.toUInt32.toInt32.toUInt32.toUInt16 = u := fun u => by simp
  show ((y.toUInt32.toUInt16).toUInt32.toInt32).toUInt32.toUInt16.toUInt32.toInt32 = _
  rw [e]
theorem own_pair {c : Int32} (h0 : ¬ c < 0) (h1 : ¬ 65535 < c) : nar .char ((((StrChars.lo8 c &&& 255) <<< ((0 : Int32) &&& 31)) ||| ((StrChars.hi8 c &&& 255) <<< ((8 : Int32) &&& 31))).toUInt32.toUInt16.toUInt32.toInt32) = c := by
  rw [own_nc]
  exact StrChars.pair_says h0 h1
theorem own_charR (y : Int32) : ¬ nar .char y < 0 ∧ ¬ (65535 : Int32) < nar .char y := rng_char (fits_nar_char y)
theorem own_sta {s : State} {args : Array Value} {C n d : String} {k : Int32} (h : (Jvm.Cond.eq (Term.static C n d) (Term.int k)).before args s = true) (hi : (Jvm.Cond.initializedFor C n d).before args s = true) : Sta s s.heap C n d (.int k) := by
  obtain ⟨x, y, hx, hy, k1, k2⟩ := cmp_v (Or.inl (Cond.before_iff.mp h))
  rw [Term.int_eval k] at hy
  cases hy
  obtain ⟨z, rfl⟩ : ∃ z, x = .int z := k2
  have e := gotT (show (Jvm.Cond.eq (Term.static C n d) (Term.int k)).value args s none s [] = some (decide (z = k)) by simp [Cond.value, hx, Term.int_eval]) (Cond.before_iff.mp h)
  subst e
  exact Sta.start hx (Or.inl hi)
theorem own_nosf {P : Addr → Prop} : ∀ x ∈ ([] : List Addr), P x := fun _ q => nomatch q
theorem own_staE {s : State} {args : Array Value} {C n d K : String} (h : (Jvm.Cond.exactly (Term.static C n d) K).value args s none s [] = some true) (hi : (Jvm.Cond.initialized C).before args s = true) (hl : (Jvm.Cond.laysStatic C n d).before args s = true) : ∃ a, Sta s s.heap C n d (.ref a) := by
  obtain ⟨a, e⟩ := exa_v h
  exact ⟨a, Sta.start e (Or.inr ⟨hi, hl⟩)⟩
theorem own_pn0 : plainName "java/lang/StringUTF16" = true := by first | (simp [plainName, overriddenIn]; done) | decide +kernel
theorem own_d_jdk_52_method_3_0 : decode jdk_52_method_3_code 0 = .ok (.iload_n 0, 1) := by decide +kernel
theorem own_d_jdk_52_method_3_1 : decode jdk_52_method_3_code 1 = .ok (.ifCond .ge 11, 3) := by decide +kernel
theorem own_d_jdk_52_method_3_12 : decode jdk_52_method_3_code 12 = .ok (.iload_n 0, 1) := by decide +kernel
theorem own_d_jdk_52_method_3_13 : decode jdk_52_method_3_code 13 = .ok (.ldc 20, 2) := by decide +kernel
theorem own_d_jdk_52_method_3_15 : decode jdk_52_method_3_code 15 = .ok (.if_icmp .lt 40, 3) := by decide +kernel
theorem own_d_jdk_52_method_3_55 : decode jdk_52_method_3_code 55 = .ok (.iload_n 0, 1) := by decide +kernel
theorem own_d_jdk_52_method_3_56 : decode jdk_52_method_3_code 56 = .ok (.iconst 1, 1) := by decide +kernel
theorem own_d_jdk_52_method_3_57 : decode jdk_52_method_3_code 57 = .ok (.ishl, 1) := by decide +kernel
theorem own_d_jdk_52_method_3_58 : decode jdk_52_method_3_code 58 = .ok (.ireturn, 1) := by decide +kernel
theorem own_ef_nbl (m : MethodId) (x0 : Int32) : entryFrame m #[(.int x0)] 1 = mkF m 0 #[.val (.int x0)] [] := by first | (simp [entryFrame, mkF, argsToLocals, Value.category]; done) | rfl
def own_Q_nbl (Z : State) (n : Int32) (h0 : Heap) (n0 : Nat) (v : Option Value) (h : Heap) (L : List Loc) : Prop := v = some (.int (n <<< ((1 : Int32) &&& 31))) ∧ Fr n0 L ∧ h = h0
set_option maxRecDepth 65536 in
set_option maxHeartbeats 40000000 in
theorem own_rm_nbl (l : Launch) (Z : State) (a0 : Array Value) (hw : ∀ d ∈ tables_1, d.before a0 Z = true) (ws : List Jvm.Cond) (n : Int32) (h0 : Heap) (n0 : Nat) (Od : Old Z n0 h0) (b1 : ¬ n < (0 : Int32)) (b2 : n < (1073741823 : Int32)) :
    MetFree l (⟨"java/lang/StringUTF16", "newBytesLength", "(I)I"⟩ : MethodName) (head1 (Jvm.Cond.code (⟨"java/lang/StringUTF16", "newBytesLength", "(I)I"⟩ : MethodName) jdk_52_method_3_code 1 (some .int) :: ws) ({ frames := 0, cells := 0, slots := 0, locals := 0 } : Room)) (fun a9 U => a9 = #[(.int n)] ∧ Z.Warmed39 U.vm ∧ U.heap = h0) (fun _ _ _ _ _ => True) (fun _ U o U' => ∃ v L, o = .returned v ∧ own_Q_nbl Z n h0 n0 v U'.heap L ∧ FrameEnd U o U' L ({ frames := 0, cells := 0, slots := 0, locals := 0 } : Room).cells ({ frames := 0, cells := 0, slots := 0, locals := 0 } : Room).slots) := by
  refine MetFree.of_bodySF (plainFor_of_name own_pn0) hisR ?_
  intro p e s m args below meth c s₁ Bd hml0 hP hK
  obtain ⟨rfl, hZ, hh⟩ := hP
  have hx := Bd.exec
  have hby := Bd.bytes
  have hml : c.maxLocals = 1 := hml0
  have hown : s.vm.findClass "java/lang/StringUTF16" = some m.cls := findClass_of_methodNamed Bd.named
  have hnm := (name_of_methodNamed Bd.named Bd.method).1
  have hlk : meth.locks = false := Bd.notSynchronized
  have X0 : Stand p l e ({ frames := 0, cells := 0, slots := 0, locals := 0 } : Room) s m #[(.int n)] below meth c s₁ [] 0 0 := Stand.of_body Bd
  have e0 : s₁.heap = h0 := by rw [← hh, Bd.state]; rfl
  have N0 := Fr.nil n0
  show own_Go p e below s (own_Q_nbl Z n h0 n0) ({ frames := 0, cells := 0, slots := 0, locals := 0 } : Room).cells ({ frames := 0, cells := 0, slots := 0, locals := 0 } : Room).slots (s₁.setTop (entryFrame m #[(.int n)] 1))
  refine own_st (fun t9 k9 => castTop (own_ef_nbl m n) k9) ?_
  show own_Go p e below s _ _ _ (s₁.setTop (mkF m 0 #[.val (.int n)] []))
  refine own_st (fun t9 k9 => XS.iloadN X0.here hx rfl (hb hby own_d_jdk_52_method_3_0) rfl  k9) ?_
  show own_Go p e below s _ _ _ (s₁.setTop (mkF m 1 #[.val (.int n)] [(.int n)]))
  refine own_st (fun t9 k9 => XS.ifYes X0.here hx rfl (pc0 := 1) (pc' := 12) rfl (hb hby own_d_jdk_52_method_3_1) rfl ((if0 _ _).trans (flt (b1 : ¬ (n < (0 : Int32)))).2.1) (by decide) (by decide) k9) ?_
  show own_Go p e below s _ _ _ (s₁.setTop (mkF m 12 #[.val (.int n)] []))
  refine own_st (fun t9 k9 => XS.iloadN X0.here hx rfl (hb hby own_d_jdk_52_method_3_12) rfl  k9) ?_
  show own_Go p e below s _ _ _ (s₁.setTop (mkF m 13 #[.val (.int n)] [(.int n)]))
  refine own_st (fun t9 k9 => X0.ldcInt hx hown (mvT hZ (hw _ (List.mem_of_getElem? (i := 58) rfl))) (g := (mkF m 13 #[.val (.int n)] [(.int n)])) rfl (hb hby own_d_jdk_52_method_3_13) t9 k9) ?_
  show own_Go p e below s _ _ _ (s₁.setTop (mkF m 15 #[.val (.int n)] [(.int (1073741823 : Int32)), (.int n)]))
  refine own_st (fun t9 k9 => XS.icmpYes X0.here hx rfl (pc0 := 15) (pc' := 55) rfl (hb hby own_d_jdk_52_method_3_15) rfl (tlt (b2 : n < (1073741823 : Int32))).1 (by decide) (by decide) k9) ?_
  show own_Go p e below s _ _ _ (s₁.setTop (mkF m 55 #[.val (.int n)] []))
  refine own_st (fun t9 k9 => XS.iloadN X0.here hx rfl (hb hby own_d_jdk_52_method_3_55) rfl  k9) ?_
  show own_Go p e below s _ _ _ (s₁.setTop (mkF m 56 #[.val (.int n)] [(.int n)]))
  refine own_st (fun t9 k9 => XS.iconst X0.here hx rfl (hb hby own_d_jdk_52_method_3_56) k9) ?_
  show own_Go p e below s _ _ _ (s₁.setTop (mkF m 57 #[.val (.int n)] [(.int (1 : Int32)), (.int n)]))
  refine own_st (fun t9 k9 => XT.ishl X0.here hx rfl (hb hby own_d_jdk_52_method_3_57) rfl k9) ?_
  show own_Go p e below s _ _ _ (s₁.setTop (mkF m 58 #[.val (.int n)] [(.int (n <<< ((1 : Int32) &&& 31)))]))
  exact own_retI X0 hx hlk Bd.returns (hb hby own_d_jdk_52_method_3_58) (by decide) (by decide) (by rw [e0]; exact ⟨rfl, N0, rfl⟩)
theorem own_d_jdk_52_method_4_0 : decode jdk_52_method_4_code 0 = .ok (.getstatic 44, 3) := by decide +kernel
theorem own_d_jdk_52_method_4_3 : decode jdk_52_method_4_code 3 = .ok (.ifCond .ne 25, 3) := by decide +kernel
theorem own_d_jdk_52_method_4_28 : decode jdk_52_method_4_code 28 = .ok (.iload_n 1, 1) := by decide +kernel
theorem own_d_jdk_52_method_4_29 : decode jdk_52_method_4_code 29 = .ok (.iconst 1, 1) := by decide +kernel
theorem own_d_jdk_52_method_4_30 : decode jdk_52_method_4_code 30 = .ok (.ishl, 1) := by decide +kernel
theorem own_d_jdk_52_method_4_31 : decode jdk_52_method_4_code 31 = .ok (.istore_n 1, 1) := by decide +kernel
theorem own_d_jdk_52_method_4_32 : decode jdk_52_method_4_code 32 = .ok (.aload_n 0, 1) := by decide +kernel
theorem own_d_jdk_52_method_4_33 : decode jdk_52_method_4_code 33 = .ok (.iload_n 1, 1) := by decide +kernel
theorem own_d_jdk_52_method_4_34 : decode jdk_52_method_4_code 34 = .ok (.iinc 1 1, 3) := by decide +kernel
theorem own_d_jdk_52_method_4_37 : decode jdk_52_method_4_code 37 = .ok (.iload_n 2, 1) := by decide +kernel
theorem own_d_jdk_52_method_4_38 : decode jdk_52_method_4_code 38 = .ok (.getstatic 59, 3) := by decide +kernel
theorem own_d_jdk_52_method_4_41 : decode jdk_52_method_4_code 41 = .ok (.ishr, 1) := by decide +kernel
theorem own_d_jdk_52_method_4_42 : decode jdk_52_method_4_code 42 = .ok (.i2b, 1) := by decide +kernel
theorem own_d_jdk_52_method_4_43 : decode jdk_52_method_4_code 43 = .ok (.bastore, 1) := by decide +kernel
theorem own_d_jdk_52_method_4_44 : decode jdk_52_method_4_code 44 = .ok (.aload_n 0, 1) := by decide +kernel
theorem own_d_jdk_52_method_4_45 : decode jdk_52_method_4_code 45 = .ok (.iload_n 1, 1) := by decide +kernel
theorem own_d_jdk_52_method_4_46 : decode jdk_52_method_4_code 46 = .ok (.iload_n 2, 1) := by decide +kernel
theorem own_d_jdk_52_method_4_47 : decode jdk_52_method_4_code 47 = .ok (.getstatic 63, 3) := by decide +kernel
theorem own_d_jdk_52_method_4_50 : decode jdk_52_method_4_code 50 = .ok (.ishr, 1) := by decide +kernel
theorem own_d_jdk_52_method_4_51 : decode jdk_52_method_4_code 51 = .ok (.i2b, 1) := by decide +kernel
theorem own_d_jdk_52_method_4_52 : decode jdk_52_method_4_code 52 = .ok (.bastore, 1) := by decide +kernel
theorem own_d_jdk_52_method_4_53 : decode jdk_52_method_4_code 53 = .ok (.return_, 1) := by decide +kernel
theorem own_ef_putc (m : MethodId) (x0 : Addr) (x1 : Int32) (x2 : Int32) : entryFrame m #[(.ref x0), (.int x1), (.int x2)] 3 = mkF m 0 #[.val (.ref x0), .val (.int x1), .val (.int x2)] [] := by first | (simp [entryFrame, mkF, argsToLocals, Value.category]; done) | rfl
def own_Q_putc (Z : State) (b : Addr) (i c0 : Int32) (h0 : Heap) (n0 : Nat) (v : Option Value) (h : Heap) (L : List Loc) : Prop := v = none ∧ Fr n0 L ∧ ∃ h1, Wr h0 h1 b (i <<< ((1 : Int32) &&& 31)).toNatClampNeg (.int (StrChars.lo8 c0)) ∧ Wr h1 h b ((i <<< ((1 : Int32) &&& 31)) + (1 : Int32)).toNatClampNeg (.int (StrChars.hi8 c0))
set_option maxRecDepth 65536 in
set_option maxHeartbeats 40000000 in
theorem own_rm_putc (l : Launch) (Z : State) (a0 : Array Value) (hw : ∀ d ∈ tables_1, d.before a0 Z = true) (ws : List Jvm.Cond) (b : Addr) (i c0 : Int32) (cl : Cell) (h0 : Heap) (n0 : Nat) (Od : Old Z n0 h0) (A : Arr Z h0 b cl .byte) (ge_b : n0 ≤ b) (b0 : ¬ ((i <<< ((1 : Int32) &&& 31)) < 0 ∨ cl.slots.size ≤ (i <<< ((1 : Int32) &&& 31)).toNatClampNeg)) (b1 : ¬ (((i <<< ((1 : Int32) &&& 31)) + (1 : Int32)) < 0 ∨ cl.slots.size ≤ ((i <<< ((1 : Int32) &&& 31)) + (1 : Int32)).toNatClampNeg)) (OA : Sta Z Z.heap "java/lang/StringUTF16" "$assertionsDisabled" "Z" (.int (1 : Int32))) (OH : Sta Z Z.heap "java/lang/StringUTF16" "HI_BYTE_SHIFT" "I" (.int (0 : Int32))) (OL : Sta Z Z.heap "java/lang/StringUTF16" "LO_BYTE_SHIFT" "I" (.int (8 : Int32))) :
    MetFree l (⟨"java/lang/StringUTF16", "putChar", "([BII)V"⟩ : MethodName) (head1 (Jvm.Cond.code (⟨"java/lang/StringUTF16", "putChar", "([BII)V"⟩ : MethodName) jdk_52_method_4_code 3 none :: ws) ({ frames := 0, cells := 0, slots := 0, locals := 0 } : Room)) (fun a9 U => a9 = #[(.ref b), (.int i), (.int c0)] ∧ Z.Warmed39 U.vm ∧ U.heap = h0) (fun _ _ _ _ _ => True) (fun _ U o U' => ∃ v L, o = .returned v ∧ own_Q_putc Z b i c0 h0 n0 v U'.heap L ∧ FrameEnd U o U' L ({ frames := 0, cells := 0, slots := 0, locals := 0 } : Room).cells ({ frames := 0, cells := 0, slots := 0, locals := 0 } : Room).slots) := by
  refine MetFree.of_bodySF (plainFor_of_name own_pn0) hisR ?_
  intro p e s m args below meth c s₁ Bd hml0 hP hK
  obtain ⟨rfl, hZ, hh⟩ := hP
  have hx := Bd.exec
  have hby := Bd.bytes
  have hml : c.maxLocals = 3 := hml0
  have hown : s.vm.findClass "java/lang/StringUTF16" = some m.cls := findClass_of_methodNamed Bd.named
  have hnm := (name_of_methodNamed Bd.named Bd.method).1
  have hlk : meth.locks = false := Bd.notSynchronized
  have X0 : Stand p l e ({ frames := 0, cells := 0, slots := 0, locals := 0 } : Room) s m #[(.ref b), (.int i), (.int c0)] below meth c s₁ [] 0 0 := Stand.of_body Bd
  have e0 : s₁.heap = h0 := by rw [← hh, Bd.state]; rfl
  have N0 := Fr.nil n0
  show own_Go p e below s (own_Q_putc Z b i c0 h0 n0) ({ frames := 0, cells := 0, slots := 0, locals := 0 } : Room).cells ({ frames := 0, cells := 0, slots := 0, locals := 0 } : Room).slots (s₁.setTop (entryFrame m #[(.ref b), (.int i), (.int c0)] 3))
  refine own_st (fun t9 k9 => castTop (own_ef_putc m b i c0) k9) ?_
  show own_Go p e below s _ _ _ (s₁.setTop (mkF m 0 #[.val (.ref b), .val (.int i), .val (.int c0)] []))
  obtain ⟨T1, X1, e1, st1⟩ := getS (host := "") X0 hx hZ hown (hw _ (List.mem_of_getElem? (i := 62) rfl)) Via.refl e0 (OA.ext Od.2) (g := (mkF m 0 #[.val (.ref b), .val (.int i), .val (.int c0)] [])) rfl (hb hby own_d_jdk_52_method_4_0)
  refine own_st st1 ?_
  show own_Go p e below s _ _ _ (T1.setTop (mkF m 3 #[.val (.ref b), .val (.int i), .val (.int c0)] [(.int (1 : Int32))]))
  refine own_st (fun t9 k9 => XS.ifYes X1.here hx rfl (pc0 := 3) (pc' := 28) rfl (hb hby own_d_jdk_52_method_4_3) rfl (by decide) (by decide) (by decide) k9) ?_
  show own_Go p e below s _ _ _ (T1.setTop (mkF m 28 #[.val (.ref b), .val (.int i), .val (.int c0)] []))
  refine own_st (fun t9 k9 => XS.iloadN X1.here hx rfl (hb hby own_d_jdk_52_method_4_28) rfl  k9) ?_
  show own_Go p e below s _ _ _ (T1.setTop (mkF m 29 #[.val (.ref b), .val (.int i), .val (.int c0)] [(.int i)]))
  refine own_st (fun t9 k9 => XS.iconst X1.here hx rfl (hb hby own_d_jdk_52_method_4_29) k9) ?_
  show own_Go p e below s _ _ _ (T1.setTop (mkF m 30 #[.val (.ref b), .val (.int i), .val (.int c0)] [(.int (1 : Int32)), (.int i)]))
  refine own_st (fun t9 k9 => XT.ishl X1.here hx rfl (hb hby own_d_jdk_52_method_4_30) rfl k9) ?_
  show own_Go p e below s _ _ _ (T1.setTop (mkF m 31 #[.val (.ref b), .val (.int i), .val (.int c0)] [(.int (i <<< ((1 : Int32) &&& 31)))]))
  refine own_st (fun t9 k9 => XS.istoreN X1.here hx rfl (hb hby own_d_jdk_52_method_4_31) rfl (l' := #[.val (.ref b), .val (.int (i <<< ((1 : Int32) &&& 31))), .val (.int c0)]) rfl k9) ?_
  show own_Go p e below s _ _ _ (T1.setTop (mkF m 32 #[.val (.ref b), .val (.int (i <<< ((1 : Int32) &&& 31))), .val (.int c0)] []))
  refine own_st (fun t9 k9 => XS.aloadN X1.here hx rfl (hb hby own_d_jdk_52_method_4_32) rfl rfl k9) ?_
  show own_Go p e below s _ _ _ (T1.setTop (mkF m 33 #[.val (.ref b), .val (.int (i <<< ((1 : Int32) &&& 31))), .val (.int c0)] [(.ref b)]))
  refine own_st (fun t9 k9 => XS.iloadN X1.here hx rfl (hb hby own_d_jdk_52_method_4_33) rfl  k9) ?_
  show own_Go p e below s _ _ _ (T1.setTop (mkF m 34 #[.val (.ref b), .val (.int (i <<< ((1 : Int32) &&& 31))), .val (.int c0)] [(.int (i <<< ((1 : Int32) &&& 31))), (.ref b)]))
  refine own_st (fun t9 k9 => XS.iinc X1.here hx rfl (hb hby own_d_jdk_52_method_4_34) rfl (l' := #[.val (.ref b), .val (.int ((i <<< ((1 : Int32) &&& 31)) + (1 : Int32))), .val (.int c0)]) rfl k9) ?_
  show own_Go p e below s _ _ _ (T1.setTop (mkF m 37 #[.val (.ref b), .val (.int ((i <<< ((1 : Int32) &&& 31)) + (1 : Int32))), .val (.int c0)] [(.int (i <<< ((1 : Int32) &&& 31))), (.ref b)]))
  refine own_st (fun t9 k9 => XS.iloadN X1.here hx rfl (hb hby own_d_jdk_52_method_4_37) rfl  k9) ?_
  show own_Go p e below s _ _ _ (T1.setTop (mkF m 38 #[.val (.ref b), .val (.int ((i <<< ((1 : Int32) &&& 31)) + (1 : Int32))), .val (.int c0)] [(.int c0), (.int (i <<< ((1 : Int32) &&& 31))), (.ref b)]))
  obtain ⟨T2, X2, e2, st2⟩ := getS (host := "") X1 hx hZ hown (hw _ (List.mem_of_getElem? (i := 63) rfl)) Via.refl e1 (OH.ext Od.2) (g := (mkF m 38 #[.val (.ref b), .val (.int ((i <<< ((1 : Int32) &&& 31)) + (1 : Int32))), .val (.int c0)] [(.int c0), (.int (i <<< ((1 : Int32) &&& 31))), (.ref b)])) rfl (hb hby own_d_jdk_52_method_4_38)
  refine own_st st2 ?_
  show own_Go p e below s _ _ _ (T2.setTop (mkF m 41 #[.val (.ref b), .val (.int ((i <<< ((1 : Int32) &&& 31)) + (1 : Int32))), .val (.int c0)] [(.int (0 : Int32)), (.int c0), (.int (i <<< ((1 : Int32) &&& 31))), (.ref b)]))
  refine own_st (fun t9 k9 => XT.ishr X2.here hx rfl (hb hby own_d_jdk_52_method_4_41) rfl k9) ?_
  show own_Go p e below s _ _ _ (T2.setTop (mkF m 42 #[.val (.ref b), .val (.int ((i <<< ((1 : Int32) &&& 31)) + (1 : Int32))), .val (.int c0)] [(.int (c0 >>> ((0 : Int32) &&& 31))), (.int (i <<< ((1 : Int32) &&& 31))), (.ref b)]))
  refine own_st (fun t9 k9 => XT.i2b X2.here hx rfl (hb hby own_d_jdk_52_method_4_42) rfl k9) ?_
  show own_Go p e below s _ _ _ (T2.setTop (mkF m 43 #[.val (.ref b), .val (.int ((i <<< ((1 : Int32) &&& 31)) + (1 : Int32))), .val (.int c0)] [(.int ((c0 >>> ((0 : Int32) &&& 31)).toInt8.toInt32)), (.int (i <<< ((1 : Int32) &&& 31))), (.ref b)]))
  obtain ⟨T3, h3, X3, e3, W3, st3⟩ := stB X2 hx hZ e2 A (j := (i <<< ((1 : Int32) &&& 31))) b0 (g := (mkF m 43 #[.val (.ref b), .val (.int ((i <<< ((1 : Int32) &&& 31)) + (1 : Int32))), .val (.int c0)] [(.int ((c0 >>> ((0 : Int32) &&& 31)).toInt8.toInt32)), (.int (i <<< ((1 : Int32) &&& 31))), (.ref b)])) rfl rfl (hb hby own_d_jdk_52_method_4_43)
  have N3 := Fr.snoc X3 N0 ge_b
  rw [own_lo] at W3
  have A := A.same W3
  have Od := Od.wr W3 ge_b
  refine own_st st3 ?_
  show own_Go p e below s _ _ _ (T3.setTop (mkF m 44 #[.val (.ref b), .val (.int ((i <<< ((1 : Int32) &&& 31)) + (1 : Int32))), .val (.int c0)] []))
  refine own_st (fun t9 k9 => XS.aloadN X3.here hx rfl (hb hby own_d_jdk_52_method_4_44) rfl rfl k9) ?_
  show own_Go p e below s _ _ _ (T3.setTop (mkF m 45 #[.val (.ref b), .val (.int ((i <<< ((1 : Int32) &&& 31)) + (1 : Int32))), .val (.int c0)] [(.ref b)]))
  refine own_st (fun t9 k9 => XS.iloadN X3.here hx rfl (hb hby own_d_jdk_52_method_4_45) rfl  k9) ?_
  show own_Go p e below s _ _ _ (T3.setTop (mkF m 46 #[.val (.ref b), .val (.int ((i <<< ((1 : Int32) &&& 31)) + (1 : Int32))), .val (.int c0)] [(.int ((i <<< ((1 : Int32) &&& 31)) + (1 : Int32))), (.ref b)]))
  refine own_st (fun t9 k9 => XS.iloadN X3.here hx rfl (hb hby own_d_jdk_52_method_4_46) rfl  k9) ?_
  show own_Go p e below s _ _ _ (T3.setTop (mkF m 47 #[.val (.ref b), .val (.int ((i <<< ((1 : Int32) &&& 31)) + (1 : Int32))), .val (.int c0)] [(.int c0), (.int ((i <<< ((1 : Int32) &&& 31)) + (1 : Int32))), (.ref b)]))
  obtain ⟨T4, X4, e4, st4⟩ := getS (host := "") X3 hx hZ hown (hw _ (List.mem_of_getElem? (i := 64) rfl)) Via.refl e3 (OL.ext Od.2) (g := (mkF m 47 #[.val (.ref b), .val (.int ((i <<< ((1 : Int32) &&& 31)) + (1 : Int32))), .val (.int c0)] [(.int c0), (.int ((i <<< ((1 : Int32) &&& 31)) + (1 : Int32))), (.ref b)])) rfl (hb hby own_d_jdk_52_method_4_47)
  refine own_st st4 ?_
  show own_Go p e below s _ _ _ (T4.setTop (mkF m 50 #[.val (.ref b), .val (.int ((i <<< ((1 : Int32) &&& 31)) + (1 : Int32))), .val (.int c0)] [(.int (8 : Int32)), (.int c0), (.int ((i <<< ((1 : Int32) &&& 31)) + (1 : Int32))), (.ref b)]))
  refine own_st (fun t9 k9 => XT.ishr X4.here hx rfl (hb hby own_d_jdk_52_method_4_50) rfl k9) ?_
  show own_Go p e below s _ _ _ (T4.setTop (mkF m 51 #[.val (.ref b), .val (.int ((i <<< ((1 : Int32) &&& 31)) + (1 : Int32))), .val (.int c0)] [(.int (c0 >>> ((8 : Int32) &&& 31))), (.int ((i <<< ((1 : Int32) &&& 31)) + (1 : Int32))), (.ref b)]))
  refine own_st (fun t9 k9 => XT.i2b X4.here hx rfl (hb hby own_d_jdk_52_method_4_51) rfl k9) ?_
  show own_Go p e below s _ _ _ (T4.setTop (mkF m 52 #[.val (.ref b), .val (.int ((i <<< ((1 : Int32) &&& 31)) + (1 : Int32))), .val (.int c0)] [(.int ((c0 >>> ((8 : Int32) &&& 31)).toInt8.toInt32)), (.int ((i <<< ((1 : Int32) &&& 31)) + (1 : Int32))), (.ref b)]))
  obtain ⟨T5, h5, X5, e5, W5, st5⟩ := stB X4 hx hZ e4 A (j := ((i <<< ((1 : Int32) &&& 31)) + (1 : Int32))) (by rw [sz_set]; exact b1) (g := (mkF m 52 #[.val (.ref b), .val (.int ((i <<< ((1 : Int32) &&& 31)) + (1 : Int32))), .val (.int c0)] [(.int ((c0 >>> ((8 : Int32) &&& 31)).toInt8.toInt32)), (.int ((i <<< ((1 : Int32) &&& 31)) + (1 : Int32))), (.ref b)])) rfl rfl (hb hby own_d_jdk_52_method_4_52)
  have N5 := Fr.snoc X5 N3 ge_b
  rw [own_hi] at W5
  refine own_st st5 ?_
  show own_Go p e below s _ _ _ (T5.setTop (mkF m 53 #[.val (.ref b), .val (.int ((i <<< ((1 : Int32) &&& 31)) + (1 : Int32))), .val (.int c0)] []))
  exact own_retV X5 hx hlk Bd.returns (hb hby own_d_jdk_52_method_4_53) (by decide) (by decide) (by rw [e5]; exact ⟨rfl, N5, _, W3, W5⟩)
theorem own_d_jdk_52_method_5_0 : decode jdk_52_method_5_code 0 = .ok (.getstatic 44, 3) := by decide +kernel
theorem own_d_jdk_52_method_5_3 : decode jdk_52_method_5_code 3 = .ok (.ifCond .ne 25, 3) := by decide +kernel
theorem own_d_jdk_52_method_5_28 : decode jdk_52_method_5_code 28 = .ok (.iload_n 1, 1) := by decide +kernel
theorem own_d_jdk_52_method_5_29 : decode jdk_52_method_5_code 29 = .ok (.iconst 1, 1) := by decide +kernel
theorem own_d_jdk_52_method_5_30 : decode jdk_52_method_5_code 30 = .ok (.ishl, 1) := by decide +kernel
theorem own_d_jdk_52_method_5_31 : decode jdk_52_method_5_code 31 = .ok (.istore_n 1, 1) := by decide +kernel
theorem own_d_jdk_52_method_5_32 : decode jdk_52_method_5_code 32 = .ok (.aload_n 0, 1) := by decide +kernel
theorem own_d_jdk_52_method_5_33 : decode jdk_52_method_5_code 33 = .ok (.iload_n 1, 1) := by decide +kernel
theorem own_d_jdk_52_method_5_34 : decode jdk_52_method_5_code 34 = .ok (.iinc 1 1, 3) := by decide +kernel
theorem own_d_jdk_52_method_5_37 : decode jdk_52_method_5_code 37 = .ok (.baload, 1) := by decide +kernel
theorem own_d_jdk_52_method_5_38 : decode jdk_52_method_5_code 38 = .ok (.sipush 255, 3) := by decide +kernel
theorem own_d_jdk_52_method_5_41 : decode jdk_52_method_5_code 41 = .ok (.iand, 1) := by decide +kernel
theorem own_d_jdk_52_method_5_42 : decode jdk_52_method_5_code 42 = .ok (.getstatic 59, 3) := by decide +kernel
theorem own_d_jdk_52_method_5_45 : decode jdk_52_method_5_code 45 = .ok (.ishl, 1) := by decide +kernel
theorem own_d_jdk_52_method_5_46 : decode jdk_52_method_5_code 46 = .ok (.aload_n 0, 1) := by decide +kernel
theorem own_d_jdk_52_method_5_47 : decode jdk_52_method_5_code 47 = .ok (.iload_n 1, 1) := by decide +kernel
theorem own_d_jdk_52_method_5_48 : decode jdk_52_method_5_code 48 = .ok (.baload, 1) := by decide +kernel
theorem own_d_jdk_52_method_5_49 : decode jdk_52_method_5_code 49 = .ok (.sipush 255, 3) := by decide +kernel
theorem own_d_jdk_52_method_5_52 : decode jdk_52_method_5_code 52 = .ok (.iand, 1) := by decide +kernel
theorem own_d_jdk_52_method_5_53 : decode jdk_52_method_5_code 53 = .ok (.getstatic 63, 3) := by decide +kernel
theorem own_d_jdk_52_method_5_56 : decode jdk_52_method_5_code 56 = .ok (.ishl, 1) := by decide +kernel
theorem own_d_jdk_52_method_5_57 : decode jdk_52_method_5_code 57 = .ok (.ior, 1) := by decide +kernel
theorem own_d_jdk_52_method_5_58 : decode jdk_52_method_5_code 58 = .ok (.i2c, 1) := by decide +kernel
theorem own_d_jdk_52_method_5_59 : decode jdk_52_method_5_code 59 = .ok (.ireturn, 1) := by decide +kernel
theorem own_ef_getc (m : MethodId) (x0 : Addr) (x1 : Int32) : entryFrame m #[(.ref x0), (.int x1)] 2 = mkF m 0 #[.val (.ref x0), .val (.int x1)] [] := by first | (simp [entryFrame, mkF, argsToLocals, Value.category]; done) | rfl
def own_Q_getc (Z : State) (x0 : Int32) (x1 : Int32) (h0 : Heap) (n0 : Nat) (v : Option Value) (h : Heap) (L : List Loc) : Prop := v = some (.int (nar .char ((((x0 &&& 255) <<< ((0 : Int32) &&& 31)) ||| ((x1 &&& 255) <<< ((8 : Int32) &&& 31))).toUInt32.toUInt16.toUInt32.toInt32))) ∧ Fr n0 L ∧ h = h0
set_option maxRecDepth 65536 in
set_option maxHeartbeats 40000000 in
theorem own_rm_getc (l : Launch) (Z : State) (a0 : Array Value) (hw : ∀ d ∈ tables_1, d.before a0 Z = true) (ws : List Jvm.Cond) (b : Addr) (i z : Int32) (x0 : Int32) (x1 : Int32) (kb : ClassId) (vs : List Value) (h0 : Heap) (n0 : Nat) (Od : Old Z n0 h0) (A : Arv Z h0 b kb .byte z vs (.int (0 : Int32))) (b0 : ¬ (i <<< ((1 : Int32) &&& 31)) < 0 ∧ (i <<< ((1 : Int32) &&& 31)) < z) (b1 : ¬ ((i <<< ((1 : Int32) &&& 31)) + (1 : Int32)) < 0 ∧ ((i <<< ((1 : Int32) &&& 31)) + (1 : Int32)) < z) (q0 : vs.getD (i <<< ((1 : Int32) &&& 31)).toNatClampNeg (.int (0 : Int32)) = .int x0) (q1 : vs.getD ((i <<< ((1 : Int32) &&& 31)) + (1 : Int32)).toNatClampNeg (.int (0 : Int32)) = .int x1) (OA : Sta Z Z.heap "java/lang/StringUTF16" "$assertionsDisabled" "Z" (.int (1 : Int32))) (OH : Sta Z Z.heap "java/lang/StringUTF16" "HI_BYTE_SHIFT" "I" (.int (0 : Int32))) (OL : Sta Z Z.heap "java/lang/StringUTF16" "LO_BYTE_SHIFT" "I" (.int (8 : Int32))) :
    MetFree l (⟨"java/lang/StringUTF16", "getChar", "([BI)C"⟩ : MethodName) (head1 (Jvm.Cond.code (⟨"java/lang/StringUTF16", "getChar", "([BI)C"⟩ : MethodName) jdk_52_method_5_code 2 (some .char) :: ws) ({ frames := 0, cells := 0, slots := 0, locals := 0 } : Room)) (fun a9 U => a9 = #[(.ref b), (.int i)] ∧ Z.Warmed39 U.vm ∧ U.heap = h0) (fun _ _ _ _ _ => True) (fun _ U o U' => ∃ v L, o = .returned v ∧ own_Q_getc Z x0 x1 h0 n0 v U'.heap L ∧ FrameEnd U o U' L ({ frames := 0, cells := 0, slots := 0, locals := 0 } : Room).cells ({ frames := 0, cells := 0, slots := 0, locals := 0 } : Room).slots) := by
  refine MetFree.of_bodySF (plainFor_of_name own_pn0) hisR ?_
  intro p e s m args below meth c s₁ Bd hml0 hP hK
  obtain ⟨rfl, hZ, hh⟩ := hP
  have hx := Bd.exec
  have hby := Bd.bytes
  have hml : c.maxLocals = 2 := hml0
  have hown : s.vm.findClass "java/lang/StringUTF16" = some m.cls := findClass_of_methodNamed Bd.named
  have hnm := (name_of_methodNamed Bd.named Bd.method).1
  have hlk : meth.locks = false := Bd.notSynchronized
  have X0 : Stand p l e ({ frames := 0, cells := 0, slots := 0, locals := 0 } : Room) s m #[(.ref b), (.int i)] below meth c s₁ [] 0 0 := Stand.of_body Bd
  have e0 : s₁.heap = h0 := by rw [← hh, Bd.state]; rfl
  have N0 := Fr.nil n0
  show own_Go p e below s (own_Q_getc Z x0 x1 h0 n0) ({ frames := 0, cells := 0, slots := 0, locals := 0 } : Room).cells ({ frames := 0, cells := 0, slots := 0, locals := 0 } : Room).slots (s₁.setTop (entryFrame m #[(.ref b), (.int i)] 2))
  refine own_st (fun t9 k9 => castTop (own_ef_getc m b i) k9) ?_
  show own_Go p e below s _ _ _ (s₁.setTop (mkF m 0 #[.val (.ref b), .val (.int i)] []))
  obtain ⟨T6, X6, e6, st6⟩ := getS (host := "") X0 hx hZ hown (hw _ (List.mem_of_getElem? (i := 62) rfl)) Via.refl e0 (OA.ext Od.2) (g := (mkF m 0 #[.val (.ref b), .val (.int i)] [])) rfl (hb hby own_d_jdk_52_method_5_0)
  refine own_st st6 ?_
  show own_Go p e below s _ _ _ (T6.setTop (mkF m 3 #[.val (.ref b), .val (.int i)] [(.int (1 : Int32))]))
  refine own_st (fun t9 k9 => XS.ifYes X6.here hx rfl (pc0 := 3) (pc' := 28) rfl (hb hby own_d_jdk_52_method_5_3) rfl (by decide) (by decide) (by decide) k9) ?_
  show own_Go p e below s _ _ _ (T6.setTop (mkF m 28 #[.val (.ref b), .val (.int i)] []))
  refine own_st (fun t9 k9 => XS.iloadN X6.here hx rfl (hb hby own_d_jdk_52_method_5_28) rfl  k9) ?_
  show own_Go p e below s _ _ _ (T6.setTop (mkF m 29 #[.val (.ref b), .val (.int i)] [(.int i)]))
  refine own_st (fun t9 k9 => XS.iconst X6.here hx rfl (hb hby own_d_jdk_52_method_5_29) k9) ?_
  show own_Go p e below s _ _ _ (T6.setTop (mkF m 30 #[.val (.ref b), .val (.int i)] [(.int (1 : Int32)), (.int i)]))
  refine own_st (fun t9 k9 => XT.ishl X6.here hx rfl (hb hby own_d_jdk_52_method_5_30) rfl k9) ?_
  show own_Go p e below s _ _ _ (T6.setTop (mkF m 31 #[.val (.ref b), .val (.int i)] [(.int (i <<< ((1 : Int32) &&& 31)))]))
  refine own_st (fun t9 k9 => XS.istoreN X6.here hx rfl (hb hby own_d_jdk_52_method_5_31) rfl (l' := #[.val (.ref b), .val (.int (i <<< ((1 : Int32) &&& 31)))]) rfl k9) ?_
  show own_Go p e below s _ _ _ (T6.setTop (mkF m 32 #[.val (.ref b), .val (.int (i <<< ((1 : Int32) &&& 31)))] []))
  refine own_st (fun t9 k9 => XS.aloadN X6.here hx rfl (hb hby own_d_jdk_52_method_5_32) rfl rfl k9) ?_
  show own_Go p e below s _ _ _ (T6.setTop (mkF m 33 #[.val (.ref b), .val (.int (i <<< ((1 : Int32) &&& 31)))] [(.ref b)]))
  refine own_st (fun t9 k9 => XS.iloadN X6.here hx rfl (hb hby own_d_jdk_52_method_5_33) rfl  k9) ?_
  show own_Go p e below s _ _ _ (T6.setTop (mkF m 34 #[.val (.ref b), .val (.int (i <<< ((1 : Int32) &&& 31)))] [(.int (i <<< ((1 : Int32) &&& 31))), (.ref b)]))
  refine own_st (fun t9 k9 => XS.iinc X6.here hx rfl (hb hby own_d_jdk_52_method_5_34) rfl (l' := #[.val (.ref b), .val (.int ((i <<< ((1 : Int32) &&& 31)) + (1 : Int32)))]) rfl k9) ?_
  show own_Go p e below s _ _ _ (T6.setTop (mkF m 37 #[.val (.ref b), .val (.int ((i <<< ((1 : Int32) &&& 31)) + (1 : Int32)))] [(.int (i <<< ((1 : Int32) &&& 31))), (.ref b)]))
  refine own_st (fun t9 k9 => own_bald X6 hx hZ e6 A (j := (i <<< ((1 : Int32) &&& 31))) (v := (.int x0)) b0 q0 (g := (mkF m 37 #[.val (.ref b), .val (.int ((i <<< ((1 : Int32) &&& 31)) + (1 : Int32)))] [(.int (i <<< ((1 : Int32) &&& 31))), (.ref b)])) rfl rfl (hb hby own_d_jdk_52_method_5_37) t9 k9) ?_
  show own_Go p e below s _ _ _ (T6.setTop (mkF m 38 #[.val (.ref b), .val (.int ((i <<< ((1 : Int32) &&& 31)) + (1 : Int32)))] [(.int x0)]))
  refine own_st (fun t9 k9 => XS.sipush X6.here hx rfl (hb hby own_d_jdk_52_method_5_38) k9) ?_
  show own_Go p e below s _ _ _ (T6.setTop (mkF m 41 #[.val (.ref b), .val (.int ((i <<< ((1 : Int32) &&& 31)) + (1 : Int32)))] [(.int (255 : Int32)), (.int x0)]))
  refine own_st (fun t9 k9 => XS.iand X6.here hx rfl (hb hby own_d_jdk_52_method_5_41) rfl k9) ?_
  show own_Go p e below s _ _ _ (T6.setTop (mkF m 42 #[.val (.ref b), .val (.int ((i <<< ((1 : Int32) &&& 31)) + (1 : Int32)))] [(.int (x0 &&& (255 : Int32)))]))
  obtain ⟨T7, X7, e7, st7⟩ := getS (host := "") X6 hx hZ hown (hw _ (List.mem_of_getElem? (i := 63) rfl)) Via.refl e6 (OH.ext Od.2) (g := (mkF m 42 #[.val (.ref b), .val (.int ((i <<< ((1 : Int32) &&& 31)) + (1 : Int32)))] [(.int (x0 &&& (255 : Int32)))])) rfl (hb hby own_d_jdk_52_method_5_42)
  refine own_st st7 ?_
  show own_Go p e below s _ _ _ (T7.setTop (mkF m 45 #[.val (.ref b), .val (.int ((i <<< ((1 : Int32) &&& 31)) + (1 : Int32)))] [(.int (0 : Int32)), (.int (x0 &&& (255 : Int32)))]))
  refine own_st (fun t9 k9 => XT.ishl X7.here hx rfl (hb hby own_d_jdk_52_method_5_45) rfl k9) ?_
  show own_Go p e below s _ _ _ (T7.setTop (mkF m 46 #[.val (.ref b), .val (.int ((i <<< ((1 : Int32) &&& 31)) + (1 : Int32)))] [(.int ((x0 &&& (255 : Int32)) <<< ((0 : Int32) &&& 31)))]))
  refine own_st (fun t9 k9 => XS.aloadN X7.here hx rfl (hb hby own_d_jdk_52_method_5_46) rfl rfl k9) ?_
  show own_Go p e below s _ _ _ (T7.setTop (mkF m 47 #[.val (.ref b), .val (.int ((i <<< ((1 : Int32) &&& 31)) + (1 : Int32)))] [(.ref b), (.int ((x0 &&& (255 : Int32)) <<< ((0 : Int32) &&& 31)))]))
  refine own_st (fun t9 k9 => XS.iloadN X7.here hx rfl (hb hby own_d_jdk_52_method_5_47) rfl  k9) ?_
  show own_Go p e below s _ _ _ (T7.setTop (mkF m 48 #[.val (.ref b), .val (.int ((i <<< ((1 : Int32) &&& 31)) + (1 : Int32)))] [(.int ((i <<< ((1 : Int32) &&& 31)) + (1 : Int32))), (.ref b), (.int ((x0 &&& (255 : Int32)) <<< ((0 : Int32) &&& 31)))]))
  refine own_st (fun t9 k9 => own_bald X7 hx hZ e7 A (j := ((i <<< ((1 : Int32) &&& 31)) + (1 : Int32))) (v := (.int x1)) b1 q1 (g := (mkF m 48 #[.val (.ref b), .val (.int ((i <<< ((1 : Int32) &&& 31)) + (1 : Int32)))] [(.int ((i <<< ((1 : Int32) &&& 31)) + (1 : Int32))), (.ref b), (.int ((x0 &&& (255 : Int32)) <<< ((0 : Int32) &&& 31)))])) rfl rfl (hb hby own_d_jdk_52_method_5_48) t9 k9) ?_
  show own_Go p e below s _ _ _ (T7.setTop (mkF m 49 #[.val (.ref b), .val (.int ((i <<< ((1 : Int32) &&& 31)) + (1 : Int32)))] [(.int x1), (.int ((x0 &&& (255 : Int32)) <<< ((0 : Int32) &&& 31)))]))
  refine own_st (fun t9 k9 => XS.sipush X7.here hx rfl (hb hby own_d_jdk_52_method_5_49) k9) ?_
  show own_Go p e below s _ _ _ (T7.setTop (mkF m 52 #[.val (.ref b), .val (.int ((i <<< ((1 : Int32) &&& 31)) + (1 : Int32)))] [(.int (255 : Int32)), (.int x1), (.int ((x0 &&& (255 : Int32)) <<< ((0 : Int32) &&& 31)))]))
  refine own_st (fun t9 k9 => XS.iand X7.here hx rfl (hb hby own_d_jdk_52_method_5_52) rfl k9) ?_
  show own_Go p e below s _ _ _ (T7.setTop (mkF m 53 #[.val (.ref b), .val (.int ((i <<< ((1 : Int32) &&& 31)) + (1 : Int32)))] [(.int (x1 &&& (255 : Int32))), (.int ((x0 &&& (255 : Int32)) <<< ((0 : Int32) &&& 31)))]))
  obtain ⟨T8, X8, e8, st8⟩ := getS (host := "") X7 hx hZ hown (hw _ (List.mem_of_getElem? (i := 64) rfl)) Via.refl e7 (OL.ext Od.2) (g := (mkF m 53 #[.val (.ref b), .val (.int ((i <<< ((1 : Int32) &&& 31)) + (1 : Int32)))] [(.int (x1 &&& (255 : Int32))), (.int ((x0 &&& (255 : Int32)) <<< ((0 : Int32) &&& 31)))])) rfl (hb hby own_d_jdk_52_method_5_53)
  refine own_st st8 ?_
  show own_Go p e below s _ _ _ (T8.setTop (mkF m 56 #[.val (.ref b), .val (.int ((i <<< ((1 : Int32) &&& 31)) + (1 : Int32)))] [(.int (8 : Int32)), (.int (x1 &&& (255 : Int32))), (.int ((x0 &&& (255 : Int32)) <<< ((0 : Int32) &&& 31)))]))
  refine own_st (fun t9 k9 => XT.ishl X8.here hx rfl (hb hby own_d_jdk_52_method_5_56) rfl k9) ?_
  show own_Go p e below s _ _ _ (T8.setTop (mkF m 57 #[.val (.ref b), .val (.int ((i <<< ((1 : Int32) &&& 31)) + (1 : Int32)))] [(.int ((x1 &&& (255 : Int32)) <<< ((8 : Int32) &&& 31))), (.int ((x0 &&& (255 : Int32)) <<< ((0 : Int32) &&& 31)))]))
  refine own_st (fun t9 k9 => XT.ior X8.here hx rfl (hb hby own_d_jdk_52_method_5_57) rfl k9) ?_
  show own_Go p e below s _ _ _ (T8.setTop (mkF m 58 #[.val (.ref b), .val (.int ((i <<< ((1 : Int32) &&& 31)) + (1 : Int32)))] [(.int (((x0 &&& (255 : Int32)) <<< ((0 : Int32) &&& 31)) ||| ((x1 &&& (255 : Int32)) <<< ((8 : Int32) &&& 31))))]))
  refine own_st (fun t9 k9 => XT.i2c X8.here hx rfl (hb hby own_d_jdk_52_method_5_58) rfl k9) ?_
  show own_Go p e below s _ _ _ (T8.setTop (mkF m 59 #[.val (.ref b), .val (.int ((i <<< ((1 : Int32) &&& 31)) + (1 : Int32)))] [(.int ((((x0 &&& (255 : Int32)) <<< ((0 : Int32) &&& 31)) ||| ((x1 &&& (255 : Int32)) <<< ((8 : Int32) &&& 31))).toUInt32.toUInt16.toUInt32.toInt32))]))
  exact own_retN X8 hx hlk (t := .char) Bd.returns (by simp) (hb hby own_d_jdk_52_method_5_59) (by decide) (by decide) (by rw [e8]; exact ⟨rfl, N0, rfl⟩)
theorem own_d_jdk_52_method_2_0 : decode jdk_52_method_2_code 0 = .ok (.iload_n 0, 1) := by decide +kernel
theorem own_pd0 : parseMethodDescriptor "(I)I" = some ⟨[.int], some .int⟩ := by decide +kernel
theorem own_d_jdk_52_method_2_1 : decode jdk_52_method_2_code 1 = .ok (.invokestatic 11, 3) := by decide +kernel
theorem own_d_jdk_52_method_2_4 : decode jdk_52_method_2_code 4 = .ok (.newarray .byte, 2) := by decide +kernel
theorem own_d_jdk_52_method_2_6 : decode jdk_52_method_2_code 6 = .ok (.areturn, 1) := by decide +kernel
theorem own_ef_nbf1 (m : MethodId) (x0 : Int32) : entryFrame m #[(.int x0)] 1 = mkF m 0 #[.val (.int x0)] [] := by first | (simp [entryFrame, mkF, argsToLocals, Value.category]; done) | rfl
def own_Q_nbf1 (Z : State)  (h0 : Heap) (n0 : Nat) (v : Option Value) (h : Heap) (L : List Loc) : Prop := Fr n0 L ∧ Keep h0 h [] ∧ ∃ a k, v = some (.ref a) ∧ h0.size ≤ a ∧ Arv Z h a k .byte (2 : Int32) [(.int (0 : Int32)), (.int (0 : Int32))] (.int (0 : Int32))
set_option maxRecDepth 65536 in
set_option maxHeartbeats 40000000 in
theorem own_rm_nbf1 (l : Launch) (Z : State) (a0 : Array Value) (hw : ∀ d ∈ tables_1, d.before a0 Z = true) (ws : List Jvm.Cond)  (h0 : Heap) (n0 : Nat) (Od : Old Z n0 h0) :
    MetFree l (⟨"java/lang/StringUTF16", "newBytesFor", "(I)[B"⟩ : MethodName) (head1 (Jvm.Cond.code (⟨"java/lang/StringUTF16", "newBytesFor", "(I)[B"⟩ : MethodName) jdk_52_method_2_code 1 (some (.array .byte)) :: ws) ({ frames := 1, cells := 1, slots := 2, locals := 12 } : Room)) (fun a9 U => a9 = #[(.int (1 : Int32))] ∧ Z.Warmed39 U.vm ∧ U.heap = h0) (fun _ _ _ _ _ => True) (fun _ U o U' => ∃ v L, o = .returned v ∧ own_Q_nbf1 Z  h0 n0 v U'.heap L ∧ FrameEnd U o U' L ({ frames := 1, cells := 1, slots := 2, locals := 12 } : Room).cells ({ frames := 1, cells := 1, slots := 2, locals := 12 } : Room).slots) := by
  refine MetFree.of_bodySF (plainFor_of_name own_pn0) hisR ?_
  intro p e s m args below meth c s₁ Bd hml0 hP hK
  obtain ⟨rfl, hZ, hh⟩ := hP
  have hx := Bd.exec
  have hby := Bd.bytes
  have hml : c.maxLocals = 1 := hml0
  have hown : s.vm.findClass "java/lang/StringUTF16" = some m.cls := findClass_of_methodNamed Bd.named
  have hnm := (name_of_methodNamed Bd.named Bd.method).1
  have hlk : meth.locks = false := Bd.notSynchronized
  have X0 : Stand p l e ({ frames := 1, cells := 1, slots := 2, locals := 12 } : Room) s m #[(.int (1 : Int32))] below meth c s₁ [] 0 0 := Stand.of_body Bd
  have e0 : s₁.heap = h0 := by rw [← hh, Bd.state]; rfl
  have N0 := Fr.nil n0
  show own_Go p e below s (own_Q_nbf1 Z  h0 n0) ({ frames := 1, cells := 1, slots := 2, locals := 12 } : Room).cells ({ frames := 1, cells := 1, slots := 2, locals := 12 } : Room).slots (s₁.setTop (entryFrame m #[(.int (1 : Int32))] 1))
  refine own_st (fun t9 k9 => castTop (own_ef_nbf1 m (1 : Int32)) k9) ?_
  show own_Go p e below s _ _ _ (s₁.setTop (mkF m 0 #[.val (.int (1 : Int32))] []))
  have Kp : Keep h0 h0 [] := Keep.refl h0 []
  refine own_st (fun t9 k9 => XS.iloadN X0.here hx rfl (hb hby own_d_jdk_52_method_2_0) rfl  k9) ?_
  show own_Go p e below s _ _ _ (s₁.setTop (mkF m 1 #[.val (.int (1 : Int32))] [(.int (1 : Int32))]))
  obtain ⟨_, T9, h9, L9, X9, e9, ⟨rfl, Nc, hu⟩, st9⟩ := own_callS X0 hx hZ hown (hw _ (List.mem_of_getElem? (i := 55) rfl)) (hw _ (List.mem_of_getElem? (i := 56) rfl)) (hw _ (List.mem_of_getElem? (i := 38) rfl)) (hw _ (List.mem_of_getElem? (i := 57) rfl)) (by decide) (own_rm_nbl l Z a0 hw [] (1 : Int32) h0 n0 Od (by decide) (by decide)) (by decide) (by decide) e0 (W := 0) (g := (mkF m 1 #[.val (.int (1 : Int32))] [(.int (1 : Int32))])) rfl (by rw [hml]; rfl) (argsL := [(.int (1 : Int32))]) (rest := []) rfl (lenOf own_pd0 rfl) rfl (by show 2 * 0 + _ ≤ _; exact Nat.le_of_eq rfl) (hb hby own_d_jdk_52_method_2_1) (by decide) (by decide)
  have N9 := Fr.app N0 Nc
  refine own_st st9 ?_
  show own_Go p e below s _ _ _ (T9.setTop (mkF m 4 #[.val (.int (1 : Int32))] [(.int ((1 : Int32) <<< ((1 : Int32) &&& 31)))]))
  show own_Go p e below s _ _ _ (T9.setTop (mkF m 4 #[.val (.int (1 : Int32))] [(.int (2 : Int32))]))
  obtain ⟨T10, h10, k10, X10, e10, E10, A10, st10⟩ := newP X9 hx hZ (hw _ (List.mem_of_getElem? (i := 20) rfl)) (e9.trans hu) (g := (mkF m 4 #[.val (.int (1 : Int32))] [(.int (2 : Int32))])) rfl (hb hby own_d_jdk_52_method_2_4) rfl (by decide) (cap := 2) (by decide) (by decide) (by decide) (by decide)
  obtain ⟨a, g10⟩ : ∃ z, z = h0.size := ⟨_, rfl⟩
  rw [← g10] at A10 st10
  have ge_a : n0 ≤ a := Nat.le_trans (own_z0 Od) (Nat.le_of_eq g10.symm)
  have gz_a : h0.size ≤ a := Nat.le_trans Kp.1 (Nat.le_of_eq g10.symm)
  have Od := Od.ext E10
  have Kp := Kp.ext E10
  refine own_st st10 ?_
  show own_Go p e below s _ _ _ (T10.setTop (mkF m 6 #[.val (.int (1 : Int32))] [(.ref a)]))
  have V_a : Arv Z h10 a k10 .byte (2 : Int32) [(.int (0 : Int32)), (.int (0 : Int32))] (.int (0 : Int32)) := (Arv.new A10 (by decide)).pad (pad_rep [] (.int (0 : Int32)) 2)
  exact own_retR X10 hx hlk Bd.returns rfl rfl (hb hby own_d_jdk_52_method_2_6) (by decide) (by decide) (by rw [e10]; exact ⟨N9, Kp, a, _, rfl, gz_a, V_a⟩)
theorem own_d_jdk_52_method_14_0 : decode jdk_52_method_14_code 0 = .ok (.iload_n 2, 1) := by decide +kernel
theorem own_pd1 : parseMethodDescriptor "(I)[B" = some ⟨[.int], some (.array .byte)⟩ := by decide +kernel
theorem own_d_jdk_52_method_14_1 : decode jdk_52_method_14_code 1 = .ok (.invokestatic 107, 3) := by decide +kernel
theorem own_d_jdk_52_method_14_4 : decode jdk_52_method_14_code 4 = .ok (.astore_n 3, 1) := by decide +kernel
theorem own_d_jdk_52_method_14_5 : decode jdk_52_method_14_code 5 = .ok (.iconst 0, 1) := by decide +kernel
theorem own_d_jdk_52_method_14_6 : decode jdk_52_method_14_code 6 = .ok (.istore 4, 2) := by decide +kernel
theorem own_d_jdk_52_method_14_8 : decode jdk_52_method_14_code 8 = .ok (.iload 4, 2) := by decide +kernel
theorem own_d_jdk_52_method_14_10 : decode jdk_52_method_14_code 10 = .ok (.iload_n 2, 1) := by decide +kernel
theorem own_d_jdk_52_method_14_11 : decode jdk_52_method_14_code 11 = .ok (.if_icmp .ge 21, 3) := by decide +kernel
theorem own_d_jdk_52_method_14_14 : decode jdk_52_method_14_code 14 = .ok (.aload_n 3, 1) := by decide +kernel
theorem own_d_jdk_52_method_14_15 : decode jdk_52_method_14_code 15 = .ok (.iload 4, 2) := by decide +kernel
theorem own_d_jdk_52_method_14_17 : decode jdk_52_method_14_code 17 = .ok (.aload_n 0, 1) := by decide +kernel
theorem own_d_jdk_52_method_14_18 : decode jdk_52_method_14_code 18 = .ok (.iload_n 1, 1) := by decide +kernel
theorem own_d_jdk_52_method_14_19 : decode jdk_52_method_14_code 19 = .ok (.caload, 1) := by decide +kernel
theorem own_pd2 : parseMethodDescriptor "([BII)V" = some ⟨[(.array .byte), .int, .int], none⟩ := by decide +kernel
theorem own_d_jdk_52_method_14_20 : decode jdk_52_method_14_code 20 = .ok (.invokestatic 111, 3) := by decide +kernel
theorem own_d_jdk_52_method_14_23 : decode jdk_52_method_14_code 23 = .ok (.iinc 1 1, 3) := by decide +kernel
theorem own_d_jdk_52_method_14_26 : decode jdk_52_method_14_code 26 = .ok (.iinc 4 1, 3) := by decide +kernel
theorem own_d_jdk_52_method_14_29 : decode jdk_52_method_14_code 29 = .ok (.goto (-21), 3) := by decide +kernel
theorem own_d_jdk_52_method_14_32 : decode jdk_52_method_14_code 32 = .ok (.aload_n 3, 1) := by decide +kernel
theorem own_d_jdk_52_method_14_33 : decode jdk_52_method_14_code 33 = .ok (.areturn, 1) := by decide +kernel
theorem own_ef_tob1 (m : MethodId) (x0 : Addr) (x1 : Int32) (x2 : Int32) : entryFrame m #[(.ref x0), (.int x1), (.int x2)] 5 = mkF m 0 #[.val (.ref x0), .val (.int x1), .val (.int x2), .unset, .unset] [] := by first | (simp [entryFrame, mkF, argsToLocals, Value.category]; done) | rfl
def own_Q_tob1 (Z : State) (x0 : Int32) (h0 : Heap) (n0 : Nat) (v : Option Value) (h : Heap) (L : List Loc) : Prop := Fr n0 L ∧ Keep h0 h [] ∧ ∃ a k, v = some (.ref a) ∧ h0.size ≤ a ∧ Arv Z h a k .byte (2 : Int32) [(.int (StrChars.lo8 x0)), (.int (StrChars.hi8 x0))] (.int (0 : Int32))
set_option maxRecDepth 65536 in
set_option maxHeartbeats 40000000 in
theorem own_rm_tob1 (l : Launch) (Z : State) (a0 : Array Value) (hw : ∀ d ∈ tables_1, d.before a0 Z = true) (ws : List Jvm.Cond) (sr : Addr) (ks : ClassId) (x0 : Int32) (h0 : Heap) (n0 : Nat) (Od : Old Z n0 h0) (V_s : Arv Z h0 sr ks .char (1 : Int32) [(.int x0)] (.int (0 : Int32))) (OA : Sta Z Z.heap "java/lang/StringUTF16" "$assertionsDisabled" "Z" (.int (1 : Int32))) (OH : Sta Z Z.heap "java/lang/StringUTF16" "HI_BYTE_SHIFT" "I" (.int (0 : Int32))) (OL : Sta Z Z.heap "java/lang/StringUTF16" "LO_BYTE_SHIFT" "I" (.int (8 : Int32))) :
    MetFree l (⟨"java/lang/StringUTF16", "toBytes", "([CII)[B"⟩ : MethodName) (head1 (Jvm.Cond.code (⟨"java/lang/StringUTF16", "toBytes", "([CII)[B"⟩ : MethodName) jdk_52_method_14_code 5 (some (.array .byte)) :: ws) ({ frames := 2, cells := 1, slots := 2, locals := 24 } : Room)) (fun a9 U => a9 = #[(.ref sr), (.int (0 : Int32)), (.int (1 : Int32))] ∧ Z.Warmed39 U.vm ∧ U.heap = h0) (fun _ _ _ _ _ => True) (fun _ U o U' => ∃ v L, o = .returned v ∧ own_Q_tob1 Z x0 h0 n0 v U'.heap L ∧ FrameEnd U o U' L ({ frames := 2, cells := 1, slots := 2, locals := 24 } : Room).cells ({ frames := 2, cells := 1, slots := 2, locals := 24 } : Room).slots) := by
  refine MetFree.of_bodySF (plainFor_of_name own_pn0) hisR ?_
  intro p e s m args below meth c s₁ Bd hml0 hP hK
  obtain ⟨rfl, hZ, hh⟩ := hP
  have hx := Bd.exec
  have hby := Bd.bytes
  have hml : c.maxLocals = 5 := hml0
  have hown : s.vm.findClass "java/lang/StringUTF16" = some m.cls := findClass_of_methodNamed Bd.named
  have hnm := (name_of_methodNamed Bd.named Bd.method).1
  have hlk : meth.locks = false := Bd.notSynchronized
  have X0 : Stand p l e ({ frames := 2, cells := 1, slots := 2, locals := 24 } : Room) s m #[(.ref sr), (.int (0 : Int32)), (.int (1 : Int32))] below meth c s₁ [] 0 0 := Stand.of_body Bd
  have e0 : s₁.heap = h0 := by rw [← hh, Bd.state]; rfl
  have N0 := Fr.nil n0
  show own_Go p e below s (own_Q_tob1 Z x0 h0 n0) ({ frames := 2, cells := 1, slots := 2, locals := 24 } : Room).cells ({ frames := 2, cells := 1, slots := 2, locals := 24 } : Room).slots (s₁.setTop (entryFrame m #[(.ref sr), (.int (0 : Int32)), (.int (1 : Int32))] 5))
  refine own_st (fun t9 k9 => castTop (own_ef_tob1 m sr (0 : Int32) (1 : Int32)) k9) ?_
  show own_Go p e below s _ _ _ (s₁.setTop (mkF m 0 #[.val (.ref sr), .val (.int (0 : Int32)), .val (.int (1 : Int32)), .unset, .unset] []))
  have Kp : Keep h0 h0 [] := Keep.refl h0 []
  refine own_st (fun t9 k9 => XS.iloadN X0.here hx rfl (hb hby own_d_jdk_52_method_14_0) rfl  k9) ?_
  show own_Go p e below s _ _ _ (s₁.setTop (mkF m 1 #[.val (.ref sr), .val (.int (0 : Int32)), .val (.int (1 : Int32)), .unset, .unset] [(.int (1 : Int32))]))
  obtain ⟨_, T11, h11, L11, X11, e11, ⟨Nc, Kc, a, ka, rfl, gea, V_a⟩, st11⟩ := own_callS X0 hx hZ hown (hw _ (List.mem_of_getElem? (i := 52) rfl)) (hw _ (List.mem_of_getElem? (i := 53) rfl)) (hw _ (List.mem_of_getElem? (i := 38) rfl)) (hw _ (List.mem_of_getElem? (i := 54) rfl)) (by decide) (own_rm_nbf1 l Z a0 hw [] h0 n0 Od) (by decide) (by decide) e0 (W := 0) (g := (mkF m 1 #[.val (.ref sr), .val (.int (0 : Int32)), .val (.int (1 : Int32)), .unset, .unset] [(.int (1 : Int32))])) rfl (by rw [hml]; rfl) (argsL := [(.int (1 : Int32))]) (rest := []) rfl (lenOf own_pd1 rfl) rfl (by show 2 * 0 + _ ≤ _; exact Nat.le_of_eq rfl) (hb hby own_d_jdk_52_method_14_1) (by decide) (by decide)
  have N11 := Fr.app N0 Nc
  have ne_sr_a : sr ≠ a := Nat.ne_of_lt (Nat.lt_of_lt_of_le V_s.lt gea)
  have ge_a : n0 ≤ a := Nat.le_trans (own_z0 Od) gea
  have gz_a : h0.size ≤ a := Nat.le_trans Kp.1 gea
  have V_s := V_s.keep Kc nin0
  have Od := Od.keep Kc all0
  have Kp := Kp.trans Kc all0
  refine own_st st11 ?_
  show own_Go p e below s _ _ _ (T11.setTop (mkF m 4 #[.val (.ref sr), .val (.int (0 : Int32)), .val (.int (1 : Int32)), .unset, .unset] [(.ref a)]))
  refine own_st (fun t9 k9 => XS.astoreN X11.here hx rfl (hb hby own_d_jdk_52_method_14_4) rfl rfl (l' := #[.val (.ref sr), .val (.int (0 : Int32)), .val (.int (1 : Int32)), .val (.ref a), .unset]) rfl k9) ?_
  show own_Go p e below s _ _ _ (T11.setTop (mkF m 5 #[.val (.ref sr), .val (.int (0 : Int32)), .val (.int (1 : Int32)), .val (.ref a), .unset] []))
  refine own_st (fun t9 k9 => XS.iconst X11.here hx rfl (hb hby own_d_jdk_52_method_14_5) k9) ?_
  show own_Go p e below s _ _ _ (T11.setTop (mkF m 6 #[.val (.ref sr), .val (.int (0 : Int32)), .val (.int (1 : Int32)), .val (.ref a), .unset] [(.int (0 : Int32))]))
  refine own_st (fun t9 k9 => XS.istore X11.here hx rfl (hb hby own_d_jdk_52_method_14_6) rfl (l' := #[.val (.ref sr), .val (.int (0 : Int32)), .val (.int (1 : Int32)), .val (.ref a), .val (.int (0 : Int32))]) rfl k9) ?_
  show own_Go p e below s _ _ _ (T11.setTop (mkF m 8 #[.val (.ref sr), .val (.int (0 : Int32)), .val (.int (1 : Int32)), .val (.ref a), .val (.int (0 : Int32))] []))
  refine own_st (fun t9 k9 => XS.iload X11.here hx rfl (hb hby own_d_jdk_52_method_14_8) rfl  k9) ?_
  show own_Go p e below s _ _ _ (T11.setTop (mkF m 10 #[.val (.ref sr), .val (.int (0 : Int32)), .val (.int (1 : Int32)), .val (.ref a), .val (.int (0 : Int32))] [(.int (0 : Int32))]))
  refine own_st (fun t9 k9 => XS.iloadN X11.here hx rfl (hb hby own_d_jdk_52_method_14_10) rfl  k9) ?_
  show own_Go p e below s _ _ _ (T11.setTop (mkF m 11 #[.val (.ref sr), .val (.int (0 : Int32)), .val (.int (1 : Int32)), .val (.ref a), .val (.int (0 : Int32))] [(.int (1 : Int32)), (.int (0 : Int32))]))
  refine own_st (fun t9 k9 => XS.icmpNo X11.here hx rfl (hb hby own_d_jdk_52_method_14_11) rfl (by decide) k9) ?_
  show own_Go p e below s _ _ _ (T11.setTop (mkF m 14 #[.val (.ref sr), .val (.int (0 : Int32)), .val (.int (1 : Int32)), .val (.ref a), .val (.int (0 : Int32))] []))
  refine own_st (fun t9 k9 => XS.aloadN X11.here hx rfl (hb hby own_d_jdk_52_method_14_14) rfl rfl k9) ?_
  show own_Go p e below s _ _ _ (T11.setTop (mkF m 15 #[.val (.ref sr), .val (.int (0 : Int32)), .val (.int (1 : Int32)), .val (.ref a), .val (.int (0 : Int32))] [(.ref a)]))
  refine own_st (fun t9 k9 => XS.iload X11.here hx rfl (hb hby own_d_jdk_52_method_14_15) rfl  k9) ?_
  show own_Go p e below s _ _ _ (T11.setTop (mkF m 17 #[.val (.ref sr), .val (.int (0 : Int32)), .val (.int (1 : Int32)), .val (.ref a), .val (.int (0 : Int32))] [(.int (0 : Int32)), (.ref a)]))
  refine own_st (fun t9 k9 => XS.aloadN X11.here hx rfl (hb hby own_d_jdk_52_method_14_17) rfl rfl k9) ?_
  show own_Go p e below s _ _ _ (T11.setTop (mkF m 18 #[.val (.ref sr), .val (.int (0 : Int32)), .val (.int (1 : Int32)), .val (.ref a), .val (.int (0 : Int32))] [(.ref sr), (.int (0 : Int32)), (.ref a)]))
  refine own_st (fun t9 k9 => XS.iloadN X11.here hx rfl (hb hby own_d_jdk_52_method_14_18) rfl  k9) ?_
  show own_Go p e below s _ _ _ (T11.setTop (mkF m 19 #[.val (.ref sr), .val (.int (0 : Int32)), .val (.int (1 : Int32)), .val (.ref a), .val (.int (0 : Int32))] [(.int (0 : Int32)), (.ref sr), (.int (0 : Int32)), (.ref a)]))
  refine own_st (fun t9 k9 => own_cald X11 hx hZ e11 V_s (j := (0 : Int32)) (v := (.int x0)) ⟨by decide, by decide⟩ rfl (g := (mkF m 19 #[.val (.ref sr), .val (.int (0 : Int32)), .val (.int (1 : Int32)), .val (.ref a), .val (.int (0 : Int32))] [(.int (0 : Int32)), (.ref sr), (.int (0 : Int32)), (.ref a)])) rfl rfl (hb hby own_d_jdk_52_method_14_19) t9 k9) ?_
  show own_Go p e below s _ _ _ (T11.setTop (mkF m 20 #[.val (.ref sr), .val (.int (0 : Int32)), .val (.int (1 : Int32)), .val (.ref a), .val (.int (0 : Int32))] [(.int x0), (.int (0 : Int32)), (.ref a)]))
  obtain ⟨cl, A1, A2, A3, A4, A5, A6⟩ := id V_a
  obtain ⟨_, T12, h12, L12, X12, e12, ⟨rfl, Nc, h1, W1, W2⟩, st12⟩ := own_callS X11 hx hZ hown (hw _ (List.mem_of_getElem? (i := 59) rfl)) (hw _ (List.mem_of_getElem? (i := 60) rfl)) (hw _ (List.mem_of_getElem? (i := 38) rfl)) (hw _ (List.mem_of_getElem? (i := 61) rfl)) (by decide) (own_rm_putc l Z a0 hw [] a (0 : Int32) x0 cl h11 n0 Od A1 ge_a (inb_of A3 ⟨by decide, by decide⟩) (inb_of A3 ⟨by decide, by decide⟩) OA OH OL) (by decide) (by decide) e11 (W := 0) (g := (mkF m 20 #[.val (.ref sr), .val (.int (0 : Int32)), .val (.int (1 : Int32)), .val (.ref a), .val (.int (0 : Int32))] [(.int x0), (.int (0 : Int32)), (.ref a)])) rfl (by rw [hml]; rfl) (argsL := [(.ref a), (.int (0 : Int32)), (.int x0)]) (rest := []) rfl (lenOf own_pd2 rfl) rfl (by show 2 * 0 + _ ≤ _; exact Nat.le_of_eq rfl) (hb hby own_d_jdk_52_method_14_20) (by decide) (by decide)
  have N12 := Fr.app N11 Nc
  have V_s := V_s.keep ((Keep.of_wr W1).trans (Keep.of_wr W2) (fun x hx => Or.inl hx)) (ninS ne_sr_a nin0)
  have Od := Od.keep ((Keep.of_wr W1).trans (Keep.of_wr W2) (fun x hx => Or.inl hx)) (allS ge_a all0)
  have Kp := Kp.trans ((Keep.of_wr W1).trans (Keep.of_wr W2) (fun x hx => Or.inl hx)) (allS (Or.inr gz_a) all0)
  refine own_st st12 ?_
  show own_Go p e below s _ _ _ (T12.setTop (mkF m 23 #[.val (.ref sr), .val (.int (0 : Int32)), .val (.int (1 : Int32)), .val (.ref a), .val (.int (0 : Int32))] []))
  have V_m : Arv Z h1 a ka .byte (2 : Int32) [(.int (StrChars.lo8 x0)), (.int (0 : Int32))] (.int (0 : Int32)) := Arv.set A1 A2 A3 A4 A5 A6 (fits_nar_byte _) W1 0 rfl (Nat.le_of_ble_eq_true rfl)
  obtain ⟨cm, B1, B2, B3, B4, B5, B6⟩ := id V_m
  have V_a : Arv Z h12 a ka .byte (2 : Int32) [(.int (StrChars.lo8 x0)), (.int (StrChars.hi8 x0))] (.int (0 : Int32)) := Arv.set B1 B2 B3 B4 B5 B6 (fits_nar_byte _) W2 1 rfl (Nat.le_of_ble_eq_true rfl)
  refine own_st (fun t9 k9 => XS.iinc X12.here hx rfl (hb hby own_d_jdk_52_method_14_23) rfl (l' := #[.val (.ref sr), .val (.int ((0 : Int32) + (1 : Int32))), .val (.int (1 : Int32)), .val (.ref a), .val (.int (0 : Int32))]) rfl k9) ?_
  show own_Go p e below s _ _ _ (T12.setTop (mkF m 26 #[.val (.ref sr), .val (.int ((0 : Int32) + (1 : Int32))), .val (.int (1 : Int32)), .val (.ref a), .val (.int (0 : Int32))] []))
  show own_Go p e below s _ _ _ (T12.setTop (mkF m 26 #[.val (.ref sr), .val (.int (1 : Int32)), .val (.int (1 : Int32)), .val (.ref a), .val (.int (0 : Int32))] []))
  refine own_st (fun t9 k9 => XS.iinc X12.here hx rfl (hb hby own_d_jdk_52_method_14_26) rfl (l' := #[.val (.ref sr), .val (.int (1 : Int32)), .val (.int (1 : Int32)), .val (.ref a), .val (.int ((0 : Int32) + (1 : Int32)))]) rfl k9) ?_
  show own_Go p e below s _ _ _ (T12.setTop (mkF m 29 #[.val (.ref sr), .val (.int (1 : Int32)), .val (.int (1 : Int32)), .val (.ref a), .val (.int ((0 : Int32) + (1 : Int32)))] []))
  show own_Go p e below s _ _ _ (T12.setTop (mkF m 29 #[.val (.ref sr), .val (.int (1 : Int32)), .val (.int (1 : Int32)), .val (.ref a), .val (.int (1 : Int32))] []))
  refine own_st (fun t9 k9 => XS.goto X12.here hx rfl (pc0 := 29) (pc' := 8) rfl (hb hby own_d_jdk_52_method_14_29) (by decide) (by decide) k9) ?_
  show own_Go p e below s _ _ _ (T12.setTop (mkF m 8 #[.val (.ref sr), .val (.int (1 : Int32)), .val (.int (1 : Int32)), .val (.ref a), .val (.int (1 : Int32))] []))
  refine own_st (fun t9 k9 => XS.iload X12.here hx rfl (hb hby own_d_jdk_52_method_14_8) rfl  k9) ?_
  show own_Go p e below s _ _ _ (T12.setTop (mkF m 10 #[.val (.ref sr), .val (.int (1 : Int32)), .val (.int (1 : Int32)), .val (.ref a), .val (.int (1 : Int32))] [(.int (1 : Int32))]))
  refine own_st (fun t9 k9 => XS.iloadN X12.here hx rfl (hb hby own_d_jdk_52_method_14_10) rfl  k9) ?_
  show own_Go p e below s _ _ _ (T12.setTop (mkF m 11 #[.val (.ref sr), .val (.int (1 : Int32)), .val (.int (1 : Int32)), .val (.ref a), .val (.int (1 : Int32))] [(.int (1 : Int32)), (.int (1 : Int32))]))
  refine own_st (fun t9 k9 => XS.icmpYes X12.here hx rfl (pc0 := 11) (pc' := 32) rfl (hb hby own_d_jdk_52_method_14_11) rfl (by decide) (by decide) (by decide) k9) ?_
  show own_Go p e below s _ _ _ (T12.setTop (mkF m 32 #[.val (.ref sr), .val (.int (1 : Int32)), .val (.int (1 : Int32)), .val (.ref a), .val (.int (1 : Int32))] []))
  refine own_st (fun t9 k9 => XS.aloadN X12.here hx rfl (hb hby own_d_jdk_52_method_14_32) rfl rfl k9) ?_
  show own_Go p e below s _ _ _ (T12.setTop (mkF m 33 #[.val (.ref sr), .val (.int (1 : Int32)), .val (.int (1 : Int32)), .val (.ref a), .val (.int (1 : Int32))] [(.ref a)]))
  exact own_retR X12 hx hlk Bd.returns rfl rfl (hb hby own_d_jdk_52_method_14_33) (by decide) (by decide) (by rw [e12]; exact ⟨N12, Kp, a, ka, rfl, gz_a, V_a⟩)
theorem own_d_jdk_52_method_21_0 : decode jdk_52_method_21_code 0 = .ok (.iconst 0, 1) := by decide +kernel
theorem own_d_jdk_52_method_21_1 : decode jdk_52_method_21_code 1 = .ok (.istore 5, 2) := by decide +kernel
theorem own_d_jdk_52_method_21_3 : decode jdk_52_method_21_code 3 = .ok (.iload 5, 2) := by decide +kernel
theorem own_d_jdk_52_method_21_5 : decode jdk_52_method_21_code 5 = .ok (.iload 4, 2) := by decide +kernel
theorem own_d_jdk_52_method_21_7 : decode jdk_52_method_21_code 7 = .ok (.if_icmp .ge 37, 3) := by decide +kernel
theorem own_d_jdk_52_method_21_10 : decode jdk_52_method_21_code 10 = .ok (.aload_n 0, 1) := by decide +kernel
theorem own_d_jdk_52_method_21_11 : decode jdk_52_method_21_code 11 = .ok (.iload_n 1, 1) := by decide +kernel
theorem own_d_jdk_52_method_21_12 : decode jdk_52_method_21_code 12 = .ok (.caload, 1) := by decide +kernel
theorem own_d_jdk_52_method_21_13 : decode jdk_52_method_21_code 13 = .ok (.istore 6, 2) := by decide +kernel
theorem own_d_jdk_52_method_21_15 : decode jdk_52_method_21_code 15 = .ok (.iload 6, 2) := by decide +kernel
theorem own_d_jdk_52_method_21_17 : decode jdk_52_method_21_code 17 = .ok (.sipush 255, 3) := by decide +kernel
theorem own_d_jdk_52_method_21_20 : decode jdk_52_method_21_code 20 = .ok (.if_icmp .le 6, 3) := by decide +kernel
theorem own_d_jdk_52_method_21_23 : decode jdk_52_method_21_code 23 = .ok (.iload 5, 2) := by decide +kernel
theorem own_d_jdk_52_method_21_25 : decode jdk_52_method_21_code 25 = .ok (.ireturn, 1) := by decide +kernel
theorem own_d_jdk_52_method_21_26 : decode jdk_52_method_21_code 26 = .ok (.aload_n 2, 1) := by decide +kernel
theorem own_d_jdk_52_method_21_27 : decode jdk_52_method_21_code 27 = .ok (.iload_n 3, 1) := by decide +kernel
theorem own_d_jdk_52_method_21_28 : decode jdk_52_method_21_code 28 = .ok (.iload 6, 2) := by decide +kernel
theorem own_d_jdk_52_method_21_30 : decode jdk_52_method_21_code 30 = .ok (.i2b, 1) := by decide +kernel
theorem own_d_jdk_52_method_21_31 : decode jdk_52_method_21_code 31 = .ok (.bastore, 1) := by decide +kernel
theorem own_d_jdk_52_method_21_32 : decode jdk_52_method_21_code 32 = .ok (.iinc 1 1, 3) := by decide +kernel
theorem own_d_jdk_52_method_21_35 : decode jdk_52_method_21_code 35 = .ok (.iinc 3 1, 3) := by decide +kernel
theorem own_d_jdk_52_method_21_38 : decode jdk_52_method_21_code 38 = .ok (.iinc 5 1, 3) := by decide +kernel
theorem own_d_jdk_52_method_21_41 : decode jdk_52_method_21_code 41 = .ok (.goto (-38), 3) := by decide +kernel
theorem own_d_jdk_52_method_21_44 : decode jdk_52_method_21_code 44 = .ok (.iload 4, 2) := by decide +kernel
theorem own_d_jdk_52_method_21_46 : decode jdk_52_method_21_code 46 = .ok (.ireturn, 1) := by decide +kernel
theorem own_ef_cm1 (m : MethodId) (x0 : Addr) (x1 : Int32) (x2 : Addr) (x3 : Int32) (x4 : Int32) : entryFrame m #[(.ref x0), (.int x1), (.ref x2), (.int x3), (.int x4)] 7 = mkF m 0 #[.val (.ref x0), .val (.int x1), .val (.ref x2), .val (.int x3), .val (.int x4), .unset, .unset] [] := by first | (simp [entryFrame, mkF, argsToLocals, Value.category]; done) | rfl
def own_Q_cm1 (Z : State) (ds : Addr) (x0 : Int32) (h0 : Heap) (n0 : Nat) (v : Option Value) (h : Heap) (L : List Loc) : Prop := v = some (.int (own_first [x0] 0)) ∧ Fr n0 L ∧ Keep h0 h [ds]
set_option maxRecDepth 65536 in
set_option maxHeartbeats 40000000 in
theorem own_rm_cm1 (l : Launch) (Z : State) (a0 : Array Value) (hw : ∀ d ∈ tables_1, d.before a0 Z = true) (ws : List Jvm.Cond) (sr ds : Addr) (ks kd : ClassId) (x0 : Int32) (h0 : Heap) (n0 : Nat) (Od : Old Z n0 h0) (V_s : Arv Z h0 sr ks .char (1 : Int32) [(.int x0)] (.int (0 : Int32))) (V_d : Arv Z h0 ds kd .byte (1 : Int32) [(.int (0 : Int32))] (.int (0 : Int32))) (ne_s : sr ≠ ds) (ge_ds : n0 ≤ ds) :
    MetFree l (⟨"java/lang/StringUTF16", "compress", "([CI[BII)I"⟩ : MethodName) (head1 (Jvm.Cond.code (⟨"java/lang/StringUTF16", "compress", "([CI[BII)I"⟩ : MethodName) jdk_52_method_21_code 7 (some .int) :: ws) ({ frames := 0, cells := 0, slots := 0, locals := 0 } : Room)) (fun a9 U => a9 = #[(.ref sr), (.int (0 : Int32)), (.ref ds), (.int (0 : Int32)), (.int (1 : Int32))] ∧ Z.Warmed39 U.vm ∧ U.heap = h0) (fun _ _ _ _ _ => True) (fun _ U o U' => ∃ v L, o = .returned v ∧ own_Q_cm1 Z ds x0 h0 n0 v U'.heap L ∧ FrameEnd U o U' L ({ frames := 0, cells := 0, slots := 0, locals := 0 } : Room).cells ({ frames := 0, cells := 0, slots := 0, locals := 0 } : Room).slots) := by
  refine MetFree.of_bodySF (plainFor_of_name own_pn0) hisR ?_
  intro p e s m args below meth c s₁ Bd hml0 hP hK
  obtain ⟨rfl, hZ, hh⟩ := hP
  have hx := Bd.exec
  have hby := Bd.bytes
  have hml : c.maxLocals = 7 := hml0
  have hown : s.vm.findClass "java/lang/StringUTF16" = some m.cls := findClass_of_methodNamed Bd.named
  have hnm := (name_of_methodNamed Bd.named Bd.method).1
  have hlk : meth.locks = false := Bd.notSynchronized
  have X0 : Stand p l e ({ frames := 0, cells := 0, slots := 0, locals := 0 } : Room) s m #[(.ref sr), (.int (0 : Int32)), (.ref ds), (.int (0 : Int32)), (.int (1 : Int32))] below meth c s₁ [] 0 0 := Stand.of_body Bd
  have e0 : s₁.heap = h0 := by rw [← hh, Bd.state]; rfl
  have N0 := Fr.nil n0
  show own_Go p e below s (own_Q_cm1 Z ds x0 h0 n0) ({ frames := 0, cells := 0, slots := 0, locals := 0 } : Room).cells ({ frames := 0, cells := 0, slots := 0, locals := 0 } : Room).slots (s₁.setTop (entryFrame m #[(.ref sr), (.int (0 : Int32)), (.ref ds), (.int (0 : Int32)), (.int (1 : Int32))] 7))
  refine own_st (fun t9 k9 => castTop (own_ef_cm1 m sr (0 : Int32) ds (0 : Int32) (1 : Int32)) k9) ?_
  show own_Go p e below s _ _ _ (s₁.setTop (mkF m 0 #[.val (.ref sr), .val (.int (0 : Int32)), .val (.ref ds), .val (.int (0 : Int32)), .val (.int (1 : Int32)), .unset, .unset] []))
  have Kp : Keep h0 h0 [ds] := Keep.refl h0 [ds]
  refine own_st (fun t9 k9 => XS.iconst X0.here hx rfl (hb hby own_d_jdk_52_method_21_0) k9) ?_
  show own_Go p e below s _ _ _ (s₁.setTop (mkF m 1 #[.val (.ref sr), .val (.int (0 : Int32)), .val (.ref ds), .val (.int (0 : Int32)), .val (.int (1 : Int32)), .unset, .unset] [(.int (0 : Int32))]))
  refine own_st (fun t9 k9 => XS.istore X0.here hx rfl (hb hby own_d_jdk_52_method_21_1) rfl (l' := #[.val (.ref sr), .val (.int (0 : Int32)), .val (.ref ds), .val (.int (0 : Int32)), .val (.int (1 : Int32)), .val (.int (0 : Int32)), .unset]) rfl k9) ?_
  show own_Go p e below s _ _ _ (s₁.setTop (mkF m 3 #[.val (.ref sr), .val (.int (0 : Int32)), .val (.ref ds), .val (.int (0 : Int32)), .val (.int (1 : Int32)), .val (.int (0 : Int32)), .unset] []))
  refine own_st (fun t9 k9 => XS.iload X0.here hx rfl (hb hby own_d_jdk_52_method_21_3) rfl  k9) ?_
  show own_Go p e below s _ _ _ (s₁.setTop (mkF m 5 #[.val (.ref sr), .val (.int (0 : Int32)), .val (.ref ds), .val (.int (0 : Int32)), .val (.int (1 : Int32)), .val (.int (0 : Int32)), .unset] [(.int (0 : Int32))]))
  refine own_st (fun t9 k9 => XS.iload X0.here hx rfl (hb hby own_d_jdk_52_method_21_5) rfl  k9) ?_
  show own_Go p e below s _ _ _ (s₁.setTop (mkF m 7 #[.val (.ref sr), .val (.int (0 : Int32)), .val (.ref ds), .val (.int (0 : Int32)), .val (.int (1 : Int32)), .val (.int (0 : Int32)), .unset] [(.int (1 : Int32)), (.int (0 : Int32))]))
  refine own_st (fun t9 k9 => XS.icmpNo X0.here hx rfl (hb hby own_d_jdk_52_method_21_7) rfl (by decide) k9) ?_
  show own_Go p e below s _ _ _ (s₁.setTop (mkF m 10 #[.val (.ref sr), .val (.int (0 : Int32)), .val (.ref ds), .val (.int (0 : Int32)), .val (.int (1 : Int32)), .val (.int (0 : Int32)), .unset] []))
  refine own_st (fun t9 k9 => XS.aloadN X0.here hx rfl (hb hby own_d_jdk_52_method_21_10) rfl rfl k9) ?_
  show own_Go p e below s _ _ _ (s₁.setTop (mkF m 11 #[.val (.ref sr), .val (.int (0 : Int32)), .val (.ref ds), .val (.int (0 : Int32)), .val (.int (1 : Int32)), .val (.int (0 : Int32)), .unset] [(.ref sr)]))
  refine own_st (fun t9 k9 => XS.iloadN X0.here hx rfl (hb hby own_d_jdk_52_method_21_11) rfl  k9) ?_
  show own_Go p e below s _ _ _ (s₁.setTop (mkF m 12 #[.val (.ref sr), .val (.int (0 : Int32)), .val (.ref ds), .val (.int (0 : Int32)), .val (.int (1 : Int32)), .val (.int (0 : Int32)), .unset] [(.int (0 : Int32)), (.ref sr)]))
  refine own_st (fun t9 k9 => own_cald X0 hx hZ e0 V_s (j := (0 : Int32)) (v := (.int x0)) ⟨by decide, by decide⟩ rfl (g := (mkF m 12 #[.val (.ref sr), .val (.int (0 : Int32)), .val (.ref ds), .val (.int (0 : Int32)), .val (.int (1 : Int32)), .val (.int (0 : Int32)), .unset] [(.int (0 : Int32)), (.ref sr)])) rfl rfl (hb hby own_d_jdk_52_method_21_12) t9 k9) ?_
  show own_Go p e below s _ _ _ (s₁.setTop (mkF m 13 #[.val (.ref sr), .val (.int (0 : Int32)), .val (.ref ds), .val (.int (0 : Int32)), .val (.int (1 : Int32)), .val (.int (0 : Int32)), .unset] [(.int x0)]))
  refine own_st (fun t9 k9 => XS.istore X0.here hx rfl (hb hby own_d_jdk_52_method_21_13) rfl (l' := #[.val (.ref sr), .val (.int (0 : Int32)), .val (.ref ds), .val (.int (0 : Int32)), .val (.int (1 : Int32)), .val (.int (0 : Int32)), .val (.int x0)]) rfl k9) ?_
  show own_Go p e below s _ _ _ (s₁.setTop (mkF m 15 #[.val (.ref sr), .val (.int (0 : Int32)), .val (.ref ds), .val (.int (0 : Int32)), .val (.int (1 : Int32)), .val (.int (0 : Int32)), .val (.int x0)] []))
  refine own_st (fun t9 k9 => XS.iload X0.here hx rfl (hb hby own_d_jdk_52_method_21_15) rfl  k9) ?_
  show own_Go p e below s _ _ _ (s₁.setTop (mkF m 17 #[.val (.ref sr), .val (.int (0 : Int32)), .val (.ref ds), .val (.int (0 : Int32)), .val (.int (1 : Int32)), .val (.int (0 : Int32)), .val (.int x0)] [(.int x0)]))
  refine own_st (fun t9 k9 => XS.sipush X0.here hx rfl (hb hby own_d_jdk_52_method_21_17) k9) ?_
  show own_Go p e below s _ _ _ (s₁.setTop (mkF m 20 #[.val (.ref sr), .val (.int (0 : Int32)), .val (.ref ds), .val (.int (0 : Int32)), .val (.int (1 : Int32)), .val (.int (0 : Int32)), .val (.int x0)] [(.int (255 : Int32)), (.int x0)]))
  by_cases hg0 : (255 : Int32) < x0
  · skip
    refine own_st (fun t9 k9 => XS.icmpNo X0.here hx rfl (hb hby own_d_jdk_52_method_21_20) rfl (tlt (hg0 : (255 : Int32) < x0)).2.2.2 k9) ?_
    show own_Go p e below s _ _ _ (s₁.setTop (mkF m 23 #[.val (.ref sr), .val (.int (0 : Int32)), .val (.ref ds), .val (.int (0 : Int32)), .val (.int (1 : Int32)), .val (.int (0 : Int32)), .val (.int x0)] []))
    refine own_st (fun t9 k9 => XS.iload X0.here hx rfl (hb hby own_d_jdk_52_method_21_23) rfl  k9) ?_
    show own_Go p e below s _ _ _ (s₁.setTop (mkF m 25 #[.val (.ref sr), .val (.int (0 : Int32)), .val (.ref ds), .val (.int (0 : Int32)), .val (.int (1 : Int32)), .val (.int (0 : Int32)), .val (.int x0)] [(.int (0 : Int32))]))
    exact own_retI X0 hx hlk Bd.returns (hb hby own_d_jdk_52_method_21_25) (by decide) (by decide) (by rw [e0]; exact ⟨by rw [(show own_first [x0] 0 = (0 : Int32) from (if_pos hg0))], N0, Kp⟩)
  · skip
    refine own_st (fun t9 k9 => XS.icmpYes X0.here hx rfl (pc0 := 20) (pc' := 26) rfl (hb hby own_d_jdk_52_method_21_20) rfl (flt (hg0 : ¬ ((255 : Int32) < x0))).2.2.2 (by decide) (by decide) k9) ?_
    show own_Go p e below s _ _ _ (s₁.setTop (mkF m 26 #[.val (.ref sr), .val (.int (0 : Int32)), .val (.ref ds), .val (.int (0 : Int32)), .val (.int (1 : Int32)), .val (.int (0 : Int32)), .val (.int x0)] []))
    refine own_st (fun t9 k9 => XS.aloadN X0.here hx rfl (hb hby own_d_jdk_52_method_21_26) rfl rfl k9) ?_
    show own_Go p e below s _ _ _ (s₁.setTop (mkF m 27 #[.val (.ref sr), .val (.int (0 : Int32)), .val (.ref ds), .val (.int (0 : Int32)), .val (.int (1 : Int32)), .val (.int (0 : Int32)), .val (.int x0)] [(.ref ds)]))
    refine own_st (fun t9 k9 => XS.iloadN X0.here hx rfl (hb hby own_d_jdk_52_method_21_27) rfl  k9) ?_
    show own_Go p e below s _ _ _ (s₁.setTop (mkF m 28 #[.val (.ref sr), .val (.int (0 : Int32)), .val (.ref ds), .val (.int (0 : Int32)), .val (.int (1 : Int32)), .val (.int (0 : Int32)), .val (.int x0)] [(.int (0 : Int32)), (.ref ds)]))
    refine own_st (fun t9 k9 => XS.iload X0.here hx rfl (hb hby own_d_jdk_52_method_21_28) rfl  k9) ?_
    show own_Go p e below s _ _ _ (s₁.setTop (mkF m 30 #[.val (.ref sr), .val (.int (0 : Int32)), .val (.ref ds), .val (.int (0 : Int32)), .val (.int (1 : Int32)), .val (.int (0 : Int32)), .val (.int x0)] [(.int x0), (.int (0 : Int32)), (.ref ds)]))
    refine own_st (fun t9 k9 => XT.i2b X0.here hx rfl (hb hby own_d_jdk_52_method_21_30) rfl k9) ?_
    show own_Go p e below s _ _ _ (s₁.setTop (mkF m 31 #[.val (.ref sr), .val (.int (0 : Int32)), .val (.ref ds), .val (.int (0 : Int32)), .val (.int (1 : Int32)), .val (.int (0 : Int32)), .val (.int x0)] [(.int (x0.toInt8.toInt32)), (.int (0 : Int32)), (.ref ds)]))
    obtain ⟨cl13, Ar13, q13, S13, M13, H13, G13⟩ := id V_d
    obtain ⟨T13, h13, X13, e13, W13, st13⟩ := stB X0 hx hZ e0 Ar13 (j := (0 : Int32)) (inb_of S13 ⟨by decide, by decide⟩) (g := (mkF m 31 #[.val (.ref sr), .val (.int (0 : Int32)), .val (.ref ds), .val (.int (0 : Int32)), .val (.int (1 : Int32)), .val (.int (0 : Int32)), .val (.int x0)] [(.int (x0.toInt8.toInt32)), (.int (0 : Int32)), (.ref ds)])) rfl rfl (hb hby own_d_jdk_52_method_21_31)
    have N13 := Fr.snoc X13 N0 ge_ds
    have V_s := V_s.other W13 ne_s
    have Od := Od.wr W13 ge_ds
    have Kp := Kp.wr W13 (Or.inl (List.mem_of_getElem? (i := 0) rfl))
    refine own_st st13 ?_
    show own_Go p e below s _ _ _ (T13.setTop (mkF m 32 #[.val (.ref sr), .val (.int (0 : Int32)), .val (.ref ds), .val (.int (0 : Int32)), .val (.int (1 : Int32)), .val (.int (0 : Int32)), .val (.int x0)] []))
    have V_d : Arv Z h13 ds kd .byte (1 : Int32) [(.int (nar .byte (x0.toInt8.toInt32)))] (.int (0 : Int32)) := Arv.set Ar13 q13 S13 M13 H13 G13 (fits_nar_byte _) W13 0 rfl (Nat.le_of_ble_eq_true rfl)
    refine own_st (fun t9 k9 => XS.iinc X13.here hx rfl (hb hby own_d_jdk_52_method_21_32) rfl (l' := #[.val (.ref sr), .val (.int ((0 : Int32) + (1 : Int32))), .val (.ref ds), .val (.int (0 : Int32)), .val (.int (1 : Int32)), .val (.int (0 : Int32)), .val (.int x0)]) rfl k9) ?_
    show own_Go p e below s _ _ _ (T13.setTop (mkF m 35 #[.val (.ref sr), .val (.int ((0 : Int32) + (1 : Int32))), .val (.ref ds), .val (.int (0 : Int32)), .val (.int (1 : Int32)), .val (.int (0 : Int32)), .val (.int x0)] []))
    show own_Go p e below s _ _ _ (T13.setTop (mkF m 35 #[.val (.ref sr), .val (.int (1 : Int32)), .val (.ref ds), .val (.int (0 : Int32)), .val (.int (1 : Int32)), .val (.int (0 : Int32)), .val (.int x0)] []))
    refine own_st (fun t9 k9 => XS.iinc X13.here hx rfl (hb hby own_d_jdk_52_method_21_35) rfl (l' := #[.val (.ref sr), .val (.int (1 : Int32)), .val (.ref ds), .val (.int ((0 : Int32) + (1 : Int32))), .val (.int (1 : Int32)), .val (.int (0 : Int32)), .val (.int x0)]) rfl k9) ?_
    show own_Go p e below s _ _ _ (T13.setTop (mkF m 38 #[.val (.ref sr), .val (.int (1 : Int32)), .val (.ref ds), .val (.int ((0 : Int32) + (1 : Int32))), .val (.int (1 : Int32)), .val (.int (0 : Int32)), .val (.int x0)] []))
    show own_Go p e below s _ _ _ (T13.setTop (mkF m 38 #[.val (.ref sr), .val (.int (1 : Int32)), .val (.ref ds), .val (.int (1 : Int32)), .val (.int (1 : Int32)), .val (.int (0 : Int32)), .val (.int x0)] []))
    refine own_st (fun t9 k9 => XS.iinc X13.here hx rfl (hb hby own_d_jdk_52_method_21_38) rfl (l' := #[.val (.ref sr), .val (.int (1 : Int32)), .val (.ref ds), .val (.int (1 : Int32)), .val (.int (1 : Int32)), .val (.int ((0 : Int32) + (1 : Int32))), .val (.int x0)]) rfl k9) ?_
    show own_Go p e below s _ _ _ (T13.setTop (mkF m 41 #[.val (.ref sr), .val (.int (1 : Int32)), .val (.ref ds), .val (.int (1 : Int32)), .val (.int (1 : Int32)), .val (.int ((0 : Int32) + (1 : Int32))), .val (.int x0)] []))
    show own_Go p e below s _ _ _ (T13.setTop (mkF m 41 #[.val (.ref sr), .val (.int (1 : Int32)), .val (.ref ds), .val (.int (1 : Int32)), .val (.int (1 : Int32)), .val (.int (1 : Int32)), .val (.int x0)] []))
    refine own_st (fun t9 k9 => XS.goto X13.here hx rfl (pc0 := 41) (pc' := 3) rfl (hb hby own_d_jdk_52_method_21_41) (by decide) (by decide) k9) ?_
    show own_Go p e below s _ _ _ (T13.setTop (mkF m 3 #[.val (.ref sr), .val (.int (1 : Int32)), .val (.ref ds), .val (.int (1 : Int32)), .val (.int (1 : Int32)), .val (.int (1 : Int32)), .val (.int x0)] []))
    refine own_st (fun t9 k9 => XS.iload X13.here hx rfl (hb hby own_d_jdk_52_method_21_3) rfl  k9) ?_
    show own_Go p e below s _ _ _ (T13.setTop (mkF m 5 #[.val (.ref sr), .val (.int (1 : Int32)), .val (.ref ds), .val (.int (1 : Int32)), .val (.int (1 : Int32)), .val (.int (1 : Int32)), .val (.int x0)] [(.int (1 : Int32))]))
    refine own_st (fun t9 k9 => XS.iload X13.here hx rfl (hb hby own_d_jdk_52_method_21_5) rfl  k9) ?_
    show own_Go p e below s _ _ _ (T13.setTop (mkF m 7 #[.val (.ref sr), .val (.int (1 : Int32)), .val (.ref ds), .val (.int (1 : Int32)), .val (.int (1 : Int32)), .val (.int (1 : Int32)), .val (.int x0)] [(.int (1 : Int32)), (.int (1 : Int32))]))
    refine own_st (fun t9 k9 => XS.icmpYes X13.here hx rfl (pc0 := 7) (pc' := 44) rfl (hb hby own_d_jdk_52_method_21_7) rfl (by decide) (by decide) (by decide) k9) ?_
    show own_Go p e below s _ _ _ (T13.setTop (mkF m 44 #[.val (.ref sr), .val (.int (1 : Int32)), .val (.ref ds), .val (.int (1 : Int32)), .val (.int (1 : Int32)), .val (.int (1 : Int32)), .val (.int x0)] []))
    refine own_st (fun t9 k9 => XS.iload X13.here hx rfl (hb hby own_d_jdk_52_method_21_44) rfl  k9) ?_
    show own_Go p e below s _ _ _ (T13.setTop (mkF m 46 #[.val (.ref sr), .val (.int (1 : Int32)), .val (.ref ds), .val (.int (1 : Int32)), .val (.int (1 : Int32)), .val (.int (1 : Int32)), .val (.int x0)] [(.int (1 : Int32))]))
    exact own_retI X13 hx hlk Bd.returns (hb hby own_d_jdk_52_method_21_46) (by decide) (by decide) (by rw [e13]; exact ⟨by rw [(show own_first [x0] 0 = (1 : Int32) from ((if_neg hg0).trans rfl))], N13, Kp⟩)
theorem own_d_jdk_52_method_16_0 : decode jdk_52_method_16_code 0 = .ok (.iload_n 2, 1) := by decide +kernel
theorem own_d_jdk_52_method_16_1 : decode jdk_52_method_16_code 1 = .ok (.newarray .byte, 2) := by decide +kernel
theorem own_d_jdk_52_method_16_3 : decode jdk_52_method_16_code 3 = .ok (.astore_n 3, 1) := by decide +kernel
theorem own_d_jdk_52_method_16_4 : decode jdk_52_method_16_code 4 = .ok (.aload_n 0, 1) := by decide +kernel
theorem own_d_jdk_52_method_16_5 : decode jdk_52_method_16_code 5 = .ok (.iload_n 1, 1) := by decide +kernel
theorem own_d_jdk_52_method_16_6 : decode jdk_52_method_16_code 6 = .ok (.aload_n 3, 1) := by decide +kernel
theorem own_d_jdk_52_method_16_7 : decode jdk_52_method_16_code 7 = .ok (.iconst 0, 1) := by decide +kernel
theorem own_d_jdk_52_method_16_8 : decode jdk_52_method_16_code 8 = .ok (.iload_n 2, 1) := by decide +kernel
theorem own_pd3 : parseMethodDescriptor "([CI[BII)I" = some ⟨[(.array .char), .int, (.array .byte), .int, .int], some .int⟩ := by decide +kernel
theorem own_d_jdk_52_method_16_9 : decode jdk_52_method_16_code 9 = .ok (.invokestatic 115, 3) := by decide +kernel
theorem own_d_jdk_52_method_16_12 : decode jdk_52_method_16_code 12 = .ok (.istore 4, 2) := by decide +kernel
theorem own_d_jdk_52_method_16_14 : decode jdk_52_method_16_code 14 = .ok (.iload 4, 2) := by decide +kernel
theorem own_d_jdk_52_method_16_16 : decode jdk_52_method_16_code 16 = .ok (.iload_n 2, 1) := by decide +kernel
theorem own_d_jdk_52_method_16_17 : decode jdk_52_method_16_code 17 = .ok (.if_icmp .eq 40, 3) := by decide +kernel
theorem own_d_jdk_52_method_16_20 : decode jdk_52_method_16_code 20 = .ok (.aload_n 0, 1) := by decide +kernel
theorem own_d_jdk_52_method_16_21 : decode jdk_52_method_16_code 21 = .ok (.iload_n 1, 1) := by decide +kernel
theorem own_d_jdk_52_method_16_22 : decode jdk_52_method_16_code 22 = .ok (.iload_n 2, 1) := by decide +kernel
theorem own_pd4 : parseMethodDescriptor "([CII)[B" = some ⟨[(.array .char), .int, .int], some (.array .byte)⟩ := by decide +kernel
theorem own_d_jdk_52_method_16_23 : decode jdk_52_method_16_code 23 = .ok (.invokestatic 119, 3) := by decide +kernel
theorem own_d_jdk_52_method_16_26 : decode jdk_52_method_16_code 26 = .ok (.astore 5, 2) := by decide +kernel
theorem own_d_jdk_52_method_16_28 : decode jdk_52_method_16_code 28 = .ok (.aload 5, 2) := by decide +kernel
theorem own_d_jdk_52_method_16_30 : decode jdk_52_method_16_code 30 = .ok (.iload 4, 2) := by decide +kernel
theorem own_pd5 : parseMethodDescriptor "([BI)C" = some ⟨[(.array .byte), .int], some .char⟩ := by decide +kernel
theorem own_d_jdk_52_method_16_32 : decode jdk_52_method_16_code 32 = .ok (.invokestatic 71, 3) := by decide +kernel
theorem own_d_jdk_52_method_16_35 : decode jdk_52_method_16_code 35 = .ok (.sipush 255, 3) := by decide +kernel
theorem own_d_jdk_52_method_16_38 : decode jdk_52_method_16_code 38 = .ok (.if_icmp .gt 16, 3) := by decide +kernel
theorem own_d_jdk_52_method_16_54 : decode jdk_52_method_16_code 54 = .ok (.aload 5, 2) := by decide +kernel
theorem own_d_jdk_52_method_16_56 : decode jdk_52_method_16_code 56 = .ok (.areturn, 1) := by decide +kernel
theorem own_ef_cp1 (m : MethodId) (x0 : Addr) (x1 : Int32) (x2 : Int32) : entryFrame m #[(.ref x0), (.int x1), (.int x2)] 6 = mkF m 0 #[.val (.ref x0), .val (.int x1), .val (.int x2), .unset, .unset, .unset] [] := by first | (simp [entryFrame, mkF, argsToLocals, Value.category]; done) | rfl
def own_Q_cp1 (Z : State) (x0 : Int32) (h0 : Heap) (n0 : Nat) (v : Option Value) (h : Heap) (L : List Loc) : Prop := Fr n0 L ∧ Keep h0 h [] ∧ ∃ a k, v = some (.ref a) ∧ h0.size ≤ a ∧ Arv Z h a k .byte (2 : Int32) [(.int (StrChars.lo8 x0)), (.int (StrChars.hi8 x0))] (.int (0 : Int32))
set_option maxRecDepth 65536 in
set_option maxHeartbeats 40000000 in
theorem own_rm_cp1 (l : Launch) (Z : State) (a0 : Array Value) (hw : ∀ d ∈ tables_1, d.before a0 Z = true) (ws : List Jvm.Cond) (sr : Addr) (ks : ClassId) (x0 : Int32) (h0 : Heap) (n0 : Nat) (Od : Old Z n0 h0) (V_s : Arv Z h0 sr ks .char (1 : Int32) [(.int x0)] (.int (0 : Int32))) (hr0 : ¬ x0 < 0 ∧ ¬ (65535 : Int32) < x0) (hm : ¬ own_first [x0] 0 = (1 : Int32)) (OA : Sta Z Z.heap "java/lang/StringUTF16" "$assertionsDisabled" "Z" (.int (1 : Int32))) (OH : Sta Z Z.heap "java/lang/StringUTF16" "HI_BYTE_SHIFT" "I" (.int (0 : Int32))) (OL : Sta Z Z.heap "java/lang/StringUTF16" "LO_BYTE_SHIFT" "I" (.int (8 : Int32))) :
    MetFree l (⟨"java/lang/StringUTF16", "compress", "([CII)[B"⟩ : MethodName) (head1 (Jvm.Cond.code (⟨"java/lang/StringUTF16", "compress", "([CII)[B"⟩ : MethodName) jdk_52_method_16_code 6 (some (.array .byte)) :: ws) ({ frames := 3, cells := 2, slots := 3, locals := 40 } : Room)) (fun a9 U => a9 = #[(.ref sr), (.int (0 : Int32)), (.int (1 : Int32))] ∧ Z.Warmed39 U.vm ∧ U.heap = h0) (fun _ _ _ _ _ => True) (fun _ U o U' => ∃ v L, o = .returned v ∧ own_Q_cp1 Z x0 h0 n0 v U'.heap L ∧ FrameEnd U o U' L ({ frames := 3, cells := 2, slots := 3, locals := 40 } : Room).cells ({ frames := 3, cells := 2, slots := 3, locals := 40 } : Room).slots) := by
  refine MetFree.of_bodySF (plainFor_of_name own_pn0) hisR ?_
  intro p e s m args below meth c s₁ Bd hml0 hP hK
  obtain ⟨rfl, hZ, hh⟩ := hP
  have hx := Bd.exec
  have hby := Bd.bytes
  have hml : c.maxLocals = 6 := hml0
  have hown : s.vm.findClass "java/lang/StringUTF16" = some m.cls := findClass_of_methodNamed Bd.named
  have hnm := (name_of_methodNamed Bd.named Bd.method).1
  have hlk : meth.locks = false := Bd.notSynchronized
  have X0 : Stand p l e ({ frames := 3, cells := 2, slots := 3, locals := 40 } : Room) s m #[(.ref sr), (.int (0 : Int32)), (.int (1 : Int32))] below meth c s₁ [] 0 0 := Stand.of_body Bd
  have e0 : s₁.heap = h0 := by rw [← hh, Bd.state]; rfl
  have N0 := Fr.nil n0
  show own_Go p e below s (own_Q_cp1 Z x0 h0 n0) ({ frames := 3, cells := 2, slots := 3, locals := 40 } : Room).cells ({ frames := 3, cells := 2, slots := 3, locals := 40 } : Room).slots (s₁.setTop (entryFrame m #[(.ref sr), (.int (0 : Int32)), (.int (1 : Int32))] 6))
  refine own_st (fun t9 k9 => castTop (own_ef_cp1 m sr (0 : Int32) (1 : Int32)) k9) ?_
  show own_Go p e below s _ _ _ (s₁.setTop (mkF m 0 #[.val (.ref sr), .val (.int (0 : Int32)), .val (.int (1 : Int32)), .unset, .unset, .unset] []))
  have Kp : Keep h0 h0 [] := Keep.refl h0 []
  refine own_st (fun t9 k9 => XS.iloadN X0.here hx rfl (hb hby own_d_jdk_52_method_16_0) rfl  k9) ?_
  show own_Go p e below s _ _ _ (s₁.setTop (mkF m 1 #[.val (.ref sr), .val (.int (0 : Int32)), .val (.int (1 : Int32)), .unset, .unset, .unset] [(.int (1 : Int32))]))
  obtain ⟨T14, h14, k14, X14, e14, E14, A14, st14⟩ := newP X0 hx hZ (hw _ (List.mem_of_getElem? (i := 20) rfl)) e0 (g := (mkF m 1 #[.val (.ref sr), .val (.int (0 : Int32)), .val (.int (1 : Int32)), .unset, .unset, .unset] [(.int (1 : Int32))])) rfl (hb hby own_d_jdk_52_method_16_1) rfl (by decide) (cap := 1) (by decide) (by decide) (by decide) (by decide)
  obtain ⟨ds, g14⟩ : ∃ z, z = h0.size := ⟨_, rfl⟩
  rw [← g14] at A14 st14
  have ne_sr_ds : sr ≠ ds := Nat.ne_of_lt (Nat.lt_of_lt_of_le V_s.lt (Nat.le_of_eq g14.symm))
  have ge_ds : n0 ≤ ds := Nat.le_trans (own_z0 Od) (Nat.le_of_eq g14.symm)
  have gz_ds : h0.size ≤ ds := Nat.le_trans Kp.1 (Nat.le_of_eq g14.symm)
  have V_s := V_s.ext E14
  have Od := Od.ext E14
  have Kp := Kp.ext E14
  refine own_st st14 ?_
  show own_Go p e below s _ _ _ (T14.setTop (mkF m 3 #[.val (.ref sr), .val (.int (0 : Int32)), .val (.int (1 : Int32)), .unset, .unset, .unset] [(.ref ds)]))
  have V_d : Arv Z h14 ds k14 .byte (1 : Int32) [(.int (0 : Int32))] (.int (0 : Int32)) := (Arv.new A14 (by decide)).pad (pad_rep [] (.int (0 : Int32)) 1)
  refine own_st (fun t9 k9 => XS.astoreN X14.here hx rfl (hb hby own_d_jdk_52_method_16_3) rfl rfl (l' := #[.val (.ref sr), .val (.int (0 : Int32)), .val (.int (1 : Int32)), .val (.ref ds), .unset, .unset]) rfl k9) ?_
  show own_Go p e below s _ _ _ (T14.setTop (mkF m 4 #[.val (.ref sr), .val (.int (0 : Int32)), .val (.int (1 : Int32)), .val (.ref ds), .unset, .unset] []))
  refine own_st (fun t9 k9 => XS.aloadN X14.here hx rfl (hb hby own_d_jdk_52_method_16_4) rfl rfl k9) ?_
  show own_Go p e below s _ _ _ (T14.setTop (mkF m 5 #[.val (.ref sr), .val (.int (0 : Int32)), .val (.int (1 : Int32)), .val (.ref ds), .unset, .unset] [(.ref sr)]))
  refine own_st (fun t9 k9 => XS.iloadN X14.here hx rfl (hb hby own_d_jdk_52_method_16_5) rfl  k9) ?_
  show own_Go p e below s _ _ _ (T14.setTop (mkF m 6 #[.val (.ref sr), .val (.int (0 : Int32)), .val (.int (1 : Int32)), .val (.ref ds), .unset, .unset] [(.int (0 : Int32)), (.ref sr)]))
  refine own_st (fun t9 k9 => XS.aloadN X14.here hx rfl (hb hby own_d_jdk_52_method_16_6) rfl rfl k9) ?_
  show own_Go p e below s _ _ _ (T14.setTop (mkF m 7 #[.val (.ref sr), .val (.int (0 : Int32)), .val (.int (1 : Int32)), .val (.ref ds), .unset, .unset] [(.ref ds), (.int (0 : Int32)), (.ref sr)]))
  refine own_st (fun t9 k9 => XS.iconst X14.here hx rfl (hb hby own_d_jdk_52_method_16_7) k9) ?_
  show own_Go p e below s _ _ _ (T14.setTop (mkF m 8 #[.val (.ref sr), .val (.int (0 : Int32)), .val (.int (1 : Int32)), .val (.ref ds), .unset, .unset] [(.int (0 : Int32)), (.ref ds), (.int (0 : Int32)), (.ref sr)]))
  refine own_st (fun t9 k9 => XS.iloadN X14.here hx rfl (hb hby own_d_jdk_52_method_16_8) rfl  k9) ?_
  show own_Go p e below s _ _ _ (T14.setTop (mkF m 9 #[.val (.ref sr), .val (.int (0 : Int32)), .val (.int (1 : Int32)), .val (.ref ds), .unset, .unset] [(.int (1 : Int32)), (.int (0 : Int32)), (.ref ds), (.int (0 : Int32)), (.ref sr)]))
  obtain ⟨_, T15, h15, L15, X15, e15, ⟨rfl, Nc, Kc⟩, st15⟩ := own_callS X14 hx hZ hown (hw _ (List.mem_of_getElem? (i := 40) rfl)) (hw _ (List.mem_of_getElem? (i := 41) rfl)) (hw _ (List.mem_of_getElem? (i := 38) rfl)) (hw _ (List.mem_of_getElem? (i := 42) rfl)) (by decide) (own_rm_cm1 l Z a0 hw [] sr ds ks _ x0 h14 n0 Od V_s V_d ne_sr_ds ge_ds) (by decide) (by decide) e14 (W := 0) (g := (mkF m 9 #[.val (.ref sr), .val (.int (0 : Int32)), .val (.int (1 : Int32)), .val (.ref ds), .unset, .unset] [(.int (1 : Int32)), (.int (0 : Int32)), (.ref ds), (.int (0 : Int32)), (.ref sr)])) rfl (by rw [hml]; rfl) (argsL := [(.ref sr), (.int (0 : Int32)), (.ref ds), (.int (0 : Int32)), (.int (1 : Int32))]) (rest := []) rfl (lenOf own_pd3 rfl) rfl (by show 2 * 0 + _ ≤ _; exact Nat.le_of_eq rfl) (hb hby own_d_jdk_52_method_16_9) (by decide) (by decide)
  have N15 := Fr.app N0 Nc
  have V_s := V_s.keep Kc (ninS ne_sr_ds nin0)
  have Od := Od.keep Kc (allS ge_ds all0)
  have Kp := Kp.trans Kc (allS (Or.inr gz_ds) all0)
  refine own_st st15 ?_
  show own_Go p e below s _ _ _ (T15.setTop (mkF m 12 #[.val (.ref sr), .val (.int (0 : Int32)), .val (.int (1 : Int32)), .val (.ref ds), .unset, .unset] [(.int (own_first [x0] 0))]))
  refine own_st (fun t9 k9 => XS.istore X15.here hx rfl (hb hby own_d_jdk_52_method_16_12) rfl (l' := #[.val (.ref sr), .val (.int (0 : Int32)), .val (.int (1 : Int32)), .val (.ref ds), .val (.int (own_first [x0] 0)), .unset]) rfl k9) ?_
  show own_Go p e below s _ _ _ (T15.setTop (mkF m 14 #[.val (.ref sr), .val (.int (0 : Int32)), .val (.int (1 : Int32)), .val (.ref ds), .val (.int (own_first [x0] 0)), .unset] []))
  refine own_st (fun t9 k9 => XS.iload X15.here hx rfl (hb hby own_d_jdk_52_method_16_14) rfl  k9) ?_
  show own_Go p e below s _ _ _ (T15.setTop (mkF m 16 #[.val (.ref sr), .val (.int (0 : Int32)), .val (.int (1 : Int32)), .val (.ref ds), .val (.int (own_first [x0] 0)), .unset] [(.int (own_first [x0] 0))]))
  refine own_st (fun t9 k9 => XS.iloadN X15.here hx rfl (hb hby own_d_jdk_52_method_16_16) rfl  k9) ?_
  show own_Go p e below s _ _ _ (T15.setTop (mkF m 17 #[.val (.ref sr), .val (.int (0 : Int32)), .val (.int (1 : Int32)), .val (.ref ds), .val (.int (own_first [x0] 0)), .unset] [(.int (1 : Int32)), (.int (own_first [x0] 0))]))
  refine own_st (fun t9 k9 => XS.icmpNo X15.here hx rfl (hb hby own_d_jdk_52_method_16_17) rfl (feq (hm : ¬ ((own_first [x0] 0) = (1 : Int32)))).1 k9) ?_
  show own_Go p e below s _ _ _ (T15.setTop (mkF m 20 #[.val (.ref sr), .val (.int (0 : Int32)), .val (.int (1 : Int32)), .val (.ref ds), .val (.int (own_first [x0] 0)), .unset] []))
  refine own_st (fun t9 k9 => XS.aloadN X15.here hx rfl (hb hby own_d_jdk_52_method_16_20) rfl rfl k9) ?_
  show own_Go p e below s _ _ _ (T15.setTop (mkF m 21 #[.val (.ref sr), .val (.int (0 : Int32)), .val (.int (1 : Int32)), .val (.ref ds), .val (.int (own_first [x0] 0)), .unset] [(.ref sr)]))
  refine own_st (fun t9 k9 => XS.iloadN X15.here hx rfl (hb hby own_d_jdk_52_method_16_21) rfl  k9) ?_
  show own_Go p e below s _ _ _ (T15.setTop (mkF m 22 #[.val (.ref sr), .val (.int (0 : Int32)), .val (.int (1 : Int32)), .val (.ref ds), .val (.int (own_first [x0] 0)), .unset] [(.int (0 : Int32)), (.ref sr)]))
  refine own_st (fun t9 k9 => XS.iloadN X15.here hx rfl (hb hby own_d_jdk_52_method_16_22) rfl  k9) ?_
  show own_Go p e below s _ _ _ (T15.setTop (mkF m 23 #[.val (.ref sr), .val (.int (0 : Int32)), .val (.int (1 : Int32)), .val (.ref ds), .val (.int (own_first [x0] 0)), .unset] [(.int (1 : Int32)), (.int (0 : Int32)), (.ref sr)]))
  obtain ⟨_, T16, h16, L16, X16, e16, ⟨Nd, Kd, a, ka, rfl, gea, V_a⟩, st16⟩ := own_callS X15 hx hZ hown (hw _ (List.mem_of_getElem? (i := 49) rfl)) (hw _ (List.mem_of_getElem? (i := 50) rfl)) (hw _ (List.mem_of_getElem? (i := 38) rfl)) (hw _ (List.mem_of_getElem? (i := 51) rfl)) (by decide) (own_rm_tob1 l Z a0 hw [] sr ks x0 h15 n0 Od V_s OA OH OL) (by decide) (by decide) e15 (W := 0) (g := (mkF m 23 #[.val (.ref sr), .val (.int (0 : Int32)), .val (.int (1 : Int32)), .val (.ref ds), .val (.int (own_first [x0] 0)), .unset] [(.int (1 : Int32)), (.int (0 : Int32)), (.ref sr)])) rfl (by rw [hml]; rfl) (argsL := [(.ref sr), (.int (0 : Int32)), (.int (1 : Int32))]) (rest := []) rfl (lenOf own_pd4 rfl) rfl (by show 2 * 0 + _ ≤ _; exact Nat.le_of_eq rfl) (hb hby own_d_jdk_52_method_16_23) (by decide) (by decide)
  have N16 := Fr.app N15 Nd
  have ne_sr_a : sr ≠ a := Nat.ne_of_lt (Nat.lt_of_lt_of_le V_s.lt gea)
  have ge_a : n0 ≤ a := Nat.le_trans (own_z0 Od) gea
  have gz_a : h0.size ≤ a := Nat.le_trans Kp.1 gea
  have V_s := V_s.keep Kd nin0
  have Od := Od.keep Kd all0
  have Kp := Kp.trans Kd all0
  refine own_st st16 ?_
  show own_Go p e below s _ _ _ (T16.setTop (mkF m 26 #[.val (.ref sr), .val (.int (0 : Int32)), .val (.int (1 : Int32)), .val (.ref ds), .val (.int (own_first [x0] 0)), .unset] [(.ref a)]))
  refine own_st (fun t9 k9 => XS.astore X16.here hx rfl (hb hby own_d_jdk_52_method_16_26) rfl rfl (l' := #[.val (.ref sr), .val (.int (0 : Int32)), .val (.int (1 : Int32)), .val (.ref ds), .val (.int (own_first [x0] 0)), .val (.ref a)]) rfl k9) ?_
  show own_Go p e below s _ _ _ (T16.setTop (mkF m 28 #[.val (.ref sr), .val (.int (0 : Int32)), .val (.int (1 : Int32)), .val (.ref ds), .val (.int (own_first [x0] 0)), .val (.ref a)] []))
  refine own_st (fun t9 k9 => XS.aload X16.here hx rfl (hb hby own_d_jdk_52_method_16_28) rfl rfl k9) ?_
  show own_Go p e below s _ _ _ (T16.setTop (mkF m 30 #[.val (.ref sr), .val (.int (0 : Int32)), .val (.int (1 : Int32)), .val (.ref ds), .val (.int (own_first [x0] 0)), .val (.ref a)] [(.ref a)]))
  refine own_st (fun t9 k9 => XS.iload X16.here hx rfl (hb hby own_d_jdk_52_method_16_30) rfl  k9) ?_
  show own_Go p e below s _ _ _ (T16.setTop (mkF m 32 #[.val (.ref sr), .val (.int (0 : Int32)), .val (.int (1 : Int32)), .val (.ref ds), .val (.int (own_first [x0] 0)), .val (.ref a)] [(.int (own_first [x0] 0)), (.ref a)]))
  obtain ⟨c9, r9, g9, b0, b1, q0, q1⟩ : ∃ c9 : Int32, (¬ c9 < 0 ∧ ¬ (65535 : Int32) < c9) ∧ (255 : Int32) < c9 ∧ (¬ ((own_first [x0] 0) <<< ((1 : Int32) &&& 31)) < 0 ∧ ((own_first [x0] 0) <<< ((1 : Int32) &&& 31)) < (2 : Int32)) ∧ (¬ (((own_first [x0] 0) <<< ((1 : Int32) &&& 31)) + (1 : Int32)) < 0 ∧ (((own_first [x0] 0) <<< ((1 : Int32) &&& 31)) + (1 : Int32)) < (2 : Int32)) ∧ ([(.int (StrChars.lo8 x0)), (.int (StrChars.hi8 x0))] : List Value).getD ((own_first [x0] 0) <<< ((1 : Int32) &&& 31)).toNatClampNeg (.int (0 : Int32)) = .int (StrChars.lo8 c9) ∧ ([(.int (StrChars.lo8 x0)), (.int (StrChars.hi8 x0))] : List Value).getD (((own_first [x0] 0) <<< ((1 : Int32) &&& 31)) + (1 : Int32)).toNatClampNeg (.int (0 : Int32)) = .int (StrChars.hi8 c9) := by
    by_cases hg0 : (255 : Int32) < x0
    · rw [(show own_first [x0] 0 = (0 : Int32) from (if_pos hg0))]
      exact ⟨x0, hr0, hg0, by decide, by decide, rfl, rfl⟩
    exact absurd (show own_first [x0] 0 = (1 : Int32) from ((if_neg hg0).trans rfl)) hm
  obtain ⟨_, T17, h17, L17, X17, e17, ⟨rfl, Nq, hu⟩, st17⟩ := own_callS X16 hx hZ hown (hw _ (List.mem_of_getElem? (i := 65) rfl)) (hw _ (List.mem_of_getElem? (i := 66) rfl)) (hw _ (List.mem_of_getElem? (i := 38) rfl)) (hw _ (List.mem_of_getElem? (i := 67) rfl)) (by decide) (own_rm_getc l Z a0 hw [] a (own_first [x0] 0) (2 : Int32) (StrChars.lo8 c9) (StrChars.hi8 c9) ka [(.int (StrChars.lo8 x0)), (.int (StrChars.hi8 x0))] h16 n0 Od V_a b0 b1 q0 q1 OA OH OL) (by decide) (by decide) e16 (W := 0) (g := (mkF m 32 #[.val (.ref sr), .val (.int (0 : Int32)), .val (.int (1 : Int32)), .val (.ref ds), .val (.int (own_first [x0] 0)), .val (.ref a)] [(.int (own_first [x0] 0)), (.ref a)])) rfl (by rw [hml]; rfl) (argsL := [(.ref a), (.int (own_first [x0] 0))]) (rest := []) rfl (lenOf own_pd5 rfl) rfl (by show 2 * 0 + _ ≤ _; exact Nat.le_of_eq rfl) (hb hby own_d_jdk_52_method_16_32) (by decide) (by decide)
  have N17 := Fr.app N16 Nq
  refine own_st st17 ?_
  show own_Go p e below s _ _ _ (T17.setTop (mkF m 35 #[.val (.ref sr), .val (.int (0 : Int32)), .val (.int (1 : Int32)), .val (.ref ds), .val (.int (own_first [x0] 0)), .val (.ref a)] [(.int (nar .char ((((StrChars.lo8 c9 &&& 255) <<< ((0 : Int32) &&& 31)) ||| ((StrChars.hi8 c9 &&& 255) <<< ((8 : Int32) &&& 31))).toUInt32.toUInt16.toUInt32.toInt32)))]))
  rw [own_pair r9.1 r9.2]
  show own_Go p e below s _ _ _ (T17.setTop (mkF m 35 #[.val (.ref sr), .val (.int (0 : Int32)), .val (.int (1 : Int32)), .val (.ref ds), .val (.int (own_first [x0] 0)), .val (.ref a)] [(.int c9)]))
  refine own_st (fun t9 k9 => XS.sipush X17.here hx rfl (hb hby own_d_jdk_52_method_16_35) k9) ?_
  show own_Go p e below s _ _ _ (T17.setTop (mkF m 38 #[.val (.ref sr), .val (.int (0 : Int32)), .val (.int (1 : Int32)), .val (.ref ds), .val (.int (own_first [x0] 0)), .val (.ref a)] [(.int (255 : Int32)), (.int c9)]))
  refine own_st (fun t9 k9 => XS.icmpYes X17.here hx rfl (pc0 := 38) (pc' := 54) rfl (hb hby own_d_jdk_52_method_16_38) rfl (tlt (g9 : (255 : Int32) < c9)).2.2.1 (by decide) (by decide) k9) ?_
  show own_Go p e below s _ _ _ (T17.setTop (mkF m 54 #[.val (.ref sr), .val (.int (0 : Int32)), .val (.int (1 : Int32)), .val (.ref ds), .val (.int (own_first [x0] 0)), .val (.ref a)] []))
  refine own_st (fun t9 k9 => XS.aload X17.here hx rfl (hb hby own_d_jdk_52_method_16_54) rfl rfl k9) ?_
  show own_Go p e below s _ _ _ (T17.setTop (mkF m 56 #[.val (.ref sr), .val (.int (0 : Int32)), .val (.int (1 : Int32)), .val (.ref ds), .val (.int (own_first [x0] 0)), .val (.ref a)] [(.ref a)]))
  exact own_retR X17 hx hlk Bd.returns rfl rfl (hb hby own_d_jdk_52_method_16_56) (by decide) (by decide) (by rw [(e17.trans hu)]; exact ⟨N17, Kp, a, ka, rfl, gz_a, V_a⟩)
theorem own_d_jdk_52_method_15_0 : decode jdk_52_method_15_code 0 = .ok (.iload_n 1, 1) := by decide +kernel
theorem own_d_jdk_52_method_15_1 : decode jdk_52_method_15_code 1 = .ok (.aload_n 0, 1) := by decide +kernel
theorem own_d_jdk_52_method_15_2 : decode jdk_52_method_15_code 2 = .ok (.arraylength, 1) := by decide +kernel
theorem own_d_jdk_52_method_15_3 : decode jdk_52_method_15_code 3 = .ok (.isub, 1) := by decide +kernel
theorem own_d_jdk_52_method_15_4 : decode jdk_52_method_15_code 4 = .ok (.bipush 31, 2) := by decide +kernel
theorem own_d_jdk_52_method_15_6 : decode jdk_52_method_15_code 6 = .ok (.iushr, 1) := by decide +kernel
theorem own_d_jdk_52_method_15_7 : decode jdk_52_method_15_code 7 = .ok (.i2b, 1) := by decide +kernel
theorem own_d_jdk_52_method_15_8 : decode jdk_52_method_15_code 8 = .ok (.ireturn, 1) := by decide +kernel
theorem own_ef_cfal1 (m : MethodId) (x0 : Addr) (x1 : Int32) : entryFrame m #[(.ref x0), (.int x1)] 2 = mkF m 0 #[.val (.ref x0), .val (.int x1)] [] := by first | (simp [entryFrame, mkF, argsToLocals, Value.category]; done) | rfl
def own_Q_cfal1 (Z : State)  (h0 : Heap) (n0 : Nat) (v : Option Value) (h : Heap) (L : List Loc) : Prop := v = some (.int (1 : Int32)) ∧ Fr n0 L ∧ h = h0
set_option maxRecDepth 65536 in
set_option maxHeartbeats 40000000 in
theorem own_rm_cfal1 (l : Launch) (Z : State) (a0 : Array Value) (hw : ∀ d ∈ tables_1, d.before a0 Z = true) (ws : List Jvm.Cond) (b : Addr) (kb : ClassId) (vs : List Value) (h0 : Heap) (n0 : Nat) (Od : Old Z n0 h0) (A : Arv Z h0 b kb .byte (2 : Int32) vs (.int (0 : Int32))) :
    MetFree l (⟨"java/lang/StringUTF16", "coderFromArrayLen", "([BI)B"⟩ : MethodName) (head1 (Jvm.Cond.code (⟨"java/lang/StringUTF16", "coderFromArrayLen", "([BI)B"⟩ : MethodName) jdk_52_method_15_code 2 (some .byte) :: ws) ({ frames := 0, cells := 0, slots := 0, locals := 0 } : Room)) (fun a9 U => a9 = #[(.ref b), (.int (1 : Int32))] ∧ Z.Warmed39 U.vm ∧ U.heap = h0) (fun _ _ _ _ _ => True) (fun _ U o U' => ∃ v L, o = .returned v ∧ own_Q_cfal1 Z  h0 n0 v U'.heap L ∧ FrameEnd U o U' L ({ frames := 0, cells := 0, slots := 0, locals := 0 } : Room).cells ({ frames := 0, cells := 0, slots := 0, locals := 0 } : Room).slots) := by
  refine MetFree.of_bodySF (plainFor_of_name own_pn0) hisR ?_
  intro p e s m args below meth c s₁ Bd hml0 hP hK
  obtain ⟨rfl, hZ, hh⟩ := hP
  have hx := Bd.exec
  have hby := Bd.bytes
  have hml : c.maxLocals = 2 := hml0
  have hown : s.vm.findClass "java/lang/StringUTF16" = some m.cls := findClass_of_methodNamed Bd.named
  have hnm := (name_of_methodNamed Bd.named Bd.method).1
  have hlk : meth.locks = false := Bd.notSynchronized
  have X0 : Stand p l e ({ frames := 0, cells := 0, slots := 0, locals := 0 } : Room) s m #[(.ref b), (.int (1 : Int32))] below meth c s₁ [] 0 0 := Stand.of_body Bd
  have e0 : s₁.heap = h0 := by rw [← hh, Bd.state]; rfl
  have N0 := Fr.nil n0
  show own_Go p e below s (own_Q_cfal1 Z  h0 n0) ({ frames := 0, cells := 0, slots := 0, locals := 0 } : Room).cells ({ frames := 0, cells := 0, slots := 0, locals := 0 } : Room).slots (s₁.setTop (entryFrame m #[(.ref b), (.int (1 : Int32))] 2))
  refine own_st (fun t9 k9 => castTop (own_ef_cfal1 m b (1 : Int32)) k9) ?_
  show own_Go p e below s _ _ _ (s₁.setTop (mkF m 0 #[.val (.ref b), .val (.int (1 : Int32))] []))
  refine own_st (fun t9 k9 => XS.iloadN X0.here hx rfl (hb hby own_d_jdk_52_method_15_0) rfl  k9) ?_
  show own_Go p e below s _ _ _ (s₁.setTop (mkF m 1 #[.val (.ref b), .val (.int (1 : Int32))] [(.int (1 : Int32))]))
  refine own_st (fun t9 k9 => XS.aloadN X0.here hx rfl (hb hby own_d_jdk_52_method_15_1) rfl rfl k9) ?_
  show own_Go p e below s _ _ _ (s₁.setTop (mkF m 2 #[.val (.ref b), .val (.int (1 : Int32))] [(.ref b), (.int (1 : Int32))]))
  refine own_st (fun t9 k9 => own_alen X0 hx hZ e0 A (g := (mkF m 2 #[.val (.ref b), .val (.int (1 : Int32))] [(.ref b), (.int (1 : Int32))])) rfl rfl (hb hby own_d_jdk_52_method_15_2) t9 k9) ?_
  show own_Go p e below s _ _ _ (s₁.setTop (mkF m 3 #[.val (.ref b), .val (.int (1 : Int32))] [(.int (2 : Int32)), (.int (1 : Int32))]))
  refine own_st (fun t9 k9 => XS.isub X0.here hx rfl (hb hby own_d_jdk_52_method_15_3) rfl k9) ?_
  show own_Go p e below s _ _ _ (s₁.setTop (mkF m 4 #[.val (.ref b), .val (.int (1 : Int32))] [(.int ((1 : Int32) - (2 : Int32)))]))
  refine own_st (fun t9 k9 => XS.bipush X0.here hx rfl (hb hby own_d_jdk_52_method_15_4) k9) ?_
  show own_Go p e below s _ _ _ (s₁.setTop (mkF m 6 #[.val (.ref b), .val (.int (1 : Int32))] [(.int (31 : Int32)), (.int ((1 : Int32) - (2 : Int32)))]))
  refine own_st (fun t9 k9 => XT.iushr X0.here hx rfl (hb hby own_d_jdk_52_method_15_6) rfl k9) ?_
  show own_Go p e below s _ _ _ (s₁.setTop (mkF m 7 #[.val (.ref b), .val (.int (1 : Int32))] [(.int ((((1 : Int32) - (2 : Int32)).toUInt32 >>> ((31 : Int32) &&& 31).toUInt32).toInt32))]))
  refine own_st (fun t9 k9 => XT.i2b X0.here hx rfl (hb hby own_d_jdk_52_method_15_7) rfl k9) ?_
  show own_Go p e below s _ _ _ (s₁.setTop (mkF m 8 #[.val (.ref b), .val (.int (1 : Int32))] [(.int (((((1 : Int32) - (2 : Int32)).toUInt32 >>> ((31 : Int32) &&& 31).toUInt32).toInt32).toInt8.toInt32))]))
  exact own_retN X0 hx hlk (t := .byte) Bd.returns (by simp) (hb hby own_d_jdk_52_method_15_8) (by decide) (by decide) (by rw [e0]; exact ⟨by decide, N0, rfl⟩)
theorem own_pn1 : plainName "java/lang/String" = true := by first | (simp [plainName, overriddenIn]; done) | decide +kernel
theorem own_d_jdk_42_method_149_0 : decode jdk_42_method_149_code 0 = .ok (.aload_n 0, 1) := by decide +kernel
theorem own_d_jdk_42_method_149_1 : decode jdk_42_method_149_code 1 = .ok (.invokespecial 1, 3) := by decide +kernel
theorem own_d_jdk_42_method_149_4 : decode jdk_42_method_149_code 4 = .ok (.iload_n 3, 1) := by decide +kernel
theorem own_d_jdk_42_method_149_5 : decode jdk_42_method_149_code 5 = .ok (.ifCond .ne 22, 3) := by decide +kernel
theorem own_d_jdk_42_method_149_27 : decode jdk_42_method_149_code 27 = .ok (.getstatic 38, 3) := by decide +kernel
theorem own_d_jdk_42_method_149_30 : decode jdk_42_method_149_code 30 = .ok (.ifCond .eq 28, 3) := by decide +kernel
theorem own_d_jdk_42_method_149_33 : decode jdk_42_method_149_code 33 = .ok (.aload_n 1, 1) := by decide +kernel
theorem own_d_jdk_42_method_149_34 : decode jdk_42_method_149_code 34 = .ok (.iload_n 2, 1) := by decide +kernel
theorem own_d_jdk_42_method_149_35 : decode jdk_42_method_149_code 35 = .ok (.iload_n 3, 1) := by decide +kernel
theorem own_d_jdk_42_method_149_36 : decode jdk_42_method_149_code 36 = .ok (.invokestatic 177, 3) := by decide +kernel
theorem own_d_jdk_42_method_149_39 : decode jdk_42_method_149_code 39 = .ok (.astore 5, 2) := by decide +kernel
theorem own_d_jdk_42_method_149_41 : decode jdk_42_method_149_code 41 = .ok (.aload_n 0, 1) := by decide +kernel
theorem own_d_jdk_42_method_149_42 : decode jdk_42_method_149_code 42 = .ok (.aload 5, 2) := by decide +kernel
theorem own_d_jdk_42_method_149_44 : decode jdk_42_method_149_code 44 = .ok (.iload_n 3, 1) := by decide +kernel
theorem own_pd6 : parseMethodDescriptor "([BI)B" = some ⟨[(.array .byte), .int], some .byte⟩ := by decide +kernel
theorem own_d_jdk_42_method_149_45 : decode jdk_42_method_149_code 45 = .ok (.invokestatic 47, 3) := by decide +kernel
theorem own_d_jdk_42_method_149_48 : decode jdk_42_method_149_code 48 = .ok (.putfield 15, 3) := by decide +kernel
theorem own_d_jdk_42_method_149_51 : decode jdk_42_method_149_code 51 = .ok (.aload_n 0, 1) := by decide +kernel
theorem own_d_jdk_42_method_149_52 : decode jdk_42_method_149_code 52 = .ok (.aload 5, 2) := by decide +kernel
theorem own_d_jdk_42_method_149_54 : decode jdk_42_method_149_code 54 = .ok (.putfield 9, 3) := by decide +kernel
theorem own_d_jdk_42_method_149_57 : decode jdk_42_method_149_code 57 = .ok (.return_, 1) := by decide +kernel
theorem own_ef_si2_1 (m : MethodId) (x0 : Addr) (x1 : Addr) (x2 : Int32) (x3 : Int32) : entryFrame m #[(.ref x0), (.ref x1), (.int x2), (.int x3), .null] 6 = mkF m 0 #[.val (.ref x0), .val (.ref x1), .val (.int x2), .val (.int x3), .val .null, .unset] [] := by first | (simp [entryFrame, mkF, argsToLocals, Value.category]; done) | rfl
def own_Q_si2_1 (Z : State) (x : Addr) (x0 : Int32) (h0 : Heap) (n0 : Nat) (v : Option Value) (h : Heap) (L : List Loc) : Prop := v = none ∧ Fr n0 L ∧ Keep h0 h [x] ∧ Exa Z h x "java/lang/String" ∧ Fld Z h x "java/lang/String" "coder" "B" (.int (1 : Int32)) ∧ ∃ t k, h0.size ≤ t ∧ Fld Z h x "java/lang/String" "value" "[B" (.ref t) ∧ Arv Z h t k .byte (2 : Int32) [(.int (StrChars.lo8 x0)), (.int (StrChars.hi8 x0))] (.int (0 : Int32))
set_option maxRecDepth 65536 in
set_option maxHeartbeats 40000000 in
theorem own_rm_si2_1 (l : Launch) (Z : State) (a0 : Array Value) (hw : ∀ d ∈ tables_1, d.before a0 Z = true) (ws : List Jvm.Cond) (x : Addr) (sr : Addr) (ks : ClassId) (v0 c0 : Value) (G : Int32) (x0 : Int32) (h0 : Heap) (n0 : Nat) (Od : Old Z n0 h0) (E_x : Exa Z h0 x "java/lang/String") (F_v : Fld Z h0 x "java/lang/String" "value" "[B" v0) (F_k : Fld Z h0 x "java/lang/String" "coder" "B" c0) (V_s : Arv Z h0 sr ks .char (1 : Int32) [(.int x0)] (.int (0 : Int32))) (ge_x : n0 ≤ x) (ne_s : sr ≠ x) (hr0 : ¬ x0 < 0 ∧ ¬ (65535 : Int32) < x0) (hm : ¬ own_first [x0] 0 = (1 : Int32)) (OA : Sta Z Z.heap "java/lang/StringUTF16" "$assertionsDisabled" "Z" (.int (1 : Int32))) (OH : Sta Z Z.heap "java/lang/StringUTF16" "HI_BYTE_SHIFT" "I" (.int (0 : Int32))) (OL : Sta Z Z.heap "java/lang/StringUTF16" "LO_BYTE_SHIFT" "I" (.int (8 : Int32))) (O2 : Sta Z Z.heap "java/lang/String" "COMPACT_STRINGS" "Z" (.int G)) (P5 : ¬ (G = (0 : Int32))) :
    MetFree l (⟨"java/lang/String", "<init>", "([CIILjava/lang/Void;)V"⟩ : MethodName) (head1 (Jvm.Cond.code (⟨"java/lang/String", "<init>", "([CIILjava/lang/Void;)V"⟩ : MethodName) jdk_42_method_149_code 6 none :: ws) ({ frames := 4, cells := 2, slots := 3, locals := 57 } : Room)) (fun a9 U => a9 = #[(.ref x), (.ref sr), (.int (0 : Int32)), (.int (1 : Int32)), .null] ∧ Z.Warmed39 U.vm ∧ U.heap = h0) (fun _ _ _ _ _ => True) (fun _ U o U' => ∃ v L, o = .returned v ∧ own_Q_si2_1 Z x x0 h0 n0 v U'.heap L ∧ FrameEnd U o U' L ({ frames := 4, cells := 2, slots := 3, locals := 57 } : Room).cells ({ frames := 4, cells := 2, slots := 3, locals := 57 } : Room).slots) := by
  refine MetFree.of_bodySF (plainFor_of_name own_pn1) hisR ?_
  intro p e s m args below meth c s₁ Bd hml0 hP hK
  obtain ⟨rfl, hZ, hh⟩ := hP
  have hx := Bd.exec
  have hby := Bd.bytes
  have hml : c.maxLocals = 6 := hml0
  have hown : s.vm.findClass "java/lang/String" = some m.cls := findClass_of_methodNamed Bd.named
  have hnm := (name_of_methodNamed Bd.named Bd.method).1
  have hlk : meth.locks = false := Bd.notSynchronized
  have X0 : Stand p l e ({ frames := 4, cells := 2, slots := 3, locals := 57 } : Room) s m #[(.ref x), (.ref sr), (.int (0 : Int32)), (.int (1 : Int32)), .null] below meth c s₁ [] 0 0 := Stand.of_body Bd
  have e0 : s₁.heap = h0 := by rw [← hh, Bd.state]; rfl
  have N0 := Fr.nil n0
  show own_Go p e below s (own_Q_si2_1 Z x x0 h0 n0) ({ frames := 4, cells := 2, slots := 3, locals := 57 } : Room).cells ({ frames := 4, cells := 2, slots := 3, locals := 57 } : Room).slots (s₁.setTop (entryFrame m #[(.ref x), (.ref sr), (.int (0 : Int32)), (.int (1 : Int32)), .null] 6))
  refine own_st (fun t9 k9 => castTop (own_ef_si2_1 m x sr (0 : Int32) (1 : Int32)) k9) ?_
  show own_Go p e below s _ _ _ (s₁.setTop (mkF m 0 #[.val (.ref x), .val (.ref sr), .val (.int (0 : Int32)), .val (.int (1 : Int32)), .val .null, .unset] []))
  have Kp : Keep h0 h0 [x] := Keep.refl h0 [x]
  refine own_st (fun t9 k9 => XS.aloadN X0.here hx rfl (hb hby own_d_jdk_42_method_149_0) rfl rfl k9) ?_
  show own_Go p e below s _ _ _ (s₁.setTop (mkF m 1 #[.val (.ref x), .val (.ref sr), .val (.int (0 : Int32)), .val (.int (1 : Int32)), .val .null, .unset] [(.ref x)]))
  obtain ⟨T18, X18, e18, st18⟩ := initO X0 hx hZ hown (hw _ (List.mem_of_getElem? (i := 16) rfl)) (hw _ (List.mem_of_getElem? (i := 17) rfl)) (hw _ (List.mem_of_getElem? (i := 18) rfl)) e0 (g := (mkF m 1 #[.val (.ref x), .val (.ref sr), .val (.int (0 : Int32)), .val (.int (1 : Int32)), .val .null, .unset] [(.ref x)])) rfl (by rw [hml]; rfl) rfl (hb hby own_d_jdk_42_method_149_1) (by decide) (W := 0) (by show 2 * 0 + _ ≤ _; exact Nat.le_of_eq rfl) (by decide)
  refine own_st st18 ?_
  show own_Go p e below s _ _ _ (T18.setTop (mkF m 4 #[.val (.ref x), .val (.ref sr), .val (.int (0 : Int32)), .val (.int (1 : Int32)), .val .null, .unset] []))
  refine own_st (fun t9 k9 => XS.iloadN X18.here hx rfl (hb hby own_d_jdk_42_method_149_4) rfl  k9) ?_
  show own_Go p e below s _ _ _ (T18.setTop (mkF m 5 #[.val (.ref x), .val (.ref sr), .val (.int (0 : Int32)), .val (.int (1 : Int32)), .val .null, .unset] [(.int (1 : Int32))]))
  refine own_st (fun t9 k9 => XS.ifYes X18.here hx rfl (pc0 := 5) (pc' := 27) rfl (hb hby own_d_jdk_42_method_149_5) rfl (by decide) (by decide) (by decide) k9) ?_
  show own_Go p e below s _ _ _ (T18.setTop (mkF m 27 #[.val (.ref x), .val (.ref sr), .val (.int (0 : Int32)), .val (.int (1 : Int32)), .val .null, .unset] []))
  obtain ⟨T19, X19, e19, st19⟩ := getS (host := "") X18 hx hZ hown (hw _ (List.mem_of_getElem? (i := 35) rfl)) Via.refl e18 (O2.ext Od.2) (g := (mkF m 27 #[.val (.ref x), .val (.ref sr), .val (.int (0 : Int32)), .val (.int (1 : Int32)), .val .null, .unset] [])) rfl (hb hby own_d_jdk_42_method_149_27)
  refine own_st st19 ?_
  show own_Go p e below s _ _ _ (T19.setTop (mkF m 30 #[.val (.ref x), .val (.ref sr), .val (.int (0 : Int32)), .val (.int (1 : Int32)), .val .null, .unset] [(.int G)]))
  refine own_st (fun t9 k9 => XS.ifNo X19.here hx rfl (hb hby own_d_jdk_42_method_149_30) rfl ((if0 _ _).trans (feq (P5 : ¬ (G = (0 : Int32)))).1) k9) ?_
  show own_Go p e below s _ _ _ (T19.setTop (mkF m 33 #[.val (.ref x), .val (.ref sr), .val (.int (0 : Int32)), .val (.int (1 : Int32)), .val .null, .unset] []))
  refine own_st (fun t9 k9 => XS.aloadN X19.here hx rfl (hb hby own_d_jdk_42_method_149_33) rfl rfl k9) ?_
  show own_Go p e below s _ _ _ (T19.setTop (mkF m 34 #[.val (.ref x), .val (.ref sr), .val (.int (0 : Int32)), .val (.int (1 : Int32)), .val .null, .unset] [(.ref sr)]))
  refine own_st (fun t9 k9 => XS.iloadN X19.here hx rfl (hb hby own_d_jdk_42_method_149_34) rfl  k9) ?_
  show own_Go p e below s _ _ _ (T19.setTop (mkF m 35 #[.val (.ref x), .val (.ref sr), .val (.int (0 : Int32)), .val (.int (1 : Int32)), .val .null, .unset] [(.int (0 : Int32)), (.ref sr)]))
  refine own_st (fun t9 k9 => XS.iloadN X19.here hx rfl (hb hby own_d_jdk_42_method_149_35) rfl  k9) ?_
  show own_Go p e below s _ _ _ (T19.setTop (mkF m 36 #[.val (.ref x), .val (.ref sr), .val (.int (0 : Int32)), .val (.int (1 : Int32)), .val .null, .unset] [(.int (1 : Int32)), (.int (0 : Int32)), (.ref sr)]))
  obtain ⟨_, T20, h20, L20, X20, e20, ⟨Nc, Kc, t, kt, rfl, get, V_t⟩, st20⟩ := own_callS X19 hx hZ hown (hw _ (List.mem_of_getElem? (i := 36) rfl)) (hw _ (List.mem_of_getElem? (i := 37) rfl)) (hw _ (List.mem_of_getElem? (i := 38) rfl)) (hw _ (List.mem_of_getElem? (i := 39) rfl)) (by decide) (own_rm_cp1 l Z a0 hw [] sr ks x0 h0 n0 Od V_s hr0 hm OA OH OL) (by decide) (by decide) e19 (W := 0) (g := (mkF m 36 #[.val (.ref x), .val (.ref sr), .val (.int (0 : Int32)), .val (.int (1 : Int32)), .val .null, .unset] [(.int (1 : Int32)), (.int (0 : Int32)), (.ref sr)])) rfl (by rw [hml]; rfl) (argsL := [(.ref sr), (.int (0 : Int32)), (.int (1 : Int32))]) (rest := []) rfl (lenOf own_pd4 rfl) rfl (by show 2 * 0 + _ ≤ _; exact Nat.le_of_eq rfl) (hb hby own_d_jdk_42_method_149_36) (by decide) (by decide)
  have N20 := Fr.app N0 Nc
  have ne_x_t : x ≠ t := Nat.ne_of_lt (Nat.lt_of_lt_of_le E_x.lt get)
  have ne_sr_t : sr ≠ t := Nat.ne_of_lt (Nat.lt_of_lt_of_le V_s.lt get)
  have ge_t : n0 ≤ t := Nat.le_trans (own_z0 Od) get
  have gz_t : h0.size ≤ t := Nat.le_trans Kp.1 get
  have E_x := E_x.keep Kc
  have F_v := F_v.keep Kc nin0
  have F_k := F_k.keep Kc nin0
  have V_s := V_s.keep Kc nin0
  have Od := Od.keep Kc all0
  have Kp := Kp.trans Kc all0
  refine own_st st20 ?_
  show own_Go p e below s _ _ _ (T20.setTop (mkF m 39 #[.val (.ref x), .val (.ref sr), .val (.int (0 : Int32)), .val (.int (1 : Int32)), .val .null, .unset] [(.ref t)]))
  refine own_st (fun t9 k9 => XS.astore X20.here hx rfl (hb hby own_d_jdk_42_method_149_39) rfl rfl (l' := #[.val (.ref x), .val (.ref sr), .val (.int (0 : Int32)), .val (.int (1 : Int32)), .val .null, .val (.ref t)]) rfl k9) ?_
  show own_Go p e below s _ _ _ (T20.setTop (mkF m 41 #[.val (.ref x), .val (.ref sr), .val (.int (0 : Int32)), .val (.int (1 : Int32)), .val .null, .val (.ref t)] []))
  refine own_st (fun t9 k9 => XS.aloadN X20.here hx rfl (hb hby own_d_jdk_42_method_149_41) rfl rfl k9) ?_
  show own_Go p e below s _ _ _ (T20.setTop (mkF m 42 #[.val (.ref x), .val (.ref sr), .val (.int (0 : Int32)), .val (.int (1 : Int32)), .val .null, .val (.ref t)] [(.ref x)]))
  refine own_st (fun t9 k9 => XS.aload X20.here hx rfl (hb hby own_d_jdk_42_method_149_42) rfl rfl k9) ?_
  show own_Go p e below s _ _ _ (T20.setTop (mkF m 44 #[.val (.ref x), .val (.ref sr), .val (.int (0 : Int32)), .val (.int (1 : Int32)), .val .null, .val (.ref t)] [(.ref t), (.ref x)]))
  refine own_st (fun t9 k9 => XS.iloadN X20.here hx rfl (hb hby own_d_jdk_42_method_149_44) rfl  k9) ?_
  show own_Go p e below s _ _ _ (T20.setTop (mkF m 45 #[.val (.ref x), .val (.ref sr), .val (.int (0 : Int32)), .val (.int (1 : Int32)), .val .null, .val (.ref t)] [(.int (1 : Int32)), (.ref t), (.ref x)]))
  obtain ⟨_, T21, h21, L21, X21, e21, ⟨rfl, Nd, hu⟩, st21⟩ := own_callS X20 hx hZ hown (hw _ (List.mem_of_getElem? (i := 43) rfl)) (hw _ (List.mem_of_getElem? (i := 44) rfl)) (hw _ (List.mem_of_getElem? (i := 38) rfl)) (hw _ (List.mem_of_getElem? (i := 45) rfl)) (by decide) (own_rm_cfal1 l Z a0 hw [] t kt _ h20 n0 Od V_t) (by decide) (by decide) e20 (W := 1) (g := (mkF m 45 #[.val (.ref x), .val (.ref sr), .val (.int (0 : Int32)), .val (.int (1 : Int32)), .val .null, .val (.ref t)] [(.int (1 : Int32)), (.ref t), (.ref x)])) rfl (by rw [hml]; rfl) (argsL := [(.ref t), (.int (1 : Int32))]) (rest := [(.ref x)]) rfl (lenOf own_pd6 rfl) rfl (by show 2 * 0 + _ ≤ _; exact Nat.le_of_eq rfl) (hb hby own_d_jdk_42_method_149_45) (by decide) (by decide)
  have N21 := Fr.app N20 Nd
  refine own_st st21 ?_
  show own_Go p e below s _ _ _ (T21.setTop (mkF m 48 #[.val (.ref x), .val (.ref sr), .val (.int (0 : Int32)), .val (.int (1 : Int32)), .val .null, .val (.ref t)] [(.int (1 : Int32)), (.ref x)]))
  obtain ⟨T22, h22, X22, e22, W22, st22⟩ := putFN X21 hx hZ hown (hw _ (List.mem_of_getElem? (i := 26) rfl)) Via.refl (e21.trans hu) F_k E_x (Or.inr ⟨(hw _ (List.mem_of_getElem? (i := 22) rfl)), rfl, hnm⟩) (hw _ (List.mem_of_getElem? (i := 6) rfl)) (ty := .byte) (v' := (.int (1 : Int32))) (by decide) rfl rfl (g := (mkF m 48 #[.val (.ref x), .val (.ref sr), .val (.int (0 : Int32)), .val (.int (1 : Int32)), .val .null, .val (.ref t)] [(.int (1 : Int32)), (.ref x)])) rfl rfl (hb hby own_d_jdk_42_method_149_48)
  have N22 := Fr.snoc X22 N21 ge_x
  have E_x := E_x.wr W22
  have F_v := F_v.other W22 (Or.inr (RoadKit.slot_ne (Or.inr (hw _ (List.mem_of_getElem? (i := 21) rfl))) (Or.inr (hw _ (List.mem_of_getElem? (i := 22) rfl))) (by decide) (t := (.array .byte)) (t' := .byte) (by decide) (by decide)))
  have F_k := F_k.same W22
  have V_s := V_s.other W22 ne_s
  have V_t := V_t.other W22 (Ne.symm ne_x_t)
  have Od := Od.wr W22 ge_x
  have Kp := Kp.wr W22 (Or.inl (List.mem_of_getElem? (i := 0) rfl))
  refine own_st st22 ?_
  show own_Go p e below s _ _ _ (T22.setTop (mkF m 51 #[.val (.ref x), .val (.ref sr), .val (.int (0 : Int32)), .val (.int (1 : Int32)), .val .null, .val (.ref t)] []))
  refine own_st (fun t9 k9 => XS.aloadN X22.here hx rfl (hb hby own_d_jdk_42_method_149_51) rfl rfl k9) ?_
  show own_Go p e below s _ _ _ (T22.setTop (mkF m 52 #[.val (.ref x), .val (.ref sr), .val (.int (0 : Int32)), .val (.int (1 : Int32)), .val .null, .val (.ref t)] [(.ref x)]))
  refine own_st (fun t9 k9 => XS.aload X22.here hx rfl (hb hby own_d_jdk_42_method_149_52) rfl rfl k9) ?_
  show own_Go p e below s _ _ _ (T22.setTop (mkF m 54 #[.val (.ref x), .val (.ref sr), .val (.int (0 : Int32)), .val (.int (1 : Int32)), .val .null, .val (.ref t)] [(.ref t), (.ref x)]))
  obtain ⟨T23, h23, X23, e23, W23, st23⟩ := putF X22 hx hZ hown (host := "") (Or.inl (hw _ (List.mem_of_getElem? (i := 25) rfl))) Via.refl e22 F_v E_x (Or.inr ⟨(hw _ (List.mem_of_getElem? (i := 21) rfl)), rfl, hnm⟩) (hw _ (List.mem_of_getElem? (i := 6) rfl)) (ty := (.array .byte)) (by decide) rfl rfl (g := (mkF m 54 #[.val (.ref x), .val (.ref sr), .val (.int (0 : Int32)), .val (.int (1 : Int32)), .val .null, .val (.ref t)] [(.ref t), (.ref x)])) rfl rfl (hb hby own_d_jdk_42_method_149_54)
  have N23 := Fr.snoc X23 N22 ge_x
  have E_x := E_x.wr W23
  have F_v := F_v.same W23
  have F_k := F_k.other W23 (Or.inr (RoadKit.slot_ne (Or.inr (hw _ (List.mem_of_getElem? (i := 22) rfl))) (Or.inr (hw _ (List.mem_of_getElem? (i := 21) rfl))) (by decide) (t := .byte) (t' := (.array .byte)) (by decide) (by decide)))
  have V_s := V_s.other W23 ne_s
  have V_t := V_t.other W23 (Ne.symm ne_x_t)
  have Od := Od.wr W23 ge_x
  have Kp := Kp.wr W23 (Or.inl (List.mem_of_getElem? (i := 0) rfl))
  refine own_st st23 ?_
  show own_Go p e below s _ _ _ (T23.setTop (mkF m 57 #[.val (.ref x), .val (.ref sr), .val (.int (0 : Int32)), .val (.int (1 : Int32)), .val .null, .val (.ref t)] []))
  exact own_retV X23 hx hlk Bd.returns (hb hby own_d_jdk_42_method_149_57) (by decide) (by decide) (by rw [e23]; exact ⟨rfl, N23, Kp, E_x, F_k, t, kt, gz_t, F_v, V_t⟩)
theorem own_d_jdk_42_method_3_0 : decode jdk_42_method_3_code 0 = .ok (.aload_n 0, 1) := by decide +kernel
theorem own_d_jdk_42_method_3_1 : decode jdk_42_method_3_code 1 = .ok (.aload_n 1, 1) := by decide +kernel
theorem own_d_jdk_42_method_3_2 : decode jdk_42_method_3_code 2 = .ok (.iconst 0, 1) := by decide +kernel
theorem own_d_jdk_42_method_3_3 : decode jdk_42_method_3_code 3 = .ok (.aload_n 1, 1) := by decide +kernel
theorem own_d_jdk_42_method_3_4 : decode jdk_42_method_3_code 4 = .ok (.arraylength, 1) := by decide +kernel
theorem own_d_jdk_42_method_3_5 : decode jdk_42_method_3_code 5 = .ok (.aconst_null, 1) := by decide +kernel
theorem own_pd7 : parseMethodDescriptor "([CIILjava/lang/Void;)V" = some ⟨[(.array .char), .int, .int, (.object "java/lang/Void")], none⟩ := by decide +kernel
theorem own_d_jdk_42_method_3_6 : decode jdk_42_method_3_code 6 = .ok (.invokespecial 27, 3) := by decide +kernel
theorem own_d_jdk_42_method_3_9 : decode jdk_42_method_3_code 9 = .ok (.return_, 1) := by decide +kernel
theorem own_ef_si1_1 (m : MethodId) (x0 : Addr) (x1 : Addr) : entryFrame m #[(.ref x0), (.ref x1)] 2 = mkF m 0 #[.val (.ref x0), .val (.ref x1)] [] := by first | (simp [entryFrame, mkF, argsToLocals, Value.category]; done) | rfl
def own_Q_si1_1 (Z : State) (x : Addr) (x0 : Int32) (h0 : Heap) (n0 : Nat) (v : Option Value) (h : Heap) (L : List Loc) : Prop := v = none ∧ Fr n0 L ∧ Keep h0 h [x] ∧ Exa Z h x "java/lang/String" ∧ Fld Z h x "java/lang/String" "coder" "B" (.int (1 : Int32)) ∧ ∃ t k, h0.size ≤ t ∧ Fld Z h x "java/lang/String" "value" "[B" (.ref t) ∧ Arv Z h t k .byte (2 : Int32) [(.int (StrChars.lo8 x0)), (.int (StrChars.hi8 x0))] (.int (0 : Int32))
set_option maxRecDepth 65536 in
set_option maxHeartbeats 40000000 in
theorem own_rm_si1_1 (l : Launch) (Z : State) (a0 : Array Value) (hw : ∀ d ∈ tables_1, d.before a0 Z = true) (ws : List Jvm.Cond) (x : Addr) (sr : Addr) (ks : ClassId) (v0 c0 : Value) (G : Int32) (x0 : Int32) (h0 : Heap) (n0 : Nat) (Od : Old Z n0 h0) (E_x : Exa Z h0 x "java/lang/String") (F_v : Fld Z h0 x "java/lang/String" "value" "[B" v0) (F_k : Fld Z h0 x "java/lang/String" "coder" "B" c0) (V_s : Arv Z h0 sr ks .char (1 : Int32) [(.int x0)] (.int (0 : Int32))) (ge_x : n0 ≤ x) (ne_s : sr ≠ x) (hr0 : ¬ x0 < 0 ∧ ¬ (65535 : Int32) < x0) (hm : ¬ own_first [x0] 0 = (1 : Int32)) (OA : Sta Z Z.heap "java/lang/StringUTF16" "$assertionsDisabled" "Z" (.int (1 : Int32))) (OH : Sta Z Z.heap "java/lang/StringUTF16" "HI_BYTE_SHIFT" "I" (.int (0 : Int32))) (OL : Sta Z Z.heap "java/lang/StringUTF16" "LO_BYTE_SHIFT" "I" (.int (8 : Int32))) (O2 : Sta Z Z.heap "java/lang/String" "COMPACT_STRINGS" "Z" (.int G)) (P5 : ¬ (G = (0 : Int32))) :
    MetFree l (⟨"java/lang/String", "<init>", "([C)V"⟩ : MethodName) (head1 (Jvm.Cond.code (⟨"java/lang/String", "<init>", "([C)V"⟩ : MethodName) jdk_42_method_3_code 2 none :: ws) ({ frames := 5, cells := 2, slots := 3, locals := 74 } : Room)) (fun a9 U => a9 = #[(.ref x), (.ref sr)] ∧ Z.Warmed39 U.vm ∧ U.heap = h0) (fun _ _ _ _ _ => True) (fun _ U o U' => ∃ v L, o = .returned v ∧ own_Q_si1_1 Z x x0 h0 n0 v U'.heap L ∧ FrameEnd U o U' L ({ frames := 5, cells := 2, slots := 3, locals := 74 } : Room).cells ({ frames := 5, cells := 2, slots := 3, locals := 74 } : Room).slots) := by
  refine MetFree.of_bodySF (plainFor_of_name own_pn1) hisR ?_
  intro p e s m args below meth c s₁ Bd hml0 hP hK
  obtain ⟨rfl, hZ, hh⟩ := hP
  have hx := Bd.exec
  have hby := Bd.bytes
  have hml : c.maxLocals = 2 := hml0
  have hown : s.vm.findClass "java/lang/String" = some m.cls := findClass_of_methodNamed Bd.named
  have hnm := (name_of_methodNamed Bd.named Bd.method).1
  have hlk : meth.locks = false := Bd.notSynchronized
  have X0 : Stand p l e ({ frames := 5, cells := 2, slots := 3, locals := 74 } : Room) s m #[(.ref x), (.ref sr)] below meth c s₁ [] 0 0 := Stand.of_body Bd
  have e0 : s₁.heap = h0 := by rw [← hh, Bd.state]; rfl
  have N0 := Fr.nil n0
  show own_Go p e below s (own_Q_si1_1 Z x x0 h0 n0) ({ frames := 5, cells := 2, slots := 3, locals := 74 } : Room).cells ({ frames := 5, cells := 2, slots := 3, locals := 74 } : Room).slots (s₁.setTop (entryFrame m #[(.ref x), (.ref sr)] 2))
  refine own_st (fun t9 k9 => castTop (own_ef_si1_1 m x sr) k9) ?_
  show own_Go p e below s _ _ _ (s₁.setTop (mkF m 0 #[.val (.ref x), .val (.ref sr)] []))
  have Kp : Keep h0 h0 [x] := Keep.refl h0 [x]
  refine own_st (fun t9 k9 => XS.aloadN X0.here hx rfl (hb hby own_d_jdk_42_method_3_0) rfl rfl k9) ?_
  show own_Go p e below s _ _ _ (s₁.setTop (mkF m 1 #[.val (.ref x), .val (.ref sr)] [(.ref x)]))
  refine own_st (fun t9 k9 => XS.aloadN X0.here hx rfl (hb hby own_d_jdk_42_method_3_1) rfl rfl k9) ?_
  show own_Go p e below s _ _ _ (s₁.setTop (mkF m 2 #[.val (.ref x), .val (.ref sr)] [(.ref sr), (.ref x)]))
  refine own_st (fun t9 k9 => XS.iconst X0.here hx rfl (hb hby own_d_jdk_42_method_3_2) k9) ?_
  show own_Go p e below s _ _ _ (s₁.setTop (mkF m 3 #[.val (.ref x), .val (.ref sr)] [(.int (0 : Int32)), (.ref sr), (.ref x)]))
  refine own_st (fun t9 k9 => XS.aloadN X0.here hx rfl (hb hby own_d_jdk_42_method_3_3) rfl rfl k9) ?_
  show own_Go p e below s _ _ _ (s₁.setTop (mkF m 4 #[.val (.ref x), .val (.ref sr)] [(.ref sr), (.int (0 : Int32)), (.ref sr), (.ref x)]))
  refine own_st (fun t9 k9 => own_alen X0 hx hZ e0 V_s (g := (mkF m 4 #[.val (.ref x), .val (.ref sr)] [(.ref sr), (.int (0 : Int32)), (.ref sr), (.ref x)])) rfl rfl (hb hby own_d_jdk_42_method_3_4) t9 k9) ?_
  show own_Go p e below s _ _ _ (s₁.setTop (mkF m 5 #[.val (.ref x), .val (.ref sr)] [(.int (1 : Int32)), (.int (0 : Int32)), (.ref sr), (.ref x)]))
  refine own_st (fun t9 k9 => XS.aconstNull X0.here hx rfl (hb hby own_d_jdk_42_method_3_5) k9) ?_
  show own_Go p e below s _ _ _ (s₁.setTop (mkF m 6 #[.val (.ref x), .val (.ref sr)] [.null, (.int (1 : Int32)), (.int (0 : Int32)), (.ref sr), (.ref x)]))
  obtain ⟨_, T24, h24, L24, X24, e24, ⟨rfl, Nc, Kc, E_y, F_c, t, kt, get, F_u, V_t⟩, st24⟩ := own_callI X0 hx hZ hown rfl (hw _ (List.mem_of_getElem? (i := 12) rfl)) (hw _ (List.mem_of_getElem? (i := 13) rfl)) (hw _ (List.mem_of_getElem? (i := 7) rfl)) (hw _ (List.mem_of_getElem? (i := 15) rfl)) (by decide) (own_rm_si2_1 l Z a0 hw [] x sr ks v0 c0 G x0 h0 n0 Od E_x F_v F_k V_s ge_x ne_s hr0 hm OA OH OL O2 P5) (by decide) (by decide) e0 (a := x) (W := 0) (g := (mkF m 6 #[.val (.ref x), .val (.ref sr)] [.null, (.int (1 : Int32)), (.int (0 : Int32)), (.ref sr), (.ref x)])) rfl (by rw [hml]; rfl) (argsL := [(.ref sr), (.int (0 : Int32)), (.int (1 : Int32)), .null]) (rest := []) rfl (lenOf own_pd7 rfl) rfl (by show 2 * 0 + _ ≤ _; exact Nat.le_of_eq rfl) (hb hby own_d_jdk_42_method_3_6) (by decide) (by decide)
  have N24 := Fr.app N0 Nc
  have E_x := E_x.keep Kc
  have V_s := V_s.keep Kc (ninS ne_s nin0)
  have Od := Od.keep Kc (allS ge_x all0)
  have Kp := Kp.trans Kc (allS (Or.inl (List.mem_of_getElem? (i := 0) rfl)) all0)
  refine own_st st24 ?_
  show own_Go p e below s _ _ _ (T24.setTop (mkF m 9 #[.val (.ref x), .val (.ref sr)] []))
  exact own_retV X24 hx hlk Bd.returns (hb hby own_d_jdk_42_method_3_9) (by decide) (by decide) (by rw [e24]; exact ⟨rfl, N24, Kp, E_y, F_c, t, kt, get, F_u, V_t⟩)
theorem own_ef_nbf2 (m : MethodId) (x0 : Int32) : entryFrame m #[(.int x0)] 1 = mkF m 0 #[.val (.int x0)] [] := by first | (simp [entryFrame, mkF, argsToLocals, Value.category]; done) | rfl
def own_Q_nbf2 (Z : State)  (h0 : Heap) (n0 : Nat) (v : Option Value) (h : Heap) (L : List Loc) : Prop := Fr n0 L ∧ Keep h0 h [] ∧ ∃ a k, v = some (.ref a) ∧ h0.size ≤ a ∧ Arv Z h a k .byte (4 : Int32) [(.int (0 : Int32)), (.int (0 : Int32)), (.int (0 : Int32)), (.int (0 : Int32))] (.int (0 : Int32))
set_option maxRecDepth 65536 in
set_option maxHeartbeats 40000000 in
theorem own_rm_nbf2 (l : Launch) (Z : State) (a0 : Array Value) (hw : ∀ d ∈ tables_1, d.before a0 Z = true) (ws : List Jvm.Cond)  (h0 : Heap) (n0 : Nat) (Od : Old Z n0 h0) :
    MetFree l (⟨"java/lang/StringUTF16", "newBytesFor", "(I)[B"⟩ : MethodName) (head1 (Jvm.Cond.code (⟨"java/lang/StringUTF16", "newBytesFor", "(I)[B"⟩ : MethodName) jdk_52_method_2_code 1 (some (.array .byte)) :: ws) ({ frames := 1, cells := 1, slots := 4, locals := 12 } : Room)) (fun a9 U => a9 = #[(.int (2 : Int32))] ∧ Z.Warmed39 U.vm ∧ U.heap = h0) (fun _ _ _ _ _ => True) (fun _ U o U' => ∃ v L, o = .returned v ∧ own_Q_nbf2 Z  h0 n0 v U'.heap L ∧ FrameEnd U o U' L ({ frames := 1, cells := 1, slots := 4, locals := 12 } : Room).cells ({ frames := 1, cells := 1, slots := 4, locals := 12 } : Room).slots) := by
  refine MetFree.of_bodySF (plainFor_of_name own_pn0) hisR ?_
  intro p e s m args below meth c s₁ Bd hml0 hP hK
  obtain ⟨rfl, hZ, hh⟩ := hP
  have hx := Bd.exec
  have hby := Bd.bytes
  have hml : c.maxLocals = 1 := hml0
  have hown : s.vm.findClass "java/lang/StringUTF16" = some m.cls := findClass_of_methodNamed Bd.named
  have hnm := (name_of_methodNamed Bd.named Bd.method).1
  have hlk : meth.locks = false := Bd.notSynchronized
  have X0 : Stand p l e ({ frames := 1, cells := 1, slots := 4, locals := 12 } : Room) s m #[(.int (2 : Int32))] below meth c s₁ [] 0 0 := Stand.of_body Bd
  have e0 : s₁.heap = h0 := by rw [← hh, Bd.state]; rfl
  have N0 := Fr.nil n0
  show own_Go p e below s (own_Q_nbf2 Z  h0 n0) ({ frames := 1, cells := 1, slots := 4, locals := 12 } : Room).cells ({ frames := 1, cells := 1, slots := 4, locals := 12 } : Room).slots (s₁.setTop (entryFrame m #[(.int (2 : Int32))] 1))
  refine own_st (fun t9 k9 => castTop (own_ef_nbf2 m (2 : Int32)) k9) ?_
  show own_Go p e below s _ _ _ (s₁.setTop (mkF m 0 #[.val (.int (2 : Int32))] []))
  have Kp : Keep h0 h0 [] := Keep.refl h0 []
  refine own_st (fun t9 k9 => XS.iloadN X0.here hx rfl (hb hby own_d_jdk_52_method_2_0) rfl  k9) ?_
  show own_Go p e below s _ _ _ (s₁.setTop (mkF m 1 #[.val (.int (2 : Int32))] [(.int (2 : Int32))]))
  obtain ⟨_, T25, h25, L25, X25, e25, ⟨rfl, Nc, hu⟩, st25⟩ := own_callS X0 hx hZ hown (hw _ (List.mem_of_getElem? (i := 55) rfl)) (hw _ (List.mem_of_getElem? (i := 56) rfl)) (hw _ (List.mem_of_getElem? (i := 38) rfl)) (hw _ (List.mem_of_getElem? (i := 57) rfl)) (by decide) (own_rm_nbl l Z a0 hw [] (2 : Int32) h0 n0 Od (by decide) (by decide)) (by decide) (by decide) e0 (W := 0) (g := (mkF m 1 #[.val (.int (2 : Int32))] [(.int (2 : Int32))])) rfl (by rw [hml]; rfl) (argsL := [(.int (2 : Int32))]) (rest := []) rfl (lenOf own_pd0 rfl) rfl (by show 2 * 0 + _ ≤ _; exact Nat.le_of_eq rfl) (hb hby own_d_jdk_52_method_2_1) (by decide) (by decide)
  have N25 := Fr.app N0 Nc
  refine own_st st25 ?_
  show own_Go p e below s _ _ _ (T25.setTop (mkF m 4 #[.val (.int (2 : Int32))] [(.int ((2 : Int32) <<< ((1 : Int32) &&& 31)))]))
  show own_Go p e below s _ _ _ (T25.setTop (mkF m 4 #[.val (.int (2 : Int32))] [(.int (4 : Int32))]))
  obtain ⟨T26, h26, k26, X26, e26, E26, A26, st26⟩ := newP X25 hx hZ (hw _ (List.mem_of_getElem? (i := 20) rfl)) (e25.trans hu) (g := (mkF m 4 #[.val (.int (2 : Int32))] [(.int (4 : Int32))])) rfl (hb hby own_d_jdk_52_method_2_4) rfl (by decide) (cap := 4) (by decide) (by decide) (by decide) (by decide)
  obtain ⟨a, g26⟩ : ∃ z, z = h0.size := ⟨_, rfl⟩
  rw [← g26] at A26 st26
  have ge_a : n0 ≤ a := Nat.le_trans (own_z0 Od) (Nat.le_of_eq g26.symm)
  have gz_a : h0.size ≤ a := Nat.le_trans Kp.1 (Nat.le_of_eq g26.symm)
  have Od := Od.ext E26
  have Kp := Kp.ext E26
  refine own_st st26 ?_
  show own_Go p e below s _ _ _ (T26.setTop (mkF m 6 #[.val (.int (2 : Int32))] [(.ref a)]))
  have V_a : Arv Z h26 a k26 .byte (4 : Int32) [(.int (0 : Int32)), (.int (0 : Int32)), (.int (0 : Int32)), (.int (0 : Int32))] (.int (0 : Int32)) := (Arv.new A26 (by decide)).pad (pad_rep [] (.int (0 : Int32)) 4)
  exact own_retR X26 hx hlk Bd.returns rfl rfl (hb hby own_d_jdk_52_method_2_6) (by decide) (by decide) (by rw [e26]; exact ⟨N25, Kp, a, _, rfl, gz_a, V_a⟩)
theorem own_ef_tob2 (m : MethodId) (x0 : Addr) (x1 : Int32) (x2 : Int32) : entryFrame m #[(.ref x0), (.int x1), (.int x2)] 5 = mkF m 0 #[.val (.ref x0), .val (.int x1), .val (.int x2), .unset, .unset] [] := by first | (simp [entryFrame, mkF, argsToLocals, Value.category]; done) | rfl
def own_Q_tob2 (Z : State) (x0 : Int32) (x1 : Int32) (h0 : Heap) (n0 : Nat) (v : Option Value) (h : Heap) (L : List Loc) : Prop := Fr n0 L ∧ Keep h0 h [] ∧ ∃ a k, v = some (.ref a) ∧ h0.size ≤ a ∧ Arv Z h a k .byte (4 : Int32) [(.int (StrChars.lo8 x0)), (.int (StrChars.hi8 x0)), (.int (StrChars.lo8 x1)), (.int (StrChars.hi8 x1))] (.int (0 : Int32))
set_option maxRecDepth 65536 in
set_option maxHeartbeats 40000000 in
theorem own_rm_tob2 (l : Launch) (Z : State) (a0 : Array Value) (hw : ∀ d ∈ tables_1, d.before a0 Z = true) (ws : List Jvm.Cond) (sr : Addr) (ks : ClassId) (x0 : Int32) (x1 : Int32) (h0 : Heap) (n0 : Nat) (Od : Old Z n0 h0) (V_s : Arv Z h0 sr ks .char (2 : Int32) [(.int x0), (.int x1)] (.int (0 : Int32))) (OA : Sta Z Z.heap "java/lang/StringUTF16" "$assertionsDisabled" "Z" (.int (1 : Int32))) (OH : Sta Z Z.heap "java/lang/StringUTF16" "HI_BYTE_SHIFT" "I" (.int (0 : Int32))) (OL : Sta Z Z.heap "java/lang/StringUTF16" "LO_BYTE_SHIFT" "I" (.int (8 : Int32))) :
    MetFree l (⟨"java/lang/StringUTF16", "toBytes", "([CII)[B"⟩ : MethodName) (head1 (Jvm.Cond.code (⟨"java/lang/StringUTF16", "toBytes", "([CII)[B"⟩ : MethodName) jdk_52_method_14_code 5 (some (.array .byte)) :: ws) ({ frames := 2, cells := 1, slots := 4, locals := 24 } : Room)) (fun a9 U => a9 = #[(.ref sr), (.int (0 : Int32)), (.int (2 : Int32))] ∧ Z.Warmed39 U.vm ∧ U.heap = h0) (fun _ _ _ _ _ => True) (fun _ U o U' => ∃ v L, o = .returned v ∧ own_Q_tob2 Z x0 x1 h0 n0 v U'.heap L ∧ FrameEnd U o U' L ({ frames := 2, cells := 1, slots := 4, locals := 24 } : Room).cells ({ frames := 2, cells := 1, slots := 4, locals := 24 } : Room).slots) := by
  refine MetFree.of_bodySF (plainFor_of_name own_pn0) hisR ?_
  intro p e s m args below meth c s₁ Bd hml0 hP hK
  obtain ⟨rfl, hZ, hh⟩ := hP
  have hx := Bd.exec
  have hby := Bd.bytes
  have hml : c.maxLocals = 5 := hml0
  have hown : s.vm.findClass "java/lang/StringUTF16" = some m.cls := findClass_of_methodNamed Bd.named
  have hnm := (name_of_methodNamed Bd.named Bd.method).1
  have hlk : meth.locks = false := Bd.notSynchronized
  have X0 : Stand p l e ({ frames := 2, cells := 1, slots := 4, locals := 24 } : Room) s m #[(.ref sr), (.int (0 : Int32)), (.int (2 : Int32))] below meth c s₁ [] 0 0 := Stand.of_body Bd
  have e0 : s₁.heap = h0 := by rw [← hh, Bd.state]; rfl
  have N0 := Fr.nil n0
  show own_Go p e below s (own_Q_tob2 Z x0 x1 h0 n0) ({ frames := 2, cells := 1, slots := 4, locals := 24 } : Room).cells ({ frames := 2, cells := 1, slots := 4, locals := 24 } : Room).slots (s₁.setTop (entryFrame m #[(.ref sr), (.int (0 : Int32)), (.int (2 : Int32))] 5))
  refine own_st (fun t9 k9 => castTop (own_ef_tob2 m sr (0 : Int32) (2 : Int32)) k9) ?_
  show own_Go p e below s _ _ _ (s₁.setTop (mkF m 0 #[.val (.ref sr), .val (.int (0 : Int32)), .val (.int (2 : Int32)), .unset, .unset] []))
  have Kp : Keep h0 h0 [] := Keep.refl h0 []
  refine own_st (fun t9 k9 => XS.iloadN X0.here hx rfl (hb hby own_d_jdk_52_method_14_0) rfl  k9) ?_
  show own_Go p e below s _ _ _ (s₁.setTop (mkF m 1 #[.val (.ref sr), .val (.int (0 : Int32)), .val (.int (2 : Int32)), .unset, .unset] [(.int (2 : Int32))]))
  obtain ⟨_, T27, h27, L27, X27, e27, ⟨Nc, Kc, a, ka, rfl, gea, V_a⟩, st27⟩ := own_callS X0 hx hZ hown (hw _ (List.mem_of_getElem? (i := 52) rfl)) (hw _ (List.mem_of_getElem? (i := 53) rfl)) (hw _ (List.mem_of_getElem? (i := 38) rfl)) (hw _ (List.mem_of_getElem? (i := 54) rfl)) (by decide) (own_rm_nbf2 l Z a0 hw [] h0 n0 Od) (by decide) (by decide) e0 (W := 0) (g := (mkF m 1 #[.val (.ref sr), .val (.int (0 : Int32)), .val (.int (2 : Int32)), .unset, .unset] [(.int (2 : Int32))])) rfl (by rw [hml]; rfl) (argsL := [(.int (2 : Int32))]) (rest := []) rfl (lenOf own_pd1 rfl) rfl (by show 2 * 0 + _ ≤ _; exact Nat.le_of_eq rfl) (hb hby own_d_jdk_52_method_14_1) (by decide) (by decide)
  have N27 := Fr.app N0 Nc
  have ne_sr_a : sr ≠ a := Nat.ne_of_lt (Nat.lt_of_lt_of_le V_s.lt gea)
  have ge_a : n0 ≤ a := Nat.le_trans (own_z0 Od) gea
  have gz_a : h0.size ≤ a := Nat.le_trans Kp.1 gea
  have V_s := V_s.keep Kc nin0
  have Od := Od.keep Kc all0
  have Kp := Kp.trans Kc all0
  refine own_st st27 ?_
  show own_Go p e below s _ _ _ (T27.setTop (mkF m 4 #[.val (.ref sr), .val (.int (0 : Int32)), .val (.int (2 : Int32)), .unset, .unset] [(.ref a)]))
  refine own_st (fun t9 k9 => XS.astoreN X27.here hx rfl (hb hby own_d_jdk_52_method_14_4) rfl rfl (l' := #[.val (.ref sr), .val (.int (0 : Int32)), .val (.int (2 : Int32)), .val (.ref a), .unset]) rfl k9) ?_
  show own_Go p e below s _ _ _ (T27.setTop (mkF m 5 #[.val (.ref sr), .val (.int (0 : Int32)), .val (.int (2 : Int32)), .val (.ref a), .unset] []))
  refine own_st (fun t9 k9 => XS.iconst X27.here hx rfl (hb hby own_d_jdk_52_method_14_5) k9) ?_
  show own_Go p e below s _ _ _ (T27.setTop (mkF m 6 #[.val (.ref sr), .val (.int (0 : Int32)), .val (.int (2 : Int32)), .val (.ref a), .unset] [(.int (0 : Int32))]))
  refine own_st (fun t9 k9 => XS.istore X27.here hx rfl (hb hby own_d_jdk_52_method_14_6) rfl (l' := #[.val (.ref sr), .val (.int (0 : Int32)), .val (.int (2 : Int32)), .val (.ref a), .val (.int (0 : Int32))]) rfl k9) ?_
  show own_Go p e below s _ _ _ (T27.setTop (mkF m 8 #[.val (.ref sr), .val (.int (0 : Int32)), .val (.int (2 : Int32)), .val (.ref a), .val (.int (0 : Int32))] []))
  refine own_st (fun t9 k9 => XS.iload X27.here hx rfl (hb hby own_d_jdk_52_method_14_8) rfl  k9) ?_
  show own_Go p e below s _ _ _ (T27.setTop (mkF m 10 #[.val (.ref sr), .val (.int (0 : Int32)), .val (.int (2 : Int32)), .val (.ref a), .val (.int (0 : Int32))] [(.int (0 : Int32))]))
  refine own_st (fun t9 k9 => XS.iloadN X27.here hx rfl (hb hby own_d_jdk_52_method_14_10) rfl  k9) ?_
  show own_Go p e below s _ _ _ (T27.setTop (mkF m 11 #[.val (.ref sr), .val (.int (0 : Int32)), .val (.int (2 : Int32)), .val (.ref a), .val (.int (0 : Int32))] [(.int (2 : Int32)), (.int (0 : Int32))]))
  refine own_st (fun t9 k9 => XS.icmpNo X27.here hx rfl (hb hby own_d_jdk_52_method_14_11) rfl (by decide) k9) ?_
  show own_Go p e below s _ _ _ (T27.setTop (mkF m 14 #[.val (.ref sr), .val (.int (0 : Int32)), .val (.int (2 : Int32)), .val (.ref a), .val (.int (0 : Int32))] []))
  refine own_st (fun t9 k9 => XS.aloadN X27.here hx rfl (hb hby own_d_jdk_52_method_14_14) rfl rfl k9) ?_
  show own_Go p e below s _ _ _ (T27.setTop (mkF m 15 #[.val (.ref sr), .val (.int (0 : Int32)), .val (.int (2 : Int32)), .val (.ref a), .val (.int (0 : Int32))] [(.ref a)]))
  refine own_st (fun t9 k9 => XS.iload X27.here hx rfl (hb hby own_d_jdk_52_method_14_15) rfl  k9) ?_
  show own_Go p e below s _ _ _ (T27.setTop (mkF m 17 #[.val (.ref sr), .val (.int (0 : Int32)), .val (.int (2 : Int32)), .val (.ref a), .val (.int (0 : Int32))] [(.int (0 : Int32)), (.ref a)]))
  refine own_st (fun t9 k9 => XS.aloadN X27.here hx rfl (hb hby own_d_jdk_52_method_14_17) rfl rfl k9) ?_
  show own_Go p e below s _ _ _ (T27.setTop (mkF m 18 #[.val (.ref sr), .val (.int (0 : Int32)), .val (.int (2 : Int32)), .val (.ref a), .val (.int (0 : Int32))] [(.ref sr), (.int (0 : Int32)), (.ref a)]))
  refine own_st (fun t9 k9 => XS.iloadN X27.here hx rfl (hb hby own_d_jdk_52_method_14_18) rfl  k9) ?_
  show own_Go p e below s _ _ _ (T27.setTop (mkF m 19 #[.val (.ref sr), .val (.int (0 : Int32)), .val (.int (2 : Int32)), .val (.ref a), .val (.int (0 : Int32))] [(.int (0 : Int32)), (.ref sr), (.int (0 : Int32)), (.ref a)]))
  refine own_st (fun t9 k9 => own_cald X27 hx hZ e27 V_s (j := (0 : Int32)) (v := (.int x0)) ⟨by decide, by decide⟩ rfl (g := (mkF m 19 #[.val (.ref sr), .val (.int (0 : Int32)), .val (.int (2 : Int32)), .val (.ref a), .val (.int (0 : Int32))] [(.int (0 : Int32)), (.ref sr), (.int (0 : Int32)), (.ref a)])) rfl rfl (hb hby own_d_jdk_52_method_14_19) t9 k9) ?_
  show own_Go p e below s _ _ _ (T27.setTop (mkF m 20 #[.val (.ref sr), .val (.int (0 : Int32)), .val (.int (2 : Int32)), .val (.ref a), .val (.int (0 : Int32))] [(.int x0), (.int (0 : Int32)), (.ref a)]))
  obtain ⟨cl, A1, A2, A3, A4, A5, A6⟩ := id V_a
  obtain ⟨_, T28, h28, L28, X28, e28, ⟨rfl, Nc, h1, W1, W2⟩, st28⟩ := own_callS X27 hx hZ hown (hw _ (List.mem_of_getElem? (i := 59) rfl)) (hw _ (List.mem_of_getElem? (i := 60) rfl)) (hw _ (List.mem_of_getElem? (i := 38) rfl)) (hw _ (List.mem_of_getElem? (i := 61) rfl)) (by decide) (own_rm_putc l Z a0 hw [] a (0 : Int32) x0 cl h27 n0 Od A1 ge_a (inb_of A3 ⟨by decide, by decide⟩) (inb_of A3 ⟨by decide, by decide⟩) OA OH OL) (by decide) (by decide) e27 (W := 0) (g := (mkF m 20 #[.val (.ref sr), .val (.int (0 : Int32)), .val (.int (2 : Int32)), .val (.ref a), .val (.int (0 : Int32))] [(.int x0), (.int (0 : Int32)), (.ref a)])) rfl (by rw [hml]; rfl) (argsL := [(.ref a), (.int (0 : Int32)), (.int x0)]) (rest := []) rfl (lenOf own_pd2 rfl) rfl (by show 2 * 0 + _ ≤ _; exact Nat.le_of_eq rfl) (hb hby own_d_jdk_52_method_14_20) (by decide) (by decide)
  have N28 := Fr.app N27 Nc
  have V_s := V_s.keep ((Keep.of_wr W1).trans (Keep.of_wr W2) (fun x hx => Or.inl hx)) (ninS ne_sr_a nin0)
  have Od := Od.keep ((Keep.of_wr W1).trans (Keep.of_wr W2) (fun x hx => Or.inl hx)) (allS ge_a all0)
  have Kp := Kp.trans ((Keep.of_wr W1).trans (Keep.of_wr W2) (fun x hx => Or.inl hx)) (allS (Or.inr gz_a) all0)
  refine own_st st28 ?_
  show own_Go p e below s _ _ _ (T28.setTop (mkF m 23 #[.val (.ref sr), .val (.int (0 : Int32)), .val (.int (2 : Int32)), .val (.ref a), .val (.int (0 : Int32))] []))
  have V_m : Arv Z h1 a ka .byte (4 : Int32) [(.int (StrChars.lo8 x0)), (.int (0 : Int32)), (.int (0 : Int32)), (.int (0 : Int32))] (.int (0 : Int32)) := Arv.set A1 A2 A3 A4 A5 A6 (fits_nar_byte _) W1 0 rfl (Nat.le_of_ble_eq_true rfl)
  obtain ⟨cm, B1, B2, B3, B4, B5, B6⟩ := id V_m
  have V_a : Arv Z h28 a ka .byte (4 : Int32) [(.int (StrChars.lo8 x0)), (.int (StrChars.hi8 x0)), (.int (0 : Int32)), (.int (0 : Int32))] (.int (0 : Int32)) := Arv.set B1 B2 B3 B4 B5 B6 (fits_nar_byte _) W2 1 rfl (Nat.le_of_ble_eq_true rfl)
  refine own_st (fun t9 k9 => XS.iinc X28.here hx rfl (hb hby own_d_jdk_52_method_14_23) rfl (l' := #[.val (.ref sr), .val (.int ((0 : Int32) + (1 : Int32))), .val (.int (2 : Int32)), .val (.ref a), .val (.int (0 : Int32))]) rfl k9) ?_
  show own_Go p e below s _ _ _ (T28.setTop (mkF m 26 #[.val (.ref sr), .val (.int ((0 : Int32) + (1 : Int32))), .val (.int (2 : Int32)), .val (.ref a), .val (.int (0 : Int32))] []))
  show own_Go p e below s _ _ _ (T28.setTop (mkF m 26 #[.val (.ref sr), .val (.int (1 : Int32)), .val (.int (2 : Int32)), .val (.ref a), .val (.int (0 : Int32))] []))
  refine own_st (fun t9 k9 => XS.iinc X28.here hx rfl (hb hby own_d_jdk_52_method_14_26) rfl (l' := #[.val (.ref sr), .val (.int (1 : Int32)), .val (.int (2 : Int32)), .val (.ref a), .val (.int ((0 : Int32) + (1 : Int32)))]) rfl k9) ?_
  show own_Go p e below s _ _ _ (T28.setTop (mkF m 29 #[.val (.ref sr), .val (.int (1 : Int32)), .val (.int (2 : Int32)), .val (.ref a), .val (.int ((0 : Int32) + (1 : Int32)))] []))
  show own_Go p e below s _ _ _ (T28.setTop (mkF m 29 #[.val (.ref sr), .val (.int (1 : Int32)), .val (.int (2 : Int32)), .val (.ref a), .val (.int (1 : Int32))] []))
  refine own_st (fun t9 k9 => XS.goto X28.here hx rfl (pc0 := 29) (pc' := 8) rfl (hb hby own_d_jdk_52_method_14_29) (by decide) (by decide) k9) ?_
  show own_Go p e below s _ _ _ (T28.setTop (mkF m 8 #[.val (.ref sr), .val (.int (1 : Int32)), .val (.int (2 : Int32)), .val (.ref a), .val (.int (1 : Int32))] []))
  refine own_st (fun t9 k9 => XS.iload X28.here hx rfl (hb hby own_d_jdk_52_method_14_8) rfl  k9) ?_
  show own_Go p e below s _ _ _ (T28.setTop (mkF m 10 #[.val (.ref sr), .val (.int (1 : Int32)), .val (.int (2 : Int32)), .val (.ref a), .val (.int (1 : Int32))] [(.int (1 : Int32))]))
  refine own_st (fun t9 k9 => XS.iloadN X28.here hx rfl (hb hby own_d_jdk_52_method_14_10) rfl  k9) ?_
  show own_Go p e below s _ _ _ (T28.setTop (mkF m 11 #[.val (.ref sr), .val (.int (1 : Int32)), .val (.int (2 : Int32)), .val (.ref a), .val (.int (1 : Int32))] [(.int (2 : Int32)), (.int (1 : Int32))]))
  refine own_st (fun t9 k9 => XS.icmpNo X28.here hx rfl (hb hby own_d_jdk_52_method_14_11) rfl (by decide) k9) ?_
  show own_Go p e below s _ _ _ (T28.setTop (mkF m 14 #[.val (.ref sr), .val (.int (1 : Int32)), .val (.int (2 : Int32)), .val (.ref a), .val (.int (1 : Int32))] []))
  refine own_st (fun t9 k9 => XS.aloadN X28.here hx rfl (hb hby own_d_jdk_52_method_14_14) rfl rfl k9) ?_
  show own_Go p e below s _ _ _ (T28.setTop (mkF m 15 #[.val (.ref sr), .val (.int (1 : Int32)), .val (.int (2 : Int32)), .val (.ref a), .val (.int (1 : Int32))] [(.ref a)]))
  refine own_st (fun t9 k9 => XS.iload X28.here hx rfl (hb hby own_d_jdk_52_method_14_15) rfl  k9) ?_
  show own_Go p e below s _ _ _ (T28.setTop (mkF m 17 #[.val (.ref sr), .val (.int (1 : Int32)), .val (.int (2 : Int32)), .val (.ref a), .val (.int (1 : Int32))] [(.int (1 : Int32)), (.ref a)]))
  refine own_st (fun t9 k9 => XS.aloadN X28.here hx rfl (hb hby own_d_jdk_52_method_14_17) rfl rfl k9) ?_
  show own_Go p e below s _ _ _ (T28.setTop (mkF m 18 #[.val (.ref sr), .val (.int (1 : Int32)), .val (.int (2 : Int32)), .val (.ref a), .val (.int (1 : Int32))] [(.ref sr), (.int (1 : Int32)), (.ref a)]))
  refine own_st (fun t9 k9 => XS.iloadN X28.here hx rfl (hb hby own_d_jdk_52_method_14_18) rfl  k9) ?_
  show own_Go p e below s _ _ _ (T28.setTop (mkF m 19 #[.val (.ref sr), .val (.int (1 : Int32)), .val (.int (2 : Int32)), .val (.ref a), .val (.int (1 : Int32))] [(.int (1 : Int32)), (.ref sr), (.int (1 : Int32)), (.ref a)]))
  refine own_st (fun t9 k9 => own_cald X28 hx hZ e28 V_s (j := (1 : Int32)) (v := (.int x1)) ⟨by decide, by decide⟩ rfl (g := (mkF m 19 #[.val (.ref sr), .val (.int (1 : Int32)), .val (.int (2 : Int32)), .val (.ref a), .val (.int (1 : Int32))] [(.int (1 : Int32)), (.ref sr), (.int (1 : Int32)), (.ref a)])) rfl rfl (hb hby own_d_jdk_52_method_14_19) t9 k9) ?_
  show own_Go p e below s _ _ _ (T28.setTop (mkF m 20 #[.val (.ref sr), .val (.int (1 : Int32)), .val (.int (2 : Int32)), .val (.ref a), .val (.int (1 : Int32))] [(.int x1), (.int (1 : Int32)), (.ref a)]))
  obtain ⟨cl, A1, A2, A3, A4, A5, A6⟩ := id V_a
  obtain ⟨_, T29, h29, L29, X29, e29, ⟨rfl, Nc, h1, W1, W2⟩, st29⟩ := own_callS X28 hx hZ hown (hw _ (List.mem_of_getElem? (i := 59) rfl)) (hw _ (List.mem_of_getElem? (i := 60) rfl)) (hw _ (List.mem_of_getElem? (i := 38) rfl)) (hw _ (List.mem_of_getElem? (i := 61) rfl)) (by decide) (own_rm_putc l Z a0 hw [] a (1 : Int32) x1 cl h28 n0 Od A1 ge_a (inb_of A3 ⟨by decide, by decide⟩) (inb_of A3 ⟨by decide, by decide⟩) OA OH OL) (by decide) (by decide) e28 (W := 0) (g := (mkF m 20 #[.val (.ref sr), .val (.int (1 : Int32)), .val (.int (2 : Int32)), .val (.ref a), .val (.int (1 : Int32))] [(.int x1), (.int (1 : Int32)), (.ref a)])) rfl (by rw [hml]; rfl) (argsL := [(.ref a), (.int (1 : Int32)), (.int x1)]) (rest := []) rfl (lenOf own_pd2 rfl) rfl (by show 2 * 0 + _ ≤ _; exact Nat.le_of_eq rfl) (hb hby own_d_jdk_52_method_14_20) (by decide) (by decide)
  have N29 := Fr.app N28 Nc
  have V_s := V_s.keep ((Keep.of_wr W1).trans (Keep.of_wr W2) (fun x hx => Or.inl hx)) (ninS ne_sr_a nin0)
  have Od := Od.keep ((Keep.of_wr W1).trans (Keep.of_wr W2) (fun x hx => Or.inl hx)) (allS ge_a all0)
  have Kp := Kp.trans ((Keep.of_wr W1).trans (Keep.of_wr W2) (fun x hx => Or.inl hx)) (allS (Or.inr gz_a) all0)
  refine own_st st29 ?_
  show own_Go p e below s _ _ _ (T29.setTop (mkF m 23 #[.val (.ref sr), .val (.int (1 : Int32)), .val (.int (2 : Int32)), .val (.ref a), .val (.int (1 : Int32))] []))
  have V_m : Arv Z h1 a ka .byte (4 : Int32) [(.int (StrChars.lo8 x0)), (.int (StrChars.hi8 x0)), (.int (StrChars.lo8 x1)), (.int (0 : Int32))] (.int (0 : Int32)) := Arv.set A1 A2 A3 A4 A5 A6 (fits_nar_byte _) W1 2 rfl (Nat.le_of_ble_eq_true rfl)
  obtain ⟨cm, B1, B2, B3, B4, B5, B6⟩ := id V_m
  have V_a : Arv Z h29 a ka .byte (4 : Int32) [(.int (StrChars.lo8 x0)), (.int (StrChars.hi8 x0)), (.int (StrChars.lo8 x1)), (.int (StrChars.hi8 x1))] (.int (0 : Int32)) := Arv.set B1 B2 B3 B4 B5 B6 (fits_nar_byte _) W2 3 rfl (Nat.le_of_ble_eq_true rfl)
  refine own_st (fun t9 k9 => XS.iinc X29.here hx rfl (hb hby own_d_jdk_52_method_14_23) rfl (l' := #[.val (.ref sr), .val (.int ((1 : Int32) + (1 : Int32))), .val (.int (2 : Int32)), .val (.ref a), .val (.int (1 : Int32))]) rfl k9) ?_
  show own_Go p e below s _ _ _ (T29.setTop (mkF m 26 #[.val (.ref sr), .val (.int ((1 : Int32) + (1 : Int32))), .val (.int (2 : Int32)), .val (.ref a), .val (.int (1 : Int32))] []))
  show own_Go p e below s _ _ _ (T29.setTop (mkF m 26 #[.val (.ref sr), .val (.int (2 : Int32)), .val (.int (2 : Int32)), .val (.ref a), .val (.int (1 : Int32))] []))
  refine own_st (fun t9 k9 => XS.iinc X29.here hx rfl (hb hby own_d_jdk_52_method_14_26) rfl (l' := #[.val (.ref sr), .val (.int (2 : Int32)), .val (.int (2 : Int32)), .val (.ref a), .val (.int ((1 : Int32) + (1 : Int32)))]) rfl k9) ?_
  show own_Go p e below s _ _ _ (T29.setTop (mkF m 29 #[.val (.ref sr), .val (.int (2 : Int32)), .val (.int (2 : Int32)), .val (.ref a), .val (.int ((1 : Int32) + (1 : Int32)))] []))
  show own_Go p e below s _ _ _ (T29.setTop (mkF m 29 #[.val (.ref sr), .val (.int (2 : Int32)), .val (.int (2 : Int32)), .val (.ref a), .val (.int (2 : Int32))] []))
  refine own_st (fun t9 k9 => XS.goto X29.here hx rfl (pc0 := 29) (pc' := 8) rfl (hb hby own_d_jdk_52_method_14_29) (by decide) (by decide) k9) ?_
  show own_Go p e below s _ _ _ (T29.setTop (mkF m 8 #[.val (.ref sr), .val (.int (2 : Int32)), .val (.int (2 : Int32)), .val (.ref a), .val (.int (2 : Int32))] []))
  refine own_st (fun t9 k9 => XS.iload X29.here hx rfl (hb hby own_d_jdk_52_method_14_8) rfl  k9) ?_
  show own_Go p e below s _ _ _ (T29.setTop (mkF m 10 #[.val (.ref sr), .val (.int (2 : Int32)), .val (.int (2 : Int32)), .val (.ref a), .val (.int (2 : Int32))] [(.int (2 : Int32))]))
  refine own_st (fun t9 k9 => XS.iloadN X29.here hx rfl (hb hby own_d_jdk_52_method_14_10) rfl  k9) ?_
  show own_Go p e below s _ _ _ (T29.setTop (mkF m 11 #[.val (.ref sr), .val (.int (2 : Int32)), .val (.int (2 : Int32)), .val (.ref a), .val (.int (2 : Int32))] [(.int (2 : Int32)), (.int (2 : Int32))]))
  refine own_st (fun t9 k9 => XS.icmpYes X29.here hx rfl (pc0 := 11) (pc' := 32) rfl (hb hby own_d_jdk_52_method_14_11) rfl (by decide) (by decide) (by decide) k9) ?_
  show own_Go p e below s _ _ _ (T29.setTop (mkF m 32 #[.val (.ref sr), .val (.int (2 : Int32)), .val (.int (2 : Int32)), .val (.ref a), .val (.int (2 : Int32))] []))
  refine own_st (fun t9 k9 => XS.aloadN X29.here hx rfl (hb hby own_d_jdk_52_method_14_32) rfl rfl k9) ?_
  show own_Go p e below s _ _ _ (T29.setTop (mkF m 33 #[.val (.ref sr), .val (.int (2 : Int32)), .val (.int (2 : Int32)), .val (.ref a), .val (.int (2 : Int32))] [(.ref a)]))
  exact own_retR X29 hx hlk Bd.returns rfl rfl (hb hby own_d_jdk_52_method_14_33) (by decide) (by decide) (by rw [e29]; exact ⟨N29, Kp, a, ka, rfl, gz_a, V_a⟩)
theorem own_ef_cm2 (m : MethodId) (x0 : Addr) (x1 : Int32) (x2 : Addr) (x3 : Int32) (x4 : Int32) : entryFrame m #[(.ref x0), (.int x1), (.ref x2), (.int x3), (.int x4)] 7 = mkF m 0 #[.val (.ref x0), .val (.int x1), .val (.ref x2), .val (.int x3), .val (.int x4), .unset, .unset] [] := by first | (simp [entryFrame, mkF, argsToLocals, Value.category]; done) | rfl
def own_Q_cm2 (Z : State) (ds : Addr) (x0 : Int32) (x1 : Int32) (h0 : Heap) (n0 : Nat) (v : Option Value) (h : Heap) (L : List Loc) : Prop := v = some (.int (own_first [x0, x1] 0)) ∧ Fr n0 L ∧ Keep h0 h [ds]
set_option maxRecDepth 65536 in
set_option maxHeartbeats 40000000 in
theorem own_rm_cm2 (l : Launch) (Z : State) (a0 : Array Value) (hw : ∀ d ∈ tables_1, d.before a0 Z = true) (ws : List Jvm.Cond) (sr ds : Addr) (ks kd : ClassId) (x0 : Int32) (x1 : Int32) (h0 : Heap) (n0 : Nat) (Od : Old Z n0 h0) (V_s : Arv Z h0 sr ks .char (2 : Int32) [(.int x0), (.int x1)] (.int (0 : Int32))) (V_d : Arv Z h0 ds kd .byte (2 : Int32) [(.int (0 : Int32)), (.int (0 : Int32))] (.int (0 : Int32))) (ne_s : sr ≠ ds) (ge_ds : n0 ≤ ds) :
    MetFree l (⟨"java/lang/StringUTF16", "compress", "([CI[BII)I"⟩ : MethodName) (head1 (Jvm.Cond.code (⟨"java/lang/StringUTF16", "compress", "([CI[BII)I"⟩ : MethodName) jdk_52_method_21_code 7 (some .int) :: ws) ({ frames := 0, cells := 0, slots := 0, locals := 0 } : Room)) (fun a9 U => a9 = #[(.ref sr), (.int (0 : Int32)), (.ref ds), (.int (0 : Int32)), (.int (2 : Int32))] ∧ Z.Warmed39 U.vm ∧ U.heap = h0) (fun _ _ _ _ _ => True) (fun _ U o U' => ∃ v L, o = .returned v ∧ own_Q_cm2 Z ds x0 x1 h0 n0 v U'.heap L ∧ FrameEnd U o U' L ({ frames := 0, cells := 0, slots := 0, locals := 0 } : Room).cells ({ frames := 0, cells := 0, slots := 0, locals := 0 } : Room).slots) := by
  refine MetFree.of_bodySF (plainFor_of_name own_pn0) hisR ?_
  intro p e s m args below meth c s₁ Bd hml0 hP hK
  obtain ⟨rfl, hZ, hh⟩ := hP
  have hx := Bd.exec
  have hby := Bd.bytes
  have hml : c.maxLocals = 7 := hml0
  have hown : s.vm.findClass "java/lang/StringUTF16" = some m.cls := findClass_of_methodNamed Bd.named
  have hnm := (name_of_methodNamed Bd.named Bd.method).1
  have hlk : meth.locks = false := Bd.notSynchronized
  have X0 : Stand p l e ({ frames := 0, cells := 0, slots := 0, locals := 0 } : Room) s m #[(.ref sr), (.int (0 : Int32)), (.ref ds), (.int (0 : Int32)), (.int (2 : Int32))] below meth c s₁ [] 0 0 := Stand.of_body Bd
  have e0 : s₁.heap = h0 := by rw [← hh, Bd.state]; rfl
  have N0 := Fr.nil n0
  show own_Go p e below s (own_Q_cm2 Z ds x0 x1 h0 n0) ({ frames := 0, cells := 0, slots := 0, locals := 0 } : Room).cells ({ frames := 0, cells := 0, slots := 0, locals := 0 } : Room).slots (s₁.setTop (entryFrame m #[(.ref sr), (.int (0 : Int32)), (.ref ds), (.int (0 : Int32)), (.int (2 : Int32))] 7))
  refine own_st (fun t9 k9 => castTop (own_ef_cm2 m sr (0 : Int32) ds (0 : Int32) (2 : Int32)) k9) ?_
  show own_Go p e below s _ _ _ (s₁.setTop (mkF m 0 #[.val (.ref sr), .val (.int (0 : Int32)), .val (.ref ds), .val (.int (0 : Int32)), .val (.int (2 : Int32)), .unset, .unset] []))
  have Kp : Keep h0 h0 [ds] := Keep.refl h0 [ds]
  refine own_st (fun t9 k9 => XS.iconst X0.here hx rfl (hb hby own_d_jdk_52_method_21_0) k9) ?_
  show own_Go p e below s _ _ _ (s₁.setTop (mkF m 1 #[.val (.ref sr), .val (.int (0 : Int32)), .val (.ref ds), .val (.int (0 : Int32)), .val (.int (2 : Int32)), .unset, .unset] [(.int (0 : Int32))]))
  refine own_st (fun t9 k9 => XS.istore X0.here hx rfl (hb hby own_d_jdk_52_method_21_1) rfl (l' := #[.val (.ref sr), .val (.int (0 : Int32)), .val (.ref ds), .val (.int (0 : Int32)), .val (.int (2 : Int32)), .val (.int (0 : Int32)), .unset]) rfl k9) ?_
  show own_Go p e below s _ _ _ (s₁.setTop (mkF m 3 #[.val (.ref sr), .val (.int (0 : Int32)), .val (.ref ds), .val (.int (0 : Int32)), .val (.int (2 : Int32)), .val (.int (0 : Int32)), .unset] []))
  refine own_st (fun t9 k9 => XS.iload X0.here hx rfl (hb hby own_d_jdk_52_method_21_3) rfl  k9) ?_
  show own_Go p e below s _ _ _ (s₁.setTop (mkF m 5 #[.val (.ref sr), .val (.int (0 : Int32)), .val (.ref ds), .val (.int (0 : Int32)), .val (.int (2 : Int32)), .val (.int (0 : Int32)), .unset] [(.int (0 : Int32))]))
  refine own_st (fun t9 k9 => XS.iload X0.here hx rfl (hb hby own_d_jdk_52_method_21_5) rfl  k9) ?_
  show own_Go p e below s _ _ _ (s₁.setTop (mkF m 7 #[.val (.ref sr), .val (.int (0 : Int32)), .val (.ref ds), .val (.int (0 : Int32)), .val (.int (2 : Int32)), .val (.int (0 : Int32)), .unset] [(.int (2 : Int32)), (.int (0 : Int32))]))
  refine own_st (fun t9 k9 => XS.icmpNo X0.here hx rfl (hb hby own_d_jdk_52_method_21_7) rfl (by decide) k9) ?_
  show own_Go p e below s _ _ _ (s₁.setTop (mkF m 10 #[.val (.ref sr), .val (.int (0 : Int32)), .val (.ref ds), .val (.int (0 : Int32)), .val (.int (2 : Int32)), .val (.int (0 : Int32)), .unset] []))
  refine own_st (fun t9 k9 => XS.aloadN X0.here hx rfl (hb hby own_d_jdk_52_method_21_10) rfl rfl k9) ?_
  show own_Go p e below s _ _ _ (s₁.setTop (mkF m 11 #[.val (.ref sr), .val (.int (0 : Int32)), .val (.ref ds), .val (.int (0 : Int32)), .val (.int (2 : Int32)), .val (.int (0 : Int32)), .unset] [(.ref sr)]))
  refine own_st (fun t9 k9 => XS.iloadN X0.here hx rfl (hb hby own_d_jdk_52_method_21_11) rfl  k9) ?_
  show own_Go p e below s _ _ _ (s₁.setTop (mkF m 12 #[.val (.ref sr), .val (.int (0 : Int32)), .val (.ref ds), .val (.int (0 : Int32)), .val (.int (2 : Int32)), .val (.int (0 : Int32)), .unset] [(.int (0 : Int32)), (.ref sr)]))
  refine own_st (fun t9 k9 => own_cald X0 hx hZ e0 V_s (j := (0 : Int32)) (v := (.int x0)) ⟨by decide, by decide⟩ rfl (g := (mkF m 12 #[.val (.ref sr), .val (.int (0 : Int32)), .val (.ref ds), .val (.int (0 : Int32)), .val (.int (2 : Int32)), .val (.int (0 : Int32)), .unset] [(.int (0 : Int32)), (.ref sr)])) rfl rfl (hb hby own_d_jdk_52_method_21_12) t9 k9) ?_
  show own_Go p e below s _ _ _ (s₁.setTop (mkF m 13 #[.val (.ref sr), .val (.int (0 : Int32)), .val (.ref ds), .val (.int (0 : Int32)), .val (.int (2 : Int32)), .val (.int (0 : Int32)), .unset] [(.int x0)]))
  refine own_st (fun t9 k9 => XS.istore X0.here hx rfl (hb hby own_d_jdk_52_method_21_13) rfl (l' := #[.val (.ref sr), .val (.int (0 : Int32)), .val (.ref ds), .val (.int (0 : Int32)), .val (.int (2 : Int32)), .val (.int (0 : Int32)), .val (.int x0)]) rfl k9) ?_
  show own_Go p e below s _ _ _ (s₁.setTop (mkF m 15 #[.val (.ref sr), .val (.int (0 : Int32)), .val (.ref ds), .val (.int (0 : Int32)), .val (.int (2 : Int32)), .val (.int (0 : Int32)), .val (.int x0)] []))
  refine own_st (fun t9 k9 => XS.iload X0.here hx rfl (hb hby own_d_jdk_52_method_21_15) rfl  k9) ?_
  show own_Go p e below s _ _ _ (s₁.setTop (mkF m 17 #[.val (.ref sr), .val (.int (0 : Int32)), .val (.ref ds), .val (.int (0 : Int32)), .val (.int (2 : Int32)), .val (.int (0 : Int32)), .val (.int x0)] [(.int x0)]))
  refine own_st (fun t9 k9 => XS.sipush X0.here hx rfl (hb hby own_d_jdk_52_method_21_17) k9) ?_
  show own_Go p e below s _ _ _ (s₁.setTop (mkF m 20 #[.val (.ref sr), .val (.int (0 : Int32)), .val (.ref ds), .val (.int (0 : Int32)), .val (.int (2 : Int32)), .val (.int (0 : Int32)), .val (.int x0)] [(.int (255 : Int32)), (.int x0)]))
  by_cases hg0 : (255 : Int32) < x0
  · skip
    refine own_st (fun t9 k9 => XS.icmpNo X0.here hx rfl (hb hby own_d_jdk_52_method_21_20) rfl (tlt (hg0 : (255 : Int32) < x0)).2.2.2 k9) ?_
    show own_Go p e below s _ _ _ (s₁.setTop (mkF m 23 #[.val (.ref sr), .val (.int (0 : Int32)), .val (.ref ds), .val (.int (0 : Int32)), .val (.int (2 : Int32)), .val (.int (0 : Int32)), .val (.int x0)] []))
    refine own_st (fun t9 k9 => XS.iload X0.here hx rfl (hb hby own_d_jdk_52_method_21_23) rfl  k9) ?_
    show own_Go p e below s _ _ _ (s₁.setTop (mkF m 25 #[.val (.ref sr), .val (.int (0 : Int32)), .val (.ref ds), .val (.int (0 : Int32)), .val (.int (2 : Int32)), .val (.int (0 : Int32)), .val (.int x0)] [(.int (0 : Int32))]))
    exact own_retI X0 hx hlk Bd.returns (hb hby own_d_jdk_52_method_21_25) (by decide) (by decide) (by rw [e0]; exact ⟨by rw [(show own_first [x0, x1] 0 = (0 : Int32) from (if_pos hg0))], N0, Kp⟩)
  · skip
    refine own_st (fun t9 k9 => XS.icmpYes X0.here hx rfl (pc0 := 20) (pc' := 26) rfl (hb hby own_d_jdk_52_method_21_20) rfl (flt (hg0 : ¬ ((255 : Int32) < x0))).2.2.2 (by decide) (by decide) k9) ?_
    show own_Go p e below s _ _ _ (s₁.setTop (mkF m 26 #[.val (.ref sr), .val (.int (0 : Int32)), .val (.ref ds), .val (.int (0 : Int32)), .val (.int (2 : Int32)), .val (.int (0 : Int32)), .val (.int x0)] []))
    refine own_st (fun t9 k9 => XS.aloadN X0.here hx rfl (hb hby own_d_jdk_52_method_21_26) rfl rfl k9) ?_
    show own_Go p e below s _ _ _ (s₁.setTop (mkF m 27 #[.val (.ref sr), .val (.int (0 : Int32)), .val (.ref ds), .val (.int (0 : Int32)), .val (.int (2 : Int32)), .val (.int (0 : Int32)), .val (.int x0)] [(.ref ds)]))
    refine own_st (fun t9 k9 => XS.iloadN X0.here hx rfl (hb hby own_d_jdk_52_method_21_27) rfl  k9) ?_
    show own_Go p e below s _ _ _ (s₁.setTop (mkF m 28 #[.val (.ref sr), .val (.int (0 : Int32)), .val (.ref ds), .val (.int (0 : Int32)), .val (.int (2 : Int32)), .val (.int (0 : Int32)), .val (.int x0)] [(.int (0 : Int32)), (.ref ds)]))
    refine own_st (fun t9 k9 => XS.iload X0.here hx rfl (hb hby own_d_jdk_52_method_21_28) rfl  k9) ?_
    show own_Go p e below s _ _ _ (s₁.setTop (mkF m 30 #[.val (.ref sr), .val (.int (0 : Int32)), .val (.ref ds), .val (.int (0 : Int32)), .val (.int (2 : Int32)), .val (.int (0 : Int32)), .val (.int x0)] [(.int x0), (.int (0 : Int32)), (.ref ds)]))
    refine own_st (fun t9 k9 => XT.i2b X0.here hx rfl (hb hby own_d_jdk_52_method_21_30) rfl k9) ?_
    show own_Go p e below s _ _ _ (s₁.setTop (mkF m 31 #[.val (.ref sr), .val (.int (0 : Int32)), .val (.ref ds), .val (.int (0 : Int32)), .val (.int (2 : Int32)), .val (.int (0 : Int32)), .val (.int x0)] [(.int (x0.toInt8.toInt32)), (.int (0 : Int32)), (.ref ds)]))
    obtain ⟨cl30, Ar30, q30, S30, M30, H30, G30⟩ := id V_d
    obtain ⟨T30, h30, X30, e30, W30, st30⟩ := stB X0 hx hZ e0 Ar30 (j := (0 : Int32)) (inb_of S30 ⟨by decide, by decide⟩) (g := (mkF m 31 #[.val (.ref sr), .val (.int (0 : Int32)), .val (.ref ds), .val (.int (0 : Int32)), .val (.int (2 : Int32)), .val (.int (0 : Int32)), .val (.int x0)] [(.int (x0.toInt8.toInt32)), (.int (0 : Int32)), (.ref ds)])) rfl rfl (hb hby own_d_jdk_52_method_21_31)
    have N30 := Fr.snoc X30 N0 ge_ds
    have V_s := V_s.other W30 ne_s
    have Od := Od.wr W30 ge_ds
    have Kp := Kp.wr W30 (Or.inl (List.mem_of_getElem? (i := 0) rfl))
    refine own_st st30 ?_
    show own_Go p e below s _ _ _ (T30.setTop (mkF m 32 #[.val (.ref sr), .val (.int (0 : Int32)), .val (.ref ds), .val (.int (0 : Int32)), .val (.int (2 : Int32)), .val (.int (0 : Int32)), .val (.int x0)] []))
    have V_d : Arv Z h30 ds kd .byte (2 : Int32) [(.int (nar .byte (x0.toInt8.toInt32))), (.int (0 : Int32))] (.int (0 : Int32)) := Arv.set Ar30 q30 S30 M30 H30 G30 (fits_nar_byte _) W30 0 rfl (Nat.le_of_ble_eq_true rfl)
    refine own_st (fun t9 k9 => XS.iinc X30.here hx rfl (hb hby own_d_jdk_52_method_21_32) rfl (l' := #[.val (.ref sr), .val (.int ((0 : Int32) + (1 : Int32))), .val (.ref ds), .val (.int (0 : Int32)), .val (.int (2 : Int32)), .val (.int (0 : Int32)), .val (.int x0)]) rfl k9) ?_
    show own_Go p e below s _ _ _ (T30.setTop (mkF m 35 #[.val (.ref sr), .val (.int ((0 : Int32) + (1 : Int32))), .val (.ref ds), .val (.int (0 : Int32)), .val (.int (2 : Int32)), .val (.int (0 : Int32)), .val (.int x0)] []))
    show own_Go p e below s _ _ _ (T30.setTop (mkF m 35 #[.val (.ref sr), .val (.int (1 : Int32)), .val (.ref ds), .val (.int (0 : Int32)), .val (.int (2 : Int32)), .val (.int (0 : Int32)), .val (.int x0)] []))
    refine own_st (fun t9 k9 => XS.iinc X30.here hx rfl (hb hby own_d_jdk_52_method_21_35) rfl (l' := #[.val (.ref sr), .val (.int (1 : Int32)), .val (.ref ds), .val (.int ((0 : Int32) + (1 : Int32))), .val (.int (2 : Int32)), .val (.int (0 : Int32)), .val (.int x0)]) rfl k9) ?_
    show own_Go p e below s _ _ _ (T30.setTop (mkF m 38 #[.val (.ref sr), .val (.int (1 : Int32)), .val (.ref ds), .val (.int ((0 : Int32) + (1 : Int32))), .val (.int (2 : Int32)), .val (.int (0 : Int32)), .val (.int x0)] []))
    show own_Go p e below s _ _ _ (T30.setTop (mkF m 38 #[.val (.ref sr), .val (.int (1 : Int32)), .val (.ref ds), .val (.int (1 : Int32)), .val (.int (2 : Int32)), .val (.int (0 : Int32)), .val (.int x0)] []))
    refine own_st (fun t9 k9 => XS.iinc X30.here hx rfl (hb hby own_d_jdk_52_method_21_38) rfl (l' := #[.val (.ref sr), .val (.int (1 : Int32)), .val (.ref ds), .val (.int (1 : Int32)), .val (.int (2 : Int32)), .val (.int ((0 : Int32) + (1 : Int32))), .val (.int x0)]) rfl k9) ?_
    show own_Go p e below s _ _ _ (T30.setTop (mkF m 41 #[.val (.ref sr), .val (.int (1 : Int32)), .val (.ref ds), .val (.int (1 : Int32)), .val (.int (2 : Int32)), .val (.int ((0 : Int32) + (1 : Int32))), .val (.int x0)] []))
    show own_Go p e below s _ _ _ (T30.setTop (mkF m 41 #[.val (.ref sr), .val (.int (1 : Int32)), .val (.ref ds), .val (.int (1 : Int32)), .val (.int (2 : Int32)), .val (.int (1 : Int32)), .val (.int x0)] []))
    refine own_st (fun t9 k9 => XS.goto X30.here hx rfl (pc0 := 41) (pc' := 3) rfl (hb hby own_d_jdk_52_method_21_41) (by decide) (by decide) k9) ?_
    show own_Go p e below s _ _ _ (T30.setTop (mkF m 3 #[.val (.ref sr), .val (.int (1 : Int32)), .val (.ref ds), .val (.int (1 : Int32)), .val (.int (2 : Int32)), .val (.int (1 : Int32)), .val (.int x0)] []))
    refine own_st (fun t9 k9 => XS.iload X30.here hx rfl (hb hby own_d_jdk_52_method_21_3) rfl  k9) ?_
    show own_Go p e below s _ _ _ (T30.setTop (mkF m 5 #[.val (.ref sr), .val (.int (1 : Int32)), .val (.ref ds), .val (.int (1 : Int32)), .val (.int (2 : Int32)), .val (.int (1 : Int32)), .val (.int x0)] [(.int (1 : Int32))]))
    refine own_st (fun t9 k9 => XS.iload X30.here hx rfl (hb hby own_d_jdk_52_method_21_5) rfl  k9) ?_
    show own_Go p e below s _ _ _ (T30.setTop (mkF m 7 #[.val (.ref sr), .val (.int (1 : Int32)), .val (.ref ds), .val (.int (1 : Int32)), .val (.int (2 : Int32)), .val (.int (1 : Int32)), .val (.int x0)] [(.int (2 : Int32)), (.int (1 : Int32))]))
    refine own_st (fun t9 k9 => XS.icmpNo X30.here hx rfl (hb hby own_d_jdk_52_method_21_7) rfl (by decide) k9) ?_
    show own_Go p e below s _ _ _ (T30.setTop (mkF m 10 #[.val (.ref sr), .val (.int (1 : Int32)), .val (.ref ds), .val (.int (1 : Int32)), .val (.int (2 : Int32)), .val (.int (1 : Int32)), .val (.int x0)] []))
    refine own_st (fun t9 k9 => XS.aloadN X30.here hx rfl (hb hby own_d_jdk_52_method_21_10) rfl rfl k9) ?_
    show own_Go p e below s _ _ _ (T30.setTop (mkF m 11 #[.val (.ref sr), .val (.int (1 : Int32)), .val (.ref ds), .val (.int (1 : Int32)), .val (.int (2 : Int32)), .val (.int (1 : Int32)), .val (.int x0)] [(.ref sr)]))
    refine own_st (fun t9 k9 => XS.iloadN X30.here hx rfl (hb hby own_d_jdk_52_method_21_11) rfl  k9) ?_
    show own_Go p e below s _ _ _ (T30.setTop (mkF m 12 #[.val (.ref sr), .val (.int (1 : Int32)), .val (.ref ds), .val (.int (1 : Int32)), .val (.int (2 : Int32)), .val (.int (1 : Int32)), .val (.int x0)] [(.int (1 : Int32)), (.ref sr)]))
    refine own_st (fun t9 k9 => own_cald X30 hx hZ e30 V_s (j := (1 : Int32)) (v := (.int x1)) ⟨by decide, by decide⟩ rfl (g := (mkF m 12 #[.val (.ref sr), .val (.int (1 : Int32)), .val (.ref ds), .val (.int (1 : Int32)), .val (.int (2 : Int32)), .val (.int (1 : Int32)), .val (.int x0)] [(.int (1 : Int32)), (.ref sr)])) rfl rfl (hb hby own_d_jdk_52_method_21_12) t9 k9) ?_
    show own_Go p e below s _ _ _ (T30.setTop (mkF m 13 #[.val (.ref sr), .val (.int (1 : Int32)), .val (.ref ds), .val (.int (1 : Int32)), .val (.int (2 : Int32)), .val (.int (1 : Int32)), .val (.int x0)] [(.int x1)]))
    refine own_st (fun t9 k9 => XS.istore X30.here hx rfl (hb hby own_d_jdk_52_method_21_13) rfl (l' := #[.val (.ref sr), .val (.int (1 : Int32)), .val (.ref ds), .val (.int (1 : Int32)), .val (.int (2 : Int32)), .val (.int (1 : Int32)), .val (.int x1)]) rfl k9) ?_
    show own_Go p e below s _ _ _ (T30.setTop (mkF m 15 #[.val (.ref sr), .val (.int (1 : Int32)), .val (.ref ds), .val (.int (1 : Int32)), .val (.int (2 : Int32)), .val (.int (1 : Int32)), .val (.int x1)] []))
    refine own_st (fun t9 k9 => XS.iload X30.here hx rfl (hb hby own_d_jdk_52_method_21_15) rfl  k9) ?_
    show own_Go p e below s _ _ _ (T30.setTop (mkF m 17 #[.val (.ref sr), .val (.int (1 : Int32)), .val (.ref ds), .val (.int (1 : Int32)), .val (.int (2 : Int32)), .val (.int (1 : Int32)), .val (.int x1)] [(.int x1)]))
    refine own_st (fun t9 k9 => XS.sipush X30.here hx rfl (hb hby own_d_jdk_52_method_21_17) k9) ?_
    show own_Go p e below s _ _ _ (T30.setTop (mkF m 20 #[.val (.ref sr), .val (.int (1 : Int32)), .val (.ref ds), .val (.int (1 : Int32)), .val (.int (2 : Int32)), .val (.int (1 : Int32)), .val (.int x1)] [(.int (255 : Int32)), (.int x1)]))
    by_cases hg1 : (255 : Int32) < x1
    · skip
      refine own_st (fun t9 k9 => XS.icmpNo X30.here hx rfl (hb hby own_d_jdk_52_method_21_20) rfl (tlt (hg1 : (255 : Int32) < x1)).2.2.2 k9) ?_
      show own_Go p e below s _ _ _ (T30.setTop (mkF m 23 #[.val (.ref sr), .val (.int (1 : Int32)), .val (.ref ds), .val (.int (1 : Int32)), .val (.int (2 : Int32)), .val (.int (1 : Int32)), .val (.int x1)] []))
      refine own_st (fun t9 k9 => XS.iload X30.here hx rfl (hb hby own_d_jdk_52_method_21_23) rfl  k9) ?_
      show own_Go p e below s _ _ _ (T30.setTop (mkF m 25 #[.val (.ref sr), .val (.int (1 : Int32)), .val (.ref ds), .val (.int (1 : Int32)), .val (.int (2 : Int32)), .val (.int (1 : Int32)), .val (.int x1)] [(.int (1 : Int32))]))
      exact own_retI X30 hx hlk Bd.returns (hb hby own_d_jdk_52_method_21_25) (by decide) (by decide) (by rw [e30]; exact ⟨by rw [(show own_first [x0, x1] 0 = (1 : Int32) from ((if_neg hg0).trans (if_pos hg1)))], N30, Kp⟩)
    · skip
      refine own_st (fun t9 k9 => XS.icmpYes X30.here hx rfl (pc0 := 20) (pc' := 26) rfl (hb hby own_d_jdk_52_method_21_20) rfl (flt (hg1 : ¬ ((255 : Int32) < x1))).2.2.2 (by decide) (by decide) k9) ?_
      show own_Go p e below s _ _ _ (T30.setTop (mkF m 26 #[.val (.ref sr), .val (.int (1 : Int32)), .val (.ref ds), .val (.int (1 : Int32)), .val (.int (2 : Int32)), .val (.int (1 : Int32)), .val (.int x1)] []))
      refine own_st (fun t9 k9 => XS.aloadN X30.here hx rfl (hb hby own_d_jdk_52_method_21_26) rfl rfl k9) ?_
      show own_Go p e below s _ _ _ (T30.setTop (mkF m 27 #[.val (.ref sr), .val (.int (1 : Int32)), .val (.ref ds), .val (.int (1 : Int32)), .val (.int (2 : Int32)), .val (.int (1 : Int32)), .val (.int x1)] [(.ref ds)]))
      refine own_st (fun t9 k9 => XS.iloadN X30.here hx rfl (hb hby own_d_jdk_52_method_21_27) rfl  k9) ?_
      show own_Go p e below s _ _ _ (T30.setTop (mkF m 28 #[.val (.ref sr), .val (.int (1 : Int32)), .val (.ref ds), .val (.int (1 : Int32)), .val (.int (2 : Int32)), .val (.int (1 : Int32)), .val (.int x1)] [(.int (1 : Int32)), (.ref ds)]))
      refine own_st (fun t9 k9 => XS.iload X30.here hx rfl (hb hby own_d_jdk_52_method_21_28) rfl  k9) ?_
      show own_Go p e below s _ _ _ (T30.setTop (mkF m 30 #[.val (.ref sr), .val (.int (1 : Int32)), .val (.ref ds), .val (.int (1 : Int32)), .val (.int (2 : Int32)), .val (.int (1 : Int32)), .val (.int x1)] [(.int x1), (.int (1 : Int32)), (.ref ds)]))
      refine own_st (fun t9 k9 => XT.i2b X30.here hx rfl (hb hby own_d_jdk_52_method_21_30) rfl k9) ?_
      show own_Go p e below s _ _ _ (T30.setTop (mkF m 31 #[.val (.ref sr), .val (.int (1 : Int32)), .val (.ref ds), .val (.int (1 : Int32)), .val (.int (2 : Int32)), .val (.int (1 : Int32)), .val (.int x1)] [(.int (x1.toInt8.toInt32)), (.int (1 : Int32)), (.ref ds)]))
      obtain ⟨cl31, Ar31, q31, S31, M31, H31, G31⟩ := id V_d
      obtain ⟨T31, h31, X31, e31, W31, st31⟩ := stB X30 hx hZ e30 Ar31 (j := (1 : Int32)) (inb_of S31 ⟨by decide, by decide⟩) (g := (mkF m 31 #[.val (.ref sr), .val (.int (1 : Int32)), .val (.ref ds), .val (.int (1 : Int32)), .val (.int (2 : Int32)), .val (.int (1 : Int32)), .val (.int x1)] [(.int (x1.toInt8.toInt32)), (.int (1 : Int32)), (.ref ds)])) rfl rfl (hb hby own_d_jdk_52_method_21_31)
      have N31 := Fr.snoc X31 N30 ge_ds
      have V_s := V_s.other W31 ne_s
      have Od := Od.wr W31 ge_ds
      have Kp := Kp.wr W31 (Or.inl (List.mem_of_getElem? (i := 0) rfl))
      refine own_st st31 ?_
      show own_Go p e below s _ _ _ (T31.setTop (mkF m 32 #[.val (.ref sr), .val (.int (1 : Int32)), .val (.ref ds), .val (.int (1 : Int32)), .val (.int (2 : Int32)), .val (.int (1 : Int32)), .val (.int x1)] []))
      have V_d : Arv Z h31 ds kd .byte (2 : Int32) [(.int (nar .byte (x0.toInt8.toInt32))), (.int (nar .byte (x1.toInt8.toInt32)))] (.int (0 : Int32)) := Arv.set Ar31 q31 S31 M31 H31 G31 (fits_nar_byte _) W31 1 rfl (Nat.le_of_ble_eq_true rfl)
      refine own_st (fun t9 k9 => XS.iinc X31.here hx rfl (hb hby own_d_jdk_52_method_21_32) rfl (l' := #[.val (.ref sr), .val (.int ((1 : Int32) + (1 : Int32))), .val (.ref ds), .val (.int (1 : Int32)), .val (.int (2 : Int32)), .val (.int (1 : Int32)), .val (.int x1)]) rfl k9) ?_
      show own_Go p e below s _ _ _ (T31.setTop (mkF m 35 #[.val (.ref sr), .val (.int ((1 : Int32) + (1 : Int32))), .val (.ref ds), .val (.int (1 : Int32)), .val (.int (2 : Int32)), .val (.int (1 : Int32)), .val (.int x1)] []))
      show own_Go p e below s _ _ _ (T31.setTop (mkF m 35 #[.val (.ref sr), .val (.int (2 : Int32)), .val (.ref ds), .val (.int (1 : Int32)), .val (.int (2 : Int32)), .val (.int (1 : Int32)), .val (.int x1)] []))
      refine own_st (fun t9 k9 => XS.iinc X31.here hx rfl (hb hby own_d_jdk_52_method_21_35) rfl (l' := #[.val (.ref sr), .val (.int (2 : Int32)), .val (.ref ds), .val (.int ((1 : Int32) + (1 : Int32))), .val (.int (2 : Int32)), .val (.int (1 : Int32)), .val (.int x1)]) rfl k9) ?_
      show own_Go p e below s _ _ _ (T31.setTop (mkF m 38 #[.val (.ref sr), .val (.int (2 : Int32)), .val (.ref ds), .val (.int ((1 : Int32) + (1 : Int32))), .val (.int (2 : Int32)), .val (.int (1 : Int32)), .val (.int x1)] []))
      show own_Go p e below s _ _ _ (T31.setTop (mkF m 38 #[.val (.ref sr), .val (.int (2 : Int32)), .val (.ref ds), .val (.int (2 : Int32)), .val (.int (2 : Int32)), .val (.int (1 : Int32)), .val (.int x1)] []))
      refine own_st (fun t9 k9 => XS.iinc X31.here hx rfl (hb hby own_d_jdk_52_method_21_38) rfl (l' := #[.val (.ref sr), .val (.int (2 : Int32)), .val (.ref ds), .val (.int (2 : Int32)), .val (.int (2 : Int32)), .val (.int ((1 : Int32) + (1 : Int32))), .val (.int x1)]) rfl k9) ?_
      show own_Go p e below s _ _ _ (T31.setTop (mkF m 41 #[.val (.ref sr), .val (.int (2 : Int32)), .val (.ref ds), .val (.int (2 : Int32)), .val (.int (2 : Int32)), .val (.int ((1 : Int32) + (1 : Int32))), .val (.int x1)] []))
      show own_Go p e below s _ _ _ (T31.setTop (mkF m 41 #[.val (.ref sr), .val (.int (2 : Int32)), .val (.ref ds), .val (.int (2 : Int32)), .val (.int (2 : Int32)), .val (.int (2 : Int32)), .val (.int x1)] []))
      refine own_st (fun t9 k9 => XS.goto X31.here hx rfl (pc0 := 41) (pc' := 3) rfl (hb hby own_d_jdk_52_method_21_41) (by decide) (by decide) k9) ?_
      show own_Go p e below s _ _ _ (T31.setTop (mkF m 3 #[.val (.ref sr), .val (.int (2 : Int32)), .val (.ref ds), .val (.int (2 : Int32)), .val (.int (2 : Int32)), .val (.int (2 : Int32)), .val (.int x1)] []))
      refine own_st (fun t9 k9 => XS.iload X31.here hx rfl (hb hby own_d_jdk_52_method_21_3) rfl  k9) ?_
      show own_Go p e below s _ _ _ (T31.setTop (mkF m 5 #[.val (.ref sr), .val (.int (2 : Int32)), .val (.ref ds), .val (.int (2 : Int32)), .val (.int (2 : Int32)), .val (.int (2 : Int32)), .val (.int x1)] [(.int (2 : Int32))]))
      refine own_st (fun t9 k9 => XS.iload X31.here hx rfl (hb hby own_d_jdk_52_method_21_5) rfl  k9) ?_
      show own_Go p e below s _ _ _ (T31.setTop (mkF m 7 #[.val (.ref sr), .val (.int (2 : Int32)), .val (.ref ds), .val (.int (2 : Int32)), .val (.int (2 : Int32)), .val (.int (2 : Int32)), .val (.int x1)] [(.int (2 : Int32)), (.int (2 : Int32))]))
      refine own_st (fun t9 k9 => XS.icmpYes X31.here hx rfl (pc0 := 7) (pc' := 44) rfl (hb hby own_d_jdk_52_method_21_7) rfl (by decide) (by decide) (by decide) k9) ?_
      show own_Go p e below s _ _ _ (T31.setTop (mkF m 44 #[.val (.ref sr), .val (.int (2 : Int32)), .val (.ref ds), .val (.int (2 : Int32)), .val (.int (2 : Int32)), .val (.int (2 : Int32)), .val (.int x1)] []))
      refine own_st (fun t9 k9 => XS.iload X31.here hx rfl (hb hby own_d_jdk_52_method_21_44) rfl  k9) ?_
      show own_Go p e below s _ _ _ (T31.setTop (mkF m 46 #[.val (.ref sr), .val (.int (2 : Int32)), .val (.ref ds), .val (.int (2 : Int32)), .val (.int (2 : Int32)), .val (.int (2 : Int32)), .val (.int x1)] [(.int (2 : Int32))]))
      exact own_retI X31 hx hlk Bd.returns (hb hby own_d_jdk_52_method_21_46) (by decide) (by decide) (by rw [e31]; exact ⟨by rw [(show own_first [x0, x1] 0 = (2 : Int32) from ((if_neg hg0).trans ((if_neg hg1).trans rfl)))], N31, Kp⟩)
theorem own_ef_cp2 (m : MethodId) (x0 : Addr) (x1 : Int32) (x2 : Int32) : entryFrame m #[(.ref x0), (.int x1), (.int x2)] 6 = mkF m 0 #[.val (.ref x0), .val (.int x1), .val (.int x2), .unset, .unset, .unset] [] := by first | (simp [entryFrame, mkF, argsToLocals, Value.category]; done) | rfl
def own_Q_cp2 (Z : State) (x0 : Int32) (x1 : Int32) (h0 : Heap) (n0 : Nat) (v : Option Value) (h : Heap) (L : List Loc) : Prop := Fr n0 L ∧ Keep h0 h [] ∧ ∃ a k, v = some (.ref a) ∧ h0.size ≤ a ∧ Arv Z h a k .byte (4 : Int32) [(.int (StrChars.lo8 x0)), (.int (StrChars.hi8 x0)), (.int (StrChars.lo8 x1)), (.int (StrChars.hi8 x1))] (.int (0 : Int32))
set_option maxRecDepth 65536 in
set_option maxHeartbeats 40000000 in
theorem own_rm_cp2 (l : Launch) (Z : State) (a0 : Array Value) (hw : ∀ d ∈ tables_1, d.before a0 Z = true) (ws : List Jvm.Cond) (sr : Addr) (ks : ClassId) (x0 : Int32) (x1 : Int32) (h0 : Heap) (n0 : Nat) (Od : Old Z n0 h0) (V_s : Arv Z h0 sr ks .char (2 : Int32) [(.int x0), (.int x1)] (.int (0 : Int32))) (hr0 : ¬ x0 < 0 ∧ ¬ (65535 : Int32) < x0) (hr1 : ¬ x1 < 0 ∧ ¬ (65535 : Int32) < x1) (hm : ¬ own_first [x0, x1] 0 = (2 : Int32)) (OA : Sta Z Z.heap "java/lang/StringUTF16" "$assertionsDisabled" "Z" (.int (1 : Int32))) (OH : Sta Z Z.heap "java/lang/StringUTF16" "HI_BYTE_SHIFT" "I" (.int (0 : Int32))) (OL : Sta Z Z.heap "java/lang/StringUTF16" "LO_BYTE_SHIFT" "I" (.int (8 : Int32))) :
    MetFree l (⟨"java/lang/StringUTF16", "compress", "([CII)[B"⟩ : MethodName) (head1 (Jvm.Cond.code (⟨"java/lang/StringUTF16", "compress", "([CII)[B"⟩ : MethodName) jdk_52_method_16_code 6 (some (.array .byte)) :: ws) ({ frames := 3, cells := 2, slots := 6, locals := 40 } : Room)) (fun a9 U => a9 = #[(.ref sr), (.int (0 : Int32)), (.int (2 : Int32))] ∧ Z.Warmed39 U.vm ∧ U.heap = h0) (fun _ _ _ _ _ => True) (fun _ U o U' => ∃ v L, o = .returned v ∧ own_Q_cp2 Z x0 x1 h0 n0 v U'.heap L ∧ FrameEnd U o U' L ({ frames := 3, cells := 2, slots := 6, locals := 40 } : Room).cells ({ frames := 3, cells := 2, slots := 6, locals := 40 } : Room).slots) := by
  refine MetFree.of_bodySF (plainFor_of_name own_pn0) hisR ?_
  intro p e s m args below meth c s₁ Bd hml0 hP hK
  obtain ⟨rfl, hZ, hh⟩ := hP
  have hx := Bd.exec
  have hby := Bd.bytes
  have hml : c.maxLocals = 6 := hml0
  have hown : s.vm.findClass "java/lang/StringUTF16" = some m.cls := findClass_of_methodNamed Bd.named
  have hnm := (name_of_methodNamed Bd.named Bd.method).1
  have hlk : meth.locks = false := Bd.notSynchronized
  have X0 : Stand p l e ({ frames := 3, cells := 2, slots := 6, locals := 40 } : Room) s m #[(.ref sr), (.int (0 : Int32)), (.int (2 : Int32))] below meth c s₁ [] 0 0 := Stand.of_body Bd
  have e0 : s₁.heap = h0 := by rw [← hh, Bd.state]; rfl
  have N0 := Fr.nil n0
  show own_Go p e below s (own_Q_cp2 Z x0 x1 h0 n0) ({ frames := 3, cells := 2, slots := 6, locals := 40 } : Room).cells ({ frames := 3, cells := 2, slots := 6, locals := 40 } : Room).slots (s₁.setTop (entryFrame m #[(.ref sr), (.int (0 : Int32)), (.int (2 : Int32))] 6))
  refine own_st (fun t9 k9 => castTop (own_ef_cp2 m sr (0 : Int32) (2 : Int32)) k9) ?_
  show own_Go p e below s _ _ _ (s₁.setTop (mkF m 0 #[.val (.ref sr), .val (.int (0 : Int32)), .val (.int (2 : Int32)), .unset, .unset, .unset] []))
  have Kp : Keep h0 h0 [] := Keep.refl h0 []
  refine own_st (fun t9 k9 => XS.iloadN X0.here hx rfl (hb hby own_d_jdk_52_method_16_0) rfl  k9) ?_
  show own_Go p e below s _ _ _ (s₁.setTop (mkF m 1 #[.val (.ref sr), .val (.int (0 : Int32)), .val (.int (2 : Int32)), .unset, .unset, .unset] [(.int (2 : Int32))]))
  obtain ⟨T32, h32, k32, X32, e32, E32, A32, st32⟩ := newP X0 hx hZ (hw _ (List.mem_of_getElem? (i := 20) rfl)) e0 (g := (mkF m 1 #[.val (.ref sr), .val (.int (0 : Int32)), .val (.int (2 : Int32)), .unset, .unset, .unset] [(.int (2 : Int32))])) rfl (hb hby own_d_jdk_52_method_16_1) rfl (by decide) (cap := 2) (by decide) (by decide) (by decide) (by decide)
  obtain ⟨ds, g32⟩ : ∃ z, z = h0.size := ⟨_, rfl⟩
  rw [← g32] at A32 st32
  have ne_sr_ds : sr ≠ ds := Nat.ne_of_lt (Nat.lt_of_lt_of_le V_s.lt (Nat.le_of_eq g32.symm))
  have ge_ds : n0 ≤ ds := Nat.le_trans (own_z0 Od) (Nat.le_of_eq g32.symm)
  have gz_ds : h0.size ≤ ds := Nat.le_trans Kp.1 (Nat.le_of_eq g32.symm)
  have V_s := V_s.ext E32
  have Od := Od.ext E32
  have Kp := Kp.ext E32
  refine own_st st32 ?_
  show own_Go p e below s _ _ _ (T32.setTop (mkF m 3 #[.val (.ref sr), .val (.int (0 : Int32)), .val (.int (2 : Int32)), .unset, .unset, .unset] [(.ref ds)]))
  have V_d : Arv Z h32 ds k32 .byte (2 : Int32) [(.int (0 : Int32)), (.int (0 : Int32))] (.int (0 : Int32)) := (Arv.new A32 (by decide)).pad (pad_rep [] (.int (0 : Int32)) 2)
  refine own_st (fun t9 k9 => XS.astoreN X32.here hx rfl (hb hby own_d_jdk_52_method_16_3) rfl rfl (l' := #[.val (.ref sr), .val (.int (0 : Int32)), .val (.int (2 : Int32)), .val (.ref ds), .unset, .unset]) rfl k9) ?_
  show own_Go p e below s _ _ _ (T32.setTop (mkF m 4 #[.val (.ref sr), .val (.int (0 : Int32)), .val (.int (2 : Int32)), .val (.ref ds), .unset, .unset] []))
  refine own_st (fun t9 k9 => XS.aloadN X32.here hx rfl (hb hby own_d_jdk_52_method_16_4) rfl rfl k9) ?_
  show own_Go p e below s _ _ _ (T32.setTop (mkF m 5 #[.val (.ref sr), .val (.int (0 : Int32)), .val (.int (2 : Int32)), .val (.ref ds), .unset, .unset] [(.ref sr)]))
  refine own_st (fun t9 k9 => XS.iloadN X32.here hx rfl (hb hby own_d_jdk_52_method_16_5) rfl  k9) ?_
  show own_Go p e below s _ _ _ (T32.setTop (mkF m 6 #[.val (.ref sr), .val (.int (0 : Int32)), .val (.int (2 : Int32)), .val (.ref ds), .unset, .unset] [(.int (0 : Int32)), (.ref sr)]))
  refine own_st (fun t9 k9 => XS.aloadN X32.here hx rfl (hb hby own_d_jdk_52_method_16_6) rfl rfl k9) ?_
  show own_Go p e below s _ _ _ (T32.setTop (mkF m 7 #[.val (.ref sr), .val (.int (0 : Int32)), .val (.int (2 : Int32)), .val (.ref ds), .unset, .unset] [(.ref ds), (.int (0 : Int32)), (.ref sr)]))
  refine own_st (fun t9 k9 => XS.iconst X32.here hx rfl (hb hby own_d_jdk_52_method_16_7) k9) ?_
  show own_Go p e below s _ _ _ (T32.setTop (mkF m 8 #[.val (.ref sr), .val (.int (0 : Int32)), .val (.int (2 : Int32)), .val (.ref ds), .unset, .unset] [(.int (0 : Int32)), (.ref ds), (.int (0 : Int32)), (.ref sr)]))
  refine own_st (fun t9 k9 => XS.iloadN X32.here hx rfl (hb hby own_d_jdk_52_method_16_8) rfl  k9) ?_
  show own_Go p e below s _ _ _ (T32.setTop (mkF m 9 #[.val (.ref sr), .val (.int (0 : Int32)), .val (.int (2 : Int32)), .val (.ref ds), .unset, .unset] [(.int (2 : Int32)), (.int (0 : Int32)), (.ref ds), (.int (0 : Int32)), (.ref sr)]))
  obtain ⟨_, T33, h33, L33, X33, e33, ⟨rfl, Nc, Kc⟩, st33⟩ := own_callS X32 hx hZ hown (hw _ (List.mem_of_getElem? (i := 40) rfl)) (hw _ (List.mem_of_getElem? (i := 41) rfl)) (hw _ (List.mem_of_getElem? (i := 38) rfl)) (hw _ (List.mem_of_getElem? (i := 42) rfl)) (by decide) (own_rm_cm2 l Z a0 hw [] sr ds ks _ x0 x1 h32 n0 Od V_s V_d ne_sr_ds ge_ds) (by decide) (by decide) e32 (W := 0) (g := (mkF m 9 #[.val (.ref sr), .val (.int (0 : Int32)), .val (.int (2 : Int32)), .val (.ref ds), .unset, .unset] [(.int (2 : Int32)), (.int (0 : Int32)), (.ref ds), (.int (0 : Int32)), (.ref sr)])) rfl (by rw [hml]; rfl) (argsL := [(.ref sr), (.int (0 : Int32)), (.ref ds), (.int (0 : Int32)), (.int (2 : Int32))]) (rest := []) rfl (lenOf own_pd3 rfl) rfl (by show 2 * 0 + _ ≤ _; exact Nat.le_of_eq rfl) (hb hby own_d_jdk_52_method_16_9) (by decide) (by decide)
  have N33 := Fr.app N0 Nc
  have V_s := V_s.keep Kc (ninS ne_sr_ds nin0)
  have Od := Od.keep Kc (allS ge_ds all0)
  have Kp := Kp.trans Kc (allS (Or.inr gz_ds) all0)
  refine own_st st33 ?_
  show own_Go p e below s _ _ _ (T33.setTop (mkF m 12 #[.val (.ref sr), .val (.int (0 : Int32)), .val (.int (2 : Int32)), .val (.ref ds), .unset, .unset] [(.int (own_first [x0, x1] 0))]))
  refine own_st (fun t9 k9 => XS.istore X33.here hx rfl (hb hby own_d_jdk_52_method_16_12) rfl (l' := #[.val (.ref sr), .val (.int (0 : Int32)), .val (.int (2 : Int32)), .val (.ref ds), .val (.int (own_first [x0, x1] 0)), .unset]) rfl k9) ?_
  show own_Go p e below s _ _ _ (T33.setTop (mkF m 14 #[.val (.ref sr), .val (.int (0 : Int32)), .val (.int (2 : Int32)), .val (.ref ds), .val (.int (own_first [x0, x1] 0)), .unset] []))
  refine own_st (fun t9 k9 => XS.iload X33.here hx rfl (hb hby own_d_jdk_52_method_16_14) rfl  k9) ?_
  show own_Go p e below s _ _ _ (T33.setTop (mkF m 16 #[.val (.ref sr), .val (.int (0 : Int32)), .val (.int (2 : Int32)), .val (.ref ds), .val (.int (own_first [x0, x1] 0)), .unset] [(.int (own_first [x0, x1] 0))]))
  refine own_st (fun t9 k9 => XS.iloadN X33.here hx rfl (hb hby own_d_jdk_52_method_16_16) rfl  k9) ?_
  show own_Go p e below s _ _ _ (T33.setTop (mkF m 17 #[.val (.ref sr), .val (.int (0 : Int32)), .val (.int (2 : Int32)), .val (.ref ds), .val (.int (own_first [x0, x1] 0)), .unset] [(.int (2 : Int32)), (.int (own_first [x0, x1] 0))]))
  refine own_st (fun t9 k9 => XS.icmpNo X33.here hx rfl (hb hby own_d_jdk_52_method_16_17) rfl (feq (hm : ¬ ((own_first [x0, x1] 0) = (2 : Int32)))).1 k9) ?_
  show own_Go p e below s _ _ _ (T33.setTop (mkF m 20 #[.val (.ref sr), .val (.int (0 : Int32)), .val (.int (2 : Int32)), .val (.ref ds), .val (.int (own_first [x0, x1] 0)), .unset] []))
  refine own_st (fun t9 k9 => XS.aloadN X33.here hx rfl (hb hby own_d_jdk_52_method_16_20) rfl rfl k9) ?_
  show own_Go p e below s _ _ _ (T33.setTop (mkF m 21 #[.val (.ref sr), .val (.int (0 : Int32)), .val (.int (2 : Int32)), .val (.ref ds), .val (.int (own_first [x0, x1] 0)), .unset] [(.ref sr)]))
  refine own_st (fun t9 k9 => XS.iloadN X33.here hx rfl (hb hby own_d_jdk_52_method_16_21) rfl  k9) ?_
  show own_Go p e below s _ _ _ (T33.setTop (mkF m 22 #[.val (.ref sr), .val (.int (0 : Int32)), .val (.int (2 : Int32)), .val (.ref ds), .val (.int (own_first [x0, x1] 0)), .unset] [(.int (0 : Int32)), (.ref sr)]))
  refine own_st (fun t9 k9 => XS.iloadN X33.here hx rfl (hb hby own_d_jdk_52_method_16_22) rfl  k9) ?_
  show own_Go p e below s _ _ _ (T33.setTop (mkF m 23 #[.val (.ref sr), .val (.int (0 : Int32)), .val (.int (2 : Int32)), .val (.ref ds), .val (.int (own_first [x0, x1] 0)), .unset] [(.int (2 : Int32)), (.int (0 : Int32)), (.ref sr)]))
  obtain ⟨_, T34, h34, L34, X34, e34, ⟨Nd, Kd, a, ka, rfl, gea, V_a⟩, st34⟩ := own_callS X33 hx hZ hown (hw _ (List.mem_of_getElem? (i := 49) rfl)) (hw _ (List.mem_of_getElem? (i := 50) rfl)) (hw _ (List.mem_of_getElem? (i := 38) rfl)) (hw _ (List.mem_of_getElem? (i := 51) rfl)) (by decide) (own_rm_tob2 l Z a0 hw [] sr ks x0 x1 h33 n0 Od V_s OA OH OL) (by decide) (by decide) e33 (W := 0) (g := (mkF m 23 #[.val (.ref sr), .val (.int (0 : Int32)), .val (.int (2 : Int32)), .val (.ref ds), .val (.int (own_first [x0, x1] 0)), .unset] [(.int (2 : Int32)), (.int (0 : Int32)), (.ref sr)])) rfl (by rw [hml]; rfl) (argsL := [(.ref sr), (.int (0 : Int32)), (.int (2 : Int32))]) (rest := []) rfl (lenOf own_pd4 rfl) rfl (by show 2 * 0 + _ ≤ _; exact Nat.le_of_eq rfl) (hb hby own_d_jdk_52_method_16_23) (by decide) (by decide)
  have N34 := Fr.app N33 Nd
  have ne_sr_a : sr ≠ a := Nat.ne_of_lt (Nat.lt_of_lt_of_le V_s.lt gea)
  have ge_a : n0 ≤ a := Nat.le_trans (own_z0 Od) gea
  have gz_a : h0.size ≤ a := Nat.le_trans Kp.1 gea
  have V_s := V_s.keep Kd nin0
  have Od := Od.keep Kd all0
  have Kp := Kp.trans Kd all0
  refine own_st st34 ?_
  show own_Go p e below s _ _ _ (T34.setTop (mkF m 26 #[.val (.ref sr), .val (.int (0 : Int32)), .val (.int (2 : Int32)), .val (.ref ds), .val (.int (own_first [x0, x1] 0)), .unset] [(.ref a)]))
  refine own_st (fun t9 k9 => XS.astore X34.here hx rfl (hb hby own_d_jdk_52_method_16_26) rfl rfl (l' := #[.val (.ref sr), .val (.int (0 : Int32)), .val (.int (2 : Int32)), .val (.ref ds), .val (.int (own_first [x0, x1] 0)), .val (.ref a)]) rfl k9) ?_
  show own_Go p e below s _ _ _ (T34.setTop (mkF m 28 #[.val (.ref sr), .val (.int (0 : Int32)), .val (.int (2 : Int32)), .val (.ref ds), .val (.int (own_first [x0, x1] 0)), .val (.ref a)] []))
  refine own_st (fun t9 k9 => XS.aload X34.here hx rfl (hb hby own_d_jdk_52_method_16_28) rfl rfl k9) ?_
  show own_Go p e below s _ _ _ (T34.setTop (mkF m 30 #[.val (.ref sr), .val (.int (0 : Int32)), .val (.int (2 : Int32)), .val (.ref ds), .val (.int (own_first [x0, x1] 0)), .val (.ref a)] [(.ref a)]))
  refine own_st (fun t9 k9 => XS.iload X34.here hx rfl (hb hby own_d_jdk_52_method_16_30) rfl  k9) ?_
  show own_Go p e below s _ _ _ (T34.setTop (mkF m 32 #[.val (.ref sr), .val (.int (0 : Int32)), .val (.int (2 : Int32)), .val (.ref ds), .val (.int (own_first [x0, x1] 0)), .val (.ref a)] [(.int (own_first [x0, x1] 0)), (.ref a)]))
  obtain ⟨c9, r9, g9, b0, b1, q0, q1⟩ : ∃ c9 : Int32, (¬ c9 < 0 ∧ ¬ (65535 : Int32) < c9) ∧ (255 : Int32) < c9 ∧ (¬ ((own_first [x0, x1] 0) <<< ((1 : Int32) &&& 31)) < 0 ∧ ((own_first [x0, x1] 0) <<< ((1 : Int32) &&& 31)) < (4 : Int32)) ∧ (¬ (((own_first [x0, x1] 0) <<< ((1 : Int32) &&& 31)) + (1 : Int32)) < 0 ∧ (((own_first [x0, x1] 0) <<< ((1 : Int32) &&& 31)) + (1 : Int32)) < (4 : Int32)) ∧ ([(.int (StrChars.lo8 x0)), (.int (StrChars.hi8 x0)), (.int (StrChars.lo8 x1)), (.int (StrChars.hi8 x1))] : List Value).getD ((own_first [x0, x1] 0) <<< ((1 : Int32) &&& 31)).toNatClampNeg (.int (0 : Int32)) = .int (StrChars.lo8 c9) ∧ ([(.int (StrChars.lo8 x0)), (.int (StrChars.hi8 x0)), (.int (StrChars.lo8 x1)), (.int (StrChars.hi8 x1))] : List Value).getD (((own_first [x0, x1] 0) <<< ((1 : Int32) &&& 31)) + (1 : Int32)).toNatClampNeg (.int (0 : Int32)) = .int (StrChars.hi8 c9) := by
    by_cases hg0 : (255 : Int32) < x0
    · rw [(show own_first [x0, x1] 0 = (0 : Int32) from (if_pos hg0))]
      exact ⟨x0, hr0, hg0, by decide, by decide, rfl, rfl⟩
    by_cases hg1 : (255 : Int32) < x1
    · rw [(show own_first [x0, x1] 0 = (1 : Int32) from ((if_neg hg0).trans (if_pos hg1)))]
      exact ⟨x1, hr1, hg1, by decide, by decide, rfl, rfl⟩
    exact absurd (show own_first [x0, x1] 0 = (2 : Int32) from ((if_neg hg0).trans ((if_neg hg1).trans rfl))) hm
  obtain ⟨_, T35, h35, L35, X35, e35, ⟨rfl, Nq, hu⟩, st35⟩ := own_callS X34 hx hZ hown (hw _ (List.mem_of_getElem? (i := 65) rfl)) (hw _ (List.mem_of_getElem? (i := 66) rfl)) (hw _ (List.mem_of_getElem? (i := 38) rfl)) (hw _ (List.mem_of_getElem? (i := 67) rfl)) (by decide) (own_rm_getc l Z a0 hw [] a (own_first [x0, x1] 0) (4 : Int32) (StrChars.lo8 c9) (StrChars.hi8 c9) ka [(.int (StrChars.lo8 x0)), (.int (StrChars.hi8 x0)), (.int (StrChars.lo8 x1)), (.int (StrChars.hi8 x1))] h34 n0 Od V_a b0 b1 q0 q1 OA OH OL) (by decide) (by decide) e34 (W := 0) (g := (mkF m 32 #[.val (.ref sr), .val (.int (0 : Int32)), .val (.int (2 : Int32)), .val (.ref ds), .val (.int (own_first [x0, x1] 0)), .val (.ref a)] [(.int (own_first [x0, x1] 0)), (.ref a)])) rfl (by rw [hml]; rfl) (argsL := [(.ref a), (.int (own_first [x0, x1] 0))]) (rest := []) rfl (lenOf own_pd5 rfl) rfl (by show 2 * 0 + _ ≤ _; exact Nat.le_of_eq rfl) (hb hby own_d_jdk_52_method_16_32) (by decide) (by decide)
  have N35 := Fr.app N34 Nq
  refine own_st st35 ?_
  show own_Go p e below s _ _ _ (T35.setTop (mkF m 35 #[.val (.ref sr), .val (.int (0 : Int32)), .val (.int (2 : Int32)), .val (.ref ds), .val (.int (own_first [x0, x1] 0)), .val (.ref a)] [(.int (nar .char ((((StrChars.lo8 c9 &&& 255) <<< ((0 : Int32) &&& 31)) ||| ((StrChars.hi8 c9 &&& 255) <<< ((8 : Int32) &&& 31))).toUInt32.toUInt16.toUInt32.toInt32)))]))
  rw [own_pair r9.1 r9.2]
  show own_Go p e below s _ _ _ (T35.setTop (mkF m 35 #[.val (.ref sr), .val (.int (0 : Int32)), .val (.int (2 : Int32)), .val (.ref ds), .val (.int (own_first [x0, x1] 0)), .val (.ref a)] [(.int c9)]))
  refine own_st (fun t9 k9 => XS.sipush X35.here hx rfl (hb hby own_d_jdk_52_method_16_35) k9) ?_
  show own_Go p e below s _ _ _ (T35.setTop (mkF m 38 #[.val (.ref sr), .val (.int (0 : Int32)), .val (.int (2 : Int32)), .val (.ref ds), .val (.int (own_first [x0, x1] 0)), .val (.ref a)] [(.int (255 : Int32)), (.int c9)]))
  refine own_st (fun t9 k9 => XS.icmpYes X35.here hx rfl (pc0 := 38) (pc' := 54) rfl (hb hby own_d_jdk_52_method_16_38) rfl (tlt (g9 : (255 : Int32) < c9)).2.2.1 (by decide) (by decide) k9) ?_
  show own_Go p e below s _ _ _ (T35.setTop (mkF m 54 #[.val (.ref sr), .val (.int (0 : Int32)), .val (.int (2 : Int32)), .val (.ref ds), .val (.int (own_first [x0, x1] 0)), .val (.ref a)] []))
  refine own_st (fun t9 k9 => XS.aload X35.here hx rfl (hb hby own_d_jdk_52_method_16_54) rfl rfl k9) ?_
  show own_Go p e below s _ _ _ (T35.setTop (mkF m 56 #[.val (.ref sr), .val (.int (0 : Int32)), .val (.int (2 : Int32)), .val (.ref ds), .val (.int (own_first [x0, x1] 0)), .val (.ref a)] [(.ref a)]))
  exact own_retR X35 hx hlk Bd.returns rfl rfl (hb hby own_d_jdk_52_method_16_56) (by decide) (by decide) (by rw [(e35.trans hu)]; exact ⟨N35, Kp, a, ka, rfl, gz_a, V_a⟩)
theorem own_ef_cfal2 (m : MethodId) (x0 : Addr) (x1 : Int32) : entryFrame m #[(.ref x0), (.int x1)] 2 = mkF m 0 #[.val (.ref x0), .val (.int x1)] [] := by first | (simp [entryFrame, mkF, argsToLocals, Value.category]; done) | rfl
def own_Q_cfal2 (Z : State)  (h0 : Heap) (n0 : Nat) (v : Option Value) (h : Heap) (L : List Loc) : Prop := v = some (.int (1 : Int32)) ∧ Fr n0 L ∧ h = h0
set_option maxRecDepth 65536 in
set_option maxHeartbeats 40000000 in
theorem own_rm_cfal2 (l : Launch) (Z : State) (a0 : Array Value) (hw : ∀ d ∈ tables_1, d.before a0 Z = true) (ws : List Jvm.Cond) (b : Addr) (kb : ClassId) (vs : List Value) (h0 : Heap) (n0 : Nat) (Od : Old Z n0 h0) (A : Arv Z h0 b kb .byte (4 : Int32) vs (.int (0 : Int32))) :
    MetFree l (⟨"java/lang/StringUTF16", "coderFromArrayLen", "([BI)B"⟩ : MethodName) (head1 (Jvm.Cond.code (⟨"java/lang/StringUTF16", "coderFromArrayLen", "([BI)B"⟩ : MethodName) jdk_52_method_15_code 2 (some .byte) :: ws) ({ frames := 0, cells := 0, slots := 0, locals := 0 } : Room)) (fun a9 U => a9 = #[(.ref b), (.int (2 : Int32))] ∧ Z.Warmed39 U.vm ∧ U.heap = h0) (fun _ _ _ _ _ => True) (fun _ U o U' => ∃ v L, o = .returned v ∧ own_Q_cfal2 Z  h0 n0 v U'.heap L ∧ FrameEnd U o U' L ({ frames := 0, cells := 0, slots := 0, locals := 0 } : Room).cells ({ frames := 0, cells := 0, slots := 0, locals := 0 } : Room).slots) := by
  refine MetFree.of_bodySF (plainFor_of_name own_pn0) hisR ?_
  intro p e s m args below meth c s₁ Bd hml0 hP hK
  obtain ⟨rfl, hZ, hh⟩ := hP
  have hx := Bd.exec
  have hby := Bd.bytes
  have hml : c.maxLocals = 2 := hml0
  have hown : s.vm.findClass "java/lang/StringUTF16" = some m.cls := findClass_of_methodNamed Bd.named
  have hnm := (name_of_methodNamed Bd.named Bd.method).1
  have hlk : meth.locks = false := Bd.notSynchronized
  have X0 : Stand p l e ({ frames := 0, cells := 0, slots := 0, locals := 0 } : Room) s m #[(.ref b), (.int (2 : Int32))] below meth c s₁ [] 0 0 := Stand.of_body Bd
  have e0 : s₁.heap = h0 := by rw [← hh, Bd.state]; rfl
  have N0 := Fr.nil n0
  show own_Go p e below s (own_Q_cfal2 Z  h0 n0) ({ frames := 0, cells := 0, slots := 0, locals := 0 } : Room).cells ({ frames := 0, cells := 0, slots := 0, locals := 0 } : Room).slots (s₁.setTop (entryFrame m #[(.ref b), (.int (2 : Int32))] 2))
  refine own_st (fun t9 k9 => castTop (own_ef_cfal2 m b (2 : Int32)) k9) ?_
  show own_Go p e below s _ _ _ (s₁.setTop (mkF m 0 #[.val (.ref b), .val (.int (2 : Int32))] []))
  refine own_st (fun t9 k9 => XS.iloadN X0.here hx rfl (hb hby own_d_jdk_52_method_15_0) rfl  k9) ?_
  show own_Go p e below s _ _ _ (s₁.setTop (mkF m 1 #[.val (.ref b), .val (.int (2 : Int32))] [(.int (2 : Int32))]))
  refine own_st (fun t9 k9 => XS.aloadN X0.here hx rfl (hb hby own_d_jdk_52_method_15_1) rfl rfl k9) ?_
  show own_Go p e below s _ _ _ (s₁.setTop (mkF m 2 #[.val (.ref b), .val (.int (2 : Int32))] [(.ref b), (.int (2 : Int32))]))
  refine own_st (fun t9 k9 => own_alen X0 hx hZ e0 A (g := (mkF m 2 #[.val (.ref b), .val (.int (2 : Int32))] [(.ref b), (.int (2 : Int32))])) rfl rfl (hb hby own_d_jdk_52_method_15_2) t9 k9) ?_
  show own_Go p e below s _ _ _ (s₁.setTop (mkF m 3 #[.val (.ref b), .val (.int (2 : Int32))] [(.int (4 : Int32)), (.int (2 : Int32))]))
  refine own_st (fun t9 k9 => XS.isub X0.here hx rfl (hb hby own_d_jdk_52_method_15_3) rfl k9) ?_
  show own_Go p e below s _ _ _ (s₁.setTop (mkF m 4 #[.val (.ref b), .val (.int (2 : Int32))] [(.int ((2 : Int32) - (4 : Int32)))]))
  refine own_st (fun t9 k9 => XS.bipush X0.here hx rfl (hb hby own_d_jdk_52_method_15_4) k9) ?_
  show own_Go p e below s _ _ _ (s₁.setTop (mkF m 6 #[.val (.ref b), .val (.int (2 : Int32))] [(.int (31 : Int32)), (.int ((2 : Int32) - (4 : Int32)))]))
  refine own_st (fun t9 k9 => XT.iushr X0.here hx rfl (hb hby own_d_jdk_52_method_15_6) rfl k9) ?_
  show own_Go p e below s _ _ _ (s₁.setTop (mkF m 7 #[.val (.ref b), .val (.int (2 : Int32))] [(.int ((((2 : Int32) - (4 : Int32)).toUInt32 >>> ((31 : Int32) &&& 31).toUInt32).toInt32))]))
  refine own_st (fun t9 k9 => XT.i2b X0.here hx rfl (hb hby own_d_jdk_52_method_15_7) rfl k9) ?_
  show own_Go p e below s _ _ _ (s₁.setTop (mkF m 8 #[.val (.ref b), .val (.int (2 : Int32))] [(.int (((((2 : Int32) - (4 : Int32)).toUInt32 >>> ((31 : Int32) &&& 31).toUInt32).toInt32).toInt8.toInt32))]))
  exact own_retN X0 hx hlk (t := .byte) Bd.returns (by simp) (hb hby own_d_jdk_52_method_15_8) (by decide) (by decide) (by rw [e0]; exact ⟨by decide, N0, rfl⟩)
theorem own_ef_si2_2 (m : MethodId) (x0 : Addr) (x1 : Addr) (x2 : Int32) (x3 : Int32) : entryFrame m #[(.ref x0), (.ref x1), (.int x2), (.int x3), .null] 6 = mkF m 0 #[.val (.ref x0), .val (.ref x1), .val (.int x2), .val (.int x3), .val .null, .unset] [] := by first | (simp [entryFrame, mkF, argsToLocals, Value.category]; done) | rfl
def own_Q_si2_2 (Z : State) (x : Addr) (x0 : Int32) (x1 : Int32) (h0 : Heap) (n0 : Nat) (v : Option Value) (h : Heap) (L : List Loc) : Prop := v = none ∧ Fr n0 L ∧ Keep h0 h [x] ∧ Exa Z h x "java/lang/String" ∧ Fld Z h x "java/lang/String" "coder" "B" (.int (1 : Int32)) ∧ ∃ t k, h0.size ≤ t ∧ Fld Z h x "java/lang/String" "value" "[B" (.ref t) ∧ Arv Z h t k .byte (4 : Int32) [(.int (StrChars.lo8 x0)), (.int (StrChars.hi8 x0)), (.int (StrChars.lo8 x1)), (.int (StrChars.hi8 x1))] (.int (0 : Int32))
set_option maxRecDepth 65536 in
set_option maxHeartbeats 40000000 in
theorem own_rm_si2_2 (l : Launch) (Z : State) (a0 : Array Value) (hw : ∀ d ∈ tables_1, d.before a0 Z = true) (ws : List Jvm.Cond) (x : Addr) (sr : Addr) (ks : ClassId) (v0 c0 : Value) (G : Int32) (x0 : Int32) (x1 : Int32) (h0 : Heap) (n0 : Nat) (Od : Old Z n0 h0) (E_x : Exa Z h0 x "java/lang/String") (F_v : Fld Z h0 x "java/lang/String" "value" "[B" v0) (F_k : Fld Z h0 x "java/lang/String" "coder" "B" c0) (V_s : Arv Z h0 sr ks .char (2 : Int32) [(.int x0), (.int x1)] (.int (0 : Int32))) (ge_x : n0 ≤ x) (ne_s : sr ≠ x) (hr0 : ¬ x0 < 0 ∧ ¬ (65535 : Int32) < x0) (hr1 : ¬ x1 < 0 ∧ ¬ (65535 : Int32) < x1) (hm : ¬ own_first [x0, x1] 0 = (2 : Int32)) (OA : Sta Z Z.heap "java/lang/StringUTF16" "$assertionsDisabled" "Z" (.int (1 : Int32))) (OH : Sta Z Z.heap "java/lang/StringUTF16" "HI_BYTE_SHIFT" "I" (.int (0 : Int32))) (OL : Sta Z Z.heap "java/lang/StringUTF16" "LO_BYTE_SHIFT" "I" (.int (8 : Int32))) (O2 : Sta Z Z.heap "java/lang/String" "COMPACT_STRINGS" "Z" (.int G)) (P5 : ¬ (G = (0 : Int32))) :
    MetFree l (⟨"java/lang/String", "<init>", "([CIILjava/lang/Void;)V"⟩ : MethodName) (head1 (Jvm.Cond.code (⟨"java/lang/String", "<init>", "([CIILjava/lang/Void;)V"⟩ : MethodName) jdk_42_method_149_code 6 none :: ws) ({ frames := 4, cells := 2, slots := 6, locals := 57 } : Room)) (fun a9 U => a9 = #[(.ref x), (.ref sr), (.int (0 : Int32)), (.int (2 : Int32)), .null] ∧ Z.Warmed39 U.vm ∧ U.heap = h0) (fun _ _ _ _ _ => True) (fun _ U o U' => ∃ v L, o = .returned v ∧ own_Q_si2_2 Z x x0 x1 h0 n0 v U'.heap L ∧ FrameEnd U o U' L ({ frames := 4, cells := 2, slots := 6, locals := 57 } : Room).cells ({ frames := 4, cells := 2, slots := 6, locals := 57 } : Room).slots) := by
  refine MetFree.of_bodySF (plainFor_of_name own_pn1) hisR ?_
  intro p e s m args below meth c s₁ Bd hml0 hP hK
  obtain ⟨rfl, hZ, hh⟩ := hP
  have hx := Bd.exec
  have hby := Bd.bytes
  have hml : c.maxLocals = 6 := hml0
  have hown : s.vm.findClass "java/lang/String" = some m.cls := findClass_of_methodNamed Bd.named
  have hnm := (name_of_methodNamed Bd.named Bd.method).1
  have hlk : meth.locks = false := Bd.notSynchronized
  have X0 : Stand p l e ({ frames := 4, cells := 2, slots := 6, locals := 57 } : Room) s m #[(.ref x), (.ref sr), (.int (0 : Int32)), (.int (2 : Int32)), .null] below meth c s₁ [] 0 0 := Stand.of_body Bd
  have e0 : s₁.heap = h0 := by rw [← hh, Bd.state]; rfl
  have N0 := Fr.nil n0
  show own_Go p e below s (own_Q_si2_2 Z x x0 x1 h0 n0) ({ frames := 4, cells := 2, slots := 6, locals := 57 } : Room).cells ({ frames := 4, cells := 2, slots := 6, locals := 57 } : Room).slots (s₁.setTop (entryFrame m #[(.ref x), (.ref sr), (.int (0 : Int32)), (.int (2 : Int32)), .null] 6))
  refine own_st (fun t9 k9 => castTop (own_ef_si2_2 m x sr (0 : Int32) (2 : Int32)) k9) ?_
  show own_Go p e below s _ _ _ (s₁.setTop (mkF m 0 #[.val (.ref x), .val (.ref sr), .val (.int (0 : Int32)), .val (.int (2 : Int32)), .val .null, .unset] []))
  have Kp : Keep h0 h0 [x] := Keep.refl h0 [x]
  refine own_st (fun t9 k9 => XS.aloadN X0.here hx rfl (hb hby own_d_jdk_42_method_149_0) rfl rfl k9) ?_
  show own_Go p e below s _ _ _ (s₁.setTop (mkF m 1 #[.val (.ref x), .val (.ref sr), .val (.int (0 : Int32)), .val (.int (2 : Int32)), .val .null, .unset] [(.ref x)]))
  obtain ⟨T36, X36, e36, st36⟩ := initO X0 hx hZ hown (hw _ (List.mem_of_getElem? (i := 16) rfl)) (hw _ (List.mem_of_getElem? (i := 17) rfl)) (hw _ (List.mem_of_getElem? (i := 18) rfl)) e0 (g := (mkF m 1 #[.val (.ref x), .val (.ref sr), .val (.int (0 : Int32)), .val (.int (2 : Int32)), .val .null, .unset] [(.ref x)])) rfl (by rw [hml]; rfl) rfl (hb hby own_d_jdk_42_method_149_1) (by decide) (W := 0) (by show 2 * 0 + _ ≤ _; exact Nat.le_of_eq rfl) (by decide)
  refine own_st st36 ?_
  show own_Go p e below s _ _ _ (T36.setTop (mkF m 4 #[.val (.ref x), .val (.ref sr), .val (.int (0 : Int32)), .val (.int (2 : Int32)), .val .null, .unset] []))
  refine own_st (fun t9 k9 => XS.iloadN X36.here hx rfl (hb hby own_d_jdk_42_method_149_4) rfl  k9) ?_
  show own_Go p e below s _ _ _ (T36.setTop (mkF m 5 #[.val (.ref x), .val (.ref sr), .val (.int (0 : Int32)), .val (.int (2 : Int32)), .val .null, .unset] [(.int (2 : Int32))]))
  refine own_st (fun t9 k9 => XS.ifYes X36.here hx rfl (pc0 := 5) (pc' := 27) rfl (hb hby own_d_jdk_42_method_149_5) rfl (by decide) (by decide) (by decide) k9) ?_
  show own_Go p e below s _ _ _ (T36.setTop (mkF m 27 #[.val (.ref x), .val (.ref sr), .val (.int (0 : Int32)), .val (.int (2 : Int32)), .val .null, .unset] []))
  obtain ⟨T37, X37, e37, st37⟩ := getS (host := "") X36 hx hZ hown (hw _ (List.mem_of_getElem? (i := 35) rfl)) Via.refl e36 (O2.ext Od.2) (g := (mkF m 27 #[.val (.ref x), .val (.ref sr), .val (.int (0 : Int32)), .val (.int (2 : Int32)), .val .null, .unset] [])) rfl (hb hby own_d_jdk_42_method_149_27)
  refine own_st st37 ?_
  show own_Go p e below s _ _ _ (T37.setTop (mkF m 30 #[.val (.ref x), .val (.ref sr), .val (.int (0 : Int32)), .val (.int (2 : Int32)), .val .null, .unset] [(.int G)]))
  refine own_st (fun t9 k9 => XS.ifNo X37.here hx rfl (hb hby own_d_jdk_42_method_149_30) rfl ((if0 _ _).trans (feq (P5 : ¬ (G = (0 : Int32)))).1) k9) ?_
  show own_Go p e below s _ _ _ (T37.setTop (mkF m 33 #[.val (.ref x), .val (.ref sr), .val (.int (0 : Int32)), .val (.int (2 : Int32)), .val .null, .unset] []))
  refine own_st (fun t9 k9 => XS.aloadN X37.here hx rfl (hb hby own_d_jdk_42_method_149_33) rfl rfl k9) ?_
  show own_Go p e below s _ _ _ (T37.setTop (mkF m 34 #[.val (.ref x), .val (.ref sr), .val (.int (0 : Int32)), .val (.int (2 : Int32)), .val .null, .unset] [(.ref sr)]))
  refine own_st (fun t9 k9 => XS.iloadN X37.here hx rfl (hb hby own_d_jdk_42_method_149_34) rfl  k9) ?_
  show own_Go p e below s _ _ _ (T37.setTop (mkF m 35 #[.val (.ref x), .val (.ref sr), .val (.int (0 : Int32)), .val (.int (2 : Int32)), .val .null, .unset] [(.int (0 : Int32)), (.ref sr)]))
  refine own_st (fun t9 k9 => XS.iloadN X37.here hx rfl (hb hby own_d_jdk_42_method_149_35) rfl  k9) ?_
  show own_Go p e below s _ _ _ (T37.setTop (mkF m 36 #[.val (.ref x), .val (.ref sr), .val (.int (0 : Int32)), .val (.int (2 : Int32)), .val .null, .unset] [(.int (2 : Int32)), (.int (0 : Int32)), (.ref sr)]))
  obtain ⟨_, T38, h38, L38, X38, e38, ⟨Nc, Kc, t, kt, rfl, get, V_t⟩, st38⟩ := own_callS X37 hx hZ hown (hw _ (List.mem_of_getElem? (i := 36) rfl)) (hw _ (List.mem_of_getElem? (i := 37) rfl)) (hw _ (List.mem_of_getElem? (i := 38) rfl)) (hw _ (List.mem_of_getElem? (i := 39) rfl)) (by decide) (own_rm_cp2 l Z a0 hw [] sr ks x0 x1 h0 n0 Od V_s hr0 hr1 hm OA OH OL) (by decide) (by decide) e37 (W := 0) (g := (mkF m 36 #[.val (.ref x), .val (.ref sr), .val (.int (0 : Int32)), .val (.int (2 : Int32)), .val .null, .unset] [(.int (2 : Int32)), (.int (0 : Int32)), (.ref sr)])) rfl (by rw [hml]; rfl) (argsL := [(.ref sr), (.int (0 : Int32)), (.int (2 : Int32))]) (rest := []) rfl (lenOf own_pd4 rfl) rfl (by show 2 * 0 + _ ≤ _; exact Nat.le_of_eq rfl) (hb hby own_d_jdk_42_method_149_36) (by decide) (by decide)
  have N38 := Fr.app N0 Nc
  have ne_x_t : x ≠ t := Nat.ne_of_lt (Nat.lt_of_lt_of_le E_x.lt get)
  have ne_sr_t : sr ≠ t := Nat.ne_of_lt (Nat.lt_of_lt_of_le V_s.lt get)
  have ge_t : n0 ≤ t := Nat.le_trans (own_z0 Od) get
  have gz_t : h0.size ≤ t := Nat.le_trans Kp.1 get
  have E_x := E_x.keep Kc
  have F_v := F_v.keep Kc nin0
  have F_k := F_k.keep Kc nin0
  have V_s := V_s.keep Kc nin0
  have Od := Od.keep Kc all0
  have Kp := Kp.trans Kc all0
  refine own_st st38 ?_
  show own_Go p e below s _ _ _ (T38.setTop (mkF m 39 #[.val (.ref x), .val (.ref sr), .val (.int (0 : Int32)), .val (.int (2 : Int32)), .val .null, .unset] [(.ref t)]))
  refine own_st (fun t9 k9 => XS.astore X38.here hx rfl (hb hby own_d_jdk_42_method_149_39) rfl rfl (l' := #[.val (.ref x), .val (.ref sr), .val (.int (0 : Int32)), .val (.int (2 : Int32)), .val .null, .val (.ref t)]) rfl k9) ?_
  show own_Go p e below s _ _ _ (T38.setTop (mkF m 41 #[.val (.ref x), .val (.ref sr), .val (.int (0 : Int32)), .val (.int (2 : Int32)), .val .null, .val (.ref t)] []))
  refine own_st (fun t9 k9 => XS.aloadN X38.here hx rfl (hb hby own_d_jdk_42_method_149_41) rfl rfl k9) ?_
  show own_Go p e below s _ _ _ (T38.setTop (mkF m 42 #[.val (.ref x), .val (.ref sr), .val (.int (0 : Int32)), .val (.int (2 : Int32)), .val .null, .val (.ref t)] [(.ref x)]))
  refine own_st (fun t9 k9 => XS.aload X38.here hx rfl (hb hby own_d_jdk_42_method_149_42) rfl rfl k9) ?_
  show own_Go p e below s _ _ _ (T38.setTop (mkF m 44 #[.val (.ref x), .val (.ref sr), .val (.int (0 : Int32)), .val (.int (2 : Int32)), .val .null, .val (.ref t)] [(.ref t), (.ref x)]))
  refine own_st (fun t9 k9 => XS.iloadN X38.here hx rfl (hb hby own_d_jdk_42_method_149_44) rfl  k9) ?_
  show own_Go p e below s _ _ _ (T38.setTop (mkF m 45 #[.val (.ref x), .val (.ref sr), .val (.int (0 : Int32)), .val (.int (2 : Int32)), .val .null, .val (.ref t)] [(.int (2 : Int32)), (.ref t), (.ref x)]))
  obtain ⟨_, T39, h39, L39, X39, e39, ⟨rfl, Nd, hu⟩, st39⟩ := own_callS X38 hx hZ hown (hw _ (List.mem_of_getElem? (i := 43) rfl)) (hw _ (List.mem_of_getElem? (i := 44) rfl)) (hw _ (List.mem_of_getElem? (i := 38) rfl)) (hw _ (List.mem_of_getElem? (i := 45) rfl)) (by decide) (own_rm_cfal2 l Z a0 hw [] t kt _ h38 n0 Od V_t) (by decide) (by decide) e38 (W := 1) (g := (mkF m 45 #[.val (.ref x), .val (.ref sr), .val (.int (0 : Int32)), .val (.int (2 : Int32)), .val .null, .val (.ref t)] [(.int (2 : Int32)), (.ref t), (.ref x)])) rfl (by rw [hml]; rfl) (argsL := [(.ref t), (.int (2 : Int32))]) (rest := [(.ref x)]) rfl (lenOf own_pd6 rfl) rfl (by show 2 * 0 + _ ≤ _; exact Nat.le_of_eq rfl) (hb hby own_d_jdk_42_method_149_45) (by decide) (by decide)
  have N39 := Fr.app N38 Nd
  refine own_st st39 ?_
  show own_Go p e below s _ _ _ (T39.setTop (mkF m 48 #[.val (.ref x), .val (.ref sr), .val (.int (0 : Int32)), .val (.int (2 : Int32)), .val .null, .val (.ref t)] [(.int (1 : Int32)), (.ref x)]))
  obtain ⟨T40, h40, X40, e40, W40, st40⟩ := putFN X39 hx hZ hown (hw _ (List.mem_of_getElem? (i := 26) rfl)) Via.refl (e39.trans hu) F_k E_x (Or.inr ⟨(hw _ (List.mem_of_getElem? (i := 22) rfl)), rfl, hnm⟩) (hw _ (List.mem_of_getElem? (i := 6) rfl)) (ty := .byte) (v' := (.int (1 : Int32))) (by decide) rfl rfl (g := (mkF m 48 #[.val (.ref x), .val (.ref sr), .val (.int (0 : Int32)), .val (.int (2 : Int32)), .val .null, .val (.ref t)] [(.int (1 : Int32)), (.ref x)])) rfl rfl (hb hby own_d_jdk_42_method_149_48)
  have N40 := Fr.snoc X40 N39 ge_x
  have E_x := E_x.wr W40
  have F_v := F_v.other W40 (Or.inr (RoadKit.slot_ne (Or.inr (hw _ (List.mem_of_getElem? (i := 21) rfl))) (Or.inr (hw _ (List.mem_of_getElem? (i := 22) rfl))) (by decide) (t := (.array .byte)) (t' := .byte) (by decide) (by decide)))
  have F_k := F_k.same W40
  have V_s := V_s.other W40 ne_s
  have V_t := V_t.other W40 (Ne.symm ne_x_t)
  have Od := Od.wr W40 ge_x
  have Kp := Kp.wr W40 (Or.inl (List.mem_of_getElem? (i := 0) rfl))
  refine own_st st40 ?_
  show own_Go p e below s _ _ _ (T40.setTop (mkF m 51 #[.val (.ref x), .val (.ref sr), .val (.int (0 : Int32)), .val (.int (2 : Int32)), .val .null, .val (.ref t)] []))
  refine own_st (fun t9 k9 => XS.aloadN X40.here hx rfl (hb hby own_d_jdk_42_method_149_51) rfl rfl k9) ?_
  show own_Go p e below s _ _ _ (T40.setTop (mkF m 52 #[.val (.ref x), .val (.ref sr), .val (.int (0 : Int32)), .val (.int (2 : Int32)), .val .null, .val (.ref t)] [(.ref x)]))
  refine own_st (fun t9 k9 => XS.aload X40.here hx rfl (hb hby own_d_jdk_42_method_149_52) rfl rfl k9) ?_
  show own_Go p e below s _ _ _ (T40.setTop (mkF m 54 #[.val (.ref x), .val (.ref sr), .val (.int (0 : Int32)), .val (.int (2 : Int32)), .val .null, .val (.ref t)] [(.ref t), (.ref x)]))
  obtain ⟨T41, h41, X41, e41, W41, st41⟩ := putF X40 hx hZ hown (host := "") (Or.inl (hw _ (List.mem_of_getElem? (i := 25) rfl))) Via.refl e40 F_v E_x (Or.inr ⟨(hw _ (List.mem_of_getElem? (i := 21) rfl)), rfl, hnm⟩) (hw _ (List.mem_of_getElem? (i := 6) rfl)) (ty := (.array .byte)) (by decide) rfl rfl (g := (mkF m 54 #[.val (.ref x), .val (.ref sr), .val (.int (0 : Int32)), .val (.int (2 : Int32)), .val .null, .val (.ref t)] [(.ref t), (.ref x)])) rfl rfl (hb hby own_d_jdk_42_method_149_54)
  have N41 := Fr.snoc X41 N40 ge_x
  have E_x := E_x.wr W41
  have F_v := F_v.same W41
  have F_k := F_k.other W41 (Or.inr (RoadKit.slot_ne (Or.inr (hw _ (List.mem_of_getElem? (i := 22) rfl))) (Or.inr (hw _ (List.mem_of_getElem? (i := 21) rfl))) (by decide) (t := .byte) (t' := (.array .byte)) (by decide) (by decide)))
  have V_s := V_s.other W41 ne_s
  have V_t := V_t.other W41 (Ne.symm ne_x_t)
  have Od := Od.wr W41 ge_x
  have Kp := Kp.wr W41 (Or.inl (List.mem_of_getElem? (i := 0) rfl))
  refine own_st st41 ?_
  show own_Go p e below s _ _ _ (T41.setTop (mkF m 57 #[.val (.ref x), .val (.ref sr), .val (.int (0 : Int32)), .val (.int (2 : Int32)), .val .null, .val (.ref t)] []))
  exact own_retV X41 hx hlk Bd.returns (hb hby own_d_jdk_42_method_149_57) (by decide) (by decide) (by rw [e41]; exact ⟨rfl, N41, Kp, E_x, F_k, t, kt, gz_t, F_v, V_t⟩)
theorem own_ef_si1_2 (m : MethodId) (x0 : Addr) (x1 : Addr) : entryFrame m #[(.ref x0), (.ref x1)] 2 = mkF m 0 #[.val (.ref x0), .val (.ref x1)] [] := by first | (simp [entryFrame, mkF, argsToLocals, Value.category]; done) | rfl
def own_Q_si1_2 (Z : State) (x : Addr) (x0 : Int32) (x1 : Int32) (h0 : Heap) (n0 : Nat) (v : Option Value) (h : Heap) (L : List Loc) : Prop := v = none ∧ Fr n0 L ∧ Keep h0 h [x] ∧ Exa Z h x "java/lang/String" ∧ Fld Z h x "java/lang/String" "coder" "B" (.int (1 : Int32)) ∧ ∃ t k, h0.size ≤ t ∧ Fld Z h x "java/lang/String" "value" "[B" (.ref t) ∧ Arv Z h t k .byte (4 : Int32) [(.int (StrChars.lo8 x0)), (.int (StrChars.hi8 x0)), (.int (StrChars.lo8 x1)), (.int (StrChars.hi8 x1))] (.int (0 : Int32))
set_option maxRecDepth 65536 in
set_option maxHeartbeats 40000000 in
theorem own_rm_si1_2 (l : Launch) (Z : State) (a0 : Array Value) (hw : ∀ d ∈ tables_1, d.before a0 Z = true) (ws : List Jvm.Cond) (x : Addr) (sr : Addr) (ks : ClassId) (v0 c0 : Value) (G : Int32) (x0 : Int32) (x1 : Int32) (h0 : Heap) (n0 : Nat) (Od : Old Z n0 h0) (E_x : Exa Z h0 x "java/lang/String") (F_v : Fld Z h0 x "java/lang/String" "value" "[B" v0) (F_k : Fld Z h0 x "java/lang/String" "coder" "B" c0) (V_s : Arv Z h0 sr ks .char (2 : Int32) [(.int x0), (.int x1)] (.int (0 : Int32))) (ge_x : n0 ≤ x) (ne_s : sr ≠ x) (hr0 : ¬ x0 < 0 ∧ ¬ (65535 : Int32) < x0) (hr1 : ¬ x1 < 0 ∧ ¬ (65535 : Int32) < x1) (hm : ¬ own_first [x0, x1] 0 = (2 : Int32)) (OA : Sta Z Z.heap "java/lang/StringUTF16" "$assertionsDisabled" "Z" (.int (1 : Int32))) (OH : Sta Z Z.heap "java/lang/StringUTF16" "HI_BYTE_SHIFT" "I" (.int (0 : Int32))) (OL : Sta Z Z.heap "java/lang/StringUTF16" "LO_BYTE_SHIFT" "I" (.int (8 : Int32))) (O2 : Sta Z Z.heap "java/lang/String" "COMPACT_STRINGS" "Z" (.int G)) (P5 : ¬ (G = (0 : Int32))) :
    MetFree l (⟨"java/lang/String", "<init>", "([C)V"⟩ : MethodName) (head1 (Jvm.Cond.code (⟨"java/lang/String", "<init>", "([C)V"⟩ : MethodName) jdk_42_method_3_code 2 none :: ws) ({ frames := 5, cells := 2, slots := 6, locals := 74 } : Room)) (fun a9 U => a9 = #[(.ref x), (.ref sr)] ∧ Z.Warmed39 U.vm ∧ U.heap = h0) (fun _ _ _ _ _ => True) (fun _ U o U' => ∃ v L, o = .returned v ∧ own_Q_si1_2 Z x x0 x1 h0 n0 v U'.heap L ∧ FrameEnd U o U' L ({ frames := 5, cells := 2, slots := 6, locals := 74 } : Room).cells ({ frames := 5, cells := 2, slots := 6, locals := 74 } : Room).slots) := by
  refine MetFree.of_bodySF (plainFor_of_name own_pn1) hisR ?_
  intro p e s m args below meth c s₁ Bd hml0 hP hK
  obtain ⟨rfl, hZ, hh⟩ := hP
  have hx := Bd.exec
  have hby := Bd.bytes
  have hml : c.maxLocals = 2 := hml0
  have hown : s.vm.findClass "java/lang/String" = some m.cls := findClass_of_methodNamed Bd.named
  have hnm := (name_of_methodNamed Bd.named Bd.method).1
  have hlk : meth.locks = false := Bd.notSynchronized
  have X0 : Stand p l e ({ frames := 5, cells := 2, slots := 6, locals := 74 } : Room) s m #[(.ref x), (.ref sr)] below meth c s₁ [] 0 0 := Stand.of_body Bd
  have e0 : s₁.heap = h0 := by rw [← hh, Bd.state]; rfl
  have N0 := Fr.nil n0
  show own_Go p e below s (own_Q_si1_2 Z x x0 x1 h0 n0) ({ frames := 5, cells := 2, slots := 6, locals := 74 } : Room).cells ({ frames := 5, cells := 2, slots := 6, locals := 74 } : Room).slots (s₁.setTop (entryFrame m #[(.ref x), (.ref sr)] 2))
  refine own_st (fun t9 k9 => castTop (own_ef_si1_2 m x sr) k9) ?_
  show own_Go p e below s _ _ _ (s₁.setTop (mkF m 0 #[.val (.ref x), .val (.ref sr)] []))
  have Kp : Keep h0 h0 [x] := Keep.refl h0 [x]
  refine own_st (fun t9 k9 => XS.aloadN X0.here hx rfl (hb hby own_d_jdk_42_method_3_0) rfl rfl k9) ?_
  show own_Go p e below s _ _ _ (s₁.setTop (mkF m 1 #[.val (.ref x), .val (.ref sr)] [(.ref x)]))
  refine own_st (fun t9 k9 => XS.aloadN X0.here hx rfl (hb hby own_d_jdk_42_method_3_1) rfl rfl k9) ?_
  show own_Go p e below s _ _ _ (s₁.setTop (mkF m 2 #[.val (.ref x), .val (.ref sr)] [(.ref sr), (.ref x)]))
  refine own_st (fun t9 k9 => XS.iconst X0.here hx rfl (hb hby own_d_jdk_42_method_3_2) k9) ?_
  show own_Go p e below s _ _ _ (s₁.setTop (mkF m 3 #[.val (.ref x), .val (.ref sr)] [(.int (0 : Int32)), (.ref sr), (.ref x)]))
  refine own_st (fun t9 k9 => XS.aloadN X0.here hx rfl (hb hby own_d_jdk_42_method_3_3) rfl rfl k9) ?_
  show own_Go p e below s _ _ _ (s₁.setTop (mkF m 4 #[.val (.ref x), .val (.ref sr)] [(.ref sr), (.int (0 : Int32)), (.ref sr), (.ref x)]))
  refine own_st (fun t9 k9 => own_alen X0 hx hZ e0 V_s (g := (mkF m 4 #[.val (.ref x), .val (.ref sr)] [(.ref sr), (.int (0 : Int32)), (.ref sr), (.ref x)])) rfl rfl (hb hby own_d_jdk_42_method_3_4) t9 k9) ?_
  show own_Go p e below s _ _ _ (s₁.setTop (mkF m 5 #[.val (.ref x), .val (.ref sr)] [(.int (2 : Int32)), (.int (0 : Int32)), (.ref sr), (.ref x)]))
  refine own_st (fun t9 k9 => XS.aconstNull X0.here hx rfl (hb hby own_d_jdk_42_method_3_5) k9) ?_
  show own_Go p e below s _ _ _ (s₁.setTop (mkF m 6 #[.val (.ref x), .val (.ref sr)] [.null, (.int (2 : Int32)), (.int (0 : Int32)), (.ref sr), (.ref x)]))
  obtain ⟨_, T42, h42, L42, X42, e42, ⟨rfl, Nc, Kc, E_y, F_c, t, kt, get, F_u, V_t⟩, st42⟩ := own_callI X0 hx hZ hown rfl (hw _ (List.mem_of_getElem? (i := 12) rfl)) (hw _ (List.mem_of_getElem? (i := 13) rfl)) (hw _ (List.mem_of_getElem? (i := 7) rfl)) (hw _ (List.mem_of_getElem? (i := 15) rfl)) (by decide) (own_rm_si2_2 l Z a0 hw [] x sr ks v0 c0 G x0 x1 h0 n0 Od E_x F_v F_k V_s ge_x ne_s hr0 hr1 hm OA OH OL O2 P5) (by decide) (by decide) e0 (a := x) (W := 0) (g := (mkF m 6 #[.val (.ref x), .val (.ref sr)] [.null, (.int (2 : Int32)), (.int (0 : Int32)), (.ref sr), (.ref x)])) rfl (by rw [hml]; rfl) (argsL := [(.ref sr), (.int (0 : Int32)), (.int (2 : Int32)), .null]) (rest := []) rfl (lenOf own_pd7 rfl) rfl (by show 2 * 0 + _ ≤ _; exact Nat.le_of_eq rfl) (hb hby own_d_jdk_42_method_3_6) (by decide) (by decide)
  have N42 := Fr.app N0 Nc
  have E_x := E_x.keep Kc
  have V_s := V_s.keep Kc (ninS ne_s nin0)
  have Od := Od.keep Kc (allS ge_x all0)
  have Kp := Kp.trans Kc (allS (Or.inl (List.mem_of_getElem? (i := 0) rfl)) all0)
  refine own_st st42 ?_
  show own_Go p e below s _ _ _ (T42.setTop (mkF m 9 #[.val (.ref x), .val (.ref sr)] []))
  exact own_retV X42 hx hlk Bd.returns (hb hby own_d_jdk_42_method_3_9) (by decide) (by decide) (by rw [e42]; exact ⟨rfl, N42, Kp, E_y, F_c, t, kt, get, F_u, V_t⟩)
theorem own_d_jdk_42_method_149_8 : decode jdk_42_method_149_code 8 = .ok (.aload_n 0, 1) := by decide +kernel
theorem own_d_jdk_42_method_149_9 : decode jdk_42_method_149_code 9 = .ok (.ldc 7, 2) := by decide +kernel
theorem own_d_jdk_42_method_149_11 : decode jdk_42_method_149_code 11 = .ok (.getfield 9, 3) := by decide +kernel
theorem own_d_jdk_42_method_149_14 : decode jdk_42_method_149_code 14 = .ok (.putfield 9, 3) := by decide +kernel
theorem own_d_jdk_42_method_149_17 : decode jdk_42_method_149_code 17 = .ok (.aload_n 0, 1) := by decide +kernel
theorem own_d_jdk_42_method_149_18 : decode jdk_42_method_149_code 18 = .ok (.ldc 7, 2) := by decide +kernel
theorem own_d_jdk_42_method_149_20 : decode jdk_42_method_149_code 20 = .ok (.getfield 15, 3) := by decide +kernel
theorem own_d_jdk_42_method_149_23 : decode jdk_42_method_149_code 23 = .ok (.putfield 15, 3) := by decide +kernel
theorem own_d_jdk_42_method_149_26 : decode jdk_42_method_149_code 26 = .ok (.return_, 1) := by decide +kernel
theorem own_ef_si2_0 (m : MethodId) (x0 : Addr) (x1 : Addr) (x2 : Int32) (x3 : Int32) : entryFrame m #[(.ref x0), (.ref x1), (.int x2), (.int x3), .null] 6 = mkF m 0 #[.val (.ref x0), .val (.ref x1), .val (.int x2), .val (.int x3), .val .null, .unset] [] := by first | (simp [entryFrame, mkF, argsToLocals, Value.category]; done) | rfl
def own_Q_si2_0 (Z : State) (x : Addr) (h0 : Heap) (n0 : Nat) (v : Option Value) (h : Heap) (L : List Loc) : Prop := v = none ∧ Fr n0 L ∧ Keep h0 h [x] ∧ Exa Z h x "java/lang/String" ∧ Fld Z h x "java/lang/String" "coder" "B" (.int (0 : Int32)) ∧ ∃ t k, Fld Z h x "java/lang/String" "value" "[B" (.ref t) ∧ Arv Z h t k .byte (0 : Int32) [] (.int (0 : Int32))
set_option maxRecDepth 65536 in
set_option maxHeartbeats 40000000 in
theorem own_rm_si2_0 (l : Launch) (Z : State) (a0 : Array Value) (hw : ∀ d ∈ tables_1, d.before a0 Z = true) (hEL : EW Z a0 consts_1) (ws : List Jvm.Cond) (x : Addr) (sr : Addr) (ks : ClassId) (v0 c0 : Value) (h0 : Heap) (n0 : Nat) (Od : Old Z n0 h0) (E_x : Exa Z h0 x "java/lang/String") (F_v : Fld Z h0 x "java/lang/String" "value" "[B" v0) (F_k : Fld Z h0 x "java/lang/String" "coder" "B" c0) (V_s : Arv Z h0 sr ks .char (0 : Int32) [] (.int (0 : Int32))) (ge_x : n0 ≤ x) (ne_s : sr ≠ x) :
    MetFree l (⟨"java/lang/String", "<init>", "([CIILjava/lang/Void;)V"⟩ : MethodName) (head1 (Jvm.Cond.code (⟨"java/lang/String", "<init>", "([CIILjava/lang/Void;)V"⟩ : MethodName) jdk_42_method_149_code 6 none :: ws) ({ frames := 1, cells := 4, slots := 8, locals := 12 } : Room)) (fun a9 U => a9 = #[(.ref x), (.ref sr), (.int (0 : Int32)), (.int (0 : Int32)), .null] ∧ Z.Warmed39 U.vm ∧ U.heap = h0 ∧ CHv Z consts_1 U.vm h0 ∧ ∀ x9 ∈ ([x] : List Addr), Safe Z consts_1 U.vm h0 x9) (fun _ _ _ _ _ => True) (fun _ U o U' => ∃ v L, o = .returned v ∧ own_Q_si2_0 Z x h0 n0 v U'.heap L ∧ CHr Z consts_1 U.vm U.heap U'.vm U'.heap ∧ ReturnedEndW U o U' L ({ frames := 1, cells := 4, slots := 8, locals := 12 } : Room).cells ({ frames := 1, cells := 4, slots := 8, locals := 12 } : Room).slots) := by
  refine MetFree.of_bodySF (plainFor_of_name own_pn1) hisR ?_
  intro p e s m args below meth c s₁ Bd hml0 hP hK
  obtain ⟨rfl, hZ, hh, Hc, Hs⟩ := hP
  have hx := Bd.exec
  have hby := Bd.bytes
  have hml : c.maxLocals = 6 := hml0
  have hown : s.vm.findClass "java/lang/String" = some m.cls := findClass_of_methodNamed Bd.named
  have hnm := (name_of_methodNamed Bd.named Bd.method).1
  have hlk : meth.locks = false := Bd.notSynchronized
  have X0 : Stand p l e ({ frames := 1, cells := 4, slots := 8, locals := 12 } : Room) (s.setVm s.vm) m #[(.ref x), (.ref sr), (.int (0 : Int32)), (.int (0 : Int32)), .null] below meth c s₁ [] 0 0 := Stand.of_body Bd
  have e0 : s₁.heap = h0 := by rw [← hh, Bd.state]; rfl
  have N0 := Fr.nil n0
  have hS : s.Since s.vm h0.size := (State.WarmedH.refl s).since _
  have hk : h0.size ≤ h0.size := Nat.le_refl _
  have Hr : CHr Z consts_1 s.vm h0 s.vm h0 := CHr.refl Hc
  skip
  have Sf_x : Safe Z consts_1 s.vm h0 x := Hs _ (List.mem_of_getElem? (i := 0) rfl)
  show own_GoW p e below s Z consts_1 (own_Q_si2_0 Z x h0 n0) ({ frames := 1, cells := 4, slots := 8, locals := 12 } : Room).cells ({ frames := 1, cells := 4, slots := 8, locals := 12 } : Room).slots (s₁.setTop (entryFrame m #[(.ref x), (.ref sr), (.int (0 : Int32)), (.int (0 : Int32)), .null] 6))
  refine own_stW (fun t9 k9 => castTop (own_ef_si2_0 m x sr (0 : Int32) (0 : Int32)) k9) ?_
  show own_GoW p e below s Z consts_1 _ _ _ (s₁.setTop (mkF m 0 #[.val (.ref x), .val (.ref sr), .val (.int (0 : Int32)), .val (.int (0 : Int32)), .val .null, .unset] []))
  have Kp : Keep h0 h0 [x] := Keep.refl h0 [x]
  have hwS : ∀ d ∈ Bundle.stringAtoms, d.before a0 Z = true := fun d hd => hw d ((by decide +kernel : ∀ d ∈ Bundle.stringAtoms, d ∈ tables_1) d hd)
  refine own_stW (fun t9 k9 => XS.aloadN X0.here hx rfl (hb hby own_d_jdk_42_method_149_0) rfl rfl k9) ?_
  show own_GoW p e below s Z consts_1 _ _ _ (s₁.setTop (mkF m 1 #[.val (.ref x), .val (.ref sr), .val (.int (0 : Int32)), .val (.int (0 : Int32)), .val .null, .unset] [(.ref x)]))
  obtain ⟨T43, X43, e43, st43⟩ := initO X0 hx hZ hown (hw _ (List.mem_of_getElem? (i := 16) rfl)) (hw _ (List.mem_of_getElem? (i := 17) rfl)) (hw _ (List.mem_of_getElem? (i := 18) rfl)) e0 (g := (mkF m 1 #[.val (.ref x), .val (.ref sr), .val (.int (0 : Int32)), .val (.int (0 : Int32)), .val .null, .unset] [(.ref x)])) rfl (by rw [hml]; rfl) rfl (hb hby own_d_jdk_42_method_149_1) (by decide) (W := 0) (by show 2 * 0 + _ ≤ _; exact Nat.le_of_eq rfl) (by decide)
  refine own_stW st43 ?_
  show own_GoW p e below s Z consts_1 _ _ _ (T43.setTop (mkF m 4 #[.val (.ref x), .val (.ref sr), .val (.int (0 : Int32)), .val (.int (0 : Int32)), .val .null, .unset] []))
  refine own_stW (fun t9 k9 => XS.iloadN X43.here hx rfl (hb hby own_d_jdk_42_method_149_4) rfl  k9) ?_
  show own_GoW p e below s Z consts_1 _ _ _ (T43.setTop (mkF m 5 #[.val (.ref x), .val (.ref sr), .val (.int (0 : Int32)), .val (.int (0 : Int32)), .val .null, .unset] [(.int (0 : Int32))]))
  refine own_stW (fun t9 k9 => XS.ifNo X43.here hx rfl (hb hby own_d_jdk_42_method_149_5) rfl (by decide) k9) ?_
  show own_GoW p e below s Z consts_1 _ _ _ (T43.setTop (mkF m 8 #[.val (.ref x), .val (.ref sr), .val (.int (0 : Int32)), .val (.int (0 : Int32)), .val .null, .unset] []))
  refine own_stW (fun t9 k9 => XS.aloadN X43.here hx rfl (hb hby own_d_jdk_42_method_149_8) rfl rfl k9) ?_
  show own_GoW p e below s Z consts_1 _ _ _ (T43.setTop (mkF m 9 #[.val (.ref x), .val (.ref sr), .val (.int (0 : Int32)), .val (.int (0 : Int32)), .val .null, .unset] [(.ref x)]))
  obtain ⟨la, T44, h44, k44, lab, kl44, X44, e44, E44, hS44, hk44, hZ44, hown44, El44, Kl44, Vl44, Bl44, lta44, ltb44, R44, Li44, Sn44, st44⟩ := ldcCH X43 hx hZ hown (hw _ (List.mem_of_getElem? (i := 19) rfl)) hwS e43 hS hk hEL (by decide) Hr.1 (vs := []) (z := (0 : Int32)) (by decide) (by decide) rfl (g := (mkF m 9 #[.val (.ref x), .val (.ref sr), .val (.int (0 : Int32)), .val (.int (0 : Int32)), .val .null, .unset] [(.ref x)])) rfl (hb hby own_d_jdk_42_method_149_9) (n := 0) (by decide) (by decide) (by decide) (by decide)
  have QSf_x := CHr.safe R44 E_x.lt Sf_x
  have E_x := E_x.ext E44
  have F_v := F_v.ext E44
  have F_k := F_k.ext E44
  have Od := Od.ext E44
  have Kp := Kp.ext E44
  have Sf_x := QSf_x
  have Hr := Hr.trans R44
  have hS := hS44
  have hk := hk44
  have hZ := hZ44
  have hown := hown44
  have ne_x_la := (Sn44 _ Sf_x).1
  have ne_x_lab := (Sn44 _ Sf_x).2
  refine own_stW st44 ?_
  show own_GoW p e below s Z consts_1 _ _ _ (T44.setTop (mkF m 11 #[.val (.ref x), .val (.ref sr), .val (.int (0 : Int32)), .val (.int (0 : Int32)), .val .null, .unset] [(.ref la), (.ref x)]))
  have E_la := El44
  have K_la := Kl44
  have V_la := Vl44
  have B_la := Bl44
  obtain ⟨T45, X45, e45, st45⟩ := getF X44 hx hZ hown (host := "") (Or.inl (hw _ (List.mem_of_getElem? (i := 25) rfl))) Via.refl e44 V_la (g := (mkF m 11 #[.val (.ref x), .val (.ref sr), .val (.int (0 : Int32)), .val (.int (0 : Int32)), .val .null, .unset] [(.ref la), (.ref x)])) rfl rfl (hb hby own_d_jdk_42_method_149_11)
  refine own_stW st45 ?_
  show own_GoW p e below s Z consts_1 _ _ _ (T45.setTop (mkF m 14 #[.val (.ref x), .val (.ref sr), .val (.int (0 : Int32)), .val (.int (0 : Int32)), .val .null, .unset] [(.ref lab), (.ref x)]))
  obtain ⟨T46, h46, X46, e46, W46, st46⟩ := putF X45 hx hZ hown (host := "") (Or.inl (hw _ (List.mem_of_getElem? (i := 25) rfl))) Via.refl e45 F_v E_x (Or.inr ⟨(hw _ (List.mem_of_getElem? (i := 21) rfl)), rfl, hnm⟩) (hw _ (List.mem_of_getElem? (i := 6) rfl)) (ty := (.array .byte)) (by decide) rfl rfl (g := (mkF m 14 #[.val (.ref x), .val (.ref sr), .val (.int (0 : Int32)), .val (.int (0 : Int32)), .val .null, .unset] [(.ref lab), (.ref x)])) rfl rfl (hb hby own_d_jdk_42_method_149_14)
  have N46 := Fr.snoc X46 N0 ge_x
  have QSf_x := Safe.wr W46 Sf_x Hr.1 Sf_x
  have E_x := E_x.wr W46
  have F_v := F_v.same W46
  have F_k := F_k.other W46 (Or.inr (RoadKit.slot_ne (Or.inr (hw _ (List.mem_of_getElem? (i := 22) rfl))) (Or.inr (hw _ (List.mem_of_getElem? (i := 21) rfl))) (by decide) (t := .byte) (t' := (.array .byte)) (by decide) (by decide)))
  have E_la := E_la.wr W46
  have K_la := K_la.other W46 (Or.inl (Ne.symm ne_x_la))
  have V_la := V_la.other W46 (Or.inl (Ne.symm ne_x_la))
  have B_la := B_la.other W46 (Ne.symm ne_x_lab)
  have Od := Od.wr W46 ge_x
  have Kp := Kp.wr W46 (Or.inl (List.mem_of_getElem? (i := 0) rfl))
  have Hr := Hr.trans (CHr.wr W46 Sf_x Hr.1)
  have hk := Nat.le_trans hk (Keep.of_wr W46).1
  have Sf_x := QSf_x
  refine own_stW st46 ?_
  show own_GoW p e below s Z consts_1 _ _ _ (T46.setTop (mkF m 17 #[.val (.ref x), .val (.ref sr), .val (.int (0 : Int32)), .val (.int (0 : Int32)), .val .null, .unset] []))
  refine own_stW (fun t9 k9 => XS.aloadN X46.here hx rfl (hb hby own_d_jdk_42_method_149_17) rfl rfl k9) ?_
  show own_GoW p e below s Z consts_1 _ _ _ (T46.setTop (mkF m 18 #[.val (.ref x), .val (.ref sr), .val (.int (0 : Int32)), .val (.int (0 : Int32)), .val .null, .unset] [(.ref x)]))
  obtain ⟨lc, T47, h47, k47, lcb, kl47, X47, e47, E47, hS47, hk47, hZ47, hown47, El47, Kl47, Vl47, Bl47, lta47, ltb47, R47, Li47, Sn47, st47⟩ := ldcCH X46 hx hZ hown (hw _ (List.mem_of_getElem? (i := 19) rfl)) hwS e46 hS hk hEL (by decide) Hr.1 (vs := []) (z := (0 : Int32)) (by decide) (by decide) rfl (g := (mkF m 18 #[.val (.ref x), .val (.ref sr), .val (.int (0 : Int32)), .val (.int (0 : Int32)), .val .null, .unset] [(.ref x)])) rfl (hb hby own_d_jdk_42_method_149_18) (n := 0) (by decide) (by decide) (by decide) (by decide)
  have QSf_x := CHr.safe R47 E_x.lt Sf_x
  have E_x := E_x.ext E47
  have F_v := F_v.ext E47
  have F_k := F_k.ext E47
  have B_la := B_la.ext E47
  have Od := Od.ext E47
  have Kp := Kp.ext E47
  have Sf_x := QSf_x
  have Hr := Hr.trans R47
  have hS := hS47
  have hk := hk47
  have hZ := hZ47
  have hown := hown47
  have ne_x_lc := (Sn47 _ Sf_x).1
  have ne_x_lcb := (Sn47 _ Sf_x).2
  refine own_stW st47 ?_
  show own_GoW p e below s Z consts_1 _ _ _ (T47.setTop (mkF m 20 #[.val (.ref x), .val (.ref sr), .val (.int (0 : Int32)), .val (.int (0 : Int32)), .val .null, .unset] [(.ref lc), (.ref x)]))
  have E_lc := El47
  have K_lc := Kl47
  have V_lc := Vl47
  have B_lc := Bl47
  obtain ⟨T48, X48, e48, st48⟩ := getF X47 hx hZ hown (host := "") (Or.inl (hw _ (List.mem_of_getElem? (i := 26) rfl))) Via.refl e47 K_lc (g := (mkF m 20 #[.val (.ref x), .val (.ref sr), .val (.int (0 : Int32)), .val (.int (0 : Int32)), .val .null, .unset] [(.ref lc), (.ref x)])) rfl rfl (hb hby own_d_jdk_42_method_149_20)
  refine own_stW st48 ?_
  show own_GoW p e below s Z consts_1 _ _ _ (T48.setTop (mkF m 23 #[.val (.ref x), .val (.ref sr), .val (.int (0 : Int32)), .val (.int (0 : Int32)), .val .null, .unset] [(.int (0 : Int32)), (.ref x)]))
  obtain ⟨T49, h49, X49, e49, W49, st49⟩ := putFN X48 hx hZ hown (hw _ (List.mem_of_getElem? (i := 26) rfl)) Via.refl e48 F_k E_x (Or.inr ⟨(hw _ (List.mem_of_getElem? (i := 22) rfl)), rfl, hnm⟩) (hw _ (List.mem_of_getElem? (i := 6) rfl)) (ty := .byte) (v' := (.int (0 : Int32))) (by decide) rfl rfl (g := (mkF m 23 #[.val (.ref x), .val (.ref sr), .val (.int (0 : Int32)), .val (.int (0 : Int32)), .val .null, .unset] [(.int (0 : Int32)), (.ref x)])) rfl rfl (hb hby own_d_jdk_42_method_149_23)
  have N49 := Fr.snoc X49 N46 ge_x
  have QSf_x := Safe.wr W49 Sf_x Hr.1 Sf_x
  have E_x := E_x.wr W49
  have F_v := F_v.other W49 (Or.inr (RoadKit.slot_ne (Or.inr (hw _ (List.mem_of_getElem? (i := 21) rfl))) (Or.inr (hw _ (List.mem_of_getElem? (i := 22) rfl))) (by decide) (t := (.array .byte)) (t' := .byte) (by decide) (by decide)))
  have F_k := F_k.same W49
  have B_la := B_la.other W49 (Ne.symm ne_x_lab)
  have E_lc := E_lc.wr W49
  have K_lc := K_lc.other W49 (Or.inl (Ne.symm ne_x_lc))
  have V_lc := V_lc.other W49 (Or.inl (Ne.symm ne_x_lc))
  have B_lc := B_lc.other W49 (Ne.symm ne_x_lcb)
  have Od := Od.wr W49 ge_x
  have Kp := Kp.wr W49 (Or.inl (List.mem_of_getElem? (i := 0) rfl))
  have Hr := Hr.trans (CHr.wr W49 Sf_x Hr.1)
  have hk := Nat.le_trans hk (Keep.of_wr W49).1
  have Sf_x := QSf_x
  refine own_stW st49 ?_
  show own_GoW p e below s Z consts_1 _ _ _ (T49.setTop (mkF m 26 #[.val (.ref x), .val (.ref sr), .val (.int (0 : Int32)), .val (.int (0 : Int32)), .val .null, .unset] []))
  exact own_retVW X49 hx hlk hS (by rw [e49]; exact hk) hZ hEL (by rw [hh, e49]; exact Hr) Bd.returns (hb hby own_d_jdk_42_method_149_26) (by decide) (by decide) (by rw [e49]; exact ⟨rfl, N49, Kp, E_x, F_k, lab, _, F_v, B_la⟩)
theorem own_ef_si1_0 (m : MethodId) (x0 : Addr) (x1 : Addr) : entryFrame m #[(.ref x0), (.ref x1)] 2 = mkF m 0 #[.val (.ref x0), .val (.ref x1)] [] := by first | (simp [entryFrame, mkF, argsToLocals, Value.category]; done) | rfl
def own_Q_si1_0 (Z : State) (x : Addr) (h0 : Heap) (n0 : Nat) (v : Option Value) (h : Heap) (L : List Loc) : Prop := v = none ∧ Fr n0 L ∧ Keep h0 h [x] ∧ Exa Z h x "java/lang/String" ∧ Fld Z h x "java/lang/String" "coder" "B" (.int (0 : Int32)) ∧ ∃ t k, Fld Z h x "java/lang/String" "value" "[B" (.ref t) ∧ Arv Z h t k .byte (0 : Int32) [] (.int (0 : Int32))
set_option maxRecDepth 65536 in
set_option maxHeartbeats 40000000 in
theorem own_rm_si1_0 (l : Launch) (Z : State) (a0 : Array Value) (hw : ∀ d ∈ tables_1, d.before a0 Z = true) (hEL : EW Z a0 consts_1) (ws : List Jvm.Cond) (x : Addr) (sr : Addr) (ks : ClassId) (v0 c0 : Value) (h0 : Heap) (n0 : Nat) (Od : Old Z n0 h0) (E_x : Exa Z h0 x "java/lang/String") (F_v : Fld Z h0 x "java/lang/String" "value" "[B" v0) (F_k : Fld Z h0 x "java/lang/String" "coder" "B" c0) (V_s : Arv Z h0 sr ks .char (0 : Int32) [] (.int (0 : Int32))) (ge_x : n0 ≤ x) (ne_s : sr ≠ x) :
    MetFree l (⟨"java/lang/String", "<init>", "([C)V"⟩ : MethodName) (head1 (Jvm.Cond.code (⟨"java/lang/String", "<init>", "([C)V"⟩ : MethodName) jdk_42_method_3_code 2 none :: ws) ({ frames := 2, cells := 4, slots := 8, locals := 29 } : Room)) (fun a9 U => a9 = #[(.ref x), (.ref sr)] ∧ Z.Warmed39 U.vm ∧ U.heap = h0 ∧ CHv Z consts_1 U.vm h0 ∧ ∀ x9 ∈ ([x] : List Addr), Safe Z consts_1 U.vm h0 x9) (fun _ _ _ _ _ => True) (fun _ U o U' => ∃ v L, o = .returned v ∧ own_Q_si1_0 Z x h0 n0 v U'.heap L ∧ CHr Z consts_1 U.vm U.heap U'.vm U'.heap ∧ ReturnedEndW U o U' L ({ frames := 2, cells := 4, slots := 8, locals := 29 } : Room).cells ({ frames := 2, cells := 4, slots := 8, locals := 29 } : Room).slots) := by
  refine MetFree.of_bodySF (plainFor_of_name own_pn1) hisR ?_
  intro p e s m args below meth c s₁ Bd hml0 hP hK
  obtain ⟨rfl, hZ, hh, Hc, Hs⟩ := hP
  have hx := Bd.exec
  have hby := Bd.bytes
  have hml : c.maxLocals = 2 := hml0
  have hown : s.vm.findClass "java/lang/String" = some m.cls := findClass_of_methodNamed Bd.named
  have hnm := (name_of_methodNamed Bd.named Bd.method).1
  have hlk : meth.locks = false := Bd.notSynchronized
  have X0 : Stand p l e ({ frames := 2, cells := 4, slots := 8, locals := 29 } : Room) (s.setVm s.vm) m #[(.ref x), (.ref sr)] below meth c s₁ [] 0 0 := Stand.of_body Bd
  have e0 : s₁.heap = h0 := by rw [← hh, Bd.state]; rfl
  have N0 := Fr.nil n0
  have hS : s.Since s.vm h0.size := (State.WarmedH.refl s).since _
  have hk : h0.size ≤ h0.size := Nat.le_refl _
  have Hr : CHr Z consts_1 s.vm h0 s.vm h0 := CHr.refl Hc
  skip
  have Sf_x : Safe Z consts_1 s.vm h0 x := Hs _ (List.mem_of_getElem? (i := 0) rfl)
  show own_GoW p e below s Z consts_1 (own_Q_si1_0 Z x h0 n0) ({ frames := 2, cells := 4, slots := 8, locals := 29 } : Room).cells ({ frames := 2, cells := 4, slots := 8, locals := 29 } : Room).slots (s₁.setTop (entryFrame m #[(.ref x), (.ref sr)] 2))
  refine own_stW (fun t9 k9 => castTop (own_ef_si1_0 m x sr) k9) ?_
  show own_GoW p e below s Z consts_1 _ _ _ (s₁.setTop (mkF m 0 #[.val (.ref x), .val (.ref sr)] []))
  have Kp : Keep h0 h0 [x] := Keep.refl h0 [x]
  refine own_stW (fun t9 k9 => XS.aloadN X0.here hx rfl (hb hby own_d_jdk_42_method_3_0) rfl rfl k9) ?_
  show own_GoW p e below s Z consts_1 _ _ _ (s₁.setTop (mkF m 1 #[.val (.ref x), .val (.ref sr)] [(.ref x)]))
  refine own_stW (fun t9 k9 => XS.aloadN X0.here hx rfl (hb hby own_d_jdk_42_method_3_1) rfl rfl k9) ?_
  show own_GoW p e below s Z consts_1 _ _ _ (s₁.setTop (mkF m 2 #[.val (.ref x), .val (.ref sr)] [(.ref sr), (.ref x)]))
  refine own_stW (fun t9 k9 => XS.iconst X0.here hx rfl (hb hby own_d_jdk_42_method_3_2) k9) ?_
  show own_GoW p e below s Z consts_1 _ _ _ (s₁.setTop (mkF m 3 #[.val (.ref x), .val (.ref sr)] [(.int (0 : Int32)), (.ref sr), (.ref x)]))
  refine own_stW (fun t9 k9 => XS.aloadN X0.here hx rfl (hb hby own_d_jdk_42_method_3_3) rfl rfl k9) ?_
  show own_GoW p e below s Z consts_1 _ _ _ (s₁.setTop (mkF m 4 #[.val (.ref x), .val (.ref sr)] [(.ref sr), (.int (0 : Int32)), (.ref sr), (.ref x)]))
  refine own_stW (fun t9 k9 => own_alen X0 hx hZ e0 V_s (g := (mkF m 4 #[.val (.ref x), .val (.ref sr)] [(.ref sr), (.int (0 : Int32)), (.ref sr), (.ref x)])) rfl rfl (hb hby own_d_jdk_42_method_3_4) t9 k9) ?_
  show own_GoW p e below s Z consts_1 _ _ _ (s₁.setTop (mkF m 5 #[.val (.ref x), .val (.ref sr)] [(.int (0 : Int32)), (.int (0 : Int32)), (.ref sr), (.ref x)]))
  refine own_stW (fun t9 k9 => XS.aconstNull X0.here hx rfl (hb hby own_d_jdk_42_method_3_5) k9) ?_
  show own_GoW p e below s Z consts_1 _ _ _ (s₁.setTop (mkF m 6 #[.val (.ref x), .val (.ref sr)] [.null, (.int (0 : Int32)), (.int (0 : Int32)), (.ref sr), (.ref x)]))
  obtain ⟨_, T50, h50, L50, X50, e50, ⟨rfl, Nc, Kc, E_y, F_c, t, kt, F_u, V_t⟩, hS50, hg50, hZ50, hown50, R50, st50⟩ := own_callIW X0 hx hZ hown hS hk rfl (hw _ (List.mem_of_getElem? (i := 12) rfl)) (hw _ (List.mem_of_getElem? (i := 13) rfl)) (hw _ (List.mem_of_getElem? (i := 15) rfl)) (by decide) (own_payW (W := 0) (K := (fun _ _ _ _ _ => True)) (own_rm_si2_0 l Z a0 hw hEL [] x sr ks v0 c0 h0 n0 Od E_x F_v F_k V_s ge_x ne_s) (fun _ _ _ _ _ _ _ _ _ => trivial) hZ (hw _ (List.mem_of_getElem? (i := 15) rfl)) (hw _ (List.mem_of_getElem? (i := 7) rfl)) (by decide) (by decide) hEL Hr.1 (own_sfS E_x.lt Sf_x own_sf0)) e0 (a := x) (g := (mkF m 6 #[.val (.ref x), .val (.ref sr)] [.null, (.int (0 : Int32)), (.int (0 : Int32)), (.ref sr), (.ref x)])) rfl (by rw [hml]; rfl) (argsL := [(.ref sr), (.int (0 : Int32)), (.int (0 : Int32)), .null]) (rest := []) rfl (lenOf own_pd7 rfl) rfl (by show 2 * 0 + _ ≤ _; exact Nat.le_of_eq rfl) (hb hby own_d_jdk_42_method_3_6) (by decide) (by decide)
  have N50 := Fr.app N0 Nc
  have QSf_x := CHr.safe R50 E_x.lt Sf_x
  have E_x := E_x.keep Kc
  have Od := Od.keep Kc (allS ge_x all0)
  have Kp := Kp.trans Kc (allS (Or.inl (List.mem_of_getElem? (i := 0) rfl)) all0)
  have Sf_x := QSf_x
  have Hr := Hr.trans R50
  have hS := hS50
  have hk : h50.size ≤ h50.size := Nat.le_refl _
  have hZ := hZ50
  have hown := hown50
  refine own_stW st50 ?_
  show own_GoW p e below s Z consts_1 _ _ _ (T50.setTop (mkF m 9 #[.val (.ref x), .val (.ref sr)] []))
  exact own_retVW X50 hx hlk hS (by rw [e50]; exact hk) hZ hEL (by rw [hh, e50]; exact Hr) Bd.returns (hb hby own_d_jdk_42_method_3_9) (by decide) (by decide) (by rw [e50]; exact ⟨rfl, N50, Kp, E_y, F_c, t, kt, F_u, V_t⟩)
theorem own_all1 {x0 : Int32} (h : own_first [x0] 0 = (1 : Int32)) : ∀ c ∈ ([x0] : List Int32), ¬ (255 : Int32) < c := by
  intro c hc q
  simp only [List.mem_cons, List.not_mem_nil, or_false] at hc
  by_cases hg0 : (255 : Int32) < x0
  · exact absurd (((show own_first [x0] 0 = (0 : Int32) from (if_pos hg0))).symm.trans h) (by decide)
  rcases hc with rfl
  · exact hg0 q
theorem own_all2 {x0 x1 : Int32} (h : own_first [x0, x1] 0 = (2 : Int32)) : ∀ c ∈ ([x0, x1] : List Int32), ¬ (255 : Int32) < c := by
  intro c hc q
  simp only [List.mem_cons, List.not_mem_nil, or_false] at hc
  by_cases hg0 : (255 : Int32) < x0
  · exact absurd (((show own_first [x0, x1] 0 = (0 : Int32) from (if_pos hg0))).symm.trans h) (by decide)
  by_cases hg1 : (255 : Int32) < x1
  · exact absurd (((show own_first [x0, x1] 0 = (1 : Int32) from ((if_neg hg0).trans (if_pos hg1)))).symm.trans h) (by decide)
  rcases hc with rfl | rfl
  · exact hg0 q
  · exact hg1 q
theorem own_pn2 : plainName "com/example/scopewarden/scopewarden/ExtentOfPinLaw" = true := by first | (simp [plainName, overriddenIn]; done) | decide +kernel
theorem own_d_method_2_0 : decode method_2_code 0 = .ok (.iload_n 2, 1) := by decide +kernel
theorem own_d_method_2_1 : decode method_2_code 1 = .ok (.ldc 7, 2) := by decide +kernel
theorem own_d_method_2_3 : decode method_2_code 3 = .ok (.iand, 1) := by decide +kernel
theorem own_d_method_2_4 : decode method_2_code 4 = .ok (.iconst 3, 1) := by decide +kernel
theorem own_d_method_2_5 : decode method_2_code 5 = .ok (.irem, 1) := by decide +kernel
theorem own_d_method_2_6 : decode method_2_code 6 = .ok (.istore_n 3, 1) := by decide +kernel
theorem own_d_method_2_7 : decode method_2_code 7 = .ok (.iload_n 3, 1) := by decide +kernel
theorem own_d_method_2_8 : decode method_2_code 8 = .ok (.ifCond .ne 14, 3) := by decide +kernel
theorem own_d_method_2_11 : decode method_2_code 11 = .ok (.new 8, 3) := by decide +kernel
theorem own_d_method_2_14 : decode method_2_code 14 = .ok (.dup, 1) := by decide +kernel
theorem own_d_method_2_15 : decode method_2_code 15 = .ok (.iconst 0, 1) := by decide +kernel
theorem own_d_method_2_16 : decode method_2_code 16 = .ok (.newarray .char, 2) := by decide +kernel
theorem own_pd8 : parseMethodDescriptor "([C)V" = some ⟨[(.array .char)], none⟩ := by decide +kernel
theorem own_d_method_2_18 : decode method_2_code 18 = .ok (.invokespecial 10, 3) := by decide +kernel
theorem own_d_method_2_21 : decode method_2_code 21 = .ok (.areturn, 1) := by decide +kernel
theorem own_d_method_2_22 : decode method_2_code 22 = .ok (.iload_n 3, 1) := by decide +kernel
theorem own_d_method_2_23 : decode method_2_code 23 = .ok (.iconst 1, 1) := by decide +kernel
theorem own_d_method_2_24 : decode method_2_code 24 = .ok (.if_icmp .ne 27, 3) := by decide +kernel
theorem own_d_method_2_27 : decode method_2_code 27 = .ok (.iconst 1, 1) := by decide +kernel
theorem own_d_method_2_28 : decode method_2_code 28 = .ok (.newarray .char, 2) := by decide +kernel
theorem own_d_method_2_30 : decode method_2_code 30 = .ok (.astore 4, 2) := by decide +kernel
theorem own_d_method_2_32 : decode method_2_code 32 = .ok (.aload 4, 2) := by decide +kernel
theorem own_d_method_2_34 : decode method_2_code 34 = .ok (.iconst 0, 1) := by decide +kernel
theorem own_d_method_2_35 : decode method_2_code 35 = .ok (.iload_n 0, 1) := by decide +kernel
theorem own_d_method_2_36 : decode method_2_code 36 = .ok (.ldc 13, 2) := by decide +kernel
theorem own_d_method_2_38 : decode method_2_code 38 = .ok (.iand, 1) := by decide +kernel
theorem own_d_method_2_39 : decode method_2_code 39 = .ok (.i2c, 1) := by decide +kernel
theorem own_d_method_2_40 : decode method_2_code 40 = .ok (.castore, 1) := by decide +kernel
theorem own_d_method_2_41 : decode method_2_code 41 = .ok (.new 8, 3) := by decide +kernel
theorem own_d_method_2_44 : decode method_2_code 44 = .ok (.dup, 1) := by decide +kernel
theorem own_d_method_2_45 : decode method_2_code 45 = .ok (.aload 4, 2) := by decide +kernel
theorem own_d_method_2_47 : decode method_2_code 47 = .ok (.invokespecial 10, 3) := by decide +kernel
theorem own_d_method_2_50 : decode method_2_code 50 = .ok (.areturn, 1) := by decide +kernel
theorem own_d_method_2_51 : decode method_2_code 51 = .ok (.iconst 2, 1) := by decide +kernel
theorem own_d_method_2_52 : decode method_2_code 52 = .ok (.newarray .char, 2) := by decide +kernel
theorem own_d_method_2_54 : decode method_2_code 54 = .ok (.astore 4, 2) := by decide +kernel
theorem own_d_method_2_56 : decode method_2_code 56 = .ok (.aload 4, 2) := by decide +kernel
theorem own_d_method_2_58 : decode method_2_code 58 = .ok (.iconst 0, 1) := by decide +kernel
theorem own_d_method_2_59 : decode method_2_code 59 = .ok (.iload_n 0, 1) := by decide +kernel
theorem own_d_method_2_60 : decode method_2_code 60 = .ok (.ldc 13, 2) := by decide +kernel
theorem own_d_method_2_62 : decode method_2_code 62 = .ok (.iand, 1) := by decide +kernel
theorem own_d_method_2_63 : decode method_2_code 63 = .ok (.i2c, 1) := by decide +kernel
theorem own_d_method_2_64 : decode method_2_code 64 = .ok (.castore, 1) := by decide +kernel
theorem own_d_method_2_65 : decode method_2_code 65 = .ok (.aload 4, 2) := by decide +kernel
theorem own_d_method_2_67 : decode method_2_code 67 = .ok (.iconst 1, 1) := by decide +kernel
theorem own_d_method_2_68 : decode method_2_code 68 = .ok (.iload_n 1, 1) := by decide +kernel
theorem own_d_method_2_69 : decode method_2_code 69 = .ok (.ldc 13, 2) := by decide +kernel
theorem own_d_method_2_71 : decode method_2_code 71 = .ok (.iand, 1) := by decide +kernel
theorem own_d_method_2_72 : decode method_2_code 72 = .ok (.i2c, 1) := by decide +kernel
theorem own_d_method_2_73 : decode method_2_code 73 = .ok (.castore, 1) := by decide +kernel
theorem own_d_method_2_74 : decode method_2_code 74 = .ok (.new 8, 3) := by decide +kernel
theorem own_d_method_2_77 : decode method_2_code 77 = .ok (.dup, 1) := by decide +kernel
theorem own_d_method_2_78 : decode method_2_code 78 = .ok (.aload 4, 2) := by decide +kernel
theorem own_d_method_2_80 : decode method_2_code 80 = .ok (.invokespecial 10, 3) := by decide +kernel
theorem own_d_method_2_83 : decode method_2_code 83 = .ok (.areturn, 1) := by decide +kernel
theorem own_ef_draw (m : MethodId) (x0 : Int32) (x1 : Int32) (x2 : Int32) : entryFrame m #[(.int x0), (.int x1), (.int x2)] 5 = mkF m 0 #[.val (.int x0), .val (.int x1), .val (.int x2), .unset, .unset] [] := by first | (simp [entryFrame, mkF, argsToLocals, Value.category]; done) | rfl
def own_Q_draw (Z : State)  (h0 : Heap) (n0 : Nat) (v : Option Value) (h : Heap) (L : List Loc) : Prop := Fr n0 L ∧ Keep h0 h [] ∧ ∃ x, v = some (.ref x) ∧ h0.size ≤ x
set_option maxRecDepth 65536 in
set_option maxHeartbeats 40000000 in
theorem own_rm_draw (l : Launch) (Z : State) (a0 : Array Value) (hw : ∀ d ∈ tables_1, d.before a0 Z = true) (hEL : EW Z a0 consts_1) (ws : List Jvm.Cond) (c0 c1 ln G : Int32) (h0 : Heap) (n0 : Nat) (Od : Old Z n0 h0) (OA : Sta Z Z.heap "java/lang/StringUTF16" "$assertionsDisabled" "Z" (.int (1 : Int32))) (OH : Sta Z Z.heap "java/lang/StringUTF16" "HI_BYTE_SHIFT" "I" (.int (0 : Int32))) (OL : Sta Z Z.heap "java/lang/StringUTF16" "LO_BYTE_SHIFT" "I" (.int (8 : Int32))) (O2 : Sta Z Z.heap "java/lang/String" "COMPACT_STRINGS" "Z" (.int G)) (P5 : ¬ (G = (0 : Int32))) :
    MetFree l (⟨"com/example/scopewarden/scopewarden/ExtentOfPinLaw", "draw", "(III)Ljava/lang/String;"⟩ : MethodName) (head1 (Jvm.Cond.code (⟨"com/example/scopewarden/scopewarden/ExtentOfPinLaw", "draw", "(III)Ljava/lang/String;"⟩ : MethodName) method_2_code 5 (some (.object "java/lang/String")) :: ws) ({ frames := 6, cells := 6, slots := 12, locals := 88 } : Room)) (fun a9 U => a9 = #[(.int c0), (.int c1), (.int ln)] ∧ Z.Warmed39 U.vm ∧ U.heap = h0 ∧ CHv Z consts_1 U.vm h0 ∧ ∀ x9 ∈ ([] : List Addr), Safe Z consts_1 U.vm h0 x9) (fun _ _ _ _ _ => True) (fun _ U o U' => ∃ v L, o = .returned v ∧ own_Q_draw Z  h0 n0 v U'.heap L ∧ CHr Z consts_1 U.vm U.heap U'.vm U'.heap ∧ ReturnedEndW U o U' L ({ frames := 6, cells := 6, slots := 12, locals := 88 } : Room).cells ({ frames := 6, cells := 6, slots := 12, locals := 88 } : Room).slots) := by
  refine MetFree.of_bodySF (plainFor_of_name own_pn2) hisR ?_
  intro p e s m args below meth c s₁ Bd hml0 hP hK
  obtain ⟨rfl, hZ, hh, Hc, Hs⟩ := hP
  have hx := Bd.exec
  have hby := Bd.bytes
  have hml : c.maxLocals = 5 := hml0
  have hown : s.vm.findClass "com/example/scopewarden/scopewarden/ExtentOfPinLaw" = some m.cls := findClass_of_methodNamed Bd.named
  have hnm := (name_of_methodNamed Bd.named Bd.method).1
  have hlk : meth.locks = false := Bd.notSynchronized
  have X0 : Stand p l e ({ frames := 6, cells := 6, slots := 12, locals := 88 } : Room) (s.setVm s.vm) m #[(.int c0), (.int c1), (.int ln)] below meth c s₁ [] 0 0 := Stand.of_body Bd
  have e0 : s₁.heap = h0 := by rw [← hh, Bd.state]; rfl
  have N0 := Fr.nil n0
  have hS : s.Since s.vm h0.size := (State.WarmedH.refl s).since _
  have hk : h0.size ≤ h0.size := Nat.le_refl _
  have Hr : CHr Z consts_1 s.vm h0 s.vm h0 := CHr.refl Hc
  skip
  show own_GoW p e below s Z consts_1 (own_Q_draw Z  h0 n0) ({ frames := 6, cells := 6, slots := 12, locals := 88 } : Room).cells ({ frames := 6, cells := 6, slots := 12, locals := 88 } : Room).slots (s₁.setTop (entryFrame m #[(.int c0), (.int c1), (.int ln)] 5))
  refine own_stW (fun t9 k9 => castTop (own_ef_draw m c0 c1 ln) k9) ?_
  show own_GoW p e below s Z consts_1 _ _ _ (s₁.setTop (mkF m 0 #[.val (.int c0), .val (.int c1), .val (.int ln), .unset, .unset] []))
  have Kp : Keep h0 h0 [] := Keep.refl h0 []
  have hws : ∀ d ∈ StrChars.Road.words, d.before a0 Z = true := fun d hd => hw d ((by decide +kernel : ∀ d ∈ StrChars.Road.words, d ∈ tables_1) d hd)
  refine own_stW (fun t9 k9 => XS.iloadN X0.here hx rfl (hb hby own_d_method_2_0) rfl  k9) ?_
  show own_GoW p e below s Z consts_1 _ _ _ (s₁.setTop (mkF m 1 #[.val (.int c0), .val (.int c1), .val (.int ln), .unset, .unset] [(.int ln)]))
  refine own_stW (fun t9 k9 => X0.ldcInt hx hown (mvT hZ (hw _ (List.mem_of_getElem? (i := 4) rfl))) (g := (mkF m 1 #[.val (.int c0), .val (.int c1), .val (.int ln), .unset, .unset] [(.int ln)])) rfl (hb hby own_d_method_2_1) t9 k9) ?_
  show own_GoW p e below s Z consts_1 _ _ _ (s₁.setTop (mkF m 3 #[.val (.int c0), .val (.int c1), .val (.int ln), .unset, .unset] [(.int (2147483647 : Int32)), (.int ln)]))
  refine own_stW (fun t9 k9 => XS.iand X0.here hx rfl (hb hby own_d_method_2_3) rfl k9) ?_
  show own_GoW p e below s Z consts_1 _ _ _ (s₁.setTop (mkF m 4 #[.val (.int c0), .val (.int c1), .val (.int ln), .unset, .unset] [(.int (ln &&& (2147483647 : Int32)))]))
  refine own_stW (fun t9 k9 => XS.iconst X0.here hx rfl (hb hby own_d_method_2_4) k9) ?_
  show own_GoW p e below s Z consts_1 _ _ _ (s₁.setTop (mkF m 5 #[.val (.int c0), .val (.int c1), .val (.int ln), .unset, .unset] [(.int (3 : Int32)), (.int (ln &&& (2147483647 : Int32)))]))
  refine own_stW (fun t9 k9 => iremM X0 hx rfl (hb hby own_d_method_2_5) rfl (by decide) k9) ?_
  show own_GoW p e below s Z consts_1 _ _ _ (s₁.setTop (mkF m 6 #[.val (.int c0), .val (.int c1), .val (.int ln), .unset, .unset] [(.int ((ln &&& (2147483647 : Int32)) % (3 : Int32)))]))
  refine own_stW (fun t9 k9 => XS.istoreN X0.here hx rfl (hb hby own_d_method_2_6) rfl (l' := #[.val (.int c0), .val (.int c1), .val (.int ln), .val (.int ((ln &&& (2147483647 : Int32)) % (3 : Int32))), .unset]) rfl k9) ?_
  show own_GoW p e below s Z consts_1 _ _ _ (s₁.setTop (mkF m 7 #[.val (.int c0), .val (.int c1), .val (.int ln), .val (.int ((ln &&& (2147483647 : Int32)) % (3 : Int32))), .unset] []))
  refine own_stW (fun t9 k9 => XS.iloadN X0.here hx rfl (hb hby own_d_method_2_7) rfl  k9) ?_
  show own_GoW p e below s Z consts_1 _ _ _ (s₁.setTop (mkF m 8 #[.val (.int c0), .val (.int c1), .val (.int ln), .val (.int ((ln &&& (2147483647 : Int32)) % (3 : Int32))), .unset] [(.int ((ln &&& (2147483647 : Int32)) % (3 : Int32)))]))
  by_cases h0n : ((ln &&& (2147483647 : Int32)) % (3 : Int32)) = (0 : Int32)
  · skip
    refine own_stW (fun t9 k9 => XS.ifNo X0.here hx rfl (hb hby own_d_method_2_8) rfl ((if0 _ _).trans (teq (h0n : ((ln &&& (2147483647 : Int32)) % (3 : Int32)) = (0 : Int32))).2) k9) ?_
    show own_GoW p e below s Z consts_1 _ _ _ (s₁.setTop (mkF m 11 #[.val (.int c0), .val (.int c1), .val (.int ln), .val (.int ((ln &&& (2147483647 : Int32)) % (3 : Int32))), .unset] []))
    obtain ⟨T51, h51, X51, e51, E51, A51, D51, U51, st51⟩ := newO X0 hx hZ hown (hw _ (List.mem_of_getElem? (i := 5) rfl)) (hw _ (List.mem_of_getElem? (i := 6) rfl)) (hw _ (List.mem_of_getElem? (i := 7) rfl)) e0 (g := (mkF m 11 #[.val (.int c0), .val (.int c1), .val (.int ln), .val (.int ((ln &&& (2147483647 : Int32)) % (3 : Int32))), .unset] [])) rfl (hb hby own_d_method_2_11) (by decide) (by decide)
    obtain ⟨x, g51⟩ : ∃ z, z = h0.size := ⟨_, rfl⟩
    rw [← g51] at A51 D51 st51 U51
    have ge_x : n0 ≤ x := Nat.le_trans (own_z0 Od) (Nat.le_of_eq g51.symm)
    have gz_x : h0.size ≤ x := Nat.le_trans Kp.1 (Nat.le_of_eq g51.symm)
    have Sf_x : Safe Z consts_1 s.vm h0 x := Safe.new (Nat.le_of_eq g51.symm)
    have Sf_x := Safe.ext E51 Hr.1 Sf_x
    have Od := Od.ext E51
    have Kp := Kp.ext E51
    have Hr := Hr.trans (CHr.ext E51 Hr.1)
    have hk := Nat.le_trans hk E51.1
    refine own_stW st51 ?_
    show own_GoW p e below s Z consts_1 _ _ _ (T51.setTop (mkF m 14 #[.val (.int c0), .val (.int c1), .val (.int ln), .val (.int ((ln &&& (2147483647 : Int32)) % (3 : Int32))), .unset] [(.ref x)]))
    have E_x : Exa Z h51 x "java/lang/String" := A51
    have F_v : Fld Z h51 x "java/lang/String" "value" "[B" .null := D51 (Or.inr (hw _ (List.mem_of_getElem? (i := 21) rfl))) (ty := (.array .byte)) (by decide)
    have F_k : Fld Z h51 x "java/lang/String" "coder" "B" (.int (0 : Int32)) := D51 (Or.inr (hw _ (List.mem_of_getElem? (i := 22) rfl))) (ty := .byte) (by decide)
    refine own_stW (fun t9 k9 => XS.dup X51.here hx rfl (hb hby own_d_method_2_14) rfl rfl k9) ?_
    show own_GoW p e below s Z consts_1 _ _ _ (T51.setTop (mkF m 15 #[.val (.int c0), .val (.int c1), .val (.int ln), .val (.int ((ln &&& (2147483647 : Int32)) % (3 : Int32))), .unset] [(.ref x), (.ref x)]))
    refine own_stW (fun t9 k9 => XS.iconst X51.here hx rfl (hb hby own_d_method_2_15) k9) ?_
    show own_GoW p e below s Z consts_1 _ _ _ (T51.setTop (mkF m 16 #[.val (.int c0), .val (.int c1), .val (.int ln), .val (.int ((ln &&& (2147483647 : Int32)) % (3 : Int32))), .unset] [(.int (0 : Int32)), (.ref x), (.ref x)]))
    obtain ⟨T52, h52, k52, X52, e52, E52, A52, st52⟩ := newP X51 hx hZ (hw _ (List.mem_of_getElem? (i := 8) rfl)) e51 (g := (mkF m 16 #[.val (.int c0), .val (.int c1), .val (.int ln), .val (.int ((ln &&& (2147483647 : Int32)) % (3 : Int32))), .unset] [(.int (0 : Int32)), (.ref x), (.ref x)])) rfl (hb hby own_d_method_2_16) rfl (by decide) (cap := 0) (by decide) (by decide) (by decide) (by decide)
    obtain ⟨b, g52⟩ : ∃ z, z = h51.size := ⟨_, rfl⟩
    rw [← g52] at A52 st52
    have ne_x_b : x ≠ b := Nat.ne_of_lt (Nat.lt_of_lt_of_le E_x.lt (Nat.le_of_eq g52.symm))
    have ge_b : n0 ≤ b := Nat.le_trans (own_z0 Od) (Nat.le_of_eq g52.symm)
    have gz_b : h0.size ≤ b := Nat.le_trans Kp.1 (Nat.le_of_eq g52.symm)
    have Sf_b : Safe Z consts_1 s.vm h51 b := Safe.new (Nat.le_of_eq g52.symm)
    have Sf_x := Safe.ext E52 Hr.1 Sf_x
    have E_x := E_x.ext E52
    have F_v := F_v.ext E52
    have F_k := F_k.ext E52
    have Sf_b := Safe.ext E52 Hr.1 Sf_b
    have Od := Od.ext E52
    have Kp := Kp.ext E52
    have Hr := Hr.trans (CHr.ext E52 Hr.1)
    have hk := Nat.le_trans hk E52.1
    refine own_stW st52 ?_
    show own_GoW p e below s Z consts_1 _ _ _ (T52.setTop (mkF m 18 #[.val (.int c0), .val (.int c1), .val (.int ln), .val (.int ((ln &&& (2147483647 : Int32)) % (3 : Int32))), .unset] [(.ref b), (.ref x), (.ref x)]))
    have V_b : Arv Z h52 b k52 .char (0 : Int32) [] (.int (0 : Int32)) := (Arv.new A52 (by decide)).pad (pad_rep [] (.int (0 : Int32)) 0)
    obtain ⟨_, T53, h53, L53, X53, e53, ⟨rfl, Nc, Kc, E_y, F_c, t, kt, F_u, V_t⟩, hS53, hg53, hZ53, hown53, R53, st53⟩ := own_callIW X52 hx hZ hown hS hk rfl (hw _ (List.mem_of_getElem? (i := 9) rfl)) (hw _ (List.mem_of_getElem? (i := 10) rfl)) (hw _ (List.mem_of_getElem? (i := 11) rfl)) (by decide) (own_payW (W := 1) (K := (fun _ _ _ _ _ => True)) (own_rm_si1_0 l Z a0 hw hEL [] x b _ .null (.int (0 : Int32)) h52 n0 Od E_x F_v F_k V_b ge_x (Ne.symm ne_x_b)) (fun _ _ _ _ _ _ _ _ _ => trivial) hZ (hw _ (List.mem_of_getElem? (i := 11) rfl)) (hw _ (List.mem_of_getElem? (i := 7) rfl)) (by decide) (by decide) hEL Hr.1 (own_sfS E_x.lt Sf_x own_sf0)) e52 (a := x) (g := (mkF m 18 #[.val (.int c0), .val (.int c1), .val (.int ln), .val (.int ((ln &&& (2147483647 : Int32)) % (3 : Int32))), .unset] [(.ref b), (.ref x), (.ref x)])) rfl (by rw [hml]; rfl) (argsL := [(.ref b)]) (rest := [(.ref x)]) rfl (lenOf own_pd8 rfl) rfl (by show 2 * 0 + _ ≤ _; exact Nat.le_of_eq rfl) (hb hby own_d_method_2_18) (by decide) (by decide)
    have N53 := Fr.app N0 Nc
    have QSf_x := CHr.safe R53 E_x.lt Sf_x
    have QSf_b := CHr.safe R53 V_b.lt Sf_b
    have E_x := E_x.keep Kc
    have V_b := V_b.keep Kc (ninS (Ne.symm ne_x_b) nin0)
    have Od := Od.keep Kc (allS ge_x all0)
    have Kp := Kp.trans Kc (allS (Or.inr gz_x) all0)
    have Sf_x := QSf_x
    have Sf_b := QSf_b
    have Hr := Hr.trans R53
    have hS := hS53
    have hk : h53.size ≤ h53.size := Nat.le_refl _
    have hZ := hZ53
    have hown := hown53
    refine own_stW st53 ?_
    show own_GoW p e below s Z consts_1 _ _ _ (T53.setTop (mkF m 21 #[.val (.int c0), .val (.int c1), .val (.int ln), .val (.int ((ln &&& (2147483647 : Int32)) % (3 : Int32))), .unset] [(.ref x)]))
    exact own_retRW X53 hx hlk hS (by rw [e53]; exact hk) hZ hEL (by rw [hh, e53]; exact Hr) Bd.returns rfl rfl (hb hby own_d_method_2_21) (by decide) (by decide) (by rw [e53]; exact ⟨N53, Kp, x, rfl, gz_x⟩)
  · skip
    refine own_stW (fun t9 k9 => XS.ifYes X0.here hx rfl (pc0 := 8) (pc' := 22) rfl (hb hby own_d_method_2_8) rfl ((if0 _ _).trans (feq (h0n : ¬ (((ln &&& (2147483647 : Int32)) % (3 : Int32)) = (0 : Int32)))).2) (by decide) (by decide) k9) ?_
    show own_GoW p e below s Z consts_1 _ _ _ (s₁.setTop (mkF m 22 #[.val (.int c0), .val (.int c1), .val (.int ln), .val (.int ((ln &&& (2147483647 : Int32)) % (3 : Int32))), .unset] []))
    refine own_stW (fun t9 k9 => XS.iloadN X0.here hx rfl (hb hby own_d_method_2_22) rfl  k9) ?_
    show own_GoW p e below s Z consts_1 _ _ _ (s₁.setTop (mkF m 23 #[.val (.int c0), .val (.int c1), .val (.int ln), .val (.int ((ln &&& (2147483647 : Int32)) % (3 : Int32))), .unset] [(.int ((ln &&& (2147483647 : Int32)) % (3 : Int32)))]))
    refine own_stW (fun t9 k9 => XS.iconst X0.here hx rfl (hb hby own_d_method_2_23) k9) ?_
    show own_GoW p e below s Z consts_1 _ _ _ (s₁.setTop (mkF m 24 #[.val (.int c0), .val (.int c1), .val (.int ln), .val (.int ((ln &&& (2147483647 : Int32)) % (3 : Int32))), .unset] [(.int (1 : Int32)), (.int ((ln &&& (2147483647 : Int32)) % (3 : Int32)))]))
    by_cases h1n : ((ln &&& (2147483647 : Int32)) % (3 : Int32)) = (1 : Int32)
    · skip
      refine own_stW (fun t9 k9 => XS.icmpNo X0.here hx rfl (hb hby own_d_method_2_24) rfl (teq (h1n : ((ln &&& (2147483647 : Int32)) % (3 : Int32)) = (1 : Int32))).2 k9) ?_
      show own_GoW p e below s Z consts_1 _ _ _ (s₁.setTop (mkF m 27 #[.val (.int c0), .val (.int c1), .val (.int ln), .val (.int ((ln &&& (2147483647 : Int32)) % (3 : Int32))), .unset] []))
      refine own_stW (fun t9 k9 => XS.iconst X0.here hx rfl (hb hby own_d_method_2_27) k9) ?_
      show own_GoW p e below s Z consts_1 _ _ _ (s₁.setTop (mkF m 28 #[.val (.int c0), .val (.int c1), .val (.int ln), .val (.int ((ln &&& (2147483647 : Int32)) % (3 : Int32))), .unset] [(.int (1 : Int32))]))
      obtain ⟨T54, h54, k54, X54, e54, E54, A54, st54⟩ := newP X0 hx hZ (hw _ (List.mem_of_getElem? (i := 8) rfl)) e0 (g := (mkF m 28 #[.val (.int c0), .val (.int c1), .val (.int ln), .val (.int ((ln &&& (2147483647 : Int32)) % (3 : Int32))), .unset] [(.int (1 : Int32))])) rfl (hb hby own_d_method_2_28) rfl (by decide) (cap := 1) (by decide) (by decide) (by decide) (by decide)
      obtain ⟨b, g54⟩ : ∃ z, z = h0.size := ⟨_, rfl⟩
      rw [← g54] at A54 st54
      have ge_b : n0 ≤ b := Nat.le_trans (own_z0 Od) (Nat.le_of_eq g54.symm)
      have gz_b : h0.size ≤ b := Nat.le_trans Kp.1 (Nat.le_of_eq g54.symm)
      have Sf_b : Safe Z consts_1 s.vm h0 b := Safe.new (Nat.le_of_eq g54.symm)
      have Sf_b := Safe.ext E54 Hr.1 Sf_b
      have Od := Od.ext E54
      have Kp := Kp.ext E54
      have Hr := Hr.trans (CHr.ext E54 Hr.1)
      have hk := Nat.le_trans hk E54.1
      refine own_stW st54 ?_
      show own_GoW p e below s Z consts_1 _ _ _ (T54.setTop (mkF m 30 #[.val (.int c0), .val (.int c1), .val (.int ln), .val (.int ((ln &&& (2147483647 : Int32)) % (3 : Int32))), .unset] [(.ref b)]))
      have V_b : Arv Z h54 b k54 .char (1 : Int32) [(.int (0 : Int32))] (.int (0 : Int32)) := (Arv.new A54 (by decide)).pad (pad_rep [] (.int (0 : Int32)) 1)
      refine own_stW (fun t9 k9 => XS.astore X54.here hx rfl (hb hby own_d_method_2_30) rfl rfl (l' := #[.val (.int c0), .val (.int c1), .val (.int ln), .val (.int ((ln &&& (2147483647 : Int32)) % (3 : Int32))), .val (.ref b)]) rfl k9) ?_
      show own_GoW p e below s Z consts_1 _ _ _ (T54.setTop (mkF m 32 #[.val (.int c0), .val (.int c1), .val (.int ln), .val (.int ((ln &&& (2147483647 : Int32)) % (3 : Int32))), .val (.ref b)] []))
      refine own_stW (fun t9 k9 => XS.aload X54.here hx rfl (hb hby own_d_method_2_32) rfl rfl k9) ?_
      show own_GoW p e below s Z consts_1 _ _ _ (T54.setTop (mkF m 34 #[.val (.int c0), .val (.int c1), .val (.int ln), .val (.int ((ln &&& (2147483647 : Int32)) % (3 : Int32))), .val (.ref b)] [(.ref b)]))
      refine own_stW (fun t9 k9 => XS.iconst X54.here hx rfl (hb hby own_d_method_2_34) k9) ?_
      show own_GoW p e below s Z consts_1 _ _ _ (T54.setTop (mkF m 35 #[.val (.int c0), .val (.int c1), .val (.int ln), .val (.int ((ln &&& (2147483647 : Int32)) % (3 : Int32))), .val (.ref b)] [(.int (0 : Int32)), (.ref b)]))
      refine own_stW (fun t9 k9 => XS.iloadN X54.here hx rfl (hb hby own_d_method_2_35) rfl  k9) ?_
      show own_GoW p e below s Z consts_1 _ _ _ (T54.setTop (mkF m 36 #[.val (.int c0), .val (.int c1), .val (.int ln), .val (.int ((ln &&& (2147483647 : Int32)) % (3 : Int32))), .val (.ref b)] [(.int c0), (.int (0 : Int32)), (.ref b)]))
      refine own_stW (fun t9 k9 => X54.ldcInt hx hown (mvT hZ (hw _ (List.mem_of_getElem? (i := 34) rfl))) (g := (mkF m 36 #[.val (.int c0), .val (.int c1), .val (.int ln), .val (.int ((ln &&& (2147483647 : Int32)) % (3 : Int32))), .val (.ref b)] [(.int c0), (.int (0 : Int32)), (.ref b)])) rfl (hb hby own_d_method_2_36) t9 k9) ?_
      show own_GoW p e below s Z consts_1 _ _ _ (T54.setTop (mkF m 38 #[.val (.int c0), .val (.int c1), .val (.int ln), .val (.int ((ln &&& (2147483647 : Int32)) % (3 : Int32))), .val (.ref b)] [(.int (65535 : Int32)), (.int c0), (.int (0 : Int32)), (.ref b)]))
      refine own_stW (fun t9 k9 => XS.iand X54.here hx rfl (hb hby own_d_method_2_38) rfl k9) ?_
      show own_GoW p e below s Z consts_1 _ _ _ (T54.setTop (mkF m 39 #[.val (.int c0), .val (.int c1), .val (.int ln), .val (.int ((ln &&& (2147483647 : Int32)) % (3 : Int32))), .val (.ref b)] [(.int (c0 &&& (65535 : Int32))), (.int (0 : Int32)), (.ref b)]))
      refine own_stW (fun t9 k9 => XT.i2c X54.here hx rfl (hb hby own_d_method_2_39) rfl k9) ?_
      show own_GoW p e below s Z consts_1 _ _ _ (T54.setTop (mkF m 40 #[.val (.int c0), .val (.int c1), .val (.int ln), .val (.int ((ln &&& (2147483647 : Int32)) % (3 : Int32))), .val (.ref b)] [(.int ((c0 &&& (65535 : Int32)).toUInt32.toUInt16.toUInt32.toInt32)), (.int (0 : Int32)), (.ref b)]))
      obtain ⟨cl55, Ar55, q55, S55, M55, H55, G55⟩ := id V_b
      obtain ⟨T55, h55, X55, e55, W55, st55⟩ := stC X54 hx hZ e54 Ar55 (j := (0 : Int32)) (inb_of S55 ⟨by decide, by decide⟩) (g := (mkF m 40 #[.val (.int c0), .val (.int c1), .val (.int ln), .val (.int ((ln &&& (2147483647 : Int32)) % (3 : Int32))), .val (.ref b)] [(.int ((c0 &&& (65535 : Int32)).toUInt32.toUInt16.toUInt32.toInt32)), (.int (0 : Int32)), (.ref b)])) rfl rfl (hb hby own_d_method_2_40)
      have N55 := Fr.snoc X55 N0 ge_b
      have QSf_b := Safe.wr W55 Sf_b Hr.1 Sf_b
      have Od := Od.wr W55 ge_b
      have Kp := Kp.wr W55 (Or.inr gz_b)
      have Hr := Hr.trans (CHr.wr W55 Sf_b Hr.1)
      have hk := Nat.le_trans hk (Keep.of_wr W55).1
      have Sf_b := QSf_b
      refine own_stW st55 ?_
      show own_GoW p e below s Z consts_1 _ _ _ (T55.setTop (mkF m 41 #[.val (.int c0), .val (.int c1), .val (.int ln), .val (.int ((ln &&& (2147483647 : Int32)) % (3 : Int32))), .val (.ref b)] []))
      have V_b : Arv Z h55 b k54 .char (1 : Int32) [(.int (nar .char ((c0 &&& (65535 : Int32)).toUInt32.toUInt16.toUInt32.toInt32)))] (.int (0 : Int32)) := Arv.set Ar55 q55 S55 M55 H55 G55 (fits_nar_char _) W55 0 rfl (Nat.le_of_ble_eq_true rfl)
      obtain ⟨T56, h56, X56, e56, E56, A56, D56, U56, st56⟩ := newO X55 hx hZ hown (hw _ (List.mem_of_getElem? (i := 5) rfl)) (hw _ (List.mem_of_getElem? (i := 6) rfl)) (hw _ (List.mem_of_getElem? (i := 7) rfl)) e55 (g := (mkF m 41 #[.val (.int c0), .val (.int c1), .val (.int ln), .val (.int ((ln &&& (2147483647 : Int32)) % (3 : Int32))), .val (.ref b)] [])) rfl (hb hby own_d_method_2_41) (by decide) (by decide)
      obtain ⟨x, g56⟩ : ∃ z, z = h55.size := ⟨_, rfl⟩
      rw [← g56] at A56 D56 st56 U56
      have ne_b_x : b ≠ x := Nat.ne_of_lt (Nat.lt_of_lt_of_le V_b.lt (Nat.le_of_eq g56.symm))
      have ge_x : n0 ≤ x := Nat.le_trans (own_z0 Od) (Nat.le_of_eq g56.symm)
      have gz_x : h0.size ≤ x := Nat.le_trans Kp.1 (Nat.le_of_eq g56.symm)
      have Sf_x : Safe Z consts_1 s.vm h55 x := Safe.new (Nat.le_of_eq g56.symm)
      have Sf_b := Safe.ext E56 Hr.1 Sf_b
      have V_b := V_b.ext E56
      have Sf_x := Safe.ext E56 Hr.1 Sf_x
      have Od := Od.ext E56
      have Kp := Kp.ext E56
      have Hr := Hr.trans (CHr.ext E56 Hr.1)
      have hk := Nat.le_trans hk E56.1
      refine own_stW st56 ?_
      show own_GoW p e below s Z consts_1 _ _ _ (T56.setTop (mkF m 44 #[.val (.int c0), .val (.int c1), .val (.int ln), .val (.int ((ln &&& (2147483647 : Int32)) % (3 : Int32))), .val (.ref b)] [(.ref x)]))
      have E_x : Exa Z h56 x "java/lang/String" := A56
      have F_v : Fld Z h56 x "java/lang/String" "value" "[B" .null := D56 (Or.inr (hw _ (List.mem_of_getElem? (i := 21) rfl))) (ty := (.array .byte)) (by decide)
      have F_k : Fld Z h56 x "java/lang/String" "coder" "B" (.int (0 : Int32)) := D56 (Or.inr (hw _ (List.mem_of_getElem? (i := 22) rfl))) (ty := .byte) (by decide)
      refine own_stW (fun t9 k9 => XS.dup X56.here hx rfl (hb hby own_d_method_2_44) rfl rfl k9) ?_
      show own_GoW p e below s Z consts_1 _ _ _ (T56.setTop (mkF m 45 #[.val (.int c0), .val (.int c1), .val (.int ln), .val (.int ((ln &&& (2147483647 : Int32)) % (3 : Int32))), .val (.ref b)] [(.ref x), (.ref x)]))
      refine own_stW (fun t9 k9 => XS.aload X56.here hx rfl (hb hby own_d_method_2_45) rfl rfl k9) ?_
      show own_GoW p e below s Z consts_1 _ _ _ (T56.setTop (mkF m 47 #[.val (.int c0), .val (.int c1), .val (.int ln), .val (.int ((ln &&& (2147483647 : Int32)) % (3 : Int32))), .val (.ref b)] [(.ref b), (.ref x), (.ref x)]))
      have hr : ∀ c ∈ ([nar .char ((c0 &&& (65535 : Int32)).toUInt32.toUInt16.toUInt32.toInt32)] : List Int32), ¬ c < 0 ∧ ¬ (65535 : Int32) < c := by
        intro c hc
        simp only [List.mem_cons, List.not_mem_nil, or_false] at hc
        rcases hc with rfl <;> exact own_charR _
      by_cases hm : own_first [nar .char ((c0 &&& (65535 : Int32)).toUInt32.toUInt16.toUInt32.toInt32)] 0 = (1 : Int32)
      · skip
        have hp : ∀ c ∈ ([nar .char ((c0 &&& (65535 : Int32)).toUInt32.toUInt16.toUInt32.toInt32)] : List Int32), ¬ c < 0 ∧ ¬ (255 : Int32) < c := fun c hc => ⟨(hr c hc).1, own_all1 hm c hc⟩
        obtain ⟨_, T57, h57, L57, X57, e57, ⟨rfl, Nb, Kb, Eb, Fk, tt, kb, gt, gt2, ntb, Fv, Vb⟩, st57⟩ := own_backI X56 hx hZ hown rfl (hw _ (List.mem_of_getElem? (i := 9) rfl)) (hw _ (List.mem_of_getElem? (i := 10) rfl)) (hw _ (List.mem_of_getElem? (i := 11) rfl)) (by decide) (StrChars.Road.backV (W := 1) hZ hws (kI := 4) (hw _ (List.mem_of_getElem? (i := 6) rfl)) (cs := [nar .char ((c0 &&& (65535 : Int32)).toUInt32.toUInt16.toUInt32.toInt32)]) (bs := ([nar .char ((c0 &&& (65535 : Int32)).toUInt32.toUInt16.toUInt32.toInt32)] : List Int32).map (fun c => c.toInt8.toInt32)) (n := 1) ge_x (own_z0 Od) E_x F_v F_k V_b (O2.ext Od.2) P5 rfl rfl (by decide) (by decide) hp rfl (by decide) (by decide)) e56 (a := x) (W := 1) (g := (mkF m 47 #[.val (.int c0), .val (.int c1), .val (.int ln), .val (.int ((ln &&& (2147483647 : Int32)) % (3 : Int32))), .val (.ref b)] [(.ref b), (.ref x), (.ref x)])) rfl (by rw [hml]; rfl) (argsL := [(.ref b)]) (rest := [(.ref x)]) rfl (lenOf own_pd8 rfl) rfl (by show 2 * 0 + _ ≤ _; exact Nat.le_of_eq rfl) (hb hby own_d_method_2_47) (by decide) (by decide)
        have N57 := Fr.app N55 Nb
        have QSf_b := Safe.keep Kb (sfS Sf_x sf0) Hr.1 Sf_b
        have V_b := V_b.keep Kb (ninS ne_b_x nin0)
        have QSf_x := Safe.keep Kb (sfS Sf_x sf0) Hr.1 Sf_x
        have E_x := E_x.keep Kb
        have Od := Od.keep Kb (allS ge_x all0)
        have Kp := Kp.trans Kb (allS (Or.inr gz_x) all0)
        have Hr0 := Hr.1
        have Hr := Hr.trans (CHr.keep Kb (sfS Sf_x sf0) Hr.1)
        have hk := Nat.le_trans hk Kb.1
        have Sf_b := QSf_b
        have Sf_x := QSf_x
        refine own_stW st57 ?_
        show own_GoW p e below s Z consts_1 _ _ _ (T57.setTop (mkF m 50 #[.val (.int c0), .val (.int c1), .val (.int ln), .val (.int ((ln &&& (2147483647 : Int32)) % (3 : Int32))), .val (.ref b)] [(.ref x)]))
        exact own_retRW X57 hx hlk hS (by rw [e57]; exact hk) hZ hEL (by rw [hh, e57]; exact Hr) Bd.returns rfl rfl (hb hby own_d_method_2_50) (by decide) (by decide) (by rw [e57]; exact ⟨N57, Kp, x, rfl, gz_x⟩)
      · skip
        obtain ⟨_, T58, h58, L58, X58, e58, ⟨rfl, Nc, Kc, E_y, F_c, t, kt, get, F_u, V_t⟩, st58⟩ := own_callI X56 hx hZ hown rfl (hw _ (List.mem_of_getElem? (i := 9) rfl)) (hw _ (List.mem_of_getElem? (i := 10) rfl)) (hw _ (List.mem_of_getElem? (i := 7) rfl)) (hw _ (List.mem_of_getElem? (i := 11) rfl)) (by decide) (own_rm_si1_1 l Z a0 hw [] x b _ .null (.int (0 : Int32)) G (nar .char ((c0 &&& (65535 : Int32)).toUInt32.toUInt16.toUInt32.toInt32)) h56 n0 Od E_x F_v F_k V_b ge_x ne_b_x (own_charR _) hm OA OH OL O2 P5) (by decide) (by decide) e56 (a := x) (W := 1) (g := (mkF m 47 #[.val (.int c0), .val (.int c1), .val (.int ln), .val (.int ((ln &&& (2147483647 : Int32)) % (3 : Int32))), .val (.ref b)] [(.ref b), (.ref x), (.ref x)])) rfl (by rw [hml]; rfl) (argsL := [(.ref b)]) (rest := [(.ref x)]) rfl (lenOf own_pd8 rfl) rfl (by show 2 * 0 + _ ≤ _; exact Nat.le_of_eq rfl) (hb hby own_d_method_2_47) (by decide) (by decide)
        have N58 := Fr.app N55 Nc
        have QSf_b := Safe.keep Kc (sfS Sf_x sf0) Hr.1 Sf_b
        have V_b := V_b.keep Kc (ninS ne_b_x nin0)
        have QSf_x := Safe.keep Kc (sfS Sf_x sf0) Hr.1 Sf_x
        have E_x := E_x.keep Kc
        have Od := Od.keep Kc (allS ge_x all0)
        have Kp := Kp.trans Kc (allS (Or.inr gz_x) all0)
        have Hr0 := Hr.1
        have Hr := Hr.trans (CHr.keep Kc (sfS Sf_x sf0) Hr.1)
        have hk := Nat.le_trans hk Kc.1
        have Sf_b := QSf_b
        have Sf_x := QSf_x
        refine own_stW st58 ?_
        show own_GoW p e below s Z consts_1 _ _ _ (T58.setTop (mkF m 50 #[.val (.int c0), .val (.int c1), .val (.int ln), .val (.int ((ln &&& (2147483647 : Int32)) % (3 : Int32))), .val (.ref b)] [(.ref x)]))
        exact own_retRW X58 hx hlk hS (by rw [e58]; exact hk) hZ hEL (by rw [hh, e58]; exact Hr) Bd.returns rfl rfl (hb hby own_d_method_2_50) (by decide) (by decide) (by rw [e58]; exact ⟨N58, Kp, x, rfl, gz_x⟩)
    · skip
      refine own_stW (fun t9 k9 => XS.icmpYes X0.here hx rfl (pc0 := 24) (pc' := 51) rfl (hb hby own_d_method_2_24) rfl (feq (h1n : ¬ (((ln &&& (2147483647 : Int32)) % (3 : Int32)) = (1 : Int32)))).2 (by decide) (by decide) k9) ?_
      show own_GoW p e below s Z consts_1 _ _ _ (s₁.setTop (mkF m 51 #[.val (.int c0), .val (.int c1), .val (.int ln), .val (.int ((ln &&& (2147483647 : Int32)) % (3 : Int32))), .unset] []))
      refine own_stW (fun t9 k9 => XS.iconst X0.here hx rfl (hb hby own_d_method_2_51) k9) ?_
      show own_GoW p e below s Z consts_1 _ _ _ (s₁.setTop (mkF m 52 #[.val (.int c0), .val (.int c1), .val (.int ln), .val (.int ((ln &&& (2147483647 : Int32)) % (3 : Int32))), .unset] [(.int (2 : Int32))]))
      obtain ⟨T59, h59, k59, X59, e59, E59, A59, st59⟩ := newP X0 hx hZ (hw _ (List.mem_of_getElem? (i := 8) rfl)) e0 (g := (mkF m 52 #[.val (.int c0), .val (.int c1), .val (.int ln), .val (.int ((ln &&& (2147483647 : Int32)) % (3 : Int32))), .unset] [(.int (2 : Int32))])) rfl (hb hby own_d_method_2_52) rfl (by decide) (cap := 2) (by decide) (by decide) (by decide) (by decide)
      obtain ⟨b, g59⟩ : ∃ z, z = h0.size := ⟨_, rfl⟩
      rw [← g59] at A59 st59
      have ge_b : n0 ≤ b := Nat.le_trans (own_z0 Od) (Nat.le_of_eq g59.symm)
      have gz_b : h0.size ≤ b := Nat.le_trans Kp.1 (Nat.le_of_eq g59.symm)
      have Sf_b : Safe Z consts_1 s.vm h0 b := Safe.new (Nat.le_of_eq g59.symm)
      have Sf_b := Safe.ext E59 Hr.1 Sf_b
      have Od := Od.ext E59
      have Kp := Kp.ext E59
      have Hr := Hr.trans (CHr.ext E59 Hr.1)
      have hk := Nat.le_trans hk E59.1
      refine own_stW st59 ?_
      show own_GoW p e below s Z consts_1 _ _ _ (T59.setTop (mkF m 54 #[.val (.int c0), .val (.int c1), .val (.int ln), .val (.int ((ln &&& (2147483647 : Int32)) % (3 : Int32))), .unset] [(.ref b)]))
      have V_b : Arv Z h59 b k59 .char (2 : Int32) [(.int (0 : Int32)), (.int (0 : Int32))] (.int (0 : Int32)) := (Arv.new A59 (by decide)).pad (pad_rep [] (.int (0 : Int32)) 2)
      refine own_stW (fun t9 k9 => XS.astore X59.here hx rfl (hb hby own_d_method_2_54) rfl rfl (l' := #[.val (.int c0), .val (.int c1), .val (.int ln), .val (.int ((ln &&& (2147483647 : Int32)) % (3 : Int32))), .val (.ref b)]) rfl k9) ?_
      show own_GoW p e below s Z consts_1 _ _ _ (T59.setTop (mkF m 56 #[.val (.int c0), .val (.int c1), .val (.int ln), .val (.int ((ln &&& (2147483647 : Int32)) % (3 : Int32))), .val (.ref b)] []))
      refine own_stW (fun t9 k9 => XS.aload X59.here hx rfl (hb hby own_d_method_2_56) rfl rfl k9) ?_
      show own_GoW p e below s Z consts_1 _ _ _ (T59.setTop (mkF m 58 #[.val (.int c0), .val (.int c1), .val (.int ln), .val (.int ((ln &&& (2147483647 : Int32)) % (3 : Int32))), .val (.ref b)] [(.ref b)]))
      refine own_stW (fun t9 k9 => XS.iconst X59.here hx rfl (hb hby own_d_method_2_58) k9) ?_
      show own_GoW p e below s Z consts_1 _ _ _ (T59.setTop (mkF m 59 #[.val (.int c0), .val (.int c1), .val (.int ln), .val (.int ((ln &&& (2147483647 : Int32)) % (3 : Int32))), .val (.ref b)] [(.int (0 : Int32)), (.ref b)]))
      refine own_stW (fun t9 k9 => XS.iloadN X59.here hx rfl (hb hby own_d_method_2_59) rfl  k9) ?_
      show own_GoW p e below s Z consts_1 _ _ _ (T59.setTop (mkF m 60 #[.val (.int c0), .val (.int c1), .val (.int ln), .val (.int ((ln &&& (2147483647 : Int32)) % (3 : Int32))), .val (.ref b)] [(.int c0), (.int (0 : Int32)), (.ref b)]))
      refine own_stW (fun t9 k9 => X59.ldcInt hx hown (mvT hZ (hw _ (List.mem_of_getElem? (i := 34) rfl))) (g := (mkF m 60 #[.val (.int c0), .val (.int c1), .val (.int ln), .val (.int ((ln &&& (2147483647 : Int32)) % (3 : Int32))), .val (.ref b)] [(.int c0), (.int (0 : Int32)), (.ref b)])) rfl (hb hby own_d_method_2_60) t9 k9) ?_
      show own_GoW p e below s Z consts_1 _ _ _ (T59.setTop (mkF m 62 #[.val (.int c0), .val (.int c1), .val (.int ln), .val (.int ((ln &&& (2147483647 : Int32)) % (3 : Int32))), .val (.ref b)] [(.int (65535 : Int32)), (.int c0), (.int (0 : Int32)), (.ref b)]))
      refine own_stW (fun t9 k9 => XS.iand X59.here hx rfl (hb hby own_d_method_2_62) rfl k9) ?_
      show own_GoW p e below s Z consts_1 _ _ _ (T59.setTop (mkF m 63 #[.val (.int c0), .val (.int c1), .val (.int ln), .val (.int ((ln &&& (2147483647 : Int32)) % (3 : Int32))), .val (.ref b)] [(.int (c0 &&& (65535 : Int32))), (.int (0 : Int32)), (.ref b)]))
      refine own_stW (fun t9 k9 => XT.i2c X59.here hx rfl (hb hby own_d_method_2_63) rfl k9) ?_
      show own_GoW p e below s Z consts_1 _ _ _ (T59.setTop (mkF m 64 #[.val (.int c0), .val (.int c1), .val (.int ln), .val (.int ((ln &&& (2147483647 : Int32)) % (3 : Int32))), .val (.ref b)] [(.int ((c0 &&& (65535 : Int32)).toUInt32.toUInt16.toUInt32.toInt32)), (.int (0 : Int32)), (.ref b)]))
      obtain ⟨cl60, Ar60, q60, S60, M60, H60, G60⟩ := id V_b
      obtain ⟨T60, h60, X60, e60, W60, st60⟩ := stC X59 hx hZ e59 Ar60 (j := (0 : Int32)) (inb_of S60 ⟨by decide, by decide⟩) (g := (mkF m 64 #[.val (.int c0), .val (.int c1), .val (.int ln), .val (.int ((ln &&& (2147483647 : Int32)) % (3 : Int32))), .val (.ref b)] [(.int ((c0 &&& (65535 : Int32)).toUInt32.toUInt16.toUInt32.toInt32)), (.int (0 : Int32)), (.ref b)])) rfl rfl (hb hby own_d_method_2_64)
      have N60 := Fr.snoc X60 N0 ge_b
      have QSf_b := Safe.wr W60 Sf_b Hr.1 Sf_b
      have Od := Od.wr W60 ge_b
      have Kp := Kp.wr W60 (Or.inr gz_b)
      have Hr := Hr.trans (CHr.wr W60 Sf_b Hr.1)
      have hk := Nat.le_trans hk (Keep.of_wr W60).1
      have Sf_b := QSf_b
      refine own_stW st60 ?_
      show own_GoW p e below s Z consts_1 _ _ _ (T60.setTop (mkF m 65 #[.val (.int c0), .val (.int c1), .val (.int ln), .val (.int ((ln &&& (2147483647 : Int32)) % (3 : Int32))), .val (.ref b)] []))
      have V_b : Arv Z h60 b k59 .char (2 : Int32) [(.int (nar .char ((c0 &&& (65535 : Int32)).toUInt32.toUInt16.toUInt32.toInt32))), (.int (0 : Int32))] (.int (0 : Int32)) := Arv.set Ar60 q60 S60 M60 H60 G60 (fits_nar_char _) W60 0 rfl (Nat.le_of_ble_eq_true rfl)
      refine own_stW (fun t9 k9 => XS.aload X60.here hx rfl (hb hby own_d_method_2_65) rfl rfl k9) ?_
      show own_GoW p e below s Z consts_1 _ _ _ (T60.setTop (mkF m 67 #[.val (.int c0), .val (.int c1), .val (.int ln), .val (.int ((ln &&& (2147483647 : Int32)) % (3 : Int32))), .val (.ref b)] [(.ref b)]))
      refine own_stW (fun t9 k9 => XS.iconst X60.here hx rfl (hb hby own_d_method_2_67) k9) ?_
      show own_GoW p e below s Z consts_1 _ _ _ (T60.setTop (mkF m 68 #[.val (.int c0), .val (.int c1), .val (.int ln), .val (.int ((ln &&& (2147483647 : Int32)) % (3 : Int32))), .val (.ref b)] [(.int (1 : Int32)), (.ref b)]))
      refine own_stW (fun t9 k9 => XS.iloadN X60.here hx rfl (hb hby own_d_method_2_68) rfl  k9) ?_
      show own_GoW p e below s Z consts_1 _ _ _ (T60.setTop (mkF m 69 #[.val (.int c0), .val (.int c1), .val (.int ln), .val (.int ((ln &&& (2147483647 : Int32)) % (3 : Int32))), .val (.ref b)] [(.int c1), (.int (1 : Int32)), (.ref b)]))
      refine own_stW (fun t9 k9 => X60.ldcInt hx hown (mvT hZ (hw _ (List.mem_of_getElem? (i := 34) rfl))) (g := (mkF m 69 #[.val (.int c0), .val (.int c1), .val (.int ln), .val (.int ((ln &&& (2147483647 : Int32)) % (3 : Int32))), .val (.ref b)] [(.int c1), (.int (1 : Int32)), (.ref b)])) rfl (hb hby own_d_method_2_69) t9 k9) ?_
      show own_GoW p e below s Z consts_1 _ _ _ (T60.setTop (mkF m 71 #[.val (.int c0), .val (.int c1), .val (.int ln), .val (.int ((ln &&& (2147483647 : Int32)) % (3 : Int32))), .val (.ref b)] [(.int (65535 : Int32)), (.int c1), (.int (1 : Int32)), (.ref b)]))
      refine own_stW (fun t9 k9 => XS.iand X60.here hx rfl (hb hby own_d_method_2_71) rfl k9) ?_
      show own_GoW p e below s Z consts_1 _ _ _ (T60.setTop (mkF m 72 #[.val (.int c0), .val (.int c1), .val (.int ln), .val (.int ((ln &&& (2147483647 : Int32)) % (3 : Int32))), .val (.ref b)] [(.int (c1 &&& (65535 : Int32))), (.int (1 : Int32)), (.ref b)]))
      refine own_stW (fun t9 k9 => XT.i2c X60.here hx rfl (hb hby own_d_method_2_72) rfl k9) ?_
      show own_GoW p e below s Z consts_1 _ _ _ (T60.setTop (mkF m 73 #[.val (.int c0), .val (.int c1), .val (.int ln), .val (.int ((ln &&& (2147483647 : Int32)) % (3 : Int32))), .val (.ref b)] [(.int ((c1 &&& (65535 : Int32)).toUInt32.toUInt16.toUInt32.toInt32)), (.int (1 : Int32)), (.ref b)]))
      obtain ⟨cl61, Ar61, q61, S61, M61, H61, G61⟩ := id V_b
      obtain ⟨T61, h61, X61, e61, W61, st61⟩ := stC X60 hx hZ e60 Ar61 (j := (1 : Int32)) (inb_of S61 ⟨by decide, by decide⟩) (g := (mkF m 73 #[.val (.int c0), .val (.int c1), .val (.int ln), .val (.int ((ln &&& (2147483647 : Int32)) % (3 : Int32))), .val (.ref b)] [(.int ((c1 &&& (65535 : Int32)).toUInt32.toUInt16.toUInt32.toInt32)), (.int (1 : Int32)), (.ref b)])) rfl rfl (hb hby own_d_method_2_73)
      have N61 := Fr.snoc X61 N60 ge_b
      have QSf_b := Safe.wr W61 Sf_b Hr.1 Sf_b
      have Od := Od.wr W61 ge_b
      have Kp := Kp.wr W61 (Or.inr gz_b)
      have Hr := Hr.trans (CHr.wr W61 Sf_b Hr.1)
      have hk := Nat.le_trans hk (Keep.of_wr W61).1
      have Sf_b := QSf_b
      refine own_stW st61 ?_
      show own_GoW p e below s Z consts_1 _ _ _ (T61.setTop (mkF m 74 #[.val (.int c0), .val (.int c1), .val (.int ln), .val (.int ((ln &&& (2147483647 : Int32)) % (3 : Int32))), .val (.ref b)] []))
      have V_b : Arv Z h61 b k59 .char (2 : Int32) [(.int (nar .char ((c0 &&& (65535 : Int32)).toUInt32.toUInt16.toUInt32.toInt32))), (.int (nar .char ((c1 &&& (65535 : Int32)).toUInt32.toUInt16.toUInt32.toInt32)))] (.int (0 : Int32)) := Arv.set Ar61 q61 S61 M61 H61 G61 (fits_nar_char _) W61 1 rfl (Nat.le_of_ble_eq_true rfl)
      obtain ⟨T62, h62, X62, e62, E62, A62, D62, U62, st62⟩ := newO X61 hx hZ hown (hw _ (List.mem_of_getElem? (i := 5) rfl)) (hw _ (List.mem_of_getElem? (i := 6) rfl)) (hw _ (List.mem_of_getElem? (i := 7) rfl)) e61 (g := (mkF m 74 #[.val (.int c0), .val (.int c1), .val (.int ln), .val (.int ((ln &&& (2147483647 : Int32)) % (3 : Int32))), .val (.ref b)] [])) rfl (hb hby own_d_method_2_74) (by decide) (by decide)
      obtain ⟨x, g62⟩ : ∃ z, z = h61.size := ⟨_, rfl⟩
      rw [← g62] at A62 D62 st62 U62
      have ne_b_x : b ≠ x := Nat.ne_of_lt (Nat.lt_of_lt_of_le V_b.lt (Nat.le_of_eq g62.symm))
      have ge_x : n0 ≤ x := Nat.le_trans (own_z0 Od) (Nat.le_of_eq g62.symm)
      have gz_x : h0.size ≤ x := Nat.le_trans Kp.1 (Nat.le_of_eq g62.symm)
      have Sf_x : Safe Z consts_1 s.vm h61 x := Safe.new (Nat.le_of_eq g62.symm)
      have Sf_b := Safe.ext E62 Hr.1 Sf_b
      have V_b := V_b.ext E62
      have Sf_x := Safe.ext E62 Hr.1 Sf_x
      have Od := Od.ext E62
      have Kp := Kp.ext E62
      have Hr := Hr.trans (CHr.ext E62 Hr.1)
      have hk := Nat.le_trans hk E62.1
      refine own_stW st62 ?_
      show own_GoW p e below s Z consts_1 _ _ _ (T62.setTop (mkF m 77 #[.val (.int c0), .val (.int c1), .val (.int ln), .val (.int ((ln &&& (2147483647 : Int32)) % (3 : Int32))), .val (.ref b)] [(.ref x)]))
      have E_x : Exa Z h62 x "java/lang/String" := A62
      have F_v : Fld Z h62 x "java/lang/String" "value" "[B" .null := D62 (Or.inr (hw _ (List.mem_of_getElem? (i := 21) rfl))) (ty := (.array .byte)) (by decide)
      have F_k : Fld Z h62 x "java/lang/String" "coder" "B" (.int (0 : Int32)) := D62 (Or.inr (hw _ (List.mem_of_getElem? (i := 22) rfl))) (ty := .byte) (by decide)
      refine own_stW (fun t9 k9 => XS.dup X62.here hx rfl (hb hby own_d_method_2_77) rfl rfl k9) ?_
      show own_GoW p e below s Z consts_1 _ _ _ (T62.setTop (mkF m 78 #[.val (.int c0), .val (.int c1), .val (.int ln), .val (.int ((ln &&& (2147483647 : Int32)) % (3 : Int32))), .val (.ref b)] [(.ref x), (.ref x)]))
      refine own_stW (fun t9 k9 => XS.aload X62.here hx rfl (hb hby own_d_method_2_78) rfl rfl k9) ?_
      show own_GoW p e below s Z consts_1 _ _ _ (T62.setTop (mkF m 80 #[.val (.int c0), .val (.int c1), .val (.int ln), .val (.int ((ln &&& (2147483647 : Int32)) % (3 : Int32))), .val (.ref b)] [(.ref b), (.ref x), (.ref x)]))
      have hr : ∀ c ∈ ([nar .char ((c0 &&& (65535 : Int32)).toUInt32.toUInt16.toUInt32.toInt32), nar .char ((c1 &&& (65535 : Int32)).toUInt32.toUInt16.toUInt32.toInt32)] : List Int32), ¬ c < 0 ∧ ¬ (65535 : Int32) < c := by
        intro c hc
        simp only [List.mem_cons, List.not_mem_nil, or_false] at hc
        rcases hc with rfl | rfl <;> exact own_charR _
      by_cases hm : own_first [nar .char ((c0 &&& (65535 : Int32)).toUInt32.toUInt16.toUInt32.toInt32), nar .char ((c1 &&& (65535 : Int32)).toUInt32.toUInt16.toUInt32.toInt32)] 0 = (2 : Int32)
      · skip
        have hp : ∀ c ∈ ([nar .char ((c0 &&& (65535 : Int32)).toUInt32.toUInt16.toUInt32.toInt32), nar .char ((c1 &&& (65535 : Int32)).toUInt32.toUInt16.toUInt32.toInt32)] : List Int32), ¬ c < 0 ∧ ¬ (255 : Int32) < c := fun c hc => ⟨(hr c hc).1, own_all2 hm c hc⟩
        obtain ⟨_, T63, h63, L63, X63, e63, ⟨rfl, Nb, Kb, Eb, Fk, tt, kb, gt, gt2, ntb, Fv, Vb⟩, st63⟩ := own_backI X62 hx hZ hown rfl (hw _ (List.mem_of_getElem? (i := 9) rfl)) (hw _ (List.mem_of_getElem? (i := 10) rfl)) (hw _ (List.mem_of_getElem? (i := 11) rfl)) (by decide) (StrChars.Road.backV (W := 1) hZ hws (kI := 4) (hw _ (List.mem_of_getElem? (i := 6) rfl)) (cs := [nar .char ((c0 &&& (65535 : Int32)).toUInt32.toUInt16.toUInt32.toInt32), nar .char ((c1 &&& (65535 : Int32)).toUInt32.toUInt16.toUInt32.toInt32)]) (bs := ([nar .char ((c0 &&& (65535 : Int32)).toUInt32.toUInt16.toUInt32.toInt32), nar .char ((c1 &&& (65535 : Int32)).toUInt32.toUInt16.toUInt32.toInt32)] : List Int32).map (fun c => c.toInt8.toInt32)) (n := 2) ge_x (own_z0 Od) E_x F_v F_k V_b (O2.ext Od.2) P5 rfl rfl (by decide) (by decide) hp rfl (by decide) (by decide)) e62 (a := x) (W := 1) (g := (mkF m 80 #[.val (.int c0), .val (.int c1), .val (.int ln), .val (.int ((ln &&& (2147483647 : Int32)) % (3 : Int32))), .val (.ref b)] [(.ref b), (.ref x), (.ref x)])) rfl (by rw [hml]; rfl) (argsL := [(.ref b)]) (rest := [(.ref x)]) rfl (lenOf own_pd8 rfl) rfl (by show 2 * 0 + _ ≤ _; exact Nat.le_of_eq rfl) (hb hby own_d_method_2_80) (by decide) (by decide)
        have N63 := Fr.app N61 Nb
        have QSf_b := Safe.keep Kb (sfS Sf_x sf0) Hr.1 Sf_b
        have V_b := V_b.keep Kb (ninS ne_b_x nin0)
        have QSf_x := Safe.keep Kb (sfS Sf_x sf0) Hr.1 Sf_x
        have E_x := E_x.keep Kb
        have Od := Od.keep Kb (allS ge_x all0)
        have Kp := Kp.trans Kb (allS (Or.inr gz_x) all0)
        have Hr0 := Hr.1
        have Hr := Hr.trans (CHr.keep Kb (sfS Sf_x sf0) Hr.1)
        have hk := Nat.le_trans hk Kb.1
        have Sf_b := QSf_b
        have Sf_x := QSf_x
        refine own_stW st63 ?_
        show own_GoW p e below s Z consts_1 _ _ _ (T63.setTop (mkF m 83 #[.val (.int c0), .val (.int c1), .val (.int ln), .val (.int ((ln &&& (2147483647 : Int32)) % (3 : Int32))), .val (.ref b)] [(.ref x)]))
        exact own_retRW X63 hx hlk hS (by rw [e63]; exact hk) hZ hEL (by rw [hh, e63]; exact Hr) Bd.returns rfl rfl (hb hby own_d_method_2_83) (by decide) (by decide) (by rw [e63]; exact ⟨N63, Kp, x, rfl, gz_x⟩)
      · skip
        obtain ⟨_, T64, h64, L64, X64, e64, ⟨rfl, Nc, Kc, E_y, F_c, t, kt, get, F_u, V_t⟩, st64⟩ := own_callI X62 hx hZ hown rfl (hw _ (List.mem_of_getElem? (i := 9) rfl)) (hw _ (List.mem_of_getElem? (i := 10) rfl)) (hw _ (List.mem_of_getElem? (i := 7) rfl)) (hw _ (List.mem_of_getElem? (i := 11) rfl)) (by decide) (own_rm_si1_2 l Z a0 hw [] x b _ .null (.int (0 : Int32)) G (nar .char ((c0 &&& (65535 : Int32)).toUInt32.toUInt16.toUInt32.toInt32)) (nar .char ((c1 &&& (65535 : Int32)).toUInt32.toUInt16.toUInt32.toInt32)) h62 n0 Od E_x F_v F_k V_b ge_x ne_b_x (own_charR _) (own_charR _) hm OA OH OL O2 P5) (by decide) (by decide) e62 (a := x) (W := 1) (g := (mkF m 80 #[.val (.int c0), .val (.int c1), .val (.int ln), .val (.int ((ln &&& (2147483647 : Int32)) % (3 : Int32))), .val (.ref b)] [(.ref b), (.ref x), (.ref x)])) rfl (by rw [hml]; rfl) (argsL := [(.ref b)]) (rest := [(.ref x)]) rfl (lenOf own_pd8 rfl) rfl (by show 2 * 0 + _ ≤ _; exact Nat.le_of_eq rfl) (hb hby own_d_method_2_80) (by decide) (by decide)
        have N64 := Fr.app N61 Nc
        have QSf_b := Safe.keep Kc (sfS Sf_x sf0) Hr.1 Sf_b
        have V_b := V_b.keep Kc (ninS ne_b_x nin0)
        have QSf_x := Safe.keep Kc (sfS Sf_x sf0) Hr.1 Sf_x
        have E_x := E_x.keep Kc
        have Od := Od.keep Kc (allS ge_x all0)
        have Kp := Kp.trans Kc (allS (Or.inr gz_x) all0)
        have Hr0 := Hr.1
        have Hr := Hr.trans (CHr.keep Kc (sfS Sf_x sf0) Hr.1)
        have hk := Nat.le_trans hk Kc.1
        have Sf_b := QSf_b
        have Sf_x := QSf_x
        refine own_stW st64 ?_
        show own_GoW p e below s Z consts_1 _ _ _ (T64.setTop (mkF m 83 #[.val (.int c0), .val (.int c1), .val (.int ln), .val (.int ((ln &&& (2147483647 : Int32)) % (3 : Int32))), .val (.ref b)] [(.ref x)]))
        exact own_retRW X64 hx hlk hS (by rw [e64]; exact hk) hZ hEL (by rw [hh, e64]; exact Hr) Bd.returns rfl rfl (hb hby own_d_method_2_83) (by decide) (by decide) (by rw [e64]; exact ⟨N64, Kp, x, rfl, gz_x⟩)
theorem own_pn3 : plainName "com/example/scopewarden/scopewarden/Action$Extent" = true := by first | (simp [plainName, overriddenIn]; done) | decide +kernel
theorem own_d_prog_2_method_4_0 : decode prog_2_method_4_code 0 = .ok (.aload_n 0, 1) := by decide +kernel
theorem own_d_prog_2_method_4_1 : decode prog_2_method_4_code 1 = .ok (.ifnonnull 7, 3) := by decide +kernel
theorem own_d_prog_2_method_4_4 : decode prog_2_method_4_code 4 = .ok (.getstatic 3, 3) := by decide +kernel
theorem own_d_prog_2_method_4_7 : decode prog_2_method_4_code 7 = .ok (.areturn, 1) := by decide +kernel
theorem own_ef_ofNN (m : MethodId)  : entryFrame m #[.null, .null] 2 = mkF m 0 #[.val .null, .val .null] [] := by first | (simp [entryFrame, mkF, argsToLocals, Value.category]; done) | rfl
def own_Q_ofNN (Z : State) (eS eA eN : Addr) (h0 : Heap) (n0 : Nat) (v : Option Value) (h : Heap) (L : List Loc) : Prop := v = some (.ref eS) ∧ Fr n0 L ∧ h = h0
set_option maxRecDepth 65536 in
set_option maxHeartbeats 40000000 in
theorem own_rm_ofNN (l : Launch) (Z : State) (a0 : Array Value) (hw : ∀ d ∈ tables_1, d.before a0 Z = true) (ws : List Jvm.Cond) (eS eA eN : Addr) (h0 : Heap) (n0 : Nat) (Od : Old Z n0 h0) (SS : Sta Z Z.heap "com/example/scopewarden/scopewarden/Action$Extent" "SYSTEM" "Lcom/example/scopewarden/scopewarden/Action$Extent;" (.ref eS)) (SA : Sta Z Z.heap "com/example/scopewarden/scopewarden/Action$Extent" "APP" "Lcom/example/scopewarden/scopewarden/Action$Extent;" (.ref eA)) (SN : Sta Z Z.heap "com/example/scopewarden/scopewarden/Action$Extent" "NAMESPACE" "Lcom/example/scopewarden/scopewarden/Action$Extent;" (.ref eN)) :
    MetFree l (⟨"com/example/scopewarden/scopewarden/Action$Extent", "of", "(Ljava/lang/String;Ljava/lang/String;)Lcom/example/scopewarden/scopewarden/Action$Extent;"⟩ : MethodName) (head1 (Jvm.Cond.code (⟨"com/example/scopewarden/scopewarden/Action$Extent", "of", "(Ljava/lang/String;Ljava/lang/String;)Lcom/example/scopewarden/scopewarden/Action$Extent;"⟩ : MethodName) prog_2_method_4_code 2 (some (.object "com/example/scopewarden/scopewarden/Action$Extent")) :: ws) ({ frames := 0, cells := 0, slots := 0, locals := 0 } : Room)) (fun a9 U => a9 = #[.null, .null] ∧ Z.Warmed39 U.vm ∧ U.heap = h0) (fun _ _ _ _ _ => True) (fun _ U o U' => ∃ v L, o = .returned v ∧ own_Q_ofNN Z eS eA eN h0 n0 v U'.heap L ∧ FrameEnd U o U' L ({ frames := 0, cells := 0, slots := 0, locals := 0 } : Room).cells ({ frames := 0, cells := 0, slots := 0, locals := 0 } : Room).slots) := by
  refine MetFree.of_bodySF (plainFor_of_name own_pn3) hisR ?_
  intro p e s m args below meth c s₁ Bd hml0 hP hK
  obtain ⟨rfl, hZ, hh⟩ := hP
  have hx := Bd.exec
  have hby := Bd.bytes
  have hml : c.maxLocals = 2 := hml0
  have hown : s.vm.findClass "com/example/scopewarden/scopewarden/Action$Extent" = some m.cls := findClass_of_methodNamed Bd.named
  have hnm := (name_of_methodNamed Bd.named Bd.method).1
  have hlk : meth.locks = false := Bd.notSynchronized
  have X0 : Stand p l e ({ frames := 0, cells := 0, slots := 0, locals := 0 } : Room) s m #[.null, .null] below meth c s₁ [] 0 0 := Stand.of_body Bd
  have e0 : s₁.heap = h0 := by rw [← hh, Bd.state]; rfl
  have N0 := Fr.nil n0
  show own_Go p e below s (own_Q_ofNN Z eS eA eN h0 n0) ({ frames := 0, cells := 0, slots := 0, locals := 0 } : Room).cells ({ frames := 0, cells := 0, slots := 0, locals := 0 } : Room).slots (s₁.setTop (entryFrame m #[.null, .null] 2))
  refine own_st (fun t9 k9 => castTop (own_ef_ofNN m ) k9) ?_
  show own_Go p e below s _ _ _ (s₁.setTop (mkF m 0 #[.val .null, .val .null] []))
  refine own_st (fun t9 k9 => XS.aloadN X0.here hx rfl (hb hby own_d_prog_2_method_4_0) rfl rfl k9) ?_
  show own_Go p e below s _ _ _ (s₁.setTop (mkF m 1 #[.val .null, .val .null] [.null]))
  refine own_st (fun t9 k9 => XT.ifnonnullNo X0.here hx rfl (hb hby own_d_prog_2_method_4_1) rfl k9) ?_
  show own_Go p e below s _ _ _ (s₁.setTop (mkF m 4 #[.val .null, .val .null] []))
  obtain ⟨T65, X65, e65, st65⟩ := getS (host := "") X0 hx hZ hown (hw _ (List.mem_of_getElem? (i := 48) rfl)) Via.refl e0 (SS.ext Od.2) (g := (mkF m 4 #[.val .null, .val .null] [])) rfl (hb hby own_d_prog_2_method_4_4)
  refine own_st st65 ?_
  show own_Go p e below s _ _ _ (T65.setTop (mkF m 7 #[.val .null, .val .null] [(.ref eS)]))
  exact own_retR X65 hx hlk Bd.returns rfl rfl (hb hby own_d_prog_2_method_4_7) (by decide) (by decide) (by rw [e65]; exact ⟨rfl, N0, rfl⟩)
theorem own_ef_ofNR (m : MethodId) (x1 : Addr) : entryFrame m #[.null, (.ref x1)] 2 = mkF m 0 #[.val .null, .val (.ref x1)] [] := by first | (simp [entryFrame, mkF, argsToLocals, Value.category]; done) | rfl
def own_Q_ofNR (Z : State) (eS eA eN : Addr) (h0 : Heap) (n0 : Nat) (v : Option Value) (h : Heap) (L : List Loc) : Prop := v = some (.ref eS) ∧ Fr n0 L ∧ h = h0
set_option maxRecDepth 65536 in
set_option maxHeartbeats 40000000 in
theorem own_rm_ofNR (l : Launch) (Z : State) (a0 : Array Value) (hw : ∀ d ∈ tables_1, d.before a0 Z = true) (ws : List Jvm.Cond) (b : Addr) (eS eA eN : Addr) (h0 : Heap) (n0 : Nat) (Od : Old Z n0 h0) (SS : Sta Z Z.heap "com/example/scopewarden/scopewarden/Action$Extent" "SYSTEM" "Lcom/example/scopewarden/scopewarden/Action$Extent;" (.ref eS)) (SA : Sta Z Z.heap "com/example/scopewarden/scopewarden/Action$Extent" "APP" "Lcom/example/scopewarden/scopewarden/Action$Extent;" (.ref eA)) (SN : Sta Z Z.heap "com/example/scopewarden/scopewarden/Action$Extent" "NAMESPACE" "Lcom/example/scopewarden/scopewarden/Action$Extent;" (.ref eN)) :
    MetFree l (⟨"com/example/scopewarden/scopewarden/Action$Extent", "of", "(Ljava/lang/String;Ljava/lang/String;)Lcom/example/scopewarden/scopewarden/Action$Extent;"⟩ : MethodName) (head1 (Jvm.Cond.code (⟨"com/example/scopewarden/scopewarden/Action$Extent", "of", "(Ljava/lang/String;Ljava/lang/String;)Lcom/example/scopewarden/scopewarden/Action$Extent;"⟩ : MethodName) prog_2_method_4_code 2 (some (.object "com/example/scopewarden/scopewarden/Action$Extent")) :: ws) ({ frames := 0, cells := 0, slots := 0, locals := 0 } : Room)) (fun a9 U => a9 = #[.null, (.ref b)] ∧ Z.Warmed39 U.vm ∧ U.heap = h0) (fun _ _ _ _ _ => True) (fun _ U o U' => ∃ v L, o = .returned v ∧ own_Q_ofNR Z eS eA eN h0 n0 v U'.heap L ∧ FrameEnd U o U' L ({ frames := 0, cells := 0, slots := 0, locals := 0 } : Room).cells ({ frames := 0, cells := 0, slots := 0, locals := 0 } : Room).slots) := by
  refine MetFree.of_bodySF (plainFor_of_name own_pn3) hisR ?_
  intro p e s m args below meth c s₁ Bd hml0 hP hK
  obtain ⟨rfl, hZ, hh⟩ := hP
  have hx := Bd.exec
  have hby := Bd.bytes
  have hml : c.maxLocals = 2 := hml0
  have hown : s.vm.findClass "com/example/scopewarden/scopewarden/Action$Extent" = some m.cls := findClass_of_methodNamed Bd.named
  have hnm := (name_of_methodNamed Bd.named Bd.method).1
  have hlk : meth.locks = false := Bd.notSynchronized
  have X0 : Stand p l e ({ frames := 0, cells := 0, slots := 0, locals := 0 } : Room) s m #[.null, (.ref b)] below meth c s₁ [] 0 0 := Stand.of_body Bd
  have e0 : s₁.heap = h0 := by rw [← hh, Bd.state]; rfl
  have N0 := Fr.nil n0
  show own_Go p e below s (own_Q_ofNR Z eS eA eN h0 n0) ({ frames := 0, cells := 0, slots := 0, locals := 0 } : Room).cells ({ frames := 0, cells := 0, slots := 0, locals := 0 } : Room).slots (s₁.setTop (entryFrame m #[.null, (.ref b)] 2))
  refine own_st (fun t9 k9 => castTop (own_ef_ofNR m b) k9) ?_
  show own_Go p e below s _ _ _ (s₁.setTop (mkF m 0 #[.val .null, .val (.ref b)] []))
  refine own_st (fun t9 k9 => XS.aloadN X0.here hx rfl (hb hby own_d_prog_2_method_4_0) rfl rfl k9) ?_
  show own_Go p e below s _ _ _ (s₁.setTop (mkF m 1 #[.val .null, .val (.ref b)] [.null]))
  refine own_st (fun t9 k9 => XT.ifnonnullNo X0.here hx rfl (hb hby own_d_prog_2_method_4_1) rfl k9) ?_
  show own_Go p e below s _ _ _ (s₁.setTop (mkF m 4 #[.val .null, .val (.ref b)] []))
  obtain ⟨T66, X66, e66, st66⟩ := getS (host := "") X0 hx hZ hown (hw _ (List.mem_of_getElem? (i := 48) rfl)) Via.refl e0 (SS.ext Od.2) (g := (mkF m 4 #[.val .null, .val (.ref b)] [])) rfl (hb hby own_d_prog_2_method_4_4)
  refine own_st st66 ?_
  show own_Go p e below s _ _ _ (T66.setTop (mkF m 7 #[.val .null, .val (.ref b)] [(.ref eS)]))
  exact own_retR X66 hx hlk Bd.returns rfl rfl (hb hby own_d_prog_2_method_4_7) (by decide) (by decide) (by rw [e66]; exact ⟨rfl, N0, rfl⟩)
theorem own_d_prog_2_method_4_8 : decode prog_2_method_4_code 8 = .ok (.aload_n 1, 1) := by decide +kernel
theorem own_d_prog_2_method_4_9 : decode prog_2_method_4_code 9 = .ok (.ifnonnull 9, 3) := by decide +kernel
theorem own_d_prog_2_method_4_12 : decode prog_2_method_4_code 12 = .ok (.getstatic 7, 3) := by decide +kernel
theorem own_d_prog_2_method_4_15 : decode prog_2_method_4_code 15 = .ok (.goto 6, 3) := by decide +kernel
theorem own_d_prog_2_method_4_21 : decode prog_2_method_4_code 21 = .ok (.areturn, 1) := by decide +kernel
theorem own_ef_ofRN (m : MethodId) (x0 : Addr) : entryFrame m #[(.ref x0), .null] 2 = mkF m 0 #[.val (.ref x0), .val .null] [] := by first | (simp [entryFrame, mkF, argsToLocals, Value.category]; done) | rfl
def own_Q_ofRN (Z : State) (eS eA eN : Addr) (h0 : Heap) (n0 : Nat) (v : Option Value) (h : Heap) (L : List Loc) : Prop := v = some (.ref eA) ∧ Fr n0 L ∧ h = h0
set_option maxRecDepth 65536 in
set_option maxHeartbeats 40000000 in
theorem own_rm_ofRN (l : Launch) (Z : State) (a0 : Array Value) (hw : ∀ d ∈ tables_1, d.before a0 Z = true) (ws : List Jvm.Cond) (a : Addr) (eS eA eN : Addr) (h0 : Heap) (n0 : Nat) (Od : Old Z n0 h0) (SS : Sta Z Z.heap "com/example/scopewarden/scopewarden/Action$Extent" "SYSTEM" "Lcom/example/scopewarden/scopewarden/Action$Extent;" (.ref eS)) (SA : Sta Z Z.heap "com/example/scopewarden/scopewarden/Action$Extent" "APP" "Lcom/example/scopewarden/scopewarden/Action$Extent;" (.ref eA)) (SN : Sta Z Z.heap "com/example/scopewarden/scopewarden/Action$Extent" "NAMESPACE" "Lcom/example/scopewarden/scopewarden/Action$Extent;" (.ref eN)) :
    MetFree l (⟨"com/example/scopewarden/scopewarden/Action$Extent", "of", "(Ljava/lang/String;Ljava/lang/String;)Lcom/example/scopewarden/scopewarden/Action$Extent;"⟩ : MethodName) (head1 (Jvm.Cond.code (⟨"com/example/scopewarden/scopewarden/Action$Extent", "of", "(Ljava/lang/String;Ljava/lang/String;)Lcom/example/scopewarden/scopewarden/Action$Extent;"⟩ : MethodName) prog_2_method_4_code 2 (some (.object "com/example/scopewarden/scopewarden/Action$Extent")) :: ws) ({ frames := 0, cells := 0, slots := 0, locals := 0 } : Room)) (fun a9 U => a9 = #[(.ref a), .null] ∧ Z.Warmed39 U.vm ∧ U.heap = h0) (fun _ _ _ _ _ => True) (fun _ U o U' => ∃ v L, o = .returned v ∧ own_Q_ofRN Z eS eA eN h0 n0 v U'.heap L ∧ FrameEnd U o U' L ({ frames := 0, cells := 0, slots := 0, locals := 0 } : Room).cells ({ frames := 0, cells := 0, slots := 0, locals := 0 } : Room).slots) := by
  refine MetFree.of_bodySF (plainFor_of_name own_pn3) hisR ?_
  intro p e s m args below meth c s₁ Bd hml0 hP hK
  obtain ⟨rfl, hZ, hh⟩ := hP
  have hx := Bd.exec
  have hby := Bd.bytes
  have hml : c.maxLocals = 2 := hml0
  have hown : s.vm.findClass "com/example/scopewarden/scopewarden/Action$Extent" = some m.cls := findClass_of_methodNamed Bd.named
  have hnm := (name_of_methodNamed Bd.named Bd.method).1
  have hlk : meth.locks = false := Bd.notSynchronized
  have X0 : Stand p l e ({ frames := 0, cells := 0, slots := 0, locals := 0 } : Room) s m #[(.ref a), .null] below meth c s₁ [] 0 0 := Stand.of_body Bd
  have e0 : s₁.heap = h0 := by rw [← hh, Bd.state]; rfl
  have N0 := Fr.nil n0
  show own_Go p e below s (own_Q_ofRN Z eS eA eN h0 n0) ({ frames := 0, cells := 0, slots := 0, locals := 0 } : Room).cells ({ frames := 0, cells := 0, slots := 0, locals := 0 } : Room).slots (s₁.setTop (entryFrame m #[(.ref a), .null] 2))
  refine own_st (fun t9 k9 => castTop (own_ef_ofRN m a) k9) ?_
  show own_Go p e below s _ _ _ (s₁.setTop (mkF m 0 #[.val (.ref a), .val .null] []))
  refine own_st (fun t9 k9 => XS.aloadN X0.here hx rfl (hb hby own_d_prog_2_method_4_0) rfl rfl k9) ?_
  show own_Go p e below s _ _ _ (s₁.setTop (mkF m 1 #[.val (.ref a), .val .null] [(.ref a)]))
  refine own_st (fun t9 k9 => XT.ifnonnullYes X0.here hx rfl (pc0 := 1) (pc' := 8) rfl (hb hby own_d_prog_2_method_4_1) rfl (by decide) (by decide) k9) ?_
  show own_Go p e below s _ _ _ (s₁.setTop (mkF m 8 #[.val (.ref a), .val .null] []))
  refine own_st (fun t9 k9 => XS.aloadN X0.here hx rfl (hb hby own_d_prog_2_method_4_8) rfl rfl k9) ?_
  show own_Go p e below s _ _ _ (s₁.setTop (mkF m 9 #[.val (.ref a), .val .null] [.null]))
  refine own_st (fun t9 k9 => XT.ifnonnullNo X0.here hx rfl (hb hby own_d_prog_2_method_4_9) rfl k9) ?_
  show own_Go p e below s _ _ _ (s₁.setTop (mkF m 12 #[.val (.ref a), .val .null] []))
  obtain ⟨T67, X67, e67, st67⟩ := getS (host := "") X0 hx hZ hown (hw _ (List.mem_of_getElem? (i := 70) rfl)) Via.refl e0 (SA.ext Od.2) (g := (mkF m 12 #[.val (.ref a), .val .null] [])) rfl (hb hby own_d_prog_2_method_4_12)
  refine own_st st67 ?_
  show own_Go p e below s _ _ _ (T67.setTop (mkF m 15 #[.val (.ref a), .val .null] [(.ref eA)]))
  refine own_st (fun t9 k9 => XS.goto X67.here hx rfl (pc0 := 15) (pc' := 21) rfl (hb hby own_d_prog_2_method_4_15) (by decide) (by decide) k9) ?_
  show own_Go p e below s _ _ _ (T67.setTop (mkF m 21 #[.val (.ref a), .val .null] [(.ref eA)]))
  exact own_retR X67 hx hlk Bd.returns rfl rfl (hb hby own_d_prog_2_method_4_21) (by decide) (by decide) (by rw [e67]; exact ⟨rfl, N0, rfl⟩)
theorem own_d_prog_2_method_4_18 : decode prog_2_method_4_code 18 = .ok (.getstatic 10, 3) := by decide +kernel
theorem own_ef_ofRR (m : MethodId) (x0 : Addr) (x1 : Addr) : entryFrame m #[(.ref x0), (.ref x1)] 2 = mkF m 0 #[.val (.ref x0), .val (.ref x1)] [] := by first | (simp [entryFrame, mkF, argsToLocals, Value.category]; done) | rfl
def own_Q_ofRR (Z : State) (eS eA eN : Addr) (h0 : Heap) (n0 : Nat) (v : Option Value) (h : Heap) (L : List Loc) : Prop := v = some (.ref eN) ∧ Fr n0 L ∧ h = h0
set_option maxRecDepth 65536 in
set_option maxHeartbeats 40000000 in
theorem own_rm_ofRR (l : Launch) (Z : State) (a0 : Array Value) (hw : ∀ d ∈ tables_1, d.before a0 Z = true) (ws : List Jvm.Cond) (a : Addr) (b : Addr) (eS eA eN : Addr) (h0 : Heap) (n0 : Nat) (Od : Old Z n0 h0) (SS : Sta Z Z.heap "com/example/scopewarden/scopewarden/Action$Extent" "SYSTEM" "Lcom/example/scopewarden/scopewarden/Action$Extent;" (.ref eS)) (SA : Sta Z Z.heap "com/example/scopewarden/scopewarden/Action$Extent" "APP" "Lcom/example/scopewarden/scopewarden/Action$Extent;" (.ref eA)) (SN : Sta Z Z.heap "com/example/scopewarden/scopewarden/Action$Extent" "NAMESPACE" "Lcom/example/scopewarden/scopewarden/Action$Extent;" (.ref eN)) :
    MetFree l (⟨"com/example/scopewarden/scopewarden/Action$Extent", "of", "(Ljava/lang/String;Ljava/lang/String;)Lcom/example/scopewarden/scopewarden/Action$Extent;"⟩ : MethodName) (head1 (Jvm.Cond.code (⟨"com/example/scopewarden/scopewarden/Action$Extent", "of", "(Ljava/lang/String;Ljava/lang/String;)Lcom/example/scopewarden/scopewarden/Action$Extent;"⟩ : MethodName) prog_2_method_4_code 2 (some (.object "com/example/scopewarden/scopewarden/Action$Extent")) :: ws) ({ frames := 0, cells := 0, slots := 0, locals := 0 } : Room)) (fun a9 U => a9 = #[(.ref a), (.ref b)] ∧ Z.Warmed39 U.vm ∧ U.heap = h0) (fun _ _ _ _ _ => True) (fun _ U o U' => ∃ v L, o = .returned v ∧ own_Q_ofRR Z eS eA eN h0 n0 v U'.heap L ∧ FrameEnd U o U' L ({ frames := 0, cells := 0, slots := 0, locals := 0 } : Room).cells ({ frames := 0, cells := 0, slots := 0, locals := 0 } : Room).slots) := by
  refine MetFree.of_bodySF (plainFor_of_name own_pn3) hisR ?_
  intro p e s m args below meth c s₁ Bd hml0 hP hK
  obtain ⟨rfl, hZ, hh⟩ := hP
  have hx := Bd.exec
  have hby := Bd.bytes
  have hml : c.maxLocals = 2 := hml0
  have hown : s.vm.findClass "com/example/scopewarden/scopewarden/Action$Extent" = some m.cls := findClass_of_methodNamed Bd.named
  have hnm := (name_of_methodNamed Bd.named Bd.method).1
  have hlk : meth.locks = false := Bd.notSynchronized
  have X0 : Stand p l e ({ frames := 0, cells := 0, slots := 0, locals := 0 } : Room) s m #[(.ref a), (.ref b)] below meth c s₁ [] 0 0 := Stand.of_body Bd
  have e0 : s₁.heap = h0 := by rw [← hh, Bd.state]; rfl
  have N0 := Fr.nil n0
  show own_Go p e below s (own_Q_ofRR Z eS eA eN h0 n0) ({ frames := 0, cells := 0, slots := 0, locals := 0 } : Room).cells ({ frames := 0, cells := 0, slots := 0, locals := 0 } : Room).slots (s₁.setTop (entryFrame m #[(.ref a), (.ref b)] 2))
  refine own_st (fun t9 k9 => castTop (own_ef_ofRR m a b) k9) ?_
  show own_Go p e below s _ _ _ (s₁.setTop (mkF m 0 #[.val (.ref a), .val (.ref b)] []))
  refine own_st (fun t9 k9 => XS.aloadN X0.here hx rfl (hb hby own_d_prog_2_method_4_0) rfl rfl k9) ?_
  show own_Go p e below s _ _ _ (s₁.setTop (mkF m 1 #[.val (.ref a), .val (.ref b)] [(.ref a)]))
  refine own_st (fun t9 k9 => XT.ifnonnullYes X0.here hx rfl (pc0 := 1) (pc' := 8) rfl (hb hby own_d_prog_2_method_4_1) rfl (by decide) (by decide) k9) ?_
  show own_Go p e below s _ _ _ (s₁.setTop (mkF m 8 #[.val (.ref a), .val (.ref b)] []))
  refine own_st (fun t9 k9 => XS.aloadN X0.here hx rfl (hb hby own_d_prog_2_method_4_8) rfl rfl k9) ?_
  show own_Go p e below s _ _ _ (s₁.setTop (mkF m 9 #[.val (.ref a), .val (.ref b)] [(.ref b)]))
  refine own_st (fun t9 k9 => XT.ifnonnullYes X0.here hx rfl (pc0 := 9) (pc' := 18) rfl (hb hby own_d_prog_2_method_4_9) rfl (by decide) (by decide) k9) ?_
  show own_Go p e below s _ _ _ (s₁.setTop (mkF m 18 #[.val (.ref a), .val (.ref b)] []))
  obtain ⟨T68, X68, e68, st68⟩ := getS (host := "") X0 hx hZ hown (hw _ (List.mem_of_getElem? (i := 33) rfl)) Via.refl e0 (SN.ext Od.2) (g := (mkF m 18 #[.val (.ref a), .val (.ref b)] [])) rfl (hb hby own_d_prog_2_method_4_18)
  refine own_st st68 ?_
  show own_Go p e below s _ _ _ (T68.setTop (mkF m 21 #[.val (.ref a), .val (.ref b)] [(.ref eN)]))
  exact own_retR X68 hx hlk Bd.returns rfl rfl (hb hby own_d_prog_2_method_4_21) (by decide) (by decide) (by rw [e68]; exact ⟨rfl, N0, rfl⟩)
theorem own_pd9 : parseMethodDescriptor "(III)Ljava/lang/String;" = some ⟨[.int, .int, .int], some (.object "java/lang/String")⟩ := by decide +kernel
theorem own_pd10 : parseMethodDescriptor "(Ljava/lang/String;Ljava/lang/String;)Lcom/example/scopewarden/scopewarden/Action$Extent;" = some ⟨[(.object "java/lang/String"), (.object "java/lang/String")], some (.object "com/example/scopewarden/scopewarden/Action$Extent")⟩ := by decide +kernel
theorem own_ef_law (m : MethodId) (x0 : Int32) (x1 : Int32) (x2 : Int32) (x3 : Int32) (x4 : Int32) (x5 : Int32) : entryFrame m #[(.int x0), (.int x1), (.int x2), (.int x3), (.int x4), (.int x5)] maxLocals = mkF m 0 #[.val (.int x0), .val (.int x1), .val (.int x2), .val (.int x3), .val (.int x4), .val (.int x5), .unset, .unset, .unset, .unset, .unset, .unset, .unset, .unset] [] := by first | (simp [entryFrame, mkF, argsToLocals, Value.category, maxLocals]; done) | rfl
def own_Q_law (Z : State)  (h0 : Heap) (n0 : Nat) (v : Option Value) (h : Heap) (L : List Loc) : Prop := v = some (.int 1) ∧ Fr n0 L
set_option maxRecDepth 65536 in
set_option maxHeartbeats 40000000 in
theorem own_rm_law (l : Launch) (Z : State) (a0 : Array Value) (hw : ∀ d ∈ tables_1, d.before a0 Z = true) (hEL : EW Z a0 consts_1) (ws : List Jvm.Cond) (p0 p1 p2 p3 p4 p5 G : Int32) (eS eA eN : Addr) (h0 : Heap) (n0 : Nat) (Od : Old Z n0 h0) (OA : Sta Z Z.heap "java/lang/StringUTF16" "$assertionsDisabled" "Z" (.int (1 : Int32))) (OH : Sta Z Z.heap "java/lang/StringUTF16" "HI_BYTE_SHIFT" "I" (.int (0 : Int32))) (OL : Sta Z Z.heap "java/lang/StringUTF16" "LO_BYTE_SHIFT" "I" (.int (8 : Int32))) (O2 : Sta Z Z.heap "java/lang/String" "COMPACT_STRINGS" "Z" (.int G)) (P5 : ¬ (G = (0 : Int32))) (SS : Sta Z Z.heap "com/example/scopewarden/scopewarden/Action$Extent" "SYSTEM" "Lcom/example/scopewarden/scopewarden/Action$Extent;" (.ref eS)) (SA : Sta Z Z.heap "com/example/scopewarden/scopewarden/Action$Extent" "APP" "Lcom/example/scopewarden/scopewarden/Action$Extent;" (.ref eA)) (SN : Sta Z Z.heap "com/example/scopewarden/scopewarden/Action$Extent" "NAMESPACE" "Lcom/example/scopewarden/scopewarden/Action$Extent;" (.ref eN)) :
    MetFree l x (head1 (Jvm.Cond.code x code maxLocals ret :: ws) room_1) (fun a9 U => a9 = #[(.int p0), (.int p1), (.int p2), (.int p3), (.int p4), (.int p5)] ∧ Z.Warmed39 U.vm ∧ U.heap = h0 ∧ CHv Z consts_1 U.vm h0 ∧ ∀ x9 ∈ ([] : List Addr), Safe Z consts_1 U.vm h0 x9) (fun _ _ _ _ _ => True) (fun _ U o U' => ∃ v L, o = .returned v ∧ own_Q_law Z  h0 n0 v U'.heap L ∧ CHr Z consts_1 U.vm U.heap U'.vm U'.heap ∧ ReturnedEndW U o U' L 32 1152) := by
  refine MetFree.of_bodySF (plainFor_of_name own_pn2) hisR ?_
  intro p e s m args below meth c s₁ Bd hml0 hP hK
  obtain ⟨rfl, hZ, hh, Hc, Hs⟩ := hP
  have hx := Bd.exec
  have hby := Bd.bytes
  have hml : c.maxLocals = 14 := hml0
  have hown : s.vm.findClass "com/example/scopewarden/scopewarden/ExtentOfPinLaw" = some m.cls := findClass_of_methodNamed Bd.named
  have hnm := (name_of_methodNamed Bd.named Bd.method).1
  have hlk : meth.locks = false := Bd.notSynchronized
  have X0 : Stand p l e room_1 (s.setVm s.vm) m #[(.int p0), (.int p1), (.int p2), (.int p3), (.int p4), (.int p5)] below meth c s₁ [] 0 0 := Stand.of_body Bd
  have e0 : s₁.heap = h0 := by rw [← hh, Bd.state]; rfl
  have N0 := Fr.nil n0
  have hS : s.Since s.vm h0.size := (State.WarmedH.refl s).since _
  have hk : h0.size ≤ h0.size := Nat.le_refl _
  have Hr : CHr Z consts_1 s.vm h0 s.vm h0 := CHr.refl Hc
  skip
  show own_GoW p e below s Z consts_1 (own_Q_law Z  h0 n0) 32 1152 (s₁.setTop (entryFrame m #[(.int p0), (.int p1), (.int p2), (.int p3), (.int p4), (.int p5)] maxLocals))
  refine own_stW (fun t9 k9 => castTop (own_ef_law m p0 p1 p2 p3 p4 p5) k9) ?_
  show own_GoW p e below s Z consts_1 _ _ _ (s₁.setTop (mkF m 0 #[.val (.int p0), .val (.int p1), .val (.int p2), .val (.int p3), .val (.int p4), .val (.int p5), .unset, .unset, .unset, .unset, .unset, .unset, .unset, .unset] []))
  refine own_stW (fun t9 k9 => XS.iloadN X0.here hx rfl (hb hby at_0) rfl  k9) ?_
  show own_GoW p e below s Z consts_1 _ _ _ (s₁.setTop (mkF m 1 #[.val (.int p0), .val (.int p1), .val (.int p2), .val (.int p3), .val (.int p4), .val (.int p5), .unset, .unset, .unset, .unset, .unset, .unset, .unset, .unset] [(.int p0)]))
  refine own_stW (fun t9 k9 => XS.iconst X0.here hx rfl (hb hby at_1) k9) ?_
  show own_GoW p e below s Z consts_1 _ _ _ (s₁.setTop (mkF m 2 #[.val (.int p0), .val (.int p1), .val (.int p2), .val (.int p3), .val (.int p4), .val (.int p5), .unset, .unset, .unset, .unset, .unset, .unset, .unset, .unset] [(.int (1 : Int32)), (.int p0)]))
  refine own_stW (fun t9 k9 => XS.iand X0.here hx rfl (hb hby at_2) rfl k9) ?_
  show own_GoW p e below s Z consts_1 _ _ _ (s₁.setTop (mkF m 3 #[.val (.int p0), .val (.int p1), .val (.int p2), .val (.int p3), .val (.int p4), .val (.int p5), .unset, .unset, .unset, .unset, .unset, .unset, .unset, .unset] [(.int (p0 &&& (1 : Int32)))]))
  by_cases f1 : (p0 &&& (1 : Int32)) = (0 : Int32)
  · skip
    refine own_stW (fun t9 k9 => XS.ifNo X0.here hx rfl (hb hby at_3) rfl ((if0 _ _).trans (teq (f1 : (p0 &&& (1 : Int32)) = (0 : Int32))).2) k9) ?_
    show own_GoW p e below s Z consts_1 _ _ _ (s₁.setTop (mkF m 6 #[.val (.int p0), .val (.int p1), .val (.int p2), .val (.int p3), .val (.int p4), .val (.int p5), .unset, .unset, .unset, .unset, .unset, .unset, .unset, .unset] []))
    refine own_stW (fun t9 k9 => XS.iconst X0.here hx rfl (hb hby at_6) k9) ?_
    show own_GoW p e below s Z consts_1 _ _ _ (s₁.setTop (mkF m 7 #[.val (.int p0), .val (.int p1), .val (.int p2), .val (.int p3), .val (.int p4), .val (.int p5), .unset, .unset, .unset, .unset, .unset, .unset, .unset, .unset] [(.int (1 : Int32))]))
    refine own_stW (fun t9 k9 => XS.goto X0.here hx rfl (pc0 := 7) (pc' := 11) rfl (hb hby at_7) (by decide) (by decide) k9) ?_
    show own_GoW p e below s Z consts_1 _ _ _ (s₁.setTop (mkF m 11 #[.val (.int p0), .val (.int p1), .val (.int p2), .val (.int p3), .val (.int p4), .val (.int p5), .unset, .unset, .unset, .unset, .unset, .unset, .unset, .unset] [(.int (1 : Int32))]))
    refine own_stW (fun t9 k9 => XS.istore X0.here hx rfl (hb hby at_11) rfl (l' := #[.val (.int p0), .val (.int p1), .val (.int p2), .val (.int p3), .val (.int p4), .val (.int p5), .val (.int (1 : Int32)), .unset, .unset, .unset, .unset, .unset, .unset, .unset]) rfl k9) ?_
    show own_GoW p e below s Z consts_1 _ _ _ (s₁.setTop (mkF m 13 #[.val (.int p0), .val (.int p1), .val (.int p2), .val (.int p3), .val (.int p4), .val (.int p5), .val (.int (1 : Int32)), .unset, .unset, .unset, .unset, .unset, .unset, .unset] []))
    refine own_stW (fun t9 k9 => XS.iloadN X0.here hx rfl (hb hby at_13) rfl  k9) ?_
    show own_GoW p e below s Z consts_1 _ _ _ (s₁.setTop (mkF m 14 #[.val (.int p0), .val (.int p1), .val (.int p2), .val (.int p3), .val (.int p4), .val (.int p5), .val (.int (1 : Int32)), .unset, .unset, .unset, .unset, .unset, .unset, .unset] [(.int p0)]))
    refine own_stW (fun t9 k9 => XS.iconst X0.here hx rfl (hb hby at_14) k9) ?_
    show own_GoW p e below s Z consts_1 _ _ _ (s₁.setTop (mkF m 15 #[.val (.int p0), .val (.int p1), .val (.int p2), .val (.int p3), .val (.int p4), .val (.int p5), .val (.int (1 : Int32)), .unset, .unset, .unset, .unset, .unset, .unset, .unset] [(.int (2 : Int32)), (.int p0)]))
    refine own_stW (fun t9 k9 => XS.iand X0.here hx rfl (hb hby at_15) rfl k9) ?_
    show own_GoW p e below s Z consts_1 _ _ _ (s₁.setTop (mkF m 16 #[.val (.int p0), .val (.int p1), .val (.int p2), .val (.int p3), .val (.int p4), .val (.int p5), .val (.int (1 : Int32)), .unset, .unset, .unset, .unset, .unset, .unset, .unset] [(.int (p0 &&& (2 : Int32)))]))
    by_cases f2 : (p0 &&& (2 : Int32)) = (0 : Int32)
    · skip
      refine own_stW (fun t9 k9 => XS.ifNo X0.here hx rfl (hb hby at_16) rfl ((if0 _ _).trans (teq (f2 : (p0 &&& (2 : Int32)) = (0 : Int32))).2) k9) ?_
      show own_GoW p e below s Z consts_1 _ _ _ (s₁.setTop (mkF m 19 #[.val (.int p0), .val (.int p1), .val (.int p2), .val (.int p3), .val (.int p4), .val (.int p5), .val (.int (1 : Int32)), .unset, .unset, .unset, .unset, .unset, .unset, .unset] []))
      refine own_stW (fun t9 k9 => XS.iconst X0.here hx rfl (hb hby at_19) k9) ?_
      show own_GoW p e below s Z consts_1 _ _ _ (s₁.setTop (mkF m 20 #[.val (.int p0), .val (.int p1), .val (.int p2), .val (.int p3), .val (.int p4), .val (.int p5), .val (.int (1 : Int32)), .unset, .unset, .unset, .unset, .unset, .unset, .unset] [(.int (1 : Int32))]))
      refine own_stW (fun t9 k9 => XS.goto X0.here hx rfl (pc0 := 20) (pc' := 24) rfl (hb hby at_20) (by decide) (by decide) k9) ?_
      show own_GoW p e below s Z consts_1 _ _ _ (s₁.setTop (mkF m 24 #[.val (.int p0), .val (.int p1), .val (.int p2), .val (.int p3), .val (.int p4), .val (.int p5), .val (.int (1 : Int32)), .unset, .unset, .unset, .unset, .unset, .unset, .unset] [(.int (1 : Int32))]))
      refine own_stW (fun t9 k9 => XS.istore X0.here hx rfl (hb hby at_24) rfl (l' := #[.val (.int p0), .val (.int p1), .val (.int p2), .val (.int p3), .val (.int p4), .val (.int p5), .val (.int (1 : Int32)), .val (.int (1 : Int32)), .unset, .unset, .unset, .unset, .unset, .unset]) rfl k9) ?_
      show own_GoW p e below s Z consts_1 _ _ _ (s₁.setTop (mkF m 26 #[.val (.int p0), .val (.int p1), .val (.int p2), .val (.int p3), .val (.int p4), .val (.int p5), .val (.int (1 : Int32)), .val (.int (1 : Int32)), .unset, .unset, .unset, .unset, .unset, .unset] []))
      refine own_stW (fun t9 k9 => XS.iloadN X0.here hx rfl (hb hby at_26) rfl  k9) ?_
      show own_GoW p e below s Z consts_1 _ _ _ (s₁.setTop (mkF m 27 #[.val (.int p0), .val (.int p1), .val (.int p2), .val (.int p3), .val (.int p4), .val (.int p5), .val (.int (1 : Int32)), .val (.int (1 : Int32)), .unset, .unset, .unset, .unset, .unset, .unset] [(.int p1)]))
      refine own_stW (fun t9 k9 => XS.iloadN X0.here hx rfl (hb hby at_27) rfl  k9) ?_
      show own_GoW p e below s Z consts_1 _ _ _ (s₁.setTop (mkF m 28 #[.val (.int p0), .val (.int p1), .val (.int p2), .val (.int p3), .val (.int p4), .val (.int p5), .val (.int (1 : Int32)), .val (.int (1 : Int32)), .unset, .unset, .unset, .unset, .unset, .unset] [(.int p2), (.int p1)]))
      refine own_stW (fun t9 k9 => XS.iload X0.here hx rfl (hb hby at_28) rfl  k9) ?_
      show own_GoW p e below s Z consts_1 _ _ _ (s₁.setTop (mkF m 30 #[.val (.int p0), .val (.int p1), .val (.int p2), .val (.int p3), .val (.int p4), .val (.int p5), .val (.int (1 : Int32)), .val (.int (1 : Int32)), .unset, .unset, .unset, .unset, .unset, .unset] [(.int p5), (.int p2), (.int p1)]))
      refine own_stW (fun t9 k9 => XS.sipush X0.here hx rfl (hb hby at_30) k9) ?_
      show own_GoW p e below s Z consts_1 _ _ _ (s₁.setTop (mkF m 33 #[.val (.int p0), .val (.int p1), .val (.int p2), .val (.int p3), .val (.int p4), .val (.int p5), .val (.int (1 : Int32)), .val (.int (1 : Int32)), .unset, .unset, .unset, .unset, .unset, .unset] [(.int (255 : Int32)), (.int p5), (.int p2), (.int p1)]))
      refine own_stW (fun t9 k9 => XS.iand X0.here hx rfl (hb hby at_33) rfl k9) ?_
      show own_GoW p e below s Z consts_1 _ _ _ (s₁.setTop (mkF m 34 #[.val (.int p0), .val (.int p1), .val (.int p2), .val (.int p3), .val (.int p4), .val (.int p5), .val (.int (1 : Int32)), .val (.int (1 : Int32)), .unset, .unset, .unset, .unset, .unset, .unset] [(.int (p5 &&& (255 : Int32))), (.int p2), (.int p1)]))
      obtain ⟨_, T69, h69, L69, X69, e69, ⟨Nc, Kc, x, rfl, gx⟩, hS69, hg69, hZ69, hown69, R69, st69⟩ := own_callSW X0 hx hZ hown hS hk (hw _ (List.mem_of_getElem? (i := 0) rfl)) (hw _ (List.mem_of_getElem? (i := 1) rfl)) (hw _ (List.mem_of_getElem? (i := 2) rfl)) (hw _ (List.mem_of_getElem? (i := 3) rfl)) (by decide) (own_payW (W := 0) (K := (fun _ _ _ _ _ => True)) (own_rm_draw l Z a0 hw hEL [] p1 p2 (p5 &&& (255 : Int32)) G h0 n0 Od OA OH OL O2 P5) (fun _ _ _ _ _ _ _ _ _ => trivial) hZ (hw _ (List.mem_of_getElem? (i := 3) rfl)) (hw _ (List.mem_of_getElem? (i := 2) rfl)) (by decide) (by decide) hEL Hr.1 own_sf0) e0 (g := (mkF m 34 #[.val (.int p0), .val (.int p1), .val (.int p2), .val (.int p3), .val (.int p4), .val (.int p5), .val (.int (1 : Int32)), .val (.int (1 : Int32)), .unset, .unset, .unset, .unset, .unset, .unset] [(.int (p5 &&& (255 : Int32))), (.int p2), (.int p1)])) rfl (by rw [hml]; rfl) (argsL := [(.int p1), (.int p2), (.int (p5 &&& (255 : Int32)))]) (rest := []) rfl (lenOf own_pd9 rfl) rfl (by show 2 * 0 + _ ≤ _; exact Nat.le_of_eq rfl) (hb hby at_34) (by decide) (by decide)
      have N69 := Fr.app N0 Nc
      have ge_x : n0 ≤ x := Nat.le_trans (own_z0 Od) gx
      have Od := Od.keep Kc all0
      have Hr := Hr.trans R69
      have hS := hS69
      have hk : h69.size ≤ h69.size := Nat.le_refl _
      have hZ := hZ69
      have hown := hown69
      refine own_stW st69 ?_
      show own_GoW p e below s Z consts_1 _ _ _ (T69.setTop (mkF m 37 #[.val (.int p0), .val (.int p1), .val (.int p2), .val (.int p3), .val (.int p4), .val (.int p5), .val (.int (1 : Int32)), .val (.int (1 : Int32)), .unset, .unset, .unset, .unset, .unset, .unset] [(.ref x)]))
      refine own_stW (fun t9 k9 => XS.astore X69.here hx rfl (hb hby at_37) rfl rfl (l' := #[.val (.int p0), .val (.int p1), .val (.int p2), .val (.int p3), .val (.int p4), .val (.int p5), .val (.int (1 : Int32)), .val (.int (1 : Int32)), .val (.ref x), .unset, .unset, .unset, .unset, .unset]) rfl k9) ?_
      show own_GoW p e below s Z consts_1 _ _ _ (T69.setTop (mkF m 39 #[.val (.int p0), .val (.int p1), .val (.int p2), .val (.int p3), .val (.int p4), .val (.int p5), .val (.int (1 : Int32)), .val (.int (1 : Int32)), .val (.ref x), .unset, .unset, .unset, .unset, .unset] []))
      refine own_stW (fun t9 k9 => XS.iloadN X69.here hx rfl (hb hby at_39) rfl  k9) ?_
      show own_GoW p e below s Z consts_1 _ _ _ (T69.setTop (mkF m 40 #[.val (.int p0), .val (.int p1), .val (.int p2), .val (.int p3), .val (.int p4), .val (.int p5), .val (.int (1 : Int32)), .val (.int (1 : Int32)), .val (.ref x), .unset, .unset, .unset, .unset, .unset] [(.int p3)]))
      refine own_stW (fun t9 k9 => XS.iload X69.here hx rfl (hb hby at_40) rfl  k9) ?_
      show own_GoW p e below s Z consts_1 _ _ _ (T69.setTop (mkF m 42 #[.val (.int p0), .val (.int p1), .val (.int p2), .val (.int p3), .val (.int p4), .val (.int p5), .val (.int (1 : Int32)), .val (.int (1 : Int32)), .val (.ref x), .unset, .unset, .unset, .unset, .unset] [(.int p4), (.int p3)]))
      refine own_stW (fun t9 k9 => XS.iload X69.here hx rfl (hb hby at_42) rfl  k9) ?_
      show own_GoW p e below s Z consts_1 _ _ _ (T69.setTop (mkF m 44 #[.val (.int p0), .val (.int p1), .val (.int p2), .val (.int p3), .val (.int p4), .val (.int p5), .val (.int (1 : Int32)), .val (.int (1 : Int32)), .val (.ref x), .unset, .unset, .unset, .unset, .unset] [(.int p5), (.int p4), (.int p3)]))
      refine own_stW (fun t9 k9 => XS.bipush X69.here hx rfl (hb hby at_44) k9) ?_
      show own_GoW p e below s Z consts_1 _ _ _ (T69.setTop (mkF m 46 #[.val (.int p0), .val (.int p1), .val (.int p2), .val (.int p3), .val (.int p4), .val (.int p5), .val (.int (1 : Int32)), .val (.int (1 : Int32)), .val (.ref x), .unset, .unset, .unset, .unset, .unset] [(.int (8 : Int32)), (.int p5), (.int p4), (.int p3)]))
      refine own_stW (fun t9 k9 => XT.iushr X69.here hx rfl (hb hby at_46) rfl k9) ?_
      show own_GoW p e below s Z consts_1 _ _ _ (T69.setTop (mkF m 47 #[.val (.int p0), .val (.int p1), .val (.int p2), .val (.int p3), .val (.int p4), .val (.int p5), .val (.int (1 : Int32)), .val (.int (1 : Int32)), .val (.ref x), .unset, .unset, .unset, .unset, .unset] [(.int ((p5.toUInt32 >>> ((8 : Int32) &&& 31).toUInt32).toInt32)), (.int p4), (.int p3)]))
      refine own_stW (fun t9 k9 => XS.sipush X69.here hx rfl (hb hby at_47) k9) ?_
      show own_GoW p e below s Z consts_1 _ _ _ (T69.setTop (mkF m 50 #[.val (.int p0), .val (.int p1), .val (.int p2), .val (.int p3), .val (.int p4), .val (.int p5), .val (.int (1 : Int32)), .val (.int (1 : Int32)), .val (.ref x), .unset, .unset, .unset, .unset, .unset] [(.int (255 : Int32)), (.int ((p5.toUInt32 >>> ((8 : Int32) &&& 31).toUInt32).toInt32)), (.int p4), (.int p3)]))
      refine own_stW (fun t9 k9 => XS.iand X69.here hx rfl (hb hby at_50) rfl k9) ?_
      show own_GoW p e below s Z consts_1 _ _ _ (T69.setTop (mkF m 51 #[.val (.int p0), .val (.int p1), .val (.int p2), .val (.int p3), .val (.int p4), .val (.int p5), .val (.int (1 : Int32)), .val (.int (1 : Int32)), .val (.ref x), .unset, .unset, .unset, .unset, .unset] [(.int (((p5.toUInt32 >>> ((8 : Int32) &&& 31).toUInt32).toInt32) &&& (255 : Int32))), (.int p4), (.int p3)]))
      obtain ⟨_, T70, h70, L70, X70, e70, ⟨Nd, Kd, y, rfl, gy⟩, hS70, hg70, hZ70, hown70, R70, st70⟩ := own_callSW X69 hx hZ hown hS hk (hw _ (List.mem_of_getElem? (i := 0) rfl)) (hw _ (List.mem_of_getElem? (i := 1) rfl)) (hw _ (List.mem_of_getElem? (i := 2) rfl)) (hw _ (List.mem_of_getElem? (i := 3) rfl)) (by decide) (own_payW (W := 0) (K := (fun _ _ _ _ _ => True)) (own_rm_draw l Z a0 hw hEL [] p3 p4 (((p5.toUInt32 >>> ((8 : Int32) &&& 31).toUInt32).toInt32) &&& (255 : Int32)) G h69 n0 Od OA OH OL O2 P5) (fun _ _ _ _ _ _ _ _ _ => trivial) hZ (hw _ (List.mem_of_getElem? (i := 3) rfl)) (hw _ (List.mem_of_getElem? (i := 2) rfl)) (by decide) (by decide) hEL Hr.1 own_sf0) e69 (g := (mkF m 51 #[.val (.int p0), .val (.int p1), .val (.int p2), .val (.int p3), .val (.int p4), .val (.int p5), .val (.int (1 : Int32)), .val (.int (1 : Int32)), .val (.ref x), .unset, .unset, .unset, .unset, .unset] [(.int (((p5.toUInt32 >>> ((8 : Int32) &&& 31).toUInt32).toInt32) &&& (255 : Int32))), (.int p4), (.int p3)])) rfl (by rw [hml]; rfl) (argsL := [(.int p3), (.int p4), (.int (((p5.toUInt32 >>> ((8 : Int32) &&& 31).toUInt32).toInt32) &&& (255 : Int32)))]) (rest := []) rfl (lenOf own_pd9 rfl) rfl (by show 2 * 0 + _ ≤ _; exact Nat.le_of_eq rfl) (hb hby at_51) (by decide) (by decide)
      have N70 := Fr.app N69 Nd
      have ge_y : n0 ≤ y := Nat.le_trans (own_z0 Od) gy
      have Od := Od.keep Kd all0
      have Hr := Hr.trans R70
      have hS := hS70
      have hk : h70.size ≤ h70.size := Nat.le_refl _
      have hZ := hZ70
      have hown := hown70
      refine own_stW st70 ?_
      show own_GoW p e below s Z consts_1 _ _ _ (T70.setTop (mkF m 54 #[.val (.int p0), .val (.int p1), .val (.int p2), .val (.int p3), .val (.int p4), .val (.int p5), .val (.int (1 : Int32)), .val (.int (1 : Int32)), .val (.ref x), .unset, .unset, .unset, .unset, .unset] [(.ref y)]))
      refine own_stW (fun t9 k9 => XS.astore X70.here hx rfl (hb hby at_54) rfl rfl (l' := #[.val (.int p0), .val (.int p1), .val (.int p2), .val (.int p3), .val (.int p4), .val (.int p5), .val (.int (1 : Int32)), .val (.int (1 : Int32)), .val (.ref x), .val (.ref y), .unset, .unset, .unset, .unset]) rfl k9) ?_
      show own_GoW p e below s Z consts_1 _ _ _ (T70.setTop (mkF m 56 #[.val (.int p0), .val (.int p1), .val (.int p2), .val (.int p3), .val (.int p4), .val (.int p5), .val (.int (1 : Int32)), .val (.int (1 : Int32)), .val (.ref x), .val (.ref y), .unset, .unset, .unset, .unset] []))
      refine own_stW (fun t9 k9 => XS.iload X70.here hx rfl (hb hby at_56) rfl  k9) ?_
      show own_GoW p e below s Z consts_1 _ _ _ (T70.setTop (mkF m 58 #[.val (.int p0), .val (.int p1), .val (.int p2), .val (.int p3), .val (.int p4), .val (.int p5), .val (.int (1 : Int32)), .val (.int (1 : Int32)), .val (.ref x), .val (.ref y), .unset, .unset, .unset, .unset] [(.int (1 : Int32))]))
      refine own_stW (fun t9 k9 => XS.ifNo X70.here hx rfl (hb hby at_58) rfl (by decide) k9) ?_
      show own_GoW p e below s Z consts_1 _ _ _ (T70.setTop (mkF m 61 #[.val (.int p0), .val (.int p1), .val (.int p2), .val (.int p3), .val (.int p4), .val (.int p5), .val (.int (1 : Int32)), .val (.int (1 : Int32)), .val (.ref x), .val (.ref y), .unset, .unset, .unset, .unset] []))
      refine own_stW (fun t9 k9 => XS.aload X70.here hx rfl (hb hby at_61) rfl rfl k9) ?_
      show own_GoW p e below s Z consts_1 _ _ _ (T70.setTop (mkF m 63 #[.val (.int p0), .val (.int p1), .val (.int p2), .val (.int p3), .val (.int p4), .val (.int p5), .val (.int (1 : Int32)), .val (.int (1 : Int32)), .val (.ref x), .val (.ref y), .unset, .unset, .unset, .unset] [(.ref x)]))
      refine own_stW (fun t9 k9 => XS.goto X70.here hx rfl (pc0 := 63) (pc' := 67) rfl (hb hby at_63) (by decide) (by decide) k9) ?_
      show own_GoW p e below s Z consts_1 _ _ _ (T70.setTop (mkF m 67 #[.val (.int p0), .val (.int p1), .val (.int p2), .val (.int p3), .val (.int p4), .val (.int p5), .val (.int (1 : Int32)), .val (.int (1 : Int32)), .val (.ref x), .val (.ref y), .unset, .unset, .unset, .unset] [(.ref x)]))
      refine own_stW (fun t9 k9 => XS.astore X70.here hx rfl (hb hby at_67) rfl rfl (l' := #[.val (.int p0), .val (.int p1), .val (.int p2), .val (.int p3), .val (.int p4), .val (.int p5), .val (.int (1 : Int32)), .val (.int (1 : Int32)), .val (.ref x), .val (.ref y), .val (.ref x), .unset, .unset, .unset]) rfl k9) ?_
      show own_GoW p e below s Z consts_1 _ _ _ (T70.setTop (mkF m 69 #[.val (.int p0), .val (.int p1), .val (.int p2), .val (.int p3), .val (.int p4), .val (.int p5), .val (.int (1 : Int32)), .val (.int (1 : Int32)), .val (.ref x), .val (.ref y), .val (.ref x), .unset, .unset, .unset] []))
      refine own_stW (fun t9 k9 => XS.iload X70.here hx rfl (hb hby at_69) rfl  k9) ?_
      show own_GoW p e below s Z consts_1 _ _ _ (T70.setTop (mkF m 71 #[.val (.int p0), .val (.int p1), .val (.int p2), .val (.int p3), .val (.int p4), .val (.int p5), .val (.int (1 : Int32)), .val (.int (1 : Int32)), .val (.ref x), .val (.ref y), .val (.ref x), .unset, .unset, .unset] [(.int (1 : Int32))]))
      refine own_stW (fun t9 k9 => XS.ifNo X70.here hx rfl (hb hby at_71) rfl (by decide) k9) ?_
      show own_GoW p e below s Z consts_1 _ _ _ (T70.setTop (mkF m 74 #[.val (.int p0), .val (.int p1), .val (.int p2), .val (.int p3), .val (.int p4), .val (.int p5), .val (.int (1 : Int32)), .val (.int (1 : Int32)), .val (.ref x), .val (.ref y), .val (.ref x), .unset, .unset, .unset] []))
      refine own_stW (fun t9 k9 => XS.aload X70.here hx rfl (hb hby at_74) rfl rfl k9) ?_
      show own_GoW p e below s Z consts_1 _ _ _ (T70.setTop (mkF m 76 #[.val (.int p0), .val (.int p1), .val (.int p2), .val (.int p3), .val (.int p4), .val (.int p5), .val (.int (1 : Int32)), .val (.int (1 : Int32)), .val (.ref x), .val (.ref y), .val (.ref x), .unset, .unset, .unset] [(.ref y)]))
      refine own_stW (fun t9 k9 => XS.goto X70.here hx rfl (pc0 := 76) (pc' := 80) rfl (hb hby at_76) (by decide) (by decide) k9) ?_
      show own_GoW p e below s Z consts_1 _ _ _ (T70.setTop (mkF m 80 #[.val (.int p0), .val (.int p1), .val (.int p2), .val (.int p3), .val (.int p4), .val (.int p5), .val (.int (1 : Int32)), .val (.int (1 : Int32)), .val (.ref x), .val (.ref y), .val (.ref x), .unset, .unset, .unset] [(.ref y)]))
      refine own_stW (fun t9 k9 => XS.astore X70.here hx rfl (hb hby at_80) rfl rfl (l' := #[.val (.int p0), .val (.int p1), .val (.int p2), .val (.int p3), .val (.int p4), .val (.int p5), .val (.int (1 : Int32)), .val (.int (1 : Int32)), .val (.ref x), .val (.ref y), .val (.ref x), .val (.ref y), .unset, .unset]) rfl k9) ?_
      show own_GoW p e below s Z consts_1 _ _ _ (T70.setTop (mkF m 82 #[.val (.int p0), .val (.int p1), .val (.int p2), .val (.int p3), .val (.int p4), .val (.int p5), .val (.int (1 : Int32)), .val (.int (1 : Int32)), .val (.ref x), .val (.ref y), .val (.ref x), .val (.ref y), .unset, .unset] []))
      refine own_stW (fun t9 k9 => XS.iload X70.here hx rfl (hb hby at_82) rfl  k9) ?_
      show own_GoW p e below s Z consts_1 _ _ _ (T70.setTop (mkF m 84 #[.val (.int p0), .val (.int p1), .val (.int p2), .val (.int p3), .val (.int p4), .val (.int p5), .val (.int (1 : Int32)), .val (.int (1 : Int32)), .val (.ref x), .val (.ref y), .val (.ref x), .val (.ref y), .unset, .unset] [(.int (1 : Int32))]))
      refine own_stW (fun t9 k9 => XS.ifYes X70.here hx rfl (pc0 := 84) (pc' := 95) rfl (hb hby at_84) rfl (by decide) (by decide) (by decide) k9) ?_
      show own_GoW p e below s Z consts_1 _ _ _ (T70.setTop (mkF m 95 #[.val (.int p0), .val (.int p1), .val (.int p2), .val (.int p3), .val (.int p4), .val (.int p5), .val (.int (1 : Int32)), .val (.int (1 : Int32)), .val (.ref x), .val (.ref y), .val (.ref x), .val (.ref y), .unset, .unset] []))
      refine own_stW (fun t9 k9 => XS.iload X70.here hx rfl (hb hby at_95) rfl  k9) ?_
      show own_GoW p e below s Z consts_1 _ _ _ (T70.setTop (mkF m 97 #[.val (.int p0), .val (.int p1), .val (.int p2), .val (.int p3), .val (.int p4), .val (.int p5), .val (.int (1 : Int32)), .val (.int (1 : Int32)), .val (.ref x), .val (.ref y), .val (.ref x), .val (.ref y), .unset, .unset] [(.int (1 : Int32))]))
      refine own_stW (fun t9 k9 => XS.ifYes X70.here hx rfl (pc0 := 97) (pc' := 108) rfl (hb hby at_97) rfl (by decide) (by decide) (by decide) k9) ?_
      show own_GoW p e below s Z consts_1 _ _ _ (T70.setTop (mkF m 108 #[.val (.int p0), .val (.int p1), .val (.int p2), .val (.int p3), .val (.int p4), .val (.int p5), .val (.int (1 : Int32)), .val (.int (1 : Int32)), .val (.ref x), .val (.ref y), .val (.ref x), .val (.ref y), .unset, .unset] []))
      obtain ⟨T71, X71, e71, st71⟩ := getS (host := "") X70 hx hZ hown (hw _ (List.mem_of_getElem? (i := 27) rfl)) Via.refl e70 (SN.ext Od.2) (g := (mkF m 108 #[.val (.int p0), .val (.int p1), .val (.int p2), .val (.int p3), .val (.int p4), .val (.int p5), .val (.int (1 : Int32)), .val (.int (1 : Int32)), .val (.ref x), .val (.ref y), .val (.ref x), .val (.ref y), .unset, .unset] [])) rfl (hb hby at_108)
      refine own_stW st71 ?_
      show own_GoW p e below s Z consts_1 _ _ _ (T71.setTop (mkF m 111 #[.val (.int p0), .val (.int p1), .val (.int p2), .val (.int p3), .val (.int p4), .val (.int p5), .val (.int (1 : Int32)), .val (.int (1 : Int32)), .val (.ref x), .val (.ref y), .val (.ref x), .val (.ref y), .unset, .unset] [(.ref eN)]))
      refine own_stW (fun t9 k9 => XS.astore X71.here hx rfl (hb hby at_111) rfl rfl (l' := #[.val (.int p0), .val (.int p1), .val (.int p2), .val (.int p3), .val (.int p4), .val (.int p5), .val (.int (1 : Int32)), .val (.int (1 : Int32)), .val (.ref x), .val (.ref y), .val (.ref x), .val (.ref y), .val (.ref eN), .unset]) rfl k9) ?_
      show own_GoW p e below s Z consts_1 _ _ _ (T71.setTop (mkF m 113 #[.val (.int p0), .val (.int p1), .val (.int p2), .val (.int p3), .val (.int p4), .val (.int p5), .val (.int (1 : Int32)), .val (.int (1 : Int32)), .val (.ref x), .val (.ref y), .val (.ref x), .val (.ref y), .val (.ref eN), .unset] []))
      refine own_stW (fun t9 k9 => XS.aload X71.here hx rfl (hb hby at_113) rfl rfl k9) ?_
      show own_GoW p e below s Z consts_1 _ _ _ (T71.setTop (mkF m 115 #[.val (.int p0), .val (.int p1), .val (.int p2), .val (.int p3), .val (.int p4), .val (.int p5), .val (.int (1 : Int32)), .val (.int (1 : Int32)), .val (.ref x), .val (.ref y), .val (.ref x), .val (.ref y), .val (.ref eN), .unset] [(.ref x)]))
      refine own_stW (fun t9 k9 => XS.aload X71.here hx rfl (hb hby at_115) rfl rfl k9) ?_
      show own_GoW p e below s Z consts_1 _ _ _ (T71.setTop (mkF m 117 #[.val (.int p0), .val (.int p1), .val (.int p2), .val (.int p3), .val (.int p4), .val (.int p5), .val (.int (1 : Int32)), .val (.int (1 : Int32)), .val (.ref x), .val (.ref y), .val (.ref x), .val (.ref y), .val (.ref eN), .unset] [(.ref y), (.ref x)]))
      obtain ⟨_, T72, h72, L72, X72, e72, ⟨rfl, Nq, hu⟩, st72⟩ := own_callS X71 hx hZ hown (hw _ (List.mem_of_getElem? (i := 30) rfl)) (hw _ (List.mem_of_getElem? (i := 31) rfl)) (hw _ (List.mem_of_getElem? (i := 28) rfl)) (hw _ (List.mem_of_getElem? (i := 32) rfl)) (by decide) (own_rm_ofRR l Z a0 hw [] x y eS eA eN h70 n0 Od SS SA SN) (by decide) (by decide) e71 (W := 0) (g := (mkF m 117 #[.val (.int p0), .val (.int p1), .val (.int p2), .val (.int p3), .val (.int p4), .val (.int p5), .val (.int (1 : Int32)), .val (.int (1 : Int32)), .val (.ref x), .val (.ref y), .val (.ref x), .val (.ref y), .val (.ref eN), .unset] [(.ref y), (.ref x)])) rfl (by rw [hml]; rfl) (argsL := [(.ref x), (.ref y)]) (rest := []) rfl (lenOf own_pd10 rfl) rfl (by show 2 * 0 + _ ≤ _; exact Nat.le_of_eq rfl) (hb hby at_117) (by decide) (by decide)
      have N72 := Fr.app N70 Nq
      refine own_stW st72 ?_
      show own_GoW p e below s Z consts_1 _ _ _ (T72.setTop (mkF m 120 #[.val (.int p0), .val (.int p1), .val (.int p2), .val (.int p3), .val (.int p4), .val (.int p5), .val (.int (1 : Int32)), .val (.int (1 : Int32)), .val (.ref x), .val (.ref y), .val (.ref x), .val (.ref y), .val (.ref eN), .unset] [(.ref eN)]))
      refine own_stW (fun t9 k9 => XS.astore X72.here hx rfl (hb hby at_120) rfl rfl (l' := #[.val (.int p0), .val (.int p1), .val (.int p2), .val (.int p3), .val (.int p4), .val (.int p5), .val (.int (1 : Int32)), .val (.int (1 : Int32)), .val (.ref x), .val (.ref y), .val (.ref x), .val (.ref y), .val (.ref eN), .val (.ref eN)]) rfl k9) ?_
      show own_GoW p e below s Z consts_1 _ _ _ (T72.setTop (mkF m 122 #[.val (.int p0), .val (.int p1), .val (.int p2), .val (.int p3), .val (.int p4), .val (.int p5), .val (.int (1 : Int32)), .val (.int (1 : Int32)), .val (.ref x), .val (.ref y), .val (.ref x), .val (.ref y), .val (.ref eN), .val (.ref eN)] []))
      refine own_stW (fun t9 k9 => XS.aload X72.here hx rfl (hb hby at_122) rfl rfl k9) ?_
      show own_GoW p e below s Z consts_1 _ _ _ (T72.setTop (mkF m 124 #[.val (.int p0), .val (.int p1), .val (.int p2), .val (.int p3), .val (.int p4), .val (.int p5), .val (.int (1 : Int32)), .val (.int (1 : Int32)), .val (.ref x), .val (.ref y), .val (.ref x), .val (.ref y), .val (.ref eN), .val (.ref eN)] [(.ref eN)]))
      refine own_stW (fun t9 k9 => XS.aload X72.here hx rfl (hb hby at_124) rfl rfl k9) ?_
      show own_GoW p e below s Z consts_1 _ _ _ (T72.setTop (mkF m 126 #[.val (.int p0), .val (.int p1), .val (.int p2), .val (.int p3), .val (.int p4), .val (.int p5), .val (.int (1 : Int32)), .val (.int (1 : Int32)), .val (.ref x), .val (.ref y), .val (.ref x), .val (.ref y), .val (.ref eN), .val (.ref eN)] [(.ref eN), (.ref eN)]))
      refine own_stW (fun t9 k9 => XT.acmpNo X72.here hx rfl (hb hby at_126) rfl rfl rfl (by simp [XT.acmp]) k9) ?_
      show own_GoW p e below s Z consts_1 _ _ _ (T72.setTop (mkF m 129 #[.val (.int p0), .val (.int p1), .val (.int p2), .val (.int p3), .val (.int p4), .val (.int p5), .val (.int (1 : Int32)), .val (.int (1 : Int32)), .val (.ref x), .val (.ref y), .val (.ref x), .val (.ref y), .val (.ref eN), .val (.ref eN)] []))
      refine own_stW (fun t9 k9 => XS.iconst X72.here hx rfl (hb hby at_129) k9) ?_
      show own_GoW p e below s Z consts_1 _ _ _ (T72.setTop (mkF m 130 #[.val (.int p0), .val (.int p1), .val (.int p2), .val (.int p3), .val (.int p4), .val (.int p5), .val (.int (1 : Int32)), .val (.int (1 : Int32)), .val (.ref x), .val (.ref y), .val (.ref x), .val (.ref y), .val (.ref eN), .val (.ref eN)] [(.int (1 : Int32))]))
      refine own_stW (fun t9 k9 => XS.goto X72.here hx rfl (pc0 := 130) (pc' := 134) rfl (hb hby at_130) (by decide) (by decide) k9) ?_
      show own_GoW p e below s Z consts_1 _ _ _ (T72.setTop (mkF m 134 #[.val (.int p0), .val (.int p1), .val (.int p2), .val (.int p3), .val (.int p4), .val (.int p5), .val (.int (1 : Int32)), .val (.int (1 : Int32)), .val (.ref x), .val (.ref y), .val (.ref x), .val (.ref y), .val (.ref eN), .val (.ref eN)] [(.int (1 : Int32))]))
      exact own_retNW X72 hx hlk hS (by rw [(e72.trans hu)]; exact hk) hZ hEL (by rw [hh, (e72.trans hu)]; exact Hr) (t := .boolean) Bd.returns (by simp) (hb hby at_134) (by decide) (by decide) (by rw [(e72.trans hu)]; exact ⟨rfl, N72⟩)
    · skip
      refine own_stW (fun t9 k9 => XS.ifYes X0.here hx rfl (pc0 := 16) (pc' := 23) rfl (hb hby at_16) rfl ((if0 _ _).trans (feq (f2 : ¬ ((p0 &&& (2 : Int32)) = (0 : Int32)))).2) (by decide) (by decide) k9) ?_
      show own_GoW p e below s Z consts_1 _ _ _ (s₁.setTop (mkF m 23 #[.val (.int p0), .val (.int p1), .val (.int p2), .val (.int p3), .val (.int p4), .val (.int p5), .val (.int (1 : Int32)), .unset, .unset, .unset, .unset, .unset, .unset, .unset] []))
      refine own_stW (fun t9 k9 => XS.iconst X0.here hx rfl (hb hby at_23) k9) ?_
      show own_GoW p e below s Z consts_1 _ _ _ (s₁.setTop (mkF m 24 #[.val (.int p0), .val (.int p1), .val (.int p2), .val (.int p3), .val (.int p4), .val (.int p5), .val (.int (1 : Int32)), .unset, .unset, .unset, .unset, .unset, .unset, .unset] [(.int (0 : Int32))]))
      refine own_stW (fun t9 k9 => XS.istore X0.here hx rfl (hb hby at_24) rfl (l' := #[.val (.int p0), .val (.int p1), .val (.int p2), .val (.int p3), .val (.int p4), .val (.int p5), .val (.int (1 : Int32)), .val (.int (0 : Int32)), .unset, .unset, .unset, .unset, .unset, .unset]) rfl k9) ?_
      show own_GoW p e below s Z consts_1 _ _ _ (s₁.setTop (mkF m 26 #[.val (.int p0), .val (.int p1), .val (.int p2), .val (.int p3), .val (.int p4), .val (.int p5), .val (.int (1 : Int32)), .val (.int (0 : Int32)), .unset, .unset, .unset, .unset, .unset, .unset] []))
      refine own_stW (fun t9 k9 => XS.iloadN X0.here hx rfl (hb hby at_26) rfl  k9) ?_
      show own_GoW p e below s Z consts_1 _ _ _ (s₁.setTop (mkF m 27 #[.val (.int p0), .val (.int p1), .val (.int p2), .val (.int p3), .val (.int p4), .val (.int p5), .val (.int (1 : Int32)), .val (.int (0 : Int32)), .unset, .unset, .unset, .unset, .unset, .unset] [(.int p1)]))
      refine own_stW (fun t9 k9 => XS.iloadN X0.here hx rfl (hb hby at_27) rfl  k9) ?_
      show own_GoW p e below s Z consts_1 _ _ _ (s₁.setTop (mkF m 28 #[.val (.int p0), .val (.int p1), .val (.int p2), .val (.int p3), .val (.int p4), .val (.int p5), .val (.int (1 : Int32)), .val (.int (0 : Int32)), .unset, .unset, .unset, .unset, .unset, .unset] [(.int p2), (.int p1)]))
      refine own_stW (fun t9 k9 => XS.iload X0.here hx rfl (hb hby at_28) rfl  k9) ?_
      show own_GoW p e below s Z consts_1 _ _ _ (s₁.setTop (mkF m 30 #[.val (.int p0), .val (.int p1), .val (.int p2), .val (.int p3), .val (.int p4), .val (.int p5), .val (.int (1 : Int32)), .val (.int (0 : Int32)), .unset, .unset, .unset, .unset, .unset, .unset] [(.int p5), (.int p2), (.int p1)]))
      refine own_stW (fun t9 k9 => XS.sipush X0.here hx rfl (hb hby at_30) k9) ?_
      show own_GoW p e below s Z consts_1 _ _ _ (s₁.setTop (mkF m 33 #[.val (.int p0), .val (.int p1), .val (.int p2), .val (.int p3), .val (.int p4), .val (.int p5), .val (.int (1 : Int32)), .val (.int (0 : Int32)), .unset, .unset, .unset, .unset, .unset, .unset] [(.int (255 : Int32)), (.int p5), (.int p2), (.int p1)]))
      refine own_stW (fun t9 k9 => XS.iand X0.here hx rfl (hb hby at_33) rfl k9) ?_
      show own_GoW p e below s Z consts_1 _ _ _ (s₁.setTop (mkF m 34 #[.val (.int p0), .val (.int p1), .val (.int p2), .val (.int p3), .val (.int p4), .val (.int p5), .val (.int (1 : Int32)), .val (.int (0 : Int32)), .unset, .unset, .unset, .unset, .unset, .unset] [(.int (p5 &&& (255 : Int32))), (.int p2), (.int p1)]))
      obtain ⟨_, T73, h73, L73, X73, e73, ⟨Nc, Kc, x, rfl, gx⟩, hS73, hg73, hZ73, hown73, R73, st73⟩ := own_callSW X0 hx hZ hown hS hk (hw _ (List.mem_of_getElem? (i := 0) rfl)) (hw _ (List.mem_of_getElem? (i := 1) rfl)) (hw _ (List.mem_of_getElem? (i := 2) rfl)) (hw _ (List.mem_of_getElem? (i := 3) rfl)) (by decide) (own_payW (W := 0) (K := (fun _ _ _ _ _ => True)) (own_rm_draw l Z a0 hw hEL [] p1 p2 (p5 &&& (255 : Int32)) G h0 n0 Od OA OH OL O2 P5) (fun _ _ _ _ _ _ _ _ _ => trivial) hZ (hw _ (List.mem_of_getElem? (i := 3) rfl)) (hw _ (List.mem_of_getElem? (i := 2) rfl)) (by decide) (by decide) hEL Hr.1 own_sf0) e0 (g := (mkF m 34 #[.val (.int p0), .val (.int p1), .val (.int p2), .val (.int p3), .val (.int p4), .val (.int p5), .val (.int (1 : Int32)), .val (.int (0 : Int32)), .unset, .unset, .unset, .unset, .unset, .unset] [(.int (p5 &&& (255 : Int32))), (.int p2), (.int p1)])) rfl (by rw [hml]; rfl) (argsL := [(.int p1), (.int p2), (.int (p5 &&& (255 : Int32)))]) (rest := []) rfl (lenOf own_pd9 rfl) rfl (by show 2 * 0 + _ ≤ _; exact Nat.le_of_eq rfl) (hb hby at_34) (by decide) (by decide)
      have N73 := Fr.app N0 Nc
      have ge_x : n0 ≤ x := Nat.le_trans (own_z0 Od) gx
      have Od := Od.keep Kc all0
      have Hr := Hr.trans R73
      have hS := hS73
      have hk : h73.size ≤ h73.size := Nat.le_refl _
      have hZ := hZ73
      have hown := hown73
      refine own_stW st73 ?_
      show own_GoW p e below s Z consts_1 _ _ _ (T73.setTop (mkF m 37 #[.val (.int p0), .val (.int p1), .val (.int p2), .val (.int p3), .val (.int p4), .val (.int p5), .val (.int (1 : Int32)), .val (.int (0 : Int32)), .unset, .unset, .unset, .unset, .unset, .unset] [(.ref x)]))
      refine own_stW (fun t9 k9 => XS.astore X73.here hx rfl (hb hby at_37) rfl rfl (l' := #[.val (.int p0), .val (.int p1), .val (.int p2), .val (.int p3), .val (.int p4), .val (.int p5), .val (.int (1 : Int32)), .val (.int (0 : Int32)), .val (.ref x), .unset, .unset, .unset, .unset, .unset]) rfl k9) ?_
      show own_GoW p e below s Z consts_1 _ _ _ (T73.setTop (mkF m 39 #[.val (.int p0), .val (.int p1), .val (.int p2), .val (.int p3), .val (.int p4), .val (.int p5), .val (.int (1 : Int32)), .val (.int (0 : Int32)), .val (.ref x), .unset, .unset, .unset, .unset, .unset] []))
      refine own_stW (fun t9 k9 => XS.iloadN X73.here hx rfl (hb hby at_39) rfl  k9) ?_
      show own_GoW p e below s Z consts_1 _ _ _ (T73.setTop (mkF m 40 #[.val (.int p0), .val (.int p1), .val (.int p2), .val (.int p3), .val (.int p4), .val (.int p5), .val (.int (1 : Int32)), .val (.int (0 : Int32)), .val (.ref x), .unset, .unset, .unset, .unset, .unset] [(.int p3)]))
      refine own_stW (fun t9 k9 => XS.iload X73.here hx rfl (hb hby at_40) rfl  k9) ?_
      show own_GoW p e below s Z consts_1 _ _ _ (T73.setTop (mkF m 42 #[.val (.int p0), .val (.int p1), .val (.int p2), .val (.int p3), .val (.int p4), .val (.int p5), .val (.int (1 : Int32)), .val (.int (0 : Int32)), .val (.ref x), .unset, .unset, .unset, .unset, .unset] [(.int p4), (.int p3)]))
      refine own_stW (fun t9 k9 => XS.iload X73.here hx rfl (hb hby at_42) rfl  k9) ?_
      show own_GoW p e below s Z consts_1 _ _ _ (T73.setTop (mkF m 44 #[.val (.int p0), .val (.int p1), .val (.int p2), .val (.int p3), .val (.int p4), .val (.int p5), .val (.int (1 : Int32)), .val (.int (0 : Int32)), .val (.ref x), .unset, .unset, .unset, .unset, .unset] [(.int p5), (.int p4), (.int p3)]))
      refine own_stW (fun t9 k9 => XS.bipush X73.here hx rfl (hb hby at_44) k9) ?_
      show own_GoW p e below s Z consts_1 _ _ _ (T73.setTop (mkF m 46 #[.val (.int p0), .val (.int p1), .val (.int p2), .val (.int p3), .val (.int p4), .val (.int p5), .val (.int (1 : Int32)), .val (.int (0 : Int32)), .val (.ref x), .unset, .unset, .unset, .unset, .unset] [(.int (8 : Int32)), (.int p5), (.int p4), (.int p3)]))
      refine own_stW (fun t9 k9 => XT.iushr X73.here hx rfl (hb hby at_46) rfl k9) ?_
      show own_GoW p e below s Z consts_1 _ _ _ (T73.setTop (mkF m 47 #[.val (.int p0), .val (.int p1), .val (.int p2), .val (.int p3), .val (.int p4), .val (.int p5), .val (.int (1 : Int32)), .val (.int (0 : Int32)), .val (.ref x), .unset, .unset, .unset, .unset, .unset] [(.int ((p5.toUInt32 >>> ((8 : Int32) &&& 31).toUInt32).toInt32)), (.int p4), (.int p3)]))
      refine own_stW (fun t9 k9 => XS.sipush X73.here hx rfl (hb hby at_47) k9) ?_
      show own_GoW p e below s Z consts_1 _ _ _ (T73.setTop (mkF m 50 #[.val (.int p0), .val (.int p1), .val (.int p2), .val (.int p3), .val (.int p4), .val (.int p5), .val (.int (1 : Int32)), .val (.int (0 : Int32)), .val (.ref x), .unset, .unset, .unset, .unset, .unset] [(.int (255 : Int32)), (.int ((p5.toUInt32 >>> ((8 : Int32) &&& 31).toUInt32).toInt32)), (.int p4), (.int p3)]))
      refine own_stW (fun t9 k9 => XS.iand X73.here hx rfl (hb hby at_50) rfl k9) ?_
      show own_GoW p e below s Z consts_1 _ _ _ (T73.setTop (mkF m 51 #[.val (.int p0), .val (.int p1), .val (.int p2), .val (.int p3), .val (.int p4), .val (.int p5), .val (.int (1 : Int32)), .val (.int (0 : Int32)), .val (.ref x), .unset, .unset, .unset, .unset, .unset] [(.int (((p5.toUInt32 >>> ((8 : Int32) &&& 31).toUInt32).toInt32) &&& (255 : Int32))), (.int p4), (.int p3)]))
      obtain ⟨_, T74, h74, L74, X74, e74, ⟨Nd, Kd, y, rfl, gy⟩, hS74, hg74, hZ74, hown74, R74, st74⟩ := own_callSW X73 hx hZ hown hS hk (hw _ (List.mem_of_getElem? (i := 0) rfl)) (hw _ (List.mem_of_getElem? (i := 1) rfl)) (hw _ (List.mem_of_getElem? (i := 2) rfl)) (hw _ (List.mem_of_getElem? (i := 3) rfl)) (by decide) (own_payW (W := 0) (K := (fun _ _ _ _ _ => True)) (own_rm_draw l Z a0 hw hEL [] p3 p4 (((p5.toUInt32 >>> ((8 : Int32) &&& 31).toUInt32).toInt32) &&& (255 : Int32)) G h73 n0 Od OA OH OL O2 P5) (fun _ _ _ _ _ _ _ _ _ => trivial) hZ (hw _ (List.mem_of_getElem? (i := 3) rfl)) (hw _ (List.mem_of_getElem? (i := 2) rfl)) (by decide) (by decide) hEL Hr.1 own_sf0) e73 (g := (mkF m 51 #[.val (.int p0), .val (.int p1), .val (.int p2), .val (.int p3), .val (.int p4), .val (.int p5), .val (.int (1 : Int32)), .val (.int (0 : Int32)), .val (.ref x), .unset, .unset, .unset, .unset, .unset] [(.int (((p5.toUInt32 >>> ((8 : Int32) &&& 31).toUInt32).toInt32) &&& (255 : Int32))), (.int p4), (.int p3)])) rfl (by rw [hml]; rfl) (argsL := [(.int p3), (.int p4), (.int (((p5.toUInt32 >>> ((8 : Int32) &&& 31).toUInt32).toInt32) &&& (255 : Int32)))]) (rest := []) rfl (lenOf own_pd9 rfl) rfl (by show 2 * 0 + _ ≤ _; exact Nat.le_of_eq rfl) (hb hby at_51) (by decide) (by decide)
      have N74 := Fr.app N73 Nd
      have ge_y : n0 ≤ y := Nat.le_trans (own_z0 Od) gy
      have Od := Od.keep Kd all0
      have Hr := Hr.trans R74
      have hS := hS74
      have hk : h74.size ≤ h74.size := Nat.le_refl _
      have hZ := hZ74
      have hown := hown74
      refine own_stW st74 ?_
      show own_GoW p e below s Z consts_1 _ _ _ (T74.setTop (mkF m 54 #[.val (.int p0), .val (.int p1), .val (.int p2), .val (.int p3), .val (.int p4), .val (.int p5), .val (.int (1 : Int32)), .val (.int (0 : Int32)), .val (.ref x), .unset, .unset, .unset, .unset, .unset] [(.ref y)]))
      refine own_stW (fun t9 k9 => XS.astore X74.here hx rfl (hb hby at_54) rfl rfl (l' := #[.val (.int p0), .val (.int p1), .val (.int p2), .val (.int p3), .val (.int p4), .val (.int p5), .val (.int (1 : Int32)), .val (.int (0 : Int32)), .val (.ref x), .val (.ref y), .unset, .unset, .unset, .unset]) rfl k9) ?_
      show own_GoW p e below s Z consts_1 _ _ _ (T74.setTop (mkF m 56 #[.val (.int p0), .val (.int p1), .val (.int p2), .val (.int p3), .val (.int p4), .val (.int p5), .val (.int (1 : Int32)), .val (.int (0 : Int32)), .val (.ref x), .val (.ref y), .unset, .unset, .unset, .unset] []))
      refine own_stW (fun t9 k9 => XS.iload X74.here hx rfl (hb hby at_56) rfl  k9) ?_
      show own_GoW p e below s Z consts_1 _ _ _ (T74.setTop (mkF m 58 #[.val (.int p0), .val (.int p1), .val (.int p2), .val (.int p3), .val (.int p4), .val (.int p5), .val (.int (1 : Int32)), .val (.int (0 : Int32)), .val (.ref x), .val (.ref y), .unset, .unset, .unset, .unset] [(.int (1 : Int32))]))
      refine own_stW (fun t9 k9 => XS.ifNo X74.here hx rfl (hb hby at_58) rfl (by decide) k9) ?_
      show own_GoW p e below s Z consts_1 _ _ _ (T74.setTop (mkF m 61 #[.val (.int p0), .val (.int p1), .val (.int p2), .val (.int p3), .val (.int p4), .val (.int p5), .val (.int (1 : Int32)), .val (.int (0 : Int32)), .val (.ref x), .val (.ref y), .unset, .unset, .unset, .unset] []))
      refine own_stW (fun t9 k9 => XS.aload X74.here hx rfl (hb hby at_61) rfl rfl k9) ?_
      show own_GoW p e below s Z consts_1 _ _ _ (T74.setTop (mkF m 63 #[.val (.int p0), .val (.int p1), .val (.int p2), .val (.int p3), .val (.int p4), .val (.int p5), .val (.int (1 : Int32)), .val (.int (0 : Int32)), .val (.ref x), .val (.ref y), .unset, .unset, .unset, .unset] [(.ref x)]))
      refine own_stW (fun t9 k9 => XS.goto X74.here hx rfl (pc0 := 63) (pc' := 67) rfl (hb hby at_63) (by decide) (by decide) k9) ?_
      show own_GoW p e below s Z consts_1 _ _ _ (T74.setTop (mkF m 67 #[.val (.int p0), .val (.int p1), .val (.int p2), .val (.int p3), .val (.int p4), .val (.int p5), .val (.int (1 : Int32)), .val (.int (0 : Int32)), .val (.ref x), .val (.ref y), .unset, .unset, .unset, .unset] [(.ref x)]))
      refine own_stW (fun t9 k9 => XS.astore X74.here hx rfl (hb hby at_67) rfl rfl (l' := #[.val (.int p0), .val (.int p1), .val (.int p2), .val (.int p3), .val (.int p4), .val (.int p5), .val (.int (1 : Int32)), .val (.int (0 : Int32)), .val (.ref x), .val (.ref y), .val (.ref x), .unset, .unset, .unset]) rfl k9) ?_
      show own_GoW p e below s Z consts_1 _ _ _ (T74.setTop (mkF m 69 #[.val (.int p0), .val (.int p1), .val (.int p2), .val (.int p3), .val (.int p4), .val (.int p5), .val (.int (1 : Int32)), .val (.int (0 : Int32)), .val (.ref x), .val (.ref y), .val (.ref x), .unset, .unset, .unset] []))
      refine own_stW (fun t9 k9 => XS.iload X74.here hx rfl (hb hby at_69) rfl  k9) ?_
      show own_GoW p e below s Z consts_1 _ _ _ (T74.setTop (mkF m 71 #[.val (.int p0), .val (.int p1), .val (.int p2), .val (.int p3), .val (.int p4), .val (.int p5), .val (.int (1 : Int32)), .val (.int (0 : Int32)), .val (.ref x), .val (.ref y), .val (.ref x), .unset, .unset, .unset] [(.int (0 : Int32))]))
      refine own_stW (fun t9 k9 => XS.ifYes X74.here hx rfl (pc0 := 71) (pc' := 79) rfl (hb hby at_71) rfl (by decide) (by decide) (by decide) k9) ?_
      show own_GoW p e below s Z consts_1 _ _ _ (T74.setTop (mkF m 79 #[.val (.int p0), .val (.int p1), .val (.int p2), .val (.int p3), .val (.int p4), .val (.int p5), .val (.int (1 : Int32)), .val (.int (0 : Int32)), .val (.ref x), .val (.ref y), .val (.ref x), .unset, .unset, .unset] []))
      refine own_stW (fun t9 k9 => XS.aconstNull X74.here hx rfl (hb hby at_79) k9) ?_
      show own_GoW p e below s Z consts_1 _ _ _ (T74.setTop (mkF m 80 #[.val (.int p0), .val (.int p1), .val (.int p2), .val (.int p3), .val (.int p4), .val (.int p5), .val (.int (1 : Int32)), .val (.int (0 : Int32)), .val (.ref x), .val (.ref y), .val (.ref x), .unset, .unset, .unset] [.null]))
      refine own_stW (fun t9 k9 => XS.astore X74.here hx rfl (hb hby at_80) rfl rfl (l' := #[.val (.int p0), .val (.int p1), .val (.int p2), .val (.int p3), .val (.int p4), .val (.int p5), .val (.int (1 : Int32)), .val (.int (0 : Int32)), .val (.ref x), .val (.ref y), .val (.ref x), .val .null, .unset, .unset]) rfl k9) ?_
      show own_GoW p e below s Z consts_1 _ _ _ (T74.setTop (mkF m 82 #[.val (.int p0), .val (.int p1), .val (.int p2), .val (.int p3), .val (.int p4), .val (.int p5), .val (.int (1 : Int32)), .val (.int (0 : Int32)), .val (.ref x), .val (.ref y), .val (.ref x), .val .null, .unset, .unset] []))
      refine own_stW (fun t9 k9 => XS.iload X74.here hx rfl (hb hby at_82) rfl  k9) ?_
      show own_GoW p e below s Z consts_1 _ _ _ (T74.setTop (mkF m 84 #[.val (.int p0), .val (.int p1), .val (.int p2), .val (.int p3), .val (.int p4), .val (.int p5), .val (.int (1 : Int32)), .val (.int (0 : Int32)), .val (.ref x), .val (.ref y), .val (.ref x), .val .null, .unset, .unset] [(.int (1 : Int32))]))
      refine own_stW (fun t9 k9 => XS.ifYes X74.here hx rfl (pc0 := 84) (pc' := 95) rfl (hb hby at_84) rfl (by decide) (by decide) (by decide) k9) ?_
      show own_GoW p e below s Z consts_1 _ _ _ (T74.setTop (mkF m 95 #[.val (.int p0), .val (.int p1), .val (.int p2), .val (.int p3), .val (.int p4), .val (.int p5), .val (.int (1 : Int32)), .val (.int (0 : Int32)), .val (.ref x), .val (.ref y), .val (.ref x), .val .null, .unset, .unset] []))
      refine own_stW (fun t9 k9 => XS.iload X74.here hx rfl (hb hby at_95) rfl  k9) ?_
      show own_GoW p e below s Z consts_1 _ _ _ (T74.setTop (mkF m 97 #[.val (.int p0), .val (.int p1), .val (.int p2), .val (.int p3), .val (.int p4), .val (.int p5), .val (.int (1 : Int32)), .val (.int (0 : Int32)), .val (.ref x), .val (.ref y), .val (.ref x), .val .null, .unset, .unset] [(.int (0 : Int32))]))
      refine own_stW (fun t9 k9 => XS.ifNo X74.here hx rfl (hb hby at_97) rfl (by decide) k9) ?_
      show own_GoW p e below s Z consts_1 _ _ _ (T74.setTop (mkF m 100 #[.val (.int p0), .val (.int p1), .val (.int p2), .val (.int p3), .val (.int p4), .val (.int p5), .val (.int (1 : Int32)), .val (.int (0 : Int32)), .val (.ref x), .val (.ref y), .val (.ref x), .val .null, .unset, .unset] []))
      obtain ⟨T75, X75, e75, st75⟩ := getS (host := "") X74 hx hZ hown (hw _ (List.mem_of_getElem? (i := 68) rfl)) Via.refl e74 (SA.ext Od.2) (g := (mkF m 100 #[.val (.int p0), .val (.int p1), .val (.int p2), .val (.int p3), .val (.int p4), .val (.int p5), .val (.int (1 : Int32)), .val (.int (0 : Int32)), .val (.ref x), .val (.ref y), .val (.ref x), .val .null, .unset, .unset] [])) rfl (hb hby at_100)
      refine own_stW st75 ?_
      show own_GoW p e below s Z consts_1 _ _ _ (T75.setTop (mkF m 103 #[.val (.int p0), .val (.int p1), .val (.int p2), .val (.int p3), .val (.int p4), .val (.int p5), .val (.int (1 : Int32)), .val (.int (0 : Int32)), .val (.ref x), .val (.ref y), .val (.ref x), .val .null, .unset, .unset] [(.ref eA)]))
      refine own_stW (fun t9 k9 => XS.astore X75.here hx rfl (hb hby at_103) rfl rfl (l' := #[.val (.int p0), .val (.int p1), .val (.int p2), .val (.int p3), .val (.int p4), .val (.int p5), .val (.int (1 : Int32)), .val (.int (0 : Int32)), .val (.ref x), .val (.ref y), .val (.ref x), .val .null, .val (.ref eA), .unset]) rfl k9) ?_
      show own_GoW p e below s Z consts_1 _ _ _ (T75.setTop (mkF m 105 #[.val (.int p0), .val (.int p1), .val (.int p2), .val (.int p3), .val (.int p4), .val (.int p5), .val (.int (1 : Int32)), .val (.int (0 : Int32)), .val (.ref x), .val (.ref y), .val (.ref x), .val .null, .val (.ref eA), .unset] []))
      refine own_stW (fun t9 k9 => XS.goto X75.here hx rfl (pc0 := 105) (pc' := 113) rfl (hb hby at_105) (by decide) (by decide) k9) ?_
      show own_GoW p e below s Z consts_1 _ _ _ (T75.setTop (mkF m 113 #[.val (.int p0), .val (.int p1), .val (.int p2), .val (.int p3), .val (.int p4), .val (.int p5), .val (.int (1 : Int32)), .val (.int (0 : Int32)), .val (.ref x), .val (.ref y), .val (.ref x), .val .null, .val (.ref eA), .unset] []))
      refine own_stW (fun t9 k9 => XS.aload X75.here hx rfl (hb hby at_113) rfl rfl k9) ?_
      show own_GoW p e below s Z consts_1 _ _ _ (T75.setTop (mkF m 115 #[.val (.int p0), .val (.int p1), .val (.int p2), .val (.int p3), .val (.int p4), .val (.int p5), .val (.int (1 : Int32)), .val (.int (0 : Int32)), .val (.ref x), .val (.ref y), .val (.ref x), .val .null, .val (.ref eA), .unset] [(.ref x)]))
      refine own_stW (fun t9 k9 => XS.aload X75.here hx rfl (hb hby at_115) rfl rfl k9) ?_
      show own_GoW p e below s Z consts_1 _ _ _ (T75.setTop (mkF m 117 #[.val (.int p0), .val (.int p1), .val (.int p2), .val (.int p3), .val (.int p4), .val (.int p5), .val (.int (1 : Int32)), .val (.int (0 : Int32)), .val (.ref x), .val (.ref y), .val (.ref x), .val .null, .val (.ref eA), .unset] [.null, (.ref x)]))
      obtain ⟨_, T76, h76, L76, X76, e76, ⟨rfl, Nq, hu⟩, st76⟩ := own_callS X75 hx hZ hown (hw _ (List.mem_of_getElem? (i := 30) rfl)) (hw _ (List.mem_of_getElem? (i := 31) rfl)) (hw _ (List.mem_of_getElem? (i := 28) rfl)) (hw _ (List.mem_of_getElem? (i := 32) rfl)) (by decide) (own_rm_ofRN l Z a0 hw [] x eS eA eN h74 n0 Od SS SA SN) (by decide) (by decide) e75 (W := 0) (g := (mkF m 117 #[.val (.int p0), .val (.int p1), .val (.int p2), .val (.int p3), .val (.int p4), .val (.int p5), .val (.int (1 : Int32)), .val (.int (0 : Int32)), .val (.ref x), .val (.ref y), .val (.ref x), .val .null, .val (.ref eA), .unset] [.null, (.ref x)])) rfl (by rw [hml]; rfl) (argsL := [(.ref x), .null]) (rest := []) rfl (lenOf own_pd10 rfl) rfl (by show 2 * 0 + _ ≤ _; exact Nat.le_of_eq rfl) (hb hby at_117) (by decide) (by decide)
      have N76 := Fr.app N74 Nq
      refine own_stW st76 ?_
      show own_GoW p e below s Z consts_1 _ _ _ (T76.setTop (mkF m 120 #[.val (.int p0), .val (.int p1), .val (.int p2), .val (.int p3), .val (.int p4), .val (.int p5), .val (.int (1 : Int32)), .val (.int (0 : Int32)), .val (.ref x), .val (.ref y), .val (.ref x), .val .null, .val (.ref eA), .unset] [(.ref eA)]))
      refine own_stW (fun t9 k9 => XS.astore X76.here hx rfl (hb hby at_120) rfl rfl (l' := #[.val (.int p0), .val (.int p1), .val (.int p2), .val (.int p3), .val (.int p4), .val (.int p5), .val (.int (1 : Int32)), .val (.int (0 : Int32)), .val (.ref x), .val (.ref y), .val (.ref x), .val .null, .val (.ref eA), .val (.ref eA)]) rfl k9) ?_
      show own_GoW p e below s Z consts_1 _ _ _ (T76.setTop (mkF m 122 #[.val (.int p0), .val (.int p1), .val (.int p2), .val (.int p3), .val (.int p4), .val (.int p5), .val (.int (1 : Int32)), .val (.int (0 : Int32)), .val (.ref x), .val (.ref y), .val (.ref x), .val .null, .val (.ref eA), .val (.ref eA)] []))
      refine own_stW (fun t9 k9 => XS.aload X76.here hx rfl (hb hby at_122) rfl rfl k9) ?_
      show own_GoW p e below s Z consts_1 _ _ _ (T76.setTop (mkF m 124 #[.val (.int p0), .val (.int p1), .val (.int p2), .val (.int p3), .val (.int p4), .val (.int p5), .val (.int (1 : Int32)), .val (.int (0 : Int32)), .val (.ref x), .val (.ref y), .val (.ref x), .val .null, .val (.ref eA), .val (.ref eA)] [(.ref eA)]))
      refine own_stW (fun t9 k9 => XS.aload X76.here hx rfl (hb hby at_124) rfl rfl k9) ?_
      show own_GoW p e below s Z consts_1 _ _ _ (T76.setTop (mkF m 126 #[.val (.int p0), .val (.int p1), .val (.int p2), .val (.int p3), .val (.int p4), .val (.int p5), .val (.int (1 : Int32)), .val (.int (0 : Int32)), .val (.ref x), .val (.ref y), .val (.ref x), .val .null, .val (.ref eA), .val (.ref eA)] [(.ref eA), (.ref eA)]))
      refine own_stW (fun t9 k9 => XT.acmpNo X76.here hx rfl (hb hby at_126) rfl rfl rfl (by simp [XT.acmp]) k9) ?_
      show own_GoW p e below s Z consts_1 _ _ _ (T76.setTop (mkF m 129 #[.val (.int p0), .val (.int p1), .val (.int p2), .val (.int p3), .val (.int p4), .val (.int p5), .val (.int (1 : Int32)), .val (.int (0 : Int32)), .val (.ref x), .val (.ref y), .val (.ref x), .val .null, .val (.ref eA), .val (.ref eA)] []))
      refine own_stW (fun t9 k9 => XS.iconst X76.here hx rfl (hb hby at_129) k9) ?_
      show own_GoW p e below s Z consts_1 _ _ _ (T76.setTop (mkF m 130 #[.val (.int p0), .val (.int p1), .val (.int p2), .val (.int p3), .val (.int p4), .val (.int p5), .val (.int (1 : Int32)), .val (.int (0 : Int32)), .val (.ref x), .val (.ref y), .val (.ref x), .val .null, .val (.ref eA), .val (.ref eA)] [(.int (1 : Int32))]))
      refine own_stW (fun t9 k9 => XS.goto X76.here hx rfl (pc0 := 130) (pc' := 134) rfl (hb hby at_130) (by decide) (by decide) k9) ?_
      show own_GoW p e below s Z consts_1 _ _ _ (T76.setTop (mkF m 134 #[.val (.int p0), .val (.int p1), .val (.int p2), .val (.int p3), .val (.int p4), .val (.int p5), .val (.int (1 : Int32)), .val (.int (0 : Int32)), .val (.ref x), .val (.ref y), .val (.ref x), .val .null, .val (.ref eA), .val (.ref eA)] [(.int (1 : Int32))]))
      exact own_retNW X76 hx hlk hS (by rw [(e76.trans hu)]; exact hk) hZ hEL (by rw [hh, (e76.trans hu)]; exact Hr) (t := .boolean) Bd.returns (by simp) (hb hby at_134) (by decide) (by decide) (by rw [(e76.trans hu)]; exact ⟨rfl, N76⟩)
  · skip
    refine own_stW (fun t9 k9 => XS.ifYes X0.here hx rfl (pc0 := 3) (pc' := 10) rfl (hb hby at_3) rfl ((if0 _ _).trans (feq (f1 : ¬ ((p0 &&& (1 : Int32)) = (0 : Int32)))).2) (by decide) (by decide) k9) ?_
    show own_GoW p e below s Z consts_1 _ _ _ (s₁.setTop (mkF m 10 #[.val (.int p0), .val (.int p1), .val (.int p2), .val (.int p3), .val (.int p4), .val (.int p5), .unset, .unset, .unset, .unset, .unset, .unset, .unset, .unset] []))
    refine own_stW (fun t9 k9 => XS.iconst X0.here hx rfl (hb hby at_10) k9) ?_
    show own_GoW p e below s Z consts_1 _ _ _ (s₁.setTop (mkF m 11 #[.val (.int p0), .val (.int p1), .val (.int p2), .val (.int p3), .val (.int p4), .val (.int p5), .unset, .unset, .unset, .unset, .unset, .unset, .unset, .unset] [(.int (0 : Int32))]))
    refine own_stW (fun t9 k9 => XS.istore X0.here hx rfl (hb hby at_11) rfl (l' := #[.val (.int p0), .val (.int p1), .val (.int p2), .val (.int p3), .val (.int p4), .val (.int p5), .val (.int (0 : Int32)), .unset, .unset, .unset, .unset, .unset, .unset, .unset]) rfl k9) ?_
    show own_GoW p e below s Z consts_1 _ _ _ (s₁.setTop (mkF m 13 #[.val (.int p0), .val (.int p1), .val (.int p2), .val (.int p3), .val (.int p4), .val (.int p5), .val (.int (0 : Int32)), .unset, .unset, .unset, .unset, .unset, .unset, .unset] []))
    refine own_stW (fun t9 k9 => XS.iloadN X0.here hx rfl (hb hby at_13) rfl  k9) ?_
    show own_GoW p e below s Z consts_1 _ _ _ (s₁.setTop (mkF m 14 #[.val (.int p0), .val (.int p1), .val (.int p2), .val (.int p3), .val (.int p4), .val (.int p5), .val (.int (0 : Int32)), .unset, .unset, .unset, .unset, .unset, .unset, .unset] [(.int p0)]))
    refine own_stW (fun t9 k9 => XS.iconst X0.here hx rfl (hb hby at_14) k9) ?_
    show own_GoW p e below s Z consts_1 _ _ _ (s₁.setTop (mkF m 15 #[.val (.int p0), .val (.int p1), .val (.int p2), .val (.int p3), .val (.int p4), .val (.int p5), .val (.int (0 : Int32)), .unset, .unset, .unset, .unset, .unset, .unset, .unset] [(.int (2 : Int32)), (.int p0)]))
    refine own_stW (fun t9 k9 => XS.iand X0.here hx rfl (hb hby at_15) rfl k9) ?_
    show own_GoW p e below s Z consts_1 _ _ _ (s₁.setTop (mkF m 16 #[.val (.int p0), .val (.int p1), .val (.int p2), .val (.int p3), .val (.int p4), .val (.int p5), .val (.int (0 : Int32)), .unset, .unset, .unset, .unset, .unset, .unset, .unset] [(.int (p0 &&& (2 : Int32)))]))
    by_cases f2 : (p0 &&& (2 : Int32)) = (0 : Int32)
    · skip
      refine own_stW (fun t9 k9 => XS.ifNo X0.here hx rfl (hb hby at_16) rfl ((if0 _ _).trans (teq (f2 : (p0 &&& (2 : Int32)) = (0 : Int32))).2) k9) ?_
      show own_GoW p e below s Z consts_1 _ _ _ (s₁.setTop (mkF m 19 #[.val (.int p0), .val (.int p1), .val (.int p2), .val (.int p3), .val (.int p4), .val (.int p5), .val (.int (0 : Int32)), .unset, .unset, .unset, .unset, .unset, .unset, .unset] []))
      refine own_stW (fun t9 k9 => XS.iconst X0.here hx rfl (hb hby at_19) k9) ?_
      show own_GoW p e below s Z consts_1 _ _ _ (s₁.setTop (mkF m 20 #[.val (.int p0), .val (.int p1), .val (.int p2), .val (.int p3), .val (.int p4), .val (.int p5), .val (.int (0 : Int32)), .unset, .unset, .unset, .unset, .unset, .unset, .unset] [(.int (1 : Int32))]))
      refine own_stW (fun t9 k9 => XS.goto X0.here hx rfl (pc0 := 20) (pc' := 24) rfl (hb hby at_20) (by decide) (by decide) k9) ?_
      show own_GoW p e below s Z consts_1 _ _ _ (s₁.setTop (mkF m 24 #[.val (.int p0), .val (.int p1), .val (.int p2), .val (.int p3), .val (.int p4), .val (.int p5), .val (.int (0 : Int32)), .unset, .unset, .unset, .unset, .unset, .unset, .unset] [(.int (1 : Int32))]))
      refine own_stW (fun t9 k9 => XS.istore X0.here hx rfl (hb hby at_24) rfl (l' := #[.val (.int p0), .val (.int p1), .val (.int p2), .val (.int p3), .val (.int p4), .val (.int p5), .val (.int (0 : Int32)), .val (.int (1 : Int32)), .unset, .unset, .unset, .unset, .unset, .unset]) rfl k9) ?_
      show own_GoW p e below s Z consts_1 _ _ _ (s₁.setTop (mkF m 26 #[.val (.int p0), .val (.int p1), .val (.int p2), .val (.int p3), .val (.int p4), .val (.int p5), .val (.int (0 : Int32)), .val (.int (1 : Int32)), .unset, .unset, .unset, .unset, .unset, .unset] []))
      refine own_stW (fun t9 k9 => XS.iloadN X0.here hx rfl (hb hby at_26) rfl  k9) ?_
      show own_GoW p e below s Z consts_1 _ _ _ (s₁.setTop (mkF m 27 #[.val (.int p0), .val (.int p1), .val (.int p2), .val (.int p3), .val (.int p4), .val (.int p5), .val (.int (0 : Int32)), .val (.int (1 : Int32)), .unset, .unset, .unset, .unset, .unset, .unset] [(.int p1)]))
      refine own_stW (fun t9 k9 => XS.iloadN X0.here hx rfl (hb hby at_27) rfl  k9) ?_
      show own_GoW p e below s Z consts_1 _ _ _ (s₁.setTop (mkF m 28 #[.val (.int p0), .val (.int p1), .val (.int p2), .val (.int p3), .val (.int p4), .val (.int p5), .val (.int (0 : Int32)), .val (.int (1 : Int32)), .unset, .unset, .unset, .unset, .unset, .unset] [(.int p2), (.int p1)]))
      refine own_stW (fun t9 k9 => XS.iload X0.here hx rfl (hb hby at_28) rfl  k9) ?_
      show own_GoW p e below s Z consts_1 _ _ _ (s₁.setTop (mkF m 30 #[.val (.int p0), .val (.int p1), .val (.int p2), .val (.int p3), .val (.int p4), .val (.int p5), .val (.int (0 : Int32)), .val (.int (1 : Int32)), .unset, .unset, .unset, .unset, .unset, .unset] [(.int p5), (.int p2), (.int p1)]))
      refine own_stW (fun t9 k9 => XS.sipush X0.here hx rfl (hb hby at_30) k9) ?_
      show own_GoW p e below s Z consts_1 _ _ _ (s₁.setTop (mkF m 33 #[.val (.int p0), .val (.int p1), .val (.int p2), .val (.int p3), .val (.int p4), .val (.int p5), .val (.int (0 : Int32)), .val (.int (1 : Int32)), .unset, .unset, .unset, .unset, .unset, .unset] [(.int (255 : Int32)), (.int p5), (.int p2), (.int p1)]))
      refine own_stW (fun t9 k9 => XS.iand X0.here hx rfl (hb hby at_33) rfl k9) ?_
      show own_GoW p e below s Z consts_1 _ _ _ (s₁.setTop (mkF m 34 #[.val (.int p0), .val (.int p1), .val (.int p2), .val (.int p3), .val (.int p4), .val (.int p5), .val (.int (0 : Int32)), .val (.int (1 : Int32)), .unset, .unset, .unset, .unset, .unset, .unset] [(.int (p5 &&& (255 : Int32))), (.int p2), (.int p1)]))
      obtain ⟨_, T77, h77, L77, X77, e77, ⟨Nc, Kc, x, rfl, gx⟩, hS77, hg77, hZ77, hown77, R77, st77⟩ := own_callSW X0 hx hZ hown hS hk (hw _ (List.mem_of_getElem? (i := 0) rfl)) (hw _ (List.mem_of_getElem? (i := 1) rfl)) (hw _ (List.mem_of_getElem? (i := 2) rfl)) (hw _ (List.mem_of_getElem? (i := 3) rfl)) (by decide) (own_payW (W := 0) (K := (fun _ _ _ _ _ => True)) (own_rm_draw l Z a0 hw hEL [] p1 p2 (p5 &&& (255 : Int32)) G h0 n0 Od OA OH OL O2 P5) (fun _ _ _ _ _ _ _ _ _ => trivial) hZ (hw _ (List.mem_of_getElem? (i := 3) rfl)) (hw _ (List.mem_of_getElem? (i := 2) rfl)) (by decide) (by decide) hEL Hr.1 own_sf0) e0 (g := (mkF m 34 #[.val (.int p0), .val (.int p1), .val (.int p2), .val (.int p3), .val (.int p4), .val (.int p5), .val (.int (0 : Int32)), .val (.int (1 : Int32)), .unset, .unset, .unset, .unset, .unset, .unset] [(.int (p5 &&& (255 : Int32))), (.int p2), (.int p1)])) rfl (by rw [hml]; rfl) (argsL := [(.int p1), (.int p2), (.int (p5 &&& (255 : Int32)))]) (rest := []) rfl (lenOf own_pd9 rfl) rfl (by show 2 * 0 + _ ≤ _; exact Nat.le_of_eq rfl) (hb hby at_34) (by decide) (by decide)
      have N77 := Fr.app N0 Nc
      have ge_x : n0 ≤ x := Nat.le_trans (own_z0 Od) gx
      have Od := Od.keep Kc all0
      have Hr := Hr.trans R77
      have hS := hS77
      have hk : h77.size ≤ h77.size := Nat.le_refl _
      have hZ := hZ77
      have hown := hown77
      refine own_stW st77 ?_
      show own_GoW p e below s Z consts_1 _ _ _ (T77.setTop (mkF m 37 #[.val (.int p0), .val (.int p1), .val (.int p2), .val (.int p3), .val (.int p4), .val (.int p5), .val (.int (0 : Int32)), .val (.int (1 : Int32)), .unset, .unset, .unset, .unset, .unset, .unset] [(.ref x)]))
      refine own_stW (fun t9 k9 => XS.astore X77.here hx rfl (hb hby at_37) rfl rfl (l' := #[.val (.int p0), .val (.int p1), .val (.int p2), .val (.int p3), .val (.int p4), .val (.int p5), .val (.int (0 : Int32)), .val (.int (1 : Int32)), .val (.ref x), .unset, .unset, .unset, .unset, .unset]) rfl k9) ?_
      show own_GoW p e below s Z consts_1 _ _ _ (T77.setTop (mkF m 39 #[.val (.int p0), .val (.int p1), .val (.int p2), .val (.int p3), .val (.int p4), .val (.int p5), .val (.int (0 : Int32)), .val (.int (1 : Int32)), .val (.ref x), .unset, .unset, .unset, .unset, .unset] []))
      refine own_stW (fun t9 k9 => XS.iloadN X77.here hx rfl (hb hby at_39) rfl  k9) ?_
      show own_GoW p e below s Z consts_1 _ _ _ (T77.setTop (mkF m 40 #[.val (.int p0), .val (.int p1), .val (.int p2), .val (.int p3), .val (.int p4), .val (.int p5), .val (.int (0 : Int32)), .val (.int (1 : Int32)), .val (.ref x), .unset, .unset, .unset, .unset, .unset] [(.int p3)]))
      refine own_stW (fun t9 k9 => XS.iload X77.here hx rfl (hb hby at_40) rfl  k9) ?_
      show own_GoW p e below s Z consts_1 _ _ _ (T77.setTop (mkF m 42 #[.val (.int p0), .val (.int p1), .val (.int p2), .val (.int p3), .val (.int p4), .val (.int p5), .val (.int (0 : Int32)), .val (.int (1 : Int32)), .val (.ref x), .unset, .unset, .unset, .unset, .unset] [(.int p4), (.int p3)]))
      refine own_stW (fun t9 k9 => XS.iload X77.here hx rfl (hb hby at_42) rfl  k9) ?_
      show own_GoW p e below s Z consts_1 _ _ _ (T77.setTop (mkF m 44 #[.val (.int p0), .val (.int p1), .val (.int p2), .val (.int p3), .val (.int p4), .val (.int p5), .val (.int (0 : Int32)), .val (.int (1 : Int32)), .val (.ref x), .unset, .unset, .unset, .unset, .unset] [(.int p5), (.int p4), (.int p3)]))
      refine own_stW (fun t9 k9 => XS.bipush X77.here hx rfl (hb hby at_44) k9) ?_
      show own_GoW p e below s Z consts_1 _ _ _ (T77.setTop (mkF m 46 #[.val (.int p0), .val (.int p1), .val (.int p2), .val (.int p3), .val (.int p4), .val (.int p5), .val (.int (0 : Int32)), .val (.int (1 : Int32)), .val (.ref x), .unset, .unset, .unset, .unset, .unset] [(.int (8 : Int32)), (.int p5), (.int p4), (.int p3)]))
      refine own_stW (fun t9 k9 => XT.iushr X77.here hx rfl (hb hby at_46) rfl k9) ?_
      show own_GoW p e below s Z consts_1 _ _ _ (T77.setTop (mkF m 47 #[.val (.int p0), .val (.int p1), .val (.int p2), .val (.int p3), .val (.int p4), .val (.int p5), .val (.int (0 : Int32)), .val (.int (1 : Int32)), .val (.ref x), .unset, .unset, .unset, .unset, .unset] [(.int ((p5.toUInt32 >>> ((8 : Int32) &&& 31).toUInt32).toInt32)), (.int p4), (.int p3)]))
      refine own_stW (fun t9 k9 => XS.sipush X77.here hx rfl (hb hby at_47) k9) ?_
      show own_GoW p e below s Z consts_1 _ _ _ (T77.setTop (mkF m 50 #[.val (.int p0), .val (.int p1), .val (.int p2), .val (.int p3), .val (.int p4), .val (.int p5), .val (.int (0 : Int32)), .val (.int (1 : Int32)), .val (.ref x), .unset, .unset, .unset, .unset, .unset] [(.int (255 : Int32)), (.int ((p5.toUInt32 >>> ((8 : Int32) &&& 31).toUInt32).toInt32)), (.int p4), (.int p3)]))
      refine own_stW (fun t9 k9 => XS.iand X77.here hx rfl (hb hby at_50) rfl k9) ?_
      show own_GoW p e below s Z consts_1 _ _ _ (T77.setTop (mkF m 51 #[.val (.int p0), .val (.int p1), .val (.int p2), .val (.int p3), .val (.int p4), .val (.int p5), .val (.int (0 : Int32)), .val (.int (1 : Int32)), .val (.ref x), .unset, .unset, .unset, .unset, .unset] [(.int (((p5.toUInt32 >>> ((8 : Int32) &&& 31).toUInt32).toInt32) &&& (255 : Int32))), (.int p4), (.int p3)]))
      obtain ⟨_, T78, h78, L78, X78, e78, ⟨Nd, Kd, y, rfl, gy⟩, hS78, hg78, hZ78, hown78, R78, st78⟩ := own_callSW X77 hx hZ hown hS hk (hw _ (List.mem_of_getElem? (i := 0) rfl)) (hw _ (List.mem_of_getElem? (i := 1) rfl)) (hw _ (List.mem_of_getElem? (i := 2) rfl)) (hw _ (List.mem_of_getElem? (i := 3) rfl)) (by decide) (own_payW (W := 0) (K := (fun _ _ _ _ _ => True)) (own_rm_draw l Z a0 hw hEL [] p3 p4 (((p5.toUInt32 >>> ((8 : Int32) &&& 31).toUInt32).toInt32) &&& (255 : Int32)) G h77 n0 Od OA OH OL O2 P5) (fun _ _ _ _ _ _ _ _ _ => trivial) hZ (hw _ (List.mem_of_getElem? (i := 3) rfl)) (hw _ (List.mem_of_getElem? (i := 2) rfl)) (by decide) (by decide) hEL Hr.1 own_sf0) e77 (g := (mkF m 51 #[.val (.int p0), .val (.int p1), .val (.int p2), .val (.int p3), .val (.int p4), .val (.int p5), .val (.int (0 : Int32)), .val (.int (1 : Int32)), .val (.ref x), .unset, .unset, .unset, .unset, .unset] [(.int (((p5.toUInt32 >>> ((8 : Int32) &&& 31).toUInt32).toInt32) &&& (255 : Int32))), (.int p4), (.int p3)])) rfl (by rw [hml]; rfl) (argsL := [(.int p3), (.int p4), (.int (((p5.toUInt32 >>> ((8 : Int32) &&& 31).toUInt32).toInt32) &&& (255 : Int32)))]) (rest := []) rfl (lenOf own_pd9 rfl) rfl (by show 2 * 0 + _ ≤ _; exact Nat.le_of_eq rfl) (hb hby at_51) (by decide) (by decide)
      have N78 := Fr.app N77 Nd
      have ge_y : n0 ≤ y := Nat.le_trans (own_z0 Od) gy
      have Od := Od.keep Kd all0
      have Hr := Hr.trans R78
      have hS := hS78
      have hk : h78.size ≤ h78.size := Nat.le_refl _
      have hZ := hZ78
      have hown := hown78
      refine own_stW st78 ?_
      show own_GoW p e below s Z consts_1 _ _ _ (T78.setTop (mkF m 54 #[.val (.int p0), .val (.int p1), .val (.int p2), .val (.int p3), .val (.int p4), .val (.int p5), .val (.int (0 : Int32)), .val (.int (1 : Int32)), .val (.ref x), .unset, .unset, .unset, .unset, .unset] [(.ref y)]))
      refine own_stW (fun t9 k9 => XS.astore X78.here hx rfl (hb hby at_54) rfl rfl (l' := #[.val (.int p0), .val (.int p1), .val (.int p2), .val (.int p3), .val (.int p4), .val (.int p5), .val (.int (0 : Int32)), .val (.int (1 : Int32)), .val (.ref x), .val (.ref y), .unset, .unset, .unset, .unset]) rfl k9) ?_
      show own_GoW p e below s Z consts_1 _ _ _ (T78.setTop (mkF m 56 #[.val (.int p0), .val (.int p1), .val (.int p2), .val (.int p3), .val (.int p4), .val (.int p5), .val (.int (0 : Int32)), .val (.int (1 : Int32)), .val (.ref x), .val (.ref y), .unset, .unset, .unset, .unset] []))
      refine own_stW (fun t9 k9 => XS.iload X78.here hx rfl (hb hby at_56) rfl  k9) ?_
      show own_GoW p e below s Z consts_1 _ _ _ (T78.setTop (mkF m 58 #[.val (.int p0), .val (.int p1), .val (.int p2), .val (.int p3), .val (.int p4), .val (.int p5), .val (.int (0 : Int32)), .val (.int (1 : Int32)), .val (.ref x), .val (.ref y), .unset, .unset, .unset, .unset] [(.int (0 : Int32))]))
      refine own_stW (fun t9 k9 => XS.ifYes X78.here hx rfl (pc0 := 58) (pc' := 66) rfl (hb hby at_58) rfl (by decide) (by decide) (by decide) k9) ?_
      show own_GoW p e below s Z consts_1 _ _ _ (T78.setTop (mkF m 66 #[.val (.int p0), .val (.int p1), .val (.int p2), .val (.int p3), .val (.int p4), .val (.int p5), .val (.int (0 : Int32)), .val (.int (1 : Int32)), .val (.ref x), .val (.ref y), .unset, .unset, .unset, .unset] []))
      refine own_stW (fun t9 k9 => XS.aconstNull X78.here hx rfl (hb hby at_66) k9) ?_
      show own_GoW p e below s Z consts_1 _ _ _ (T78.setTop (mkF m 67 #[.val (.int p0), .val (.int p1), .val (.int p2), .val (.int p3), .val (.int p4), .val (.int p5), .val (.int (0 : Int32)), .val (.int (1 : Int32)), .val (.ref x), .val (.ref y), .unset, .unset, .unset, .unset] [.null]))
      refine own_stW (fun t9 k9 => XS.astore X78.here hx rfl (hb hby at_67) rfl rfl (l' := #[.val (.int p0), .val (.int p1), .val (.int p2), .val (.int p3), .val (.int p4), .val (.int p5), .val (.int (0 : Int32)), .val (.int (1 : Int32)), .val (.ref x), .val (.ref y), .val .null, .unset, .unset, .unset]) rfl k9) ?_
      show own_GoW p e below s Z consts_1 _ _ _ (T78.setTop (mkF m 69 #[.val (.int p0), .val (.int p1), .val (.int p2), .val (.int p3), .val (.int p4), .val (.int p5), .val (.int (0 : Int32)), .val (.int (1 : Int32)), .val (.ref x), .val (.ref y), .val .null, .unset, .unset, .unset] []))
      refine own_stW (fun t9 k9 => XS.iload X78.here hx rfl (hb hby at_69) rfl  k9) ?_
      show own_GoW p e below s Z consts_1 _ _ _ (T78.setTop (mkF m 71 #[.val (.int p0), .val (.int p1), .val (.int p2), .val (.int p3), .val (.int p4), .val (.int p5), .val (.int (0 : Int32)), .val (.int (1 : Int32)), .val (.ref x), .val (.ref y), .val .null, .unset, .unset, .unset] [(.int (1 : Int32))]))
      refine own_stW (fun t9 k9 => XS.ifNo X78.here hx rfl (hb hby at_71) rfl (by decide) k9) ?_
      show own_GoW p e below s Z consts_1 _ _ _ (T78.setTop (mkF m 74 #[.val (.int p0), .val (.int p1), .val (.int p2), .val (.int p3), .val (.int p4), .val (.int p5), .val (.int (0 : Int32)), .val (.int (1 : Int32)), .val (.ref x), .val (.ref y), .val .null, .unset, .unset, .unset] []))
      refine own_stW (fun t9 k9 => XS.aload X78.here hx rfl (hb hby at_74) rfl rfl k9) ?_
      show own_GoW p e below s Z consts_1 _ _ _ (T78.setTop (mkF m 76 #[.val (.int p0), .val (.int p1), .val (.int p2), .val (.int p3), .val (.int p4), .val (.int p5), .val (.int (0 : Int32)), .val (.int (1 : Int32)), .val (.ref x), .val (.ref y), .val .null, .unset, .unset, .unset] [(.ref y)]))
      refine own_stW (fun t9 k9 => XS.goto X78.here hx rfl (pc0 := 76) (pc' := 80) rfl (hb hby at_76) (by decide) (by decide) k9) ?_
      show own_GoW p e below s Z consts_1 _ _ _ (T78.setTop (mkF m 80 #[.val (.int p0), .val (.int p1), .val (.int p2), .val (.int p3), .val (.int p4), .val (.int p5), .val (.int (0 : Int32)), .val (.int (1 : Int32)), .val (.ref x), .val (.ref y), .val .null, .unset, .unset, .unset] [(.ref y)]))
      refine own_stW (fun t9 k9 => XS.astore X78.here hx rfl (hb hby at_80) rfl rfl (l' := #[.val (.int p0), .val (.int p1), .val (.int p2), .val (.int p3), .val (.int p4), .val (.int p5), .val (.int (0 : Int32)), .val (.int (1 : Int32)), .val (.ref x), .val (.ref y), .val .null, .val (.ref y), .unset, .unset]) rfl k9) ?_
      show own_GoW p e below s Z consts_1 _ _ _ (T78.setTop (mkF m 82 #[.val (.int p0), .val (.int p1), .val (.int p2), .val (.int p3), .val (.int p4), .val (.int p5), .val (.int (0 : Int32)), .val (.int (1 : Int32)), .val (.ref x), .val (.ref y), .val .null, .val (.ref y), .unset, .unset] []))
      refine own_stW (fun t9 k9 => XS.iload X78.here hx rfl (hb hby at_82) rfl  k9) ?_
      show own_GoW p e below s Z consts_1 _ _ _ (T78.setTop (mkF m 84 #[.val (.int p0), .val (.int p1), .val (.int p2), .val (.int p3), .val (.int p4), .val (.int p5), .val (.int (0 : Int32)), .val (.int (1 : Int32)), .val (.ref x), .val (.ref y), .val .null, .val (.ref y), .unset, .unset] [(.int (0 : Int32))]))
      refine own_stW (fun t9 k9 => XS.ifNo X78.here hx rfl (hb hby at_84) rfl (by decide) k9) ?_
      show own_GoW p e below s Z consts_1 _ _ _ (T78.setTop (mkF m 87 #[.val (.int p0), .val (.int p1), .val (.int p2), .val (.int p3), .val (.int p4), .val (.int p5), .val (.int (0 : Int32)), .val (.int (1 : Int32)), .val (.ref x), .val (.ref y), .val .null, .val (.ref y), .unset, .unset] []))
      obtain ⟨T79, X79, e79, st79⟩ := getS (host := "") X78 hx hZ hown (hw _ (List.mem_of_getElem? (i := 46) rfl)) Via.refl e78 (SS.ext Od.2) (g := (mkF m 87 #[.val (.int p0), .val (.int p1), .val (.int p2), .val (.int p3), .val (.int p4), .val (.int p5), .val (.int (0 : Int32)), .val (.int (1 : Int32)), .val (.ref x), .val (.ref y), .val .null, .val (.ref y), .unset, .unset] [])) rfl (hb hby at_87)
      refine own_stW st79 ?_
      show own_GoW p e below s Z consts_1 _ _ _ (T79.setTop (mkF m 90 #[.val (.int p0), .val (.int p1), .val (.int p2), .val (.int p3), .val (.int p4), .val (.int p5), .val (.int (0 : Int32)), .val (.int (1 : Int32)), .val (.ref x), .val (.ref y), .val .null, .val (.ref y), .unset, .unset] [(.ref eS)]))
      refine own_stW (fun t9 k9 => XS.astore X79.here hx rfl (hb hby at_90) rfl rfl (l' := #[.val (.int p0), .val (.int p1), .val (.int p2), .val (.int p3), .val (.int p4), .val (.int p5), .val (.int (0 : Int32)), .val (.int (1 : Int32)), .val (.ref x), .val (.ref y), .val .null, .val (.ref y), .val (.ref eS), .unset]) rfl k9) ?_
      show own_GoW p e below s Z consts_1 _ _ _ (T79.setTop (mkF m 92 #[.val (.int p0), .val (.int p1), .val (.int p2), .val (.int p3), .val (.int p4), .val (.int p5), .val (.int (0 : Int32)), .val (.int (1 : Int32)), .val (.ref x), .val (.ref y), .val .null, .val (.ref y), .val (.ref eS), .unset] []))
      refine own_stW (fun t9 k9 => XS.goto X79.here hx rfl (pc0 := 92) (pc' := 113) rfl (hb hby at_92) (by decide) (by decide) k9) ?_
      show own_GoW p e below s Z consts_1 _ _ _ (T79.setTop (mkF m 113 #[.val (.int p0), .val (.int p1), .val (.int p2), .val (.int p3), .val (.int p4), .val (.int p5), .val (.int (0 : Int32)), .val (.int (1 : Int32)), .val (.ref x), .val (.ref y), .val .null, .val (.ref y), .val (.ref eS), .unset] []))
      refine own_stW (fun t9 k9 => XS.aload X79.here hx rfl (hb hby at_113) rfl rfl k9) ?_
      show own_GoW p e below s Z consts_1 _ _ _ (T79.setTop (mkF m 115 #[.val (.int p0), .val (.int p1), .val (.int p2), .val (.int p3), .val (.int p4), .val (.int p5), .val (.int (0 : Int32)), .val (.int (1 : Int32)), .val (.ref x), .val (.ref y), .val .null, .val (.ref y), .val (.ref eS), .unset] [.null]))
      refine own_stW (fun t9 k9 => XS.aload X79.here hx rfl (hb hby at_115) rfl rfl k9) ?_
      show own_GoW p e below s Z consts_1 _ _ _ (T79.setTop (mkF m 117 #[.val (.int p0), .val (.int p1), .val (.int p2), .val (.int p3), .val (.int p4), .val (.int p5), .val (.int (0 : Int32)), .val (.int (1 : Int32)), .val (.ref x), .val (.ref y), .val .null, .val (.ref y), .val (.ref eS), .unset] [(.ref y), .null]))
      obtain ⟨_, T80, h80, L80, X80, e80, ⟨rfl, Nq, hu⟩, st80⟩ := own_callS X79 hx hZ hown (hw _ (List.mem_of_getElem? (i := 30) rfl)) (hw _ (List.mem_of_getElem? (i := 31) rfl)) (hw _ (List.mem_of_getElem? (i := 28) rfl)) (hw _ (List.mem_of_getElem? (i := 32) rfl)) (by decide) (own_rm_ofNR l Z a0 hw [] y eS eA eN h78 n0 Od SS SA SN) (by decide) (by decide) e79 (W := 0) (g := (mkF m 117 #[.val (.int p0), .val (.int p1), .val (.int p2), .val (.int p3), .val (.int p4), .val (.int p5), .val (.int (0 : Int32)), .val (.int (1 : Int32)), .val (.ref x), .val (.ref y), .val .null, .val (.ref y), .val (.ref eS), .unset] [(.ref y), .null])) rfl (by rw [hml]; rfl) (argsL := [.null, (.ref y)]) (rest := []) rfl (lenOf own_pd10 rfl) rfl (by show 2 * 0 + _ ≤ _; exact Nat.le_of_eq rfl) (hb hby at_117) (by decide) (by decide)
      have N80 := Fr.app N78 Nq
      refine own_stW st80 ?_
      show own_GoW p e below s Z consts_1 _ _ _ (T80.setTop (mkF m 120 #[.val (.int p0), .val (.int p1), .val (.int p2), .val (.int p3), .val (.int p4), .val (.int p5), .val (.int (0 : Int32)), .val (.int (1 : Int32)), .val (.ref x), .val (.ref y), .val .null, .val (.ref y), .val (.ref eS), .unset] [(.ref eS)]))
      refine own_stW (fun t9 k9 => XS.astore X80.here hx rfl (hb hby at_120) rfl rfl (l' := #[.val (.int p0), .val (.int p1), .val (.int p2), .val (.int p3), .val (.int p4), .val (.int p5), .val (.int (0 : Int32)), .val (.int (1 : Int32)), .val (.ref x), .val (.ref y), .val .null, .val (.ref y), .val (.ref eS), .val (.ref eS)]) rfl k9) ?_
      show own_GoW p e below s Z consts_1 _ _ _ (T80.setTop (mkF m 122 #[.val (.int p0), .val (.int p1), .val (.int p2), .val (.int p3), .val (.int p4), .val (.int p5), .val (.int (0 : Int32)), .val (.int (1 : Int32)), .val (.ref x), .val (.ref y), .val .null, .val (.ref y), .val (.ref eS), .val (.ref eS)] []))
      refine own_stW (fun t9 k9 => XS.aload X80.here hx rfl (hb hby at_122) rfl rfl k9) ?_
      show own_GoW p e below s Z consts_1 _ _ _ (T80.setTop (mkF m 124 #[.val (.int p0), .val (.int p1), .val (.int p2), .val (.int p3), .val (.int p4), .val (.int p5), .val (.int (0 : Int32)), .val (.int (1 : Int32)), .val (.ref x), .val (.ref y), .val .null, .val (.ref y), .val (.ref eS), .val (.ref eS)] [(.ref eS)]))
      refine own_stW (fun t9 k9 => XS.aload X80.here hx rfl (hb hby at_124) rfl rfl k9) ?_
      show own_GoW p e below s Z consts_1 _ _ _ (T80.setTop (mkF m 126 #[.val (.int p0), .val (.int p1), .val (.int p2), .val (.int p3), .val (.int p4), .val (.int p5), .val (.int (0 : Int32)), .val (.int (1 : Int32)), .val (.ref x), .val (.ref y), .val .null, .val (.ref y), .val (.ref eS), .val (.ref eS)] [(.ref eS), (.ref eS)]))
      refine own_stW (fun t9 k9 => XT.acmpNo X80.here hx rfl (hb hby at_126) rfl rfl rfl (by simp [XT.acmp]) k9) ?_
      show own_GoW p e below s Z consts_1 _ _ _ (T80.setTop (mkF m 129 #[.val (.int p0), .val (.int p1), .val (.int p2), .val (.int p3), .val (.int p4), .val (.int p5), .val (.int (0 : Int32)), .val (.int (1 : Int32)), .val (.ref x), .val (.ref y), .val .null, .val (.ref y), .val (.ref eS), .val (.ref eS)] []))
      refine own_stW (fun t9 k9 => XS.iconst X80.here hx rfl (hb hby at_129) k9) ?_
      show own_GoW p e below s Z consts_1 _ _ _ (T80.setTop (mkF m 130 #[.val (.int p0), .val (.int p1), .val (.int p2), .val (.int p3), .val (.int p4), .val (.int p5), .val (.int (0 : Int32)), .val (.int (1 : Int32)), .val (.ref x), .val (.ref y), .val .null, .val (.ref y), .val (.ref eS), .val (.ref eS)] [(.int (1 : Int32))]))
      refine own_stW (fun t9 k9 => XS.goto X80.here hx rfl (pc0 := 130) (pc' := 134) rfl (hb hby at_130) (by decide) (by decide) k9) ?_
      show own_GoW p e below s Z consts_1 _ _ _ (T80.setTop (mkF m 134 #[.val (.int p0), .val (.int p1), .val (.int p2), .val (.int p3), .val (.int p4), .val (.int p5), .val (.int (0 : Int32)), .val (.int (1 : Int32)), .val (.ref x), .val (.ref y), .val .null, .val (.ref y), .val (.ref eS), .val (.ref eS)] [(.int (1 : Int32))]))
      exact own_retNW X80 hx hlk hS (by rw [(e80.trans hu)]; exact hk) hZ hEL (by rw [hh, (e80.trans hu)]; exact Hr) (t := .boolean) Bd.returns (by simp) (hb hby at_134) (by decide) (by decide) (by rw [(e80.trans hu)]; exact ⟨rfl, N80⟩)
    · skip
      refine own_stW (fun t9 k9 => XS.ifYes X0.here hx rfl (pc0 := 16) (pc' := 23) rfl (hb hby at_16) rfl ((if0 _ _).trans (feq (f2 : ¬ ((p0 &&& (2 : Int32)) = (0 : Int32)))).2) (by decide) (by decide) k9) ?_
      show own_GoW p e below s Z consts_1 _ _ _ (s₁.setTop (mkF m 23 #[.val (.int p0), .val (.int p1), .val (.int p2), .val (.int p3), .val (.int p4), .val (.int p5), .val (.int (0 : Int32)), .unset, .unset, .unset, .unset, .unset, .unset, .unset] []))
      refine own_stW (fun t9 k9 => XS.iconst X0.here hx rfl (hb hby at_23) k9) ?_
      show own_GoW p e below s Z consts_1 _ _ _ (s₁.setTop (mkF m 24 #[.val (.int p0), .val (.int p1), .val (.int p2), .val (.int p3), .val (.int p4), .val (.int p5), .val (.int (0 : Int32)), .unset, .unset, .unset, .unset, .unset, .unset, .unset] [(.int (0 : Int32))]))
      refine own_stW (fun t9 k9 => XS.istore X0.here hx rfl (hb hby at_24) rfl (l' := #[.val (.int p0), .val (.int p1), .val (.int p2), .val (.int p3), .val (.int p4), .val (.int p5), .val (.int (0 : Int32)), .val (.int (0 : Int32)), .unset, .unset, .unset, .unset, .unset, .unset]) rfl k9) ?_
      show own_GoW p e below s Z consts_1 _ _ _ (s₁.setTop (mkF m 26 #[.val (.int p0), .val (.int p1), .val (.int p2), .val (.int p3), .val (.int p4), .val (.int p5), .val (.int (0 : Int32)), .val (.int (0 : Int32)), .unset, .unset, .unset, .unset, .unset, .unset] []))
      refine own_stW (fun t9 k9 => XS.iloadN X0.here hx rfl (hb hby at_26) rfl  k9) ?_
      show own_GoW p e below s Z consts_1 _ _ _ (s₁.setTop (mkF m 27 #[.val (.int p0), .val (.int p1), .val (.int p2), .val (.int p3), .val (.int p4), .val (.int p5), .val (.int (0 : Int32)), .val (.int (0 : Int32)), .unset, .unset, .unset, .unset, .unset, .unset] [(.int p1)]))
      refine own_stW (fun t9 k9 => XS.iloadN X0.here hx rfl (hb hby at_27) rfl  k9) ?_
      show own_GoW p e below s Z consts_1 _ _ _ (s₁.setTop (mkF m 28 #[.val (.int p0), .val (.int p1), .val (.int p2), .val (.int p3), .val (.int p4), .val (.int p5), .val (.int (0 : Int32)), .val (.int (0 : Int32)), .unset, .unset, .unset, .unset, .unset, .unset] [(.int p2), (.int p1)]))
      refine own_stW (fun t9 k9 => XS.iload X0.here hx rfl (hb hby at_28) rfl  k9) ?_
      show own_GoW p e below s Z consts_1 _ _ _ (s₁.setTop (mkF m 30 #[.val (.int p0), .val (.int p1), .val (.int p2), .val (.int p3), .val (.int p4), .val (.int p5), .val (.int (0 : Int32)), .val (.int (0 : Int32)), .unset, .unset, .unset, .unset, .unset, .unset] [(.int p5), (.int p2), (.int p1)]))
      refine own_stW (fun t9 k9 => XS.sipush X0.here hx rfl (hb hby at_30) k9) ?_
      show own_GoW p e below s Z consts_1 _ _ _ (s₁.setTop (mkF m 33 #[.val (.int p0), .val (.int p1), .val (.int p2), .val (.int p3), .val (.int p4), .val (.int p5), .val (.int (0 : Int32)), .val (.int (0 : Int32)), .unset, .unset, .unset, .unset, .unset, .unset] [(.int (255 : Int32)), (.int p5), (.int p2), (.int p1)]))
      refine own_stW (fun t9 k9 => XS.iand X0.here hx rfl (hb hby at_33) rfl k9) ?_
      show own_GoW p e below s Z consts_1 _ _ _ (s₁.setTop (mkF m 34 #[.val (.int p0), .val (.int p1), .val (.int p2), .val (.int p3), .val (.int p4), .val (.int p5), .val (.int (0 : Int32)), .val (.int (0 : Int32)), .unset, .unset, .unset, .unset, .unset, .unset] [(.int (p5 &&& (255 : Int32))), (.int p2), (.int p1)]))
      obtain ⟨_, T81, h81, L81, X81, e81, ⟨Nc, Kc, x, rfl, gx⟩, hS81, hg81, hZ81, hown81, R81, st81⟩ := own_callSW X0 hx hZ hown hS hk (hw _ (List.mem_of_getElem? (i := 0) rfl)) (hw _ (List.mem_of_getElem? (i := 1) rfl)) (hw _ (List.mem_of_getElem? (i := 2) rfl)) (hw _ (List.mem_of_getElem? (i := 3) rfl)) (by decide) (own_payW (W := 0) (K := (fun _ _ _ _ _ => True)) (own_rm_draw l Z a0 hw hEL [] p1 p2 (p5 &&& (255 : Int32)) G h0 n0 Od OA OH OL O2 P5) (fun _ _ _ _ _ _ _ _ _ => trivial) hZ (hw _ (List.mem_of_getElem? (i := 3) rfl)) (hw _ (List.mem_of_getElem? (i := 2) rfl)) (by decide) (by decide) hEL Hr.1 own_sf0) e0 (g := (mkF m 34 #[.val (.int p0), .val (.int p1), .val (.int p2), .val (.int p3), .val (.int p4), .val (.int p5), .val (.int (0 : Int32)), .val (.int (0 : Int32)), .unset, .unset, .unset, .unset, .unset, .unset] [(.int (p5 &&& (255 : Int32))), (.int p2), (.int p1)])) rfl (by rw [hml]; rfl) (argsL := [(.int p1), (.int p2), (.int (p5 &&& (255 : Int32)))]) (rest := []) rfl (lenOf own_pd9 rfl) rfl (by show 2 * 0 + _ ≤ _; exact Nat.le_of_eq rfl) (hb hby at_34) (by decide) (by decide)
      have N81 := Fr.app N0 Nc
      have ge_x : n0 ≤ x := Nat.le_trans (own_z0 Od) gx
      have Od := Od.keep Kc all0
      have Hr := Hr.trans R81
      have hS := hS81
      have hk : h81.size ≤ h81.size := Nat.le_refl _
      have hZ := hZ81
      have hown := hown81
      refine own_stW st81 ?_
      show own_GoW p e below s Z consts_1 _ _ _ (T81.setTop (mkF m 37 #[.val (.int p0), .val (.int p1), .val (.int p2), .val (.int p3), .val (.int p4), .val (.int p5), .val (.int (0 : Int32)), .val (.int (0 : Int32)), .unset, .unset, .unset, .unset, .unset, .unset] [(.ref x)]))
      refine own_stW (fun t9 k9 => XS.astore X81.here hx rfl (hb hby at_37) rfl rfl (l' := #[.val (.int p0), .val (.int p1), .val (.int p2), .val (.int p3), .val (.int p4), .val (.int p5), .val (.int (0 : Int32)), .val (.int (0 : Int32)), .val (.ref x), .unset, .unset, .unset, .unset, .unset]) rfl k9) ?_
      show own_GoW p e below s Z consts_1 _ _ _ (T81.setTop (mkF m 39 #[.val (.int p0), .val (.int p1), .val (.int p2), .val (.int p3), .val (.int p4), .val (.int p5), .val (.int (0 : Int32)), .val (.int (0 : Int32)), .val (.ref x), .unset, .unset, .unset, .unset, .unset] []))
      refine own_stW (fun t9 k9 => XS.iloadN X81.here hx rfl (hb hby at_39) rfl  k9) ?_
      show own_GoW p e below s Z consts_1 _ _ _ (T81.setTop (mkF m 40 #[.val (.int p0), .val (.int p1), .val (.int p2), .val (.int p3), .val (.int p4), .val (.int p5), .val (.int (0 : Int32)), .val (.int (0 : Int32)), .val (.ref x), .unset, .unset, .unset, .unset, .unset] [(.int p3)]))
      refine own_stW (fun t9 k9 => XS.iload X81.here hx rfl (hb hby at_40) rfl  k9) ?_
      show own_GoW p e below s Z consts_1 _ _ _ (T81.setTop (mkF m 42 #[.val (.int p0), .val (.int p1), .val (.int p2), .val (.int p3), .val (.int p4), .val (.int p5), .val (.int (0 : Int32)), .val (.int (0 : Int32)), .val (.ref x), .unset, .unset, .unset, .unset, .unset] [(.int p4), (.int p3)]))
      refine own_stW (fun t9 k9 => XS.iload X81.here hx rfl (hb hby at_42) rfl  k9) ?_
      show own_GoW p e below s Z consts_1 _ _ _ (T81.setTop (mkF m 44 #[.val (.int p0), .val (.int p1), .val (.int p2), .val (.int p3), .val (.int p4), .val (.int p5), .val (.int (0 : Int32)), .val (.int (0 : Int32)), .val (.ref x), .unset, .unset, .unset, .unset, .unset] [(.int p5), (.int p4), (.int p3)]))
      refine own_stW (fun t9 k9 => XS.bipush X81.here hx rfl (hb hby at_44) k9) ?_
      show own_GoW p e below s Z consts_1 _ _ _ (T81.setTop (mkF m 46 #[.val (.int p0), .val (.int p1), .val (.int p2), .val (.int p3), .val (.int p4), .val (.int p5), .val (.int (0 : Int32)), .val (.int (0 : Int32)), .val (.ref x), .unset, .unset, .unset, .unset, .unset] [(.int (8 : Int32)), (.int p5), (.int p4), (.int p3)]))
      refine own_stW (fun t9 k9 => XT.iushr X81.here hx rfl (hb hby at_46) rfl k9) ?_
      show own_GoW p e below s Z consts_1 _ _ _ (T81.setTop (mkF m 47 #[.val (.int p0), .val (.int p1), .val (.int p2), .val (.int p3), .val (.int p4), .val (.int p5), .val (.int (0 : Int32)), .val (.int (0 : Int32)), .val (.ref x), .unset, .unset, .unset, .unset, .unset] [(.int ((p5.toUInt32 >>> ((8 : Int32) &&& 31).toUInt32).toInt32)), (.int p4), (.int p3)]))
      refine own_stW (fun t9 k9 => XS.sipush X81.here hx rfl (hb hby at_47) k9) ?_
      show own_GoW p e below s Z consts_1 _ _ _ (T81.setTop (mkF m 50 #[.val (.int p0), .val (.int p1), .val (.int p2), .val (.int p3), .val (.int p4), .val (.int p5), .val (.int (0 : Int32)), .val (.int (0 : Int32)), .val (.ref x), .unset, .unset, .unset, .unset, .unset] [(.int (255 : Int32)), (.int ((p5.toUInt32 >>> ((8 : Int32) &&& 31).toUInt32).toInt32)), (.int p4), (.int p3)]))
      refine own_stW (fun t9 k9 => XS.iand X81.here hx rfl (hb hby at_50) rfl k9) ?_
      show own_GoW p e below s Z consts_1 _ _ _ (T81.setTop (mkF m 51 #[.val (.int p0), .val (.int p1), .val (.int p2), .val (.int p3), .val (.int p4), .val (.int p5), .val (.int (0 : Int32)), .val (.int (0 : Int32)), .val (.ref x), .unset, .unset, .unset, .unset, .unset] [(.int (((p5.toUInt32 >>> ((8 : Int32) &&& 31).toUInt32).toInt32) &&& (255 : Int32))), (.int p4), (.int p3)]))
      obtain ⟨_, T82, h82, L82, X82, e82, ⟨Nd, Kd, y, rfl, gy⟩, hS82, hg82, hZ82, hown82, R82, st82⟩ := own_callSW X81 hx hZ hown hS hk (hw _ (List.mem_of_getElem? (i := 0) rfl)) (hw _ (List.mem_of_getElem? (i := 1) rfl)) (hw _ (List.mem_of_getElem? (i := 2) rfl)) (hw _ (List.mem_of_getElem? (i := 3) rfl)) (by decide) (own_payW (W := 0) (K := (fun _ _ _ _ _ => True)) (own_rm_draw l Z a0 hw hEL [] p3 p4 (((p5.toUInt32 >>> ((8 : Int32) &&& 31).toUInt32).toInt32) &&& (255 : Int32)) G h81 n0 Od OA OH OL O2 P5) (fun _ _ _ _ _ _ _ _ _ => trivial) hZ (hw _ (List.mem_of_getElem? (i := 3) rfl)) (hw _ (List.mem_of_getElem? (i := 2) rfl)) (by decide) (by decide) hEL Hr.1 own_sf0) e81 (g := (mkF m 51 #[.val (.int p0), .val (.int p1), .val (.int p2), .val (.int p3), .val (.int p4), .val (.int p5), .val (.int (0 : Int32)), .val (.int (0 : Int32)), .val (.ref x), .unset, .unset, .unset, .unset, .unset] [(.int (((p5.toUInt32 >>> ((8 : Int32) &&& 31).toUInt32).toInt32) &&& (255 : Int32))), (.int p4), (.int p3)])) rfl (by rw [hml]; rfl) (argsL := [(.int p3), (.int p4), (.int (((p5.toUInt32 >>> ((8 : Int32) &&& 31).toUInt32).toInt32) &&& (255 : Int32)))]) (rest := []) rfl (lenOf own_pd9 rfl) rfl (by show 2 * 0 + _ ≤ _; exact Nat.le_of_eq rfl) (hb hby at_51) (by decide) (by decide)
      have N82 := Fr.app N81 Nd
      have ge_y : n0 ≤ y := Nat.le_trans (own_z0 Od) gy
      have Od := Od.keep Kd all0
      have Hr := Hr.trans R82
      have hS := hS82
      have hk : h82.size ≤ h82.size := Nat.le_refl _
      have hZ := hZ82
      have hown := hown82
      refine own_stW st82 ?_
      show own_GoW p e below s Z consts_1 _ _ _ (T82.setTop (mkF m 54 #[.val (.int p0), .val (.int p1), .val (.int p2), .val (.int p3), .val (.int p4), .val (.int p5), .val (.int (0 : Int32)), .val (.int (0 : Int32)), .val (.ref x), .unset, .unset, .unset, .unset, .unset] [(.ref y)]))
      refine own_stW (fun t9 k9 => XS.astore X82.here hx rfl (hb hby at_54) rfl rfl (l' := #[.val (.int p0), .val (.int p1), .val (.int p2), .val (.int p3), .val (.int p4), .val (.int p5), .val (.int (0 : Int32)), .val (.int (0 : Int32)), .val (.ref x), .val (.ref y), .unset, .unset, .unset, .unset]) rfl k9) ?_
      show own_GoW p e below s Z consts_1 _ _ _ (T82.setTop (mkF m 56 #[.val (.int p0), .val (.int p1), .val (.int p2), .val (.int p3), .val (.int p4), .val (.int p5), .val (.int (0 : Int32)), .val (.int (0 : Int32)), .val (.ref x), .val (.ref y), .unset, .unset, .unset, .unset] []))
      refine own_stW (fun t9 k9 => XS.iload X82.here hx rfl (hb hby at_56) rfl  k9) ?_
      show own_GoW p e below s Z consts_1 _ _ _ (T82.setTop (mkF m 58 #[.val (.int p0), .val (.int p1), .val (.int p2), .val (.int p3), .val (.int p4), .val (.int p5), .val (.int (0 : Int32)), .val (.int (0 : Int32)), .val (.ref x), .val (.ref y), .unset, .unset, .unset, .unset] [(.int (0 : Int32))]))
      refine own_stW (fun t9 k9 => XS.ifYes X82.here hx rfl (pc0 := 58) (pc' := 66) rfl (hb hby at_58) rfl (by decide) (by decide) (by decide) k9) ?_
      show own_GoW p e below s Z consts_1 _ _ _ (T82.setTop (mkF m 66 #[.val (.int p0), .val (.int p1), .val (.int p2), .val (.int p3), .val (.int p4), .val (.int p5), .val (.int (0 : Int32)), .val (.int (0 : Int32)), .val (.ref x), .val (.ref y), .unset, .unset, .unset, .unset] []))
      refine own_stW (fun t9 k9 => XS.aconstNull X82.here hx rfl (hb hby at_66) k9) ?_
      show own_GoW p e below s Z consts_1 _ _ _ (T82.setTop (mkF m 67 #[.val (.int p0), .val (.int p1), .val (.int p2), .val (.int p3), .val (.int p4), .val (.int p5), .val (.int (0 : Int32)), .val (.int (0 : Int32)), .val (.ref x), .val (.ref y), .unset, .unset, .unset, .unset] [.null]))
      refine own_stW (fun t9 k9 => XS.astore X82.here hx rfl (hb hby at_67) rfl rfl (l' := #[.val (.int p0), .val (.int p1), .val (.int p2), .val (.int p3), .val (.int p4), .val (.int p5), .val (.int (0 : Int32)), .val (.int (0 : Int32)), .val (.ref x), .val (.ref y), .val .null, .unset, .unset, .unset]) rfl k9) ?_
      show own_GoW p e below s Z consts_1 _ _ _ (T82.setTop (mkF m 69 #[.val (.int p0), .val (.int p1), .val (.int p2), .val (.int p3), .val (.int p4), .val (.int p5), .val (.int (0 : Int32)), .val (.int (0 : Int32)), .val (.ref x), .val (.ref y), .val .null, .unset, .unset, .unset] []))
      refine own_stW (fun t9 k9 => XS.iload X82.here hx rfl (hb hby at_69) rfl  k9) ?_
      show own_GoW p e below s Z consts_1 _ _ _ (T82.setTop (mkF m 71 #[.val (.int p0), .val (.int p1), .val (.int p2), .val (.int p3), .val (.int p4), .val (.int p5), .val (.int (0 : Int32)), .val (.int (0 : Int32)), .val (.ref x), .val (.ref y), .val .null, .unset, .unset, .unset] [(.int (0 : Int32))]))
      refine own_stW (fun t9 k9 => XS.ifYes X82.here hx rfl (pc0 := 71) (pc' := 79) rfl (hb hby at_71) rfl (by decide) (by decide) (by decide) k9) ?_
      show own_GoW p e below s Z consts_1 _ _ _ (T82.setTop (mkF m 79 #[.val (.int p0), .val (.int p1), .val (.int p2), .val (.int p3), .val (.int p4), .val (.int p5), .val (.int (0 : Int32)), .val (.int (0 : Int32)), .val (.ref x), .val (.ref y), .val .null, .unset, .unset, .unset] []))
      refine own_stW (fun t9 k9 => XS.aconstNull X82.here hx rfl (hb hby at_79) k9) ?_
      show own_GoW p e below s Z consts_1 _ _ _ (T82.setTop (mkF m 80 #[.val (.int p0), .val (.int p1), .val (.int p2), .val (.int p3), .val (.int p4), .val (.int p5), .val (.int (0 : Int32)), .val (.int (0 : Int32)), .val (.ref x), .val (.ref y), .val .null, .unset, .unset, .unset] [.null]))
      refine own_stW (fun t9 k9 => XS.astore X82.here hx rfl (hb hby at_80) rfl rfl (l' := #[.val (.int p0), .val (.int p1), .val (.int p2), .val (.int p3), .val (.int p4), .val (.int p5), .val (.int (0 : Int32)), .val (.int (0 : Int32)), .val (.ref x), .val (.ref y), .val .null, .val .null, .unset, .unset]) rfl k9) ?_
      show own_GoW p e below s Z consts_1 _ _ _ (T82.setTop (mkF m 82 #[.val (.int p0), .val (.int p1), .val (.int p2), .val (.int p3), .val (.int p4), .val (.int p5), .val (.int (0 : Int32)), .val (.int (0 : Int32)), .val (.ref x), .val (.ref y), .val .null, .val .null, .unset, .unset] []))
      refine own_stW (fun t9 k9 => XS.iload X82.here hx rfl (hb hby at_82) rfl  k9) ?_
      show own_GoW p e below s Z consts_1 _ _ _ (T82.setTop (mkF m 84 #[.val (.int p0), .val (.int p1), .val (.int p2), .val (.int p3), .val (.int p4), .val (.int p5), .val (.int (0 : Int32)), .val (.int (0 : Int32)), .val (.ref x), .val (.ref y), .val .null, .val .null, .unset, .unset] [(.int (0 : Int32))]))
      refine own_stW (fun t9 k9 => XS.ifNo X82.here hx rfl (hb hby at_84) rfl (by decide) k9) ?_
      show own_GoW p e below s Z consts_1 _ _ _ (T82.setTop (mkF m 87 #[.val (.int p0), .val (.int p1), .val (.int p2), .val (.int p3), .val (.int p4), .val (.int p5), .val (.int (0 : Int32)), .val (.int (0 : Int32)), .val (.ref x), .val (.ref y), .val .null, .val .null, .unset, .unset] []))
      obtain ⟨T83, X83, e83, st83⟩ := getS (host := "") X82 hx hZ hown (hw _ (List.mem_of_getElem? (i := 46) rfl)) Via.refl e82 (SS.ext Od.2) (g := (mkF m 87 #[.val (.int p0), .val (.int p1), .val (.int p2), .val (.int p3), .val (.int p4), .val (.int p5), .val (.int (0 : Int32)), .val (.int (0 : Int32)), .val (.ref x), .val (.ref y), .val .null, .val .null, .unset, .unset] [])) rfl (hb hby at_87)
      refine own_stW st83 ?_
      show own_GoW p e below s Z consts_1 _ _ _ (T83.setTop (mkF m 90 #[.val (.int p0), .val (.int p1), .val (.int p2), .val (.int p3), .val (.int p4), .val (.int p5), .val (.int (0 : Int32)), .val (.int (0 : Int32)), .val (.ref x), .val (.ref y), .val .null, .val .null, .unset, .unset] [(.ref eS)]))
      refine own_stW (fun t9 k9 => XS.astore X83.here hx rfl (hb hby at_90) rfl rfl (l' := #[.val (.int p0), .val (.int p1), .val (.int p2), .val (.int p3), .val (.int p4), .val (.int p5), .val (.int (0 : Int32)), .val (.int (0 : Int32)), .val (.ref x), .val (.ref y), .val .null, .val .null, .val (.ref eS), .unset]) rfl k9) ?_
      show own_GoW p e below s Z consts_1 _ _ _ (T83.setTop (mkF m 92 #[.val (.int p0), .val (.int p1), .val (.int p2), .val (.int p3), .val (.int p4), .val (.int p5), .val (.int (0 : Int32)), .val (.int (0 : Int32)), .val (.ref x), .val (.ref y), .val .null, .val .null, .val (.ref eS), .unset] []))
      refine own_stW (fun t9 k9 => XS.goto X83.here hx rfl (pc0 := 92) (pc' := 113) rfl (hb hby at_92) (by decide) (by decide) k9) ?_
      show own_GoW p e below s Z consts_1 _ _ _ (T83.setTop (mkF m 113 #[.val (.int p0), .val (.int p1), .val (.int p2), .val (.int p3), .val (.int p4), .val (.int p5), .val (.int (0 : Int32)), .val (.int (0 : Int32)), .val (.ref x), .val (.ref y), .val .null, .val .null, .val (.ref eS), .unset] []))
      refine own_stW (fun t9 k9 => XS.aload X83.here hx rfl (hb hby at_113) rfl rfl k9) ?_
      show own_GoW p e below s Z consts_1 _ _ _ (T83.setTop (mkF m 115 #[.val (.int p0), .val (.int p1), .val (.int p2), .val (.int p3), .val (.int p4), .val (.int p5), .val (.int (0 : Int32)), .val (.int (0 : Int32)), .val (.ref x), .val (.ref y), .val .null, .val .null, .val (.ref eS), .unset] [.null]))
      refine own_stW (fun t9 k9 => XS.aload X83.here hx rfl (hb hby at_115) rfl rfl k9) ?_
      show own_GoW p e below s Z consts_1 _ _ _ (T83.setTop (mkF m 117 #[.val (.int p0), .val (.int p1), .val (.int p2), .val (.int p3), .val (.int p4), .val (.int p5), .val (.int (0 : Int32)), .val (.int (0 : Int32)), .val (.ref x), .val (.ref y), .val .null, .val .null, .val (.ref eS), .unset] [.null, .null]))
      obtain ⟨_, T84, h84, L84, X84, e84, ⟨rfl, Nq, hu⟩, st84⟩ := own_callS X83 hx hZ hown (hw _ (List.mem_of_getElem? (i := 30) rfl)) (hw _ (List.mem_of_getElem? (i := 31) rfl)) (hw _ (List.mem_of_getElem? (i := 28) rfl)) (hw _ (List.mem_of_getElem? (i := 32) rfl)) (by decide) (own_rm_ofNN l Z a0 hw []  eS eA eN h82 n0 Od SS SA SN) (by decide) (by decide) e83 (W := 0) (g := (mkF m 117 #[.val (.int p0), .val (.int p1), .val (.int p2), .val (.int p3), .val (.int p4), .val (.int p5), .val (.int (0 : Int32)), .val (.int (0 : Int32)), .val (.ref x), .val (.ref y), .val .null, .val .null, .val (.ref eS), .unset] [.null, .null])) rfl (by rw [hml]; rfl) (argsL := [.null, .null]) (rest := []) rfl (lenOf own_pd10 rfl) rfl (by show 2 * 0 + _ ≤ _; exact Nat.le_of_eq rfl) (hb hby at_117) (by decide) (by decide)
      have N84 := Fr.app N82 Nq
      refine own_stW st84 ?_
      show own_GoW p e below s Z consts_1 _ _ _ (T84.setTop (mkF m 120 #[.val (.int p0), .val (.int p1), .val (.int p2), .val (.int p3), .val (.int p4), .val (.int p5), .val (.int (0 : Int32)), .val (.int (0 : Int32)), .val (.ref x), .val (.ref y), .val .null, .val .null, .val (.ref eS), .unset] [(.ref eS)]))
      refine own_stW (fun t9 k9 => XS.astore X84.here hx rfl (hb hby at_120) rfl rfl (l' := #[.val (.int p0), .val (.int p1), .val (.int p2), .val (.int p3), .val (.int p4), .val (.int p5), .val (.int (0 : Int32)), .val (.int (0 : Int32)), .val (.ref x), .val (.ref y), .val .null, .val .null, .val (.ref eS), .val (.ref eS)]) rfl k9) ?_
      show own_GoW p e below s Z consts_1 _ _ _ (T84.setTop (mkF m 122 #[.val (.int p0), .val (.int p1), .val (.int p2), .val (.int p3), .val (.int p4), .val (.int p5), .val (.int (0 : Int32)), .val (.int (0 : Int32)), .val (.ref x), .val (.ref y), .val .null, .val .null, .val (.ref eS), .val (.ref eS)] []))
      refine own_stW (fun t9 k9 => XS.aload X84.here hx rfl (hb hby at_122) rfl rfl k9) ?_
      show own_GoW p e below s Z consts_1 _ _ _ (T84.setTop (mkF m 124 #[.val (.int p0), .val (.int p1), .val (.int p2), .val (.int p3), .val (.int p4), .val (.int p5), .val (.int (0 : Int32)), .val (.int (0 : Int32)), .val (.ref x), .val (.ref y), .val .null, .val .null, .val (.ref eS), .val (.ref eS)] [(.ref eS)]))
      refine own_stW (fun t9 k9 => XS.aload X84.here hx rfl (hb hby at_124) rfl rfl k9) ?_
      show own_GoW p e below s Z consts_1 _ _ _ (T84.setTop (mkF m 126 #[.val (.int p0), .val (.int p1), .val (.int p2), .val (.int p3), .val (.int p4), .val (.int p5), .val (.int (0 : Int32)), .val (.int (0 : Int32)), .val (.ref x), .val (.ref y), .val .null, .val .null, .val (.ref eS), .val (.ref eS)] [(.ref eS), (.ref eS)]))
      refine own_stW (fun t9 k9 => XT.acmpNo X84.here hx rfl (hb hby at_126) rfl rfl rfl (by simp [XT.acmp]) k9) ?_
      show own_GoW p e below s Z consts_1 _ _ _ (T84.setTop (mkF m 129 #[.val (.int p0), .val (.int p1), .val (.int p2), .val (.int p3), .val (.int p4), .val (.int p5), .val (.int (0 : Int32)), .val (.int (0 : Int32)), .val (.ref x), .val (.ref y), .val .null, .val .null, .val (.ref eS), .val (.ref eS)] []))
      refine own_stW (fun t9 k9 => XS.iconst X84.here hx rfl (hb hby at_129) k9) ?_
      show own_GoW p e below s Z consts_1 _ _ _ (T84.setTop (mkF m 130 #[.val (.int p0), .val (.int p1), .val (.int p2), .val (.int p3), .val (.int p4), .val (.int p5), .val (.int (0 : Int32)), .val (.int (0 : Int32)), .val (.ref x), .val (.ref y), .val .null, .val .null, .val (.ref eS), .val (.ref eS)] [(.int (1 : Int32))]))
      refine own_stW (fun t9 k9 => XS.goto X84.here hx rfl (pc0 := 130) (pc' := 134) rfl (hb hby at_130) (by decide) (by decide) k9) ?_
      show own_GoW p e below s Z consts_1 _ _ _ (T84.setTop (mkF m 134 #[.val (.int p0), .val (.int p1), .val (.int p2), .val (.int p3), .val (.int p4), .val (.int p5), .val (.int (0 : Int32)), .val (.int (0 : Int32)), .val (.ref x), .val (.ref y), .val .null, .val .null, .val (.ref eS), .val (.ref eS)] [(.int (1 : Int32))]))
      exact own_retNW X84 hx hlk hS (by rw [(e84.trans hu)]; exact hk) hZ hEL (by rw [hh, (e84.trans hu)]; exact Hr) (t := .boolean) Bd.returns (by simp) (hb hby at_134) (by decide) (by decide) (by rw [(e84.trans hu)]; exact ⟨rfl, N84⟩)
set_option maxRecDepth 65536 in
set_option maxHeartbeats 40000000 in
theorem comes_1 {Post : Tables → Env → Array Value → State → Outcome → State → Prop} (hpost : ∀ tb e args s v u, (limb_1_1.after args s (.returned v) u = true ∧ limb_1_2.after args s (.returned v) u = true ∧ True) → ReturnedEndW s (.returned v) u (Jvm.fieldLocs frame_1_writes args s ++ Jvm.arrayLocs frame_1_arrays args s ++ Jvm.staticLocs frame_1_statics s) 32 1152 → Post tb e args s (.returned v) u) :
    ArmFor flags0 classFile x code maxLocals ret World_1 tables_1 room_1 Calls_1 rest_1 Pre_1 Post := by
  intro l hfl _ _ p e ha hc hk s m args below hf hA hF happ hP
  obtain ⟨hcalls, hrest, hpre⟩ := hP
  obtain ⟨-, -, -, hnamed, -, -, -, hat⟩ := (Spec.applies_iff hf).mp happ
  obtain ⟨hg, hn⟩ := and_e (Cond.before_iff.mp (show (Jvm.Cond.and given_1 narrow_1).before args s = true from hpre))
  obtain ⟨gc, g0⟩ := and_e hg
  obtain ⟨ga0, g1⟩ := and_e g0
  obtain ⟨ga1, g2⟩ := and_e g1
  obtain ⟨ga2, g3⟩ := and_e g2
  obtain ⟨ga3, g4⟩ := and_e g3
  obtain ⟨ga4, g5⟩ := and_e g4
  obtain ⟨w0, w1, w2, w3, w4, w5, rfl⟩ : ∃ w0 w1 w2 w3 w4 w5 : Value, args = #[w0, w1, w2, w3, w4, w5] := by
    have hs : args.size = 6 := by simpa [Cond.value, given_1] using gc
    obtain ⟨L⟩ := args
    match L, hs with
    | [w0, w1, w2, w3, w4, w5], _ => exact ⟨w0, w1, w2, w3, w4, w5, rfl⟩
  have hw := fun d (hd : d ∈ tables_1) => atoms_spec (ws := Jvm.Cond.code x code maxLocals ret :: tables_1) hat d (List.mem_cons_of_mem _ hd)
  have hfit : Fit s := fun {y c} hc i hi => by
    obtain ⟨ha, rfl⟩ := Array.getElem?_eq_some_iff.mp hc
    have q := List.all_eq_true.mp ((Array.all_eq_true_iff_forall_mem.mp hF) _ (Array.getElem_mem ha)) i (List.mem_range.mpr hi)
    simpa [Array.getElem?_eq_getElem hi] using q
  obtain ⟨hsets, hown0⟩ := atoms_of _ (rest_1_c_eq ▸ (show rest_1_c.before _ s = true from hrest))
  have s0 := hsets _ (List.mem_of_getElem? (i := 0) rfl)
  obtain ⟨G, eG⟩ := is_v (Cond.before_iff.mp (hsets _ (List.mem_of_getElem? (i := 1) rfl)))
  have hcw := hsets _ (List.mem_of_getElem? (i := 2) rfl)
  have hG := not_v (Cond.before_iff.mp hcw)
  have O2 := Sta.start eG (Or.inl s0)
  have P5 : ¬ (G = (0 : Int32)) := fun q => by
    subst q
    rw [eq_i eG (Term.int_eval (0)) rfl] at hG
    cases hG
  have OA := own_sta (hsets _ (List.mem_of_getElem? (i := 12) rfl)) (hsets _ (List.mem_of_getElem? (i := 11) rfl))
  have OH := own_sta (hsets _ (List.mem_of_getElem? (i := 15) rfl)) (hsets _ (List.mem_of_getElem? (i := 14) rfl))
  have OL := own_sta (hsets _ (List.mem_of_getElem? (i := 18) rfl)) (hsets _ (List.mem_of_getElem? (i := 17) rfl))
  obtain ⟨i0, ei0⟩ := is_v ga0
  obtain rfl : w0 = (.int i0) := Option.some.inj ei0
  obtain ⟨i1, ei1⟩ := is_v ga1
  obtain rfl : w1 = (.int i1) := Option.some.inj ei1
  obtain ⟨i2, ei2⟩ := is_v ga2
  obtain rfl : w2 = (.int i2) := Option.some.inj ei2
  obtain ⟨i3, ei3⟩ := is_v ga3
  obtain rfl : w3 = (.int i3) := Option.some.inj ei3
  obtain ⟨i4, ei4⟩ := is_v ga4
  obtain rfl : w4 = (.int i4) := Option.some.inj ei4
  obtain ⟨i5, ei5⟩ := is_v g5
  obtain rfl : w5 = (.int i5) := Option.some.inj ei5
  have hheld := hcalls.1
  have hEL : EW s _ consts_1 := (EW.cons (hw _ (List.mem_of_getElem? (i := 19) rfl)) (by decide) EW.nil)
  have hCH : CHv s consts_1 s.vm s.heap := CHv.start hEL (fun p hp => hheld p hp) (show Jvm.Lit.compactW.before _ s = true from hcw) (hw _ (List.mem_of_getElem? (i := 20) rfl)) (hw _ (List.mem_of_getElem? (i := 6) rfl))
  obtain ⟨n1, n2⟩ := and_e hn
  obtain ⟨n3, n4⟩ := and_e n2
  obtain ⟨eN, SN⟩ := own_staE n1 (hw _ (List.mem_of_getElem? (i := 28) rfl)) (hw _ (List.mem_of_getElem? (i := 29) rfl))
  obtain ⟨eS, SS⟩ := own_staE n3 (hw _ (List.mem_of_getElem? (i := 28) rfl)) (hw _ (List.mem_of_getElem? (i := 47) rfl))
  obtain ⟨eA, SA⟩ := own_staE n4 (hw _ (List.mem_of_getElem? (i := 28) rfl)) (hw _ (List.mem_of_getElem? (i := 69) rfl))
  obtain ⟨n, o, h1, h2, h3, _, L, rfl, ⟨rfl, N⟩, -, hq⟩ := own_rm_law l s _ hw hEL tables_1 i0 i1 i2 i3 i4 i5 G eS eA eN s.heap s.heap.size (Old.start s) OA OH OL O2 P5 SS SA SN p e ha hc hk s m _ below hf ((Spec.applies_iff_loose hf).mp happ).1 ⟨rfl, State.Warmed39.refl s, rfl, hCH, own_nosf⟩ trivial
  refine ⟨n, _, h1, h2, h3, hpost _ _ _ _ _ _ ⟨Cond.after_iff.mpr rfl, Cond.after_iff.mpr (eq_i res_at (Term.int_eval (1)) rfl), trivial⟩ ⟨hq.1, hq.2.1, hq.2.2.1, (hq.2.2.2.sift fun y hy => Or.inr (N y hy)).mono (by decide) (by decide)⟩⟩
theorem main_1_1 : Claimed_1_1 := comes_1 fun _ _ _ _ _ _ h hF => ⟨h.1, hF⟩
theorem main_1_2 : Claimed_1_2 := comes_1 fun _ _ _ _ _ _ h hF => ⟨h.2.1, hF⟩
end Jvm.Pilot.@@N@@
namespace Jvm.Pilot.@@N@@
open Jvm Jvm.ClassFile Sem Op Lib Jvm.Free Jvm.Stand Jvm.Pilot.@@N@@.Jvm.D
/-! MADE BY PROGRAM (witnessworld.py) out of the Statement's table words and the real class files: 21 classes; the members and pool entries that the words name. The judged class is class 1, her method 2. -/
namespace start1
open Jvm.ClassFile
def u (s : String) : CpInfo := .utf8 (stringToUtf16 s)
/-- a pool by its gaps: so many unusable entries, then the entry; so many at the end -/
def gap : Nat → List CpInfo → List CpInfo
  | 0, r => r
  | n + 1, r => .unusable :: gap n r
def poolList (es : List (Nat × CpInfo)) (last : Nat) : List CpInfo := es.foldr (fun e r => gap e.1 (e.2 :: r)) (gap last [])
def pool (es : List (Nat × CpInfo)) (last : Nat) : Array CpInfo := ⟨poolList es last⟩
def fileOf (pool : Array CpInfo) (this : Nat) (attrs : Array Attribute := #[]) (ms : Array MethodInfo := #[]) (fl : Nat := 33) (sup : Nat := 0) (ifs : Array Nat := #[]) (fds : Array FieldInfo := #[]) : ClassFile where
  minorVersion := 0
  majorVersion := 65
  constantPool := pool
  accessFlags := fl
  thisClass := this
  superClass := sup
  interfaces := ifs
  fields := fds
  methods := ms
  attributes := attrs
def plain (name : String) (sup : Option ClassId) : Class where
  name := name
  kind := .ordinary
  loader := none
  accessFlags := 33
  super := sup
  interfaces := #[]
  cf := none
  fields := #[]
  methods := #[]
  instanceTypes := #[]
  staticTypes := #[]
  resolved := #[]
  callSites := []
  init := .initialized
  statics := none
  mirror := none

def pool0 : Array CpInfo := pool [(5, u "<init>"), (0, u "()V"), (1, .class_ 10), (1, u "java/lang/Object")] 113

def k0c0 : Code := { maxStack := 0, maxLocals := 1, code := object_method_1_code, exceptionTable := #[], attributes := #[] }
def k0m0 : Method := { name := "<init>", desc := "()V", sig := { parameters := [], returnType := none }, accessFlags := 1, code := some k0c0 }
/-- java/lang/Object -/
def k0 : Class := { plain "java/lang/Object" none with
  accessFlags := 33
  interfaces := #[]
  cf := some (fileOf pool0 8 #[] #[{ accessFlags := 1, nameIndex := 5, descriptorIndex := 6, attributes := #[] }] 33 0 #[] #[])
  fields := #[]
  methods := #[k0m0]
  instanceTypes := #[]
  staticTypes := #[]
  resolved := Array.replicate 124 none
  statics := none }

def pool1 : Array CpInfo := pool [(2, .class_ 4), (1, u "java/lang/Object"), (0, u "<init>"), (0, u "()V"), (0, .integer 2147483647), (0, .class_ 9), (0, u "java/lang/String"), (0, .methodref 8 11), (0, .nameAndType 5 12), (0, u "([C)V"), (0, .integer 65535), (0, .methodref 15 16), (0, .class_ 17), (0, .nameAndType 18 19), (0, u "com/example/scopewarden/scopewarden/ExtentOfPinLaw"), (0, u "draw"), (0, u "(III)Ljava/lang/String;"), (0, .fieldref 21 22), (0, .class_ 23), (0, .nameAndType 24 25), (0, u "com/example/scopewarden/scopewarden/Action$Extent"), (0, u "SYSTEM"), (0, u "Lcom/example/scopewarden/scopewarden/Action$Extent;"), (0, .fieldref 21 27), (0, .nameAndType 28 25), (0, u "APP"), (0, .fieldref 21 30), (0, .nameAndType 31 25), (0, u "NAMESPACE"), (0, .methodref 21 33), (0, .nameAndType 34 35), (0, u "of"), (0, u "(Ljava/lang/String;Ljava/lang/String;)Lcom/example/scopewarden/scopewarden/Action$Extent;"), (3, u "law"), (0, u "(IIIIII)Z")] 6

def k1m0 : Method := { name := "<init>", desc := "()V", sig := { parameters := [], returnType := none }, accessFlags := 2, code := none }
def k1c1 : Code := { maxStack := 4, maxLocals := 5, code := method_2_code, exceptionTable := #[], attributes := #[] }
def k1m1 : Method := { name := "draw", desc := "(III)Ljava/lang/String;", sig := { parameters := [.int, .int, .int], returnType := some (.object "java/lang/String") }, accessFlags := 10, code := some k1c1 }
def k1c2 : Code := { maxStack := 4, maxLocals := 14, code := code, exceptionTable := #[], attributes := #[] }
def k1m2 : Method := { name := "law", desc := "(IIIIII)Z", sig := { parameters := [.int, .int, .int, .int, .int, .int], returnType := some .boolean }, accessFlags := 9, code := some k1c2 }
/-- com/example/scopewarden/scopewarden/ExtentOfPinLaw -/
def k1 : Class := { plain "com/example/scopewarden/scopewarden/ExtentOfPinLaw" (some 0) with
  accessFlags := 49
  interfaces := #[]
  cf := some (fileOf pool1 15 #[] #[{ accessFlags := 2, nameIndex := 5, descriptorIndex := 6, attributes := #[] }, { accessFlags := 10, nameIndex := 18, descriptorIndex := 19, attributes := #[] }, { accessFlags := 9, nameIndex := 39, descriptorIndex := 40, attributes := #[] }] 49 2 #[] #[])
  fields := #[]
  methods := #[k1m0, k1m1, k1m2]
  instanceTypes := #[]
  staticTypes := #[]
  resolved := Array.replicate 47 none
  statics := none }

def pool2 : Array CpInfo := pool [(1, .class_ 2), (0, u "java/io/Serializable"), (0, .class_ 4), (0, u "java/lang/Object")] 2

/-- java/io/Serializable -/
def k2 : Class := { plain "java/io/Serializable" (some 0) with
  accessFlags := 1537
  interfaces := #[]
  cf := some (fileOf pool2 1 #[] #[] 1537 3 #[] #[])
  fields := #[]
  methods := #[]
  instanceTypes := #[]
  staticTypes := #[]
  resolved := Array.replicate 7 none
  statics := none }

def pool3 : Array CpInfo := pool [(1, .class_ 2), (0, u "java/lang/Comparable"), (0, .class_ 4), (0, u "java/lang/Object")] 7

/-- java/lang/Comparable -/
def k3 : Class := { plain "java/lang/Comparable" (some 0) with
  accessFlags := 1537
  interfaces := #[]
  cf := some (fileOf pool3 1 #[] #[] 1537 3 #[] #[])
  fields := #[]
  methods := #[]
  instanceTypes := #[]
  staticTypes := #[]
  resolved := Array.replicate 12 none
  statics := none }

def pool4 : Array CpInfo := pool [(2, .class_ 4), (1, u "java/lang/CharSequence"), (42, .class_ 48), (0, u "java/lang/CharSequence$1CodePointIterator"), (10, .class_ 60), (0, u "java/lang/CharSequence$1CharIterator"), (5, .class_ 67), (0, u "java/lang/Object")] 63

/-- java/lang/CharSequence -/
def k4 : Class := { plain "java/lang/CharSequence" (some 0) with
  accessFlags := 1537
  interfaces := #[]
  cf := some (fileOf pool4 2 #[.nestMembers #[47, 59]] #[] 1537 66 #[] #[])
  fields := #[]
  methods := #[]
  instanceTypes := #[]
  staticTypes := #[]
  resolved := Array.replicate 131 none
  statics := none }

def pool5 : Array CpInfo := pool [(1, .class_ 2), (0, u "java/lang/constant/Constable"), (0, .class_ 4), (0, u "java/lang/Object")] 6

/-- java/lang/constant/Constable -/
def k5 : Class := { plain "java/lang/constant/Constable" (some 0) with
  accessFlags := 1537
  interfaces := #[]
  cf := some (fileOf pool5 1 #[] #[] 1537 3 #[] #[])
  fields := #[]
  methods := #[]
  instanceTypes := #[]
  staticTypes := #[]
  resolved := Array.replicate 11 none
  statics := none }

def pool6 : Array CpInfo := pool [(1, .class_ 2), (0, u "java/lang/constant/ConstantDesc"), (0, .class_ 4), (0, u "java/lang/Object")] 32

/-- java/lang/constant/ConstantDesc -/
def k6 : Class := { plain "java/lang/constant/ConstantDesc" (some 0) with
  accessFlags := 1537
  interfaces := #[]
  cf := some (fileOf pool6 1 #[] #[] 1537 3 #[] #[])
  fields := #[]
  methods := #[]
  instanceTypes := #[]
  staticTypes := #[]
  resolved := Array.replicate 37 none
  statics := none }

def pool7 : Array CpInfo := pool [(1, .methodref 2 3), (0, .class_ 4), (0, .nameAndType 5 6), (0, u "java/lang/Object"), (0, u "<init>"), (0, u "()V"), (0, .string 8), (0, u ""), (0, .fieldref 10 11), (0, .class_ 12), (0, .nameAndType 13 14), (0, u "java/lang/String"), (0, u "value"), (0, u "[B"), (0, .fieldref 10 16), (0, .nameAndType 17 18), (0, u "coder"), (0, u "B"), (2, u "hash"), (0, u "I"), (2, u "hashIsZero"), (0, u "Z"), (0, .methodref 10 28), (0, .nameAndType 5 29), (0, u "([CIILjava/lang/Void;)V"), (8, .fieldref 10 39), (0, .nameAndType 40 26), (0, u "COMPACT_STRINGS"), (1, .class_ 44), (1, u "java/lang/StringUTF16"), (0, u "compress"), (1, .methodref 42 48), (0, .nameAndType 49 50), (0, u "coderFromArrayLen"), (0, u "([BI)B"), (126, .methodref 42 178), (0, .nameAndType 45 179), (0, u "([CII)[B"), (395, .class_ 576), (0, u "java/lang/CharSequence"), (22, u "CASE_INSENSITIVE_ORDER"), (0, u "Ljava/util/Comparator;"), (409, u "([C)V"), (90, u "serialPersistentFields"), (0, u "[Ljava/io/ObjectStreamField;"), (0, .class_ 1104), (0, u "java/lang/String$CaseInsensitiveComparator"), (1, .class_ 1107), (0, u "java/io/Serializable"), (0, .class_ 1109), (0, u "java/lang/Comparable"), (0, .class_ 1111), (0, u "java/lang/constant/Constable"), (0, .class_ 1113), (0, u "java/lang/constant/ConstantDesc"), (2, u "serialVersionUID"), (0, u "J"), (3, u "REPL"), (0, u "C"), (2, u "LATIN1"), (1, u "UTF16")] 323

def k7m0 : Method := { name := "<init>", desc := "()V", sig := { parameters := [], returnType := none }, accessFlags := 1, code := none }
def k7c1 : Code := { maxStack := 5, maxLocals := 2, code := jdk_42_method_3_code, exceptionTable := #[], attributes := #[] }
def k7m1 : Method := { name := "<init>", desc := "([C)V", sig := { parameters := [(.array .char)], returnType := none }, accessFlags := 1, code := some k7c1 }
def k7c2 : Code := { maxStack := 4, maxLocals := 6, code := jdk_42_method_149_code, exceptionTable := #[], attributes := #[] }
def k7m2 : Method := { name := "<init>", desc := "([CIILjava/lang/Void;)V", sig := { parameters := [(.array .char), .int, .int, (.object "java/lang/Void")], returnType := none }, accessFlags := 2, code := some k7c2 }
/-- java/lang/String -/
def k7 : Class := { plain "java/lang/String" (some 0) with
  accessFlags := 49
  interfaces := #[2, 3, 4, 5, 6]
  cf := some (fileOf pool7 10 #[.nestMembers #[1103]] #[{ accessFlags := 1, nameIndex := 5, descriptorIndex := 6, attributes := #[] }, { accessFlags := 1, nameIndex := 5, descriptorIndex := 1010, attributes := #[] }, { accessFlags := 2, nameIndex := 5, descriptorIndex := 29, attributes := #[] }] 49 2 #[1106, 1108, 575, 1110, 1112] #[{ accessFlags := 18, nameIndex := 13, descriptorIndex := 14, attributes := #[] }, { accessFlags := 18, nameIndex := 17, descriptorIndex := 18, attributes := #[] }, { accessFlags := 2, nameIndex := 21, descriptorIndex := 22, attributes := #[] }, { accessFlags := 2, nameIndex := 25, descriptorIndex := 26, attributes := #[] }, { accessFlags := 26, nameIndex := 1116, descriptorIndex := 1117, attributes := #[] }, { accessFlags := 24, nameIndex := 40, descriptorIndex := 26, attributes := #[] }, { accessFlags := 26, nameIndex := 1101, descriptorIndex := 1102, attributes := #[] }, { accessFlags := 26, nameIndex := 1121, descriptorIndex := 1122, attributes := #[] }, { accessFlags := 25, nameIndex := 599, descriptorIndex := 600, attributes := #[] }, { accessFlags := 24, nameIndex := 1125, descriptorIndex := 18, attributes := #[] }, { accessFlags := 24, nameIndex := 1127, descriptorIndex := 18, attributes := #[] }])
  fields := #[{ name := "value", type := (.array .byte), accessFlags := 18, slot := 0, constantValue := 0 }, { name := "coder", type := .byte, accessFlags := 18, slot := 1, constantValue := 0 }, { name := "hash", type := .int, accessFlags := 2, slot := 2, constantValue := 0 }, { name := "hashIsZero", type := .boolean, accessFlags := 2, slot := 3, constantValue := 0 }, { name := "serialVersionUID", type := .long, accessFlags := 26, slot := 0, constantValue := 0 }, { name := "COMPACT_STRINGS", type := .boolean, accessFlags := 24, slot := 1, constantValue := 0 }, { name := "serialPersistentFields", type := (.array (.object "java/io/ObjectStreamField")), accessFlags := 26, slot := 2, constantValue := 0 }, { name := "REPL", type := .char, accessFlags := 26, slot := 3, constantValue := 0 }, { name := "CASE_INSENSITIVE_ORDER", type := (.object "java/util/Comparator"), accessFlags := 25, slot := 4, constantValue := 0 }, { name := "LATIN1", type := .byte, accessFlags := 24, slot := 5, constantValue := 0 }, { name := "UTF16", type := .byte, accessFlags := 24, slot := 6, constantValue := 0 }]
  methods := #[k7m0, k7m1, k7m2]
  instanceTypes := #[(.array .byte), .byte, .int, .boolean]
  staticTypes := #[.long, .boolean, (.array (.object "java/io/ObjectStreamField")), .char, (.object "java/util/Comparator"), .byte, .byte]
  resolved := Array.replicate 1451 none
  statics := some 0 }

def pool8 : Array CpInfo := pool [(2, .class_ 4), (1, u "java/lang/Enum"), (0, u "name"), (0, u "Ljava/lang/String;"), (2, u "ordinal"), (0, u "I"), (1, .class_ 14), (1, u "java/lang/Object"), (4, u "hash"), (86, .class_ 108), (1, u "java/lang/Enum$EnumDesc"), (2, .class_ 112), (0, u "java/lang/constant/Constable"), (0, .class_ 114), (0, u "java/lang/Comparable"), (0, .class_ 116), (0, u "java/io/Serializable")] 87

/-- java/lang/Enum -/
def k8 : Class := { plain "java/lang/Enum" (some 0) with
  accessFlags := 1057
  interfaces := #[5, 3, 2]
  cf := some (fileOf pool8 2 #[.nestMembers #[106]] #[] 1057 12 #[111, 113, 115] #[{ accessFlags := 18, nameIndex := 5, descriptorIndex := 6, attributes := #[] }, { accessFlags := 18, nameIndex := 9, descriptorIndex := 10, attributes := #[] }, { accessFlags := 2, nameIndex := 19, descriptorIndex := 10, attributes := #[] }])
  fields := #[{ name := "name", type := (.object "java/lang/String"), accessFlags := 18, slot := 0, constantValue := 0 }, { name := "ordinal", type := .int, accessFlags := 18, slot := 1, constantValue := 0 }, { name := "hash", type := .int, accessFlags := 2, slot := 2, constantValue := 0 }]
  methods := #[]
  instanceTypes := #[(.object "java/lang/String"), .int, .int]
  staticTypes := #[]
  resolved := Array.replicate 204 none
  statics := none }

def pool9 : Array CpInfo := pool [(1, .class_ 2), (0, u "com/example/scopewarden/scopewarden/Action$Extent"), (0, .fieldref 1 4), (0, .nameAndType 5 6), (0, u "SYSTEM"), (0, u "Lcom/example/scopewarden/scopewarden/Action$Extent;"), (0, .fieldref 1 8), (0, .nameAndType 9 6), (0, u "APP"), (0, .fieldref 1 11), (0, .nameAndType 12 6), (0, u "NAMESPACE"), (2, u "$VALUES"), (0, u "[Lcom/example/scopewarden/scopewarden/Action$Extent;"), (6, .class_ 25), (1, u "java/lang/Enum"), (21, u "of"), (0, u "(Ljava/lang/String;Ljava/lang/String;)Lcom/example/scopewarden/scopewarden/Action$Extent;"), (6, .class_ 56), (0, u "com/example/scopewarden/scopewarden/Action")] 2

def k9c0 : Code := { maxStack := 1, maxLocals := 2, code := prog_2_method_4_code, exceptionTable := #[], attributes := #[] }
def k9m0 : Method := { name := "of", desc := "(Ljava/lang/String;Ljava/lang/String;)Lcom/example/scopewarden/scopewarden/Action$Extent;", sig := { parameters := [(.object "java/lang/String"), (.object "java/lang/String")], returnType := some (.object "com/example/scopewarden/scopewarden/Action$Extent") }, accessFlags := 8, code := some k9c0 }
/-- com/example/scopewarden/scopewarden/Action$Extent -/
def k9 : Class := { plain "com/example/scopewarden/scopewarden/Action$Extent" (some 8) with
  accessFlags := 16433
  interfaces := #[]
  cf := some (fileOf pool9 1 #[.nestHost 55] #[{ accessFlags := 8, nameIndex := 47, descriptorIndex := 48, attributes := #[] }] 16433 23 #[] #[{ accessFlags := 16409, nameIndex := 5, descriptorIndex := 6, attributes := #[] }, { accessFlags := 16409, nameIndex := 9, descriptorIndex := 6, attributes := #[] }, { accessFlags := 16409, nameIndex := 12, descriptorIndex := 6, attributes := #[] }, { accessFlags := 4122, nameIndex := 15, descriptorIndex := 16, attributes := #[] }])
  fields := #[{ name := "SYSTEM", type := (.object "com/example/scopewarden/scopewarden/Action$Extent"), accessFlags := 16409, slot := 0, constantValue := 0 }, { name := "APP", type := (.object "com/example/scopewarden/scopewarden/Action$Extent"), accessFlags := 16409, slot := 1, constantValue := 0 }, { name := "NAMESPACE", type := (.object "com/example/scopewarden/scopewarden/Action$Extent"), accessFlags := 16409, slot := 2, constantValue := 0 }, { name := "$VALUES", type := (.array (.object "com/example/scopewarden/scopewarden/Action$Extent")), accessFlags := 4122, slot := 3, constantValue := 0 }]
  methods := #[k9m0]
  instanceTypes := #[(.object "java/lang/String"), .int, .int]
  staticTypes := #[(.object "com/example/scopewarden/scopewarden/Action$Extent"), (.object "com/example/scopewarden/scopewarden/Action$Extent"), (.object "com/example/scopewarden/scopewarden/Action$Extent"), (.array (.object "com/example/scopewarden/scopewarden/Action$Extent"))]
  resolved := Array.replicate 59 none
  statics := some 1 }

def pool10 : Array CpInfo := pool [(6, .class_ 8), (1, u "java/lang/Object"), (0, u "<init>"), (0, u "()V"), (0, .methodref 12 13), (0, .class_ 14), (0, .nameAndType 15 16), (0, u "java/lang/StringUTF16"), (0, u "newBytesLength"), (0, u "(I)I"), (3, .integer 1073741823), (23, .fieldref 12 45), (0, .nameAndType 46 47), (0, u "$assertionsDisabled"), (0, u "Z"), (11, .fieldref 12 60), (0, .nameAndType 61 62), (0, u "HI_BYTE_SHIFT"), (0, u "I"), (0, .fieldref 12 64), (0, .nameAndType 65 62), (0, u "LO_BYTE_SHIFT"), (5, .methodref 12 72), (0, .nameAndType 73 74), (0, u "getChar"), (0, u "([BI)C"), (32, .methodref 12 108), (0, .nameAndType 109 110), (0, u "newBytesFor"), (0, u "(I)[B"), (0, .methodref 12 112), (0, .nameAndType 113 114), (0, u "putChar"), (0, u "([BII)V"), (0, .methodref 12 116), (0, .nameAndType 117 118), (0, u "compress"), (0, u "([CI[BII)I"), (0, .methodref 12 120), (0, .nameAndType 121 122), (0, u "toBytes"), (0, u "([CII)[B"), (138, u "coderFromArrayLen"), (0, u "([BI)B"), (106, .class_ 371), (1, u "java/lang/StringUTF16$LinesSpliterator"), (58, u "MAX_LENGTH"), (196, .class_ 628), (0, u "java/lang/StringUTF16$CodePointsSpliterator"), (0, .class_ 630), (0, u "java/lang/StringUTF16$CharsSpliterator")] 4

def k10m0 : Method := { name := "<init>", desc := "()V", sig := { parameters := [], returnType := none }, accessFlags := 0, code := none }
def k10c1 : Code := { maxStack := 1, maxLocals := 1, code := jdk_52_method_2_code, exceptionTable := #[], attributes := #[] }
def k10m1 : Method := { name := "newBytesFor", desc := "(I)[B", sig := { parameters := [.int], returnType := some (.array .byte) }, accessFlags := 9, code := some k10c1 }
def k10c2 : Code := { maxStack := 4, maxLocals := 1, code := jdk_52_method_3_code, exceptionTable := #[], attributes := #[] }
def k10m2 : Method := { name := "newBytesLength", desc := "(I)I", sig := { parameters := [.int], returnType := some .int }, accessFlags := 9, code := some k10c2 }
def k10c3 : Code := { maxStack := 4, maxLocals := 3, code := jdk_52_method_4_code, exceptionTable := #[], attributes := #[] }
def k10m3 : Method := { name := "putChar", desc := "([BII)V", sig := { parameters := [(.array .byte), .int, .int], returnType := none }, accessFlags := 8, code := some k10c3 }
def k10c4 : Code := { maxStack := 3, maxLocals := 2, code := jdk_52_method_5_code, exceptionTable := #[], attributes := #[] }
def k10m4 : Method := { name := "getChar", desc := "([BI)C", sig := { parameters := [(.array .byte), .int], returnType := some .char }, accessFlags := 8, code := some k10c4 }
def k10c5 : Code := { maxStack := 4, maxLocals := 5, code := jdk_52_method_14_code, exceptionTable := #[], attributes := #[] }
def k10m5 : Method := { name := "toBytes", desc := "([CII)[B", sig := { parameters := [(.array .char), .int, .int], returnType := some (.array .byte) }, accessFlags := 9, code := some k10c5 }
def k10c6 : Code := { maxStack := 2, maxLocals := 2, code := jdk_52_method_15_code, exceptionTable := #[], attributes := #[] }
def k10m6 : Method := { name := "coderFromArrayLen", desc := "([BI)B", sig := { parameters := [(.array .byte), .int], returnType := some .byte }, accessFlags := 8, code := some k10c6 }
def k10c7 : Code := { maxStack := 5, maxLocals := 6, code := jdk_52_method_16_code, exceptionTable := #[], attributes := #[] }
def k10m7 : Method := { name := "compress", desc := "([CII)[B", sig := { parameters := [(.array .char), .int, .int], returnType := some (.array .byte) }, accessFlags := 9, code := some k10c7 }
def k10c8 : Code := { maxStack := 3, maxLocals := 7, code := jdk_52_method_21_code, exceptionTable := #[], attributes := #[] }
def k10m8 : Method := { name := "compress", desc := "([CI[BII)I", sig := { parameters := [(.array .char), .int, (.array .byte), .int, .int], returnType := some .int }, accessFlags := 9, code := some k10c8 }
/-- java/lang/StringUTF16 -/
def k10 : Class := { plain "java/lang/StringUTF16" (some 0) with
  accessFlags := 48
  interfaces := #[]
  cf := some (fileOf pool10 12 #[.nestMembers #[627, 629, 369]] #[{ accessFlags := 0, nameIndex := 9, descriptorIndex := 10, attributes := #[] }, { accessFlags := 9, nameIndex := 109, descriptorIndex := 110, attributes := #[] }, { accessFlags := 9, nameIndex := 15, descriptorIndex := 16, attributes := #[] }, { accessFlags := 8, nameIndex := 113, descriptorIndex := 114, attributes := #[] }, { accessFlags := 8, nameIndex := 73, descriptorIndex := 74, attributes := #[] }, { accessFlags := 9, nameIndex := 121, descriptorIndex := 122, attributes := #[] }, { accessFlags := 8, nameIndex := 261, descriptorIndex := 262, attributes := #[] }, { accessFlags := 9, nameIndex := 117, descriptorIndex := 122, attributes := #[] }, { accessFlags := 9, nameIndex := 117, descriptorIndex := 118, attributes := #[] }] 48 6 #[] #[{ accessFlags := 26, nameIndex := 61, descriptorIndex := 62, attributes := #[] }, { accessFlags := 26, nameIndex := 65, descriptorIndex := 62, attributes := #[] }, { accessFlags := 24, nameIndex := 430, descriptorIndex := 62, attributes := #[] }, { accessFlags := 4120, nameIndex := 46, descriptorIndex := 47, attributes := #[] }])
  fields := #[{ name := "HI_BYTE_SHIFT", type := .int, accessFlags := 26, slot := 0, constantValue := 0 }, { name := "LO_BYTE_SHIFT", type := .int, accessFlags := 26, slot := 1, constantValue := 0 }, { name := "MAX_LENGTH", type := .int, accessFlags := 24, slot := 2, constantValue := 0 }, { name := "$assertionsDisabled", type := .boolean, accessFlags := 4120, slot := 3, constantValue := 0 }]
  methods := #[k10m0, k10m1, k10m2, k10m3, k10m4, k10m5, k10m6, k10m7, k10m8]
  instanceTypes := #[]
  staticTypes := #[.int, .int, .int, .boolean]
  resolved := Array.replicate 635 none
  statics := some 2 }

def pool11 : Array CpInfo := pool [(4, .class_ 6), (1, u "java/lang/Object"), (0, u "<init>"), (0, u "()V"), (5, .class_ 16), (1, u "java/lang/StringLatin1"), (104, u "$assertionsDisabled"), (0, u "Z"), (98, .class_ 223), (1, u "java/lang/StringLatin1$LinesSpliterator"), (166, .class_ 391), (0, u "java/lang/StringLatin1$CharsSpliterator")] 3

def k11m0 : Method := { name := "<init>", desc := "()V", sig := { parameters := [], returnType := none }, accessFlags := 0, code := none }
/-- java/lang/StringLatin1 -/
def k11 : Class := { plain "java/lang/StringLatin1" (some 0) with
  accessFlags := 48
  interfaces := #[]
  cf := some (fileOf pool11 14 #[.nestMembers #[390, 221]] #[{ accessFlags := 0, nameIndex := 7, descriptorIndex := 8, attributes := #[] }] 48 4 #[] #[{ accessFlags := 4120, nameIndex := 121, descriptorIndex := 122, attributes := #[] }])
  fields := #[{ name := "$assertionsDisabled", type := .boolean, accessFlags := 4120, slot := 0, constantValue := 0 }]
  methods := #[k11m0]
  instanceTypes := #[]
  staticTypes := #[.boolean]
  resolved := Array.replicate 395 none
  statics := none }

def pool12 : Array CpInfo := pool [(2, .class_ 4), (1, u "java/lang/Object"), (0, u "<init>"), (0, u "()V"), (17, .class_ 26), (1, u "jdk/internal/util/Preconditions"), (28, .class_ 56), (0, u "jdk/internal/util/Preconditions$4"), (57, .class_ 115), (0, u "jdk/internal/util/Preconditions$1"), (7, u "SIOOBE_FORMATTER"), (0, u "Ljava/util/function/BiFunction;"), (0, .class_ 126), (0, u "jdk/internal/util/Preconditions$2"), (3, u "AIOOBE_FORMATTER"), (0, .class_ 132), (0, u "jdk/internal/util/Preconditions$3"), (3, u "IOOBE_FORMATTER")] 57

def k12m0 : Method := { name := "<init>", desc := "()V", sig := { parameters := [], returnType := none }, accessFlags := 1, code := none }
/-- jdk/internal/util/Preconditions -/
def k12 : Class := { plain "jdk/internal/util/Preconditions" (some 0) with
  accessFlags := 33
  interfaces := #[]
  cf := some (fileOf pool12 24 #[.nestMembers #[55, 131, 125, 114]] #[{ accessFlags := 1, nameIndex := 5, descriptorIndex := 6, attributes := #[] }] 33 2 #[] #[{ accessFlags := 25, nameIndex := 123, descriptorIndex := 124, attributes := #[] }, { accessFlags := 25, nameIndex := 130, descriptorIndex := 124, attributes := #[] }, { accessFlags := 25, nameIndex := 136, descriptorIndex := 124, attributes := #[] }])
  fields := #[{ name := "SIOOBE_FORMATTER", type := (.object "java/util/function/BiFunction"), accessFlags := 25, slot := 0, constantValue := 0 }, { name := "AIOOBE_FORMATTER", type := (.object "java/util/function/BiFunction"), accessFlags := 25, slot := 1, constantValue := 0 }, { name := "IOOBE_FORMATTER", type := (.object "java/util/function/BiFunction"), accessFlags := 25, slot := 2, constantValue := 0 }]
  methods := #[k12m0]
  instanceTypes := #[]
  staticTypes := #[(.object "java/util/function/BiFunction"), (.object "java/util/function/BiFunction"), (.object "java/util/function/BiFunction")]
  resolved := Array.replicate 194 none
  statics := some 3 }

def pool13 : Array CpInfo := pool [(9, u "<init>"), (6, .class_ 18), (1, u "java/lang/Object"), (0, u "()V"), (1, .class_ 23), (1, u "jdk/internal/util/ArraysSupport"), (0, u "LOG2_ARRAY_LONG_INDEX_SCALE"), (0, u "I"), (2, u "U"), (0, u "Ljdk/internal/misc/Unsafe;"), (8, u "BIG_ENDIAN"), (0, u "Z"), (8, u "LOG2_BYTE_BIT_SIZE"), (4, u "LOG2_ARRAY_INT_INDEX_SCALE"), (54, u "JLA"), (0, u "Ljdk/internal/access/JavaLangAccess;"), (11, u "LOG2_ARRAY_BOOLEAN_INDEX_SCALE"), (9, u "LOG2_ARRAY_BYTE_INDEX_SCALE"), (5, u "LOG2_ARRAY_CHAR_INDEX_SCALE"), (5, u "LOG2_ARRAY_SHORT_INDEX_SCALE"), (18, u "LOG2_ARRAY_FLOAT_INDEX_SCALE"), (24, u "LOG2_ARRAY_DOUBLE_INDEX_SCALE"), (89, u "T_BOOLEAN"), (2, u "T_CHAR"), (1, u "T_FLOAT"), (1, u "T_DOUBLE"), (1, u "T_BYTE"), (1, u "T_SHORT"), (1, u "T_INT"), (1, u "T_LONG"), (1, u "SOFT_MAX_ARRAY_LENGTH")] 83

def k13m0 : Method := { name := "<init>", desc := "()V", sig := { parameters := [], returnType := none }, accessFlags := 2, code := none }
/-- jdk/internal/util/ArraysSupport -/
def k13 : Class := { plain "jdk/internal/util/ArraysSupport" (some 0) with
  accessFlags := 33
  interfaces := #[]
  cf := some (fileOf pool13 21 #[] #[{ accessFlags := 2, nameIndex := 9, descriptorIndex := 19, attributes := #[] }] 33 16 #[] #[{ accessFlags := 24, nameIndex := 28, descriptorIndex := 29, attributes := #[] }, { accessFlags := 26, nameIndex := 38, descriptorIndex := 39, attributes := #[] }, { accessFlags := 25, nameIndex := 121, descriptorIndex := 25, attributes := #[] }, { accessFlags := 25, nameIndex := 131, descriptorIndex := 25, attributes := #[] }, { accessFlags := 25, nameIndex := 137, descriptorIndex := 25, attributes := #[] }, { accessFlags := 25, nameIndex := 143, descriptorIndex := 25, attributes := #[] }, { accessFlags := 25, nameIndex := 53, descriptorIndex := 25, attributes := #[] }, { accessFlags := 25, nameIndex := 24, descriptorIndex := 25, attributes := #[] }, { accessFlags := 25, nameIndex := 162, descriptorIndex := 25, attributes := #[] }, { accessFlags := 25, nameIndex := 187, descriptorIndex := 25, attributes := #[] }, { accessFlags := 26, nameIndex := 48, descriptorIndex := 25, attributes := #[] }, { accessFlags := 25, nameIndex := 277, descriptorIndex := 25, attributes := #[] }, { accessFlags := 25, nameIndex := 280, descriptorIndex := 25, attributes := #[] }, { accessFlags := 25, nameIndex := 282, descriptorIndex := 25, attributes := #[] }, { accessFlags := 25, nameIndex := 284, descriptorIndex := 25, attributes := #[] }, { accessFlags := 25, nameIndex := 286, descriptorIndex := 25, attributes := #[] }, { accessFlags := 25, nameIndex := 288, descriptorIndex := 25, attributes := #[] }, { accessFlags := 25, nameIndex := 290, descriptorIndex := 25, attributes := #[] }, { accessFlags := 25, nameIndex := 292, descriptorIndex := 25, attributes := #[] }, { accessFlags := 26, nameIndex := 108, descriptorIndex := 109, attributes := #[] }, { accessFlags := 25, nameIndex := 294, descriptorIndex := 25, attributes := #[] }])
  fields := #[{ name := "U", type := (.object "jdk/internal/misc/Unsafe"), accessFlags := 24, slot := 0, constantValue := 0 }, { name := "BIG_ENDIAN", type := .boolean, accessFlags := 26, slot := 1, constantValue := 0 }, { name := "LOG2_ARRAY_BOOLEAN_INDEX_SCALE", type := .int, accessFlags := 25, slot := 2, constantValue := 0 }, { name := "LOG2_ARRAY_BYTE_INDEX_SCALE", type := .int, accessFlags := 25, slot := 3, constantValue := 0 }, { name := "LOG2_ARRAY_CHAR_INDEX_SCALE", type := .int, accessFlags := 25, slot := 4, constantValue := 0 }, { name := "LOG2_ARRAY_SHORT_INDEX_SCALE", type := .int, accessFlags := 25, slot := 5, constantValue := 0 }, { name := "LOG2_ARRAY_INT_INDEX_SCALE", type := .int, accessFlags := 25, slot := 6, constantValue := 0 }, { name := "LOG2_ARRAY_LONG_INDEX_SCALE", type := .int, accessFlags := 25, slot := 7, constantValue := 0 }, { name := "LOG2_ARRAY_FLOAT_INDEX_SCALE", type := .int, accessFlags := 25, slot := 8, constantValue := 0 }, { name := "LOG2_ARRAY_DOUBLE_INDEX_SCALE", type := .int, accessFlags := 25, slot := 9, constantValue := 0 }, { name := "LOG2_BYTE_BIT_SIZE", type := .int, accessFlags := 26, slot := 10, constantValue := 0 }, { name := "T_BOOLEAN", type := .int, accessFlags := 25, slot := 11, constantValue := 0 }, { name := "T_CHAR", type := .int, accessFlags := 25, slot := 12, constantValue := 0 }, { name := "T_FLOAT", type := .int, accessFlags := 25, slot := 13, constantValue := 0 }, { name := "T_DOUBLE", type := .int, accessFlags := 25, slot := 14, constantValue := 0 }, { name := "T_BYTE", type := .int, accessFlags := 25, slot := 15, constantValue := 0 }, { name := "T_SHORT", type := .int, accessFlags := 25, slot := 16, constantValue := 0 }, { name := "T_INT", type := .int, accessFlags := 25, slot := 17, constantValue := 0 }, { name := "T_LONG", type := .int, accessFlags := 25, slot := 18, constantValue := 0 }, { name := "JLA", type := (.object "jdk/internal/access/JavaLangAccess"), accessFlags := 26, slot := 19, constantValue := 0 }, { name := "SOFT_MAX_ARRAY_LENGTH", type := .int, accessFlags := 25, slot := 20, constantValue := 0 }]
  methods := #[k13m0]
  instanceTypes := #[]
  staticTypes := #[(.object "jdk/internal/misc/Unsafe"), .boolean, .int, .int, .int, .int, .int, .int, .int, .int, .int, .int, .int, .int, .int, .int, .int, .int, .int, (.object "jdk/internal/access/JavaLangAccess"), .int]
  resolved := Array.replicate 378 none
  statics := none }

def pool14 : Array CpInfo := pool [(1, u "java/lang/Cloneable"), (0, .class_ 1), (0, u "java/lang/Object"), (0, .class_ 3)] 3

/-- java/lang/Cloneable -/
def k14 : Class := { plain "java/lang/Cloneable" (some 0) with
  accessFlags := 1537
  interfaces := #[]
  cf := some (fileOf pool14 2 #[] #[] 1537 4 #[] #[])
  fields := #[]
  methods := #[]
  instanceTypes := #[]
  staticTypes := #[]
  resolved := Array.replicate 8 none
  statics := none }

/-- the primitive byte -/
def k15 : Class := { plain "byte" none with kind := .primitive 'B', accessFlags := 0x411 }
/-- [B -/
def k16 : Class := { plain "[B" (some 0) with kind := .array 15 .byte, interfaces := #[14, 2], accessFlags := 1041 }

/-- the primitive char -/
def k17 : Class := { plain "char" none with kind := .primitive 'C', accessFlags := 0x411 }
/-- [C -/
def k18 : Class := { plain "[C" (some 0) with kind := .array 17 .char, interfaces := #[14, 2], accessFlags := 1041 }

/-- the primitive int -/
def k19 : Class := { plain "int" none with kind := .primitive 'I', accessFlags := 0x411 }
/-- [I -/
def k20 : Class := { plain "[I" (some 0) with kind := .array 19 .int, interfaces := #[14, 2], accessFlags := 1041 }

def heap : Heap := #[{ cls := 7, slots := #[.long 0, .int 1, .null, .int 0, .null, .int 0, .int 0], vm := .statics 7 },
  { cls := 9, slots := #[.ref 4, .ref 5, .ref 6, .null], vm := .statics 9 },
  { cls := 10, slots := #[.int 0, .int 8, .int 0, .int 1], vm := .statics 10 },
  { cls := 12, slots := #[.null, .null, .null], vm := .statics 12 },
  { cls := 9, slots := #[.null, .int 0, .int 0], vm := .none },
  { cls := 9, slots := #[.null, .int 1, .int 0], vm := .none },
  { cls := 9, slots := #[.null, .int 2, .int 0], vm := .none }]
def classes : Array Class := #[k0, k1, k2, k3, k4, k5, k6, k7, k8, k9, k10, k11, k12, k13, k14, k15, k16, k17, k18, k19, k20]
def interned : List (Array UInt16 × Addr) := []
def slotsUsed : Nat := 27
def theMethod : MethodId := ⟨1, 2⟩
def args0 : Array Value := #[.int 0, .int 65, .int 66, .int 300, .int 68, .int 258]
def aboutOver (below : List Frame) : State where
  vm := { classes := classes, interned := interned.toArray }
  heap := heap
  slotsUsed := slotsUsed
  threads := #[{ frames := .invoking theMethod args0 :: below }]
def below0 : List Frame := [.native { method := ⟨0, 0⟩, args := #[] }]
def about1 : State := aboutOver below0
def p0 : Program := .bare "" "" ""
def e0 : Env := launch0.env 0 0 0
theorem w_frames : about1.frames = Frame.invoking theMethod args0 :: below0 := rfl
set_option maxRecDepth 65536 in
theorem w_args : argsFit about1.vm theMethod args0 = true := by decide +kernel
set_option maxRecDepth 65536 in
theorem w_heap : heapFits about1 = true := by decide +kernel
set_option maxRecDepth 65536 in
theorem w_runnable : about1.curStatus? = some .runnable := by decide +kernel
set_option maxRecDepth 65536 in
theorem w_alone : about1.alone = true := by decide +kernel
set_option maxRecDepth 65536 in
theorem w_named : about1.methodNamed? x = some theMethod := by decide +kernel
set_option maxRecDepth 65536 in
theorem w_hears : about1.hears theMethod below0 = true := by decide +kernel
set_option maxRecDepth 65536 in
theorem w_ripe : about1.ripe theMethod args0 below0 = true := by decide +kernel
theorem w_running : about1.status = .running := rfl
set_option maxRecDepth 65536 in
theorem w_room : about1.hasRoom e0.platform room_1 = true :=
  launch0.hasRoom_least _ room_1 (by decide +kernel) (by decide +kernel) (by decide +kernel) (by decide +kernel) (by decide +kernel) (by decide +kernel)
theorem allAtoms_all (ts : List Jvm.Cond) (a : Array Jvm.Value) (st : Jvm.State) : (allAtoms ts).before a st = ts.all (fun c => c.before a st) := by
  induction ts with
  | nil => rfl
  | cons c t ih =>
    show (Jvm.Cond.and c (allAtoms t)).before a st = _
    rw [Jvm.Cond.before_and, ih, List.all_cons]
def words1 : List Jvm.Cond := Jvm.Cond.code x code maxLocals ret :: tables_1
/-- a 'code' word, met by the world's own term for the bytes: nothing is compared byte by byte -/
theorem code_word {y : MethodName} {bytes : ByteArray} {mx : Nat} {rt : Option FieldType} {a : Array Value} {s : State} {m : MethodId} {meth : Method} {c : Code} (h1 : s.methodNamed? y = some m) (h2 : s.vm.method? m = some meth) (h3 : meth.code = some c) (h4 : c.code = bytes)
    (h5 : (c.maxLocals == mx && c.exceptionTable.isEmpty && decide (c.maxStack ≤ mostOperands) && decide (meth.sig.returnType = rt) && !meth.locks && decide (parseMethodDescriptor y.desc = some meth.sig)) = true) : (Jvm.Cond.code y bytes mx rt).before a s = true := by
  simp only [Bool.and_eq_true, beq_iff_eq, Bool.not_eq_true', decide_eq_true_eq] at h5
  obtain ⟨⟨⟨⟨⟨g1, g2⟩, g3⟩, g4⟩, g5⟩, g6⟩ := h5
  simp [Cond.before, Cond.holds, Cond.value, h1, h2, h3, h4, g1, g2, g3, g4, g5, g6]
def isCode : Jvm.Cond → Bool
  | .code _ _ _ _ => true
  | _ => false
theorem all_split {L : List Jvm.Cond} {P : Jvm.Cond → Bool} (h1 : L.all (fun c => isCode c || P c) = true) (h2 : ∀ c ∈ L.filter isCode, P c = true) : L.all P = true := by
  refine List.all_eq_true.mpr fun c hc => ?_
  have h := List.all_eq_true.mp h1 c hc
  rcases Bool.eq_false_or_eq_true (isCode c) with hi | hi
  · exact h2 c (List.mem_filter.mpr ⟨hc, hi⟩)
  · simpa [hi] using h
set_option maxRecDepth 65536 in
theorem w_c0 : (Jvm.Cond.code x code maxLocals ret).before args0 about1 = true := code_word (m := ⟨1, 2⟩) (meth := k1m2) (c := k1c2) (by decide +kernel) rfl rfl rfl (by decide +kernel)
set_option maxRecDepth 65536 in
theorem w_c1 : (Jvm.Cond.code ({ cls := "com/example/scopewarden/scopewarden/ExtentOfPinLaw", name := "draw", desc := "(III)Ljava/lang/String;" } : Jvm.MethodName) method_2_code (5 : Nat) (Option.some (Jvm.ClassFile.FieldType.object "java/lang/String"))).before args0 about1 = true := code_word (m := ⟨1, 1⟩) (meth := k1m1) (c := k1c1) (by decide +kernel) rfl rfl rfl (by decide +kernel)
set_option maxRecDepth 65536 in
theorem w_c2 : (Jvm.Cond.code ({ cls := "java/lang/String", name := "<init>", desc := "([C)V" } : Jvm.MethodName) jdk_42_method_3_code (2 : Nat) (Option.none : Option Jvm.ClassFile.FieldType)).before args0 about1 = true := code_word (m := ⟨7, 1⟩) (meth := k7m1) (c := k7c1) (by decide +kernel) rfl rfl rfl (by decide +kernel)
set_option maxRecDepth 65536 in
theorem w_c3 : (Jvm.Cond.code ({ cls := "java/lang/String", name := "<init>", desc := "([CIILjava/lang/Void;)V" } : Jvm.MethodName) jdk_42_method_149_code (6 : Nat) (Option.none : Option Jvm.ClassFile.FieldType)).before args0 about1 = true := code_word (m := ⟨7, 2⟩) (meth := k7m2) (c := k7c2) (by decide +kernel) rfl rfl rfl (by decide +kernel)
set_option maxRecDepth 65536 in
theorem w_c4 : (Jvm.Cond.code ({ cls := "java/lang/Object", name := "<init>", desc := "()V" } : Jvm.MethodName) object_method_1_code (1 : Nat) (Option.none : Option Jvm.ClassFile.FieldType)).before args0 about1 = true := code_word (m := ⟨0, 0⟩) (meth := k0m0) (c := k0c0) (by decide +kernel) rfl rfl rfl (by decide +kernel)
set_option maxRecDepth 65536 in
theorem w_c5 : (Jvm.Cond.code ({ cls := "com/example/scopewarden/scopewarden/Action$Extent", name := "of", desc := "(Ljava/lang/String;Ljava/lang/String;)Lcom/example/scopewarden/scopewarden/Action$Extent;" } : Jvm.MethodName) prog_2_method_4_code (2 : Nat) (Option.some (Jvm.ClassFile.FieldType.object "com/example/scopewarden/scopewarden/Action$Extent"))).before args0 about1 = true := code_word (m := ⟨9, 0⟩) (meth := k9m0) (c := k9c0) (by decide +kernel) rfl rfl rfl (by decide +kernel)
set_option maxRecDepth 65536 in
theorem w_c6 : (Jvm.Cond.code ({ cls := "java/lang/StringUTF16", name := "compress", desc := "([CII)[B" } : Jvm.MethodName) jdk_52_method_16_code (6 : Nat) (Option.some (Jvm.ClassFile.FieldType.array Jvm.ClassFile.FieldType.byte))).before args0 about1 = true := code_word (m := ⟨10, 7⟩) (meth := k10m7) (c := k10c7) (by decide +kernel) rfl rfl rfl (by decide +kernel)
set_option maxRecDepth 65536 in
theorem w_c7 : (Jvm.Cond.code ({ cls := "java/lang/StringUTF16", name := "compress", desc := "([CI[BII)I" } : Jvm.MethodName) jdk_52_method_21_code (7 : Nat) (Option.some Jvm.ClassFile.FieldType.int)).before args0 about1 = true := code_word (m := ⟨10, 8⟩) (meth := k10m8) (c := k10c8) (by decide +kernel) rfl rfl rfl (by decide +kernel)
set_option maxRecDepth 65536 in
theorem w_c8 : (Jvm.Cond.code ({ cls := "java/lang/StringUTF16", name := "coderFromArrayLen", desc := "([BI)B" } : Jvm.MethodName) jdk_52_method_15_code (2 : Nat) (Option.some Jvm.ClassFile.FieldType.byte)).before args0 about1 = true := code_word (m := ⟨10, 6⟩) (meth := k10m6) (c := k10c6) (by decide +kernel) rfl rfl rfl (by decide +kernel)
set_option maxRecDepth 65536 in
theorem w_c9 : (Jvm.Cond.code ({ cls := "java/lang/StringUTF16", name := "toBytes", desc := "([CII)[B" } : Jvm.MethodName) jdk_52_method_14_code (5 : Nat) (Option.some (Jvm.ClassFile.FieldType.array Jvm.ClassFile.FieldType.byte))).before args0 about1 = true := code_word (m := ⟨10, 5⟩) (meth := k10m5) (c := k10c5) (by decide +kernel) rfl rfl rfl (by decide +kernel)
set_option maxRecDepth 65536 in
theorem w_c10 : (Jvm.Cond.code ({ cls := "java/lang/StringUTF16", name := "newBytesFor", desc := "(I)[B" } : Jvm.MethodName) jdk_52_method_2_code (1 : Nat) (Option.some (Jvm.ClassFile.FieldType.array Jvm.ClassFile.FieldType.byte))).before args0 about1 = true := code_word (m := ⟨10, 1⟩) (meth := k10m1) (c := k10c1) (by decide +kernel) rfl rfl rfl (by decide +kernel)
set_option maxRecDepth 65536 in
theorem w_c11 : (Jvm.Cond.code ({ cls := "java/lang/StringUTF16", name := "newBytesLength", desc := "(I)I" } : Jvm.MethodName) jdk_52_method_3_code (1 : Nat) (Option.some Jvm.ClassFile.FieldType.int)).before args0 about1 = true := code_word (m := ⟨10, 2⟩) (meth := k10m2) (c := k10c2) (by decide +kernel) rfl rfl rfl (by decide +kernel)
set_option maxRecDepth 65536 in
theorem w_c12 : (Jvm.Cond.code ({ cls := "java/lang/StringUTF16", name := "putChar", desc := "([BII)V" } : Jvm.MethodName) jdk_52_method_4_code (3 : Nat) (Option.none : Option Jvm.ClassFile.FieldType)).before args0 about1 = true := code_word (m := ⟨10, 3⟩) (meth := k10m3) (c := k10c3) (by decide +kernel) rfl rfl rfl (by decide +kernel)
set_option maxRecDepth 65536 in
theorem w_c13 : (Jvm.Cond.code ({ cls := "java/lang/StringUTF16", name := "getChar", desc := "([BI)C" } : Jvm.MethodName) jdk_52_method_5_code (2 : Nat) (Option.some Jvm.ClassFile.FieldType.char)).before args0 about1 = true := code_word (m := ⟨10, 4⟩) (meth := k10m4) (c := k10c4) (by decide +kernel) rfl rfl rfl (by decide +kernel)
def codes1 : List Jvm.Cond := [Jvm.Cond.code x code maxLocals ret, Jvm.Cond.code ({ cls := "com/example/scopewarden/scopewarden/ExtentOfPinLaw", name := "draw", desc := "(III)Ljava/lang/String;" } : Jvm.MethodName) method_2_code (5 : Nat) (Option.some (Jvm.ClassFile.FieldType.object "java/lang/String")), Jvm.Cond.code ({ cls := "java/lang/String", name := "<init>", desc := "([C)V" } : Jvm.MethodName) jdk_42_method_3_code (2 : Nat) (Option.none : Option Jvm.ClassFile.FieldType), Jvm.Cond.code ({ cls := "java/lang/String", name := "<init>", desc := "([CIILjava/lang/Void;)V" } : Jvm.MethodName) jdk_42_method_149_code (6 : Nat) (Option.none : Option Jvm.ClassFile.FieldType), Jvm.Cond.code ({ cls := "java/lang/Object", name := "<init>", desc := "()V" } : Jvm.MethodName) object_method_1_code (1 : Nat) (Option.none : Option Jvm.ClassFile.FieldType), Jvm.Cond.code ({ cls := "com/example/scopewarden/scopewarden/Action$Extent", name := "of", desc := "(Ljava/lang/String;Ljava/lang/String;)Lcom/example/scopewarden/scopewarden/Action$Extent;" } : Jvm.MethodName) prog_2_method_4_code (2 : Nat) (Option.some (Jvm.ClassFile.FieldType.object "com/example/scopewarden/scopewarden/Action$Extent")), Jvm.Cond.code ({ cls := "java/lang/StringUTF16", name := "compress", desc := "([CII)[B" } : Jvm.MethodName) jdk_52_method_16_code (6 : Nat) (Option.some (Jvm.ClassFile.FieldType.array Jvm.ClassFile.FieldType.byte)), Jvm.Cond.code ({ cls := "java/lang/StringUTF16", name := "compress", desc := "([CI[BII)I" } : Jvm.MethodName) jdk_52_method_21_code (7 : Nat) (Option.some Jvm.ClassFile.FieldType.int), Jvm.Cond.code ({ cls := "java/lang/StringUTF16", name := "coderFromArrayLen", desc := "([BI)B" } : Jvm.MethodName) jdk_52_method_15_code (2 : Nat) (Option.some Jvm.ClassFile.FieldType.byte), Jvm.Cond.code ({ cls := "java/lang/StringUTF16", name := "toBytes", desc := "([CII)[B" } : Jvm.MethodName) jdk_52_method_14_code (5 : Nat) (Option.some (Jvm.ClassFile.FieldType.array Jvm.ClassFile.FieldType.byte)), Jvm.Cond.code ({ cls := "java/lang/StringUTF16", name := "newBytesFor", desc := "(I)[B" } : Jvm.MethodName) jdk_52_method_2_code (1 : Nat) (Option.some (Jvm.ClassFile.FieldType.array Jvm.ClassFile.FieldType.byte)), Jvm.Cond.code ({ cls := "java/lang/StringUTF16", name := "newBytesLength", desc := "(I)I" } : Jvm.MethodName) jdk_52_method_3_code (1 : Nat) (Option.some Jvm.ClassFile.FieldType.int), Jvm.Cond.code ({ cls := "java/lang/StringUTF16", name := "putChar", desc := "([BII)V" } : Jvm.MethodName) jdk_52_method_4_code (3 : Nat) (Option.none : Option Jvm.ClassFile.FieldType), Jvm.Cond.code ({ cls := "java/lang/StringUTF16", name := "getChar", desc := "([BI)C" } : Jvm.MethodName) jdk_52_method_5_code (2 : Nat) (Option.some Jvm.ClassFile.FieldType.char)]
set_option maxRecDepth 65536 in
theorem codes_eq : words1.filter isCode = codes1 := rfl
theorem w_codes : ∀ c ∈ words1.filter isCode, c.before args0 about1 = true := by
  rw [codes_eq]
  intro c hc
  simp only [codes1, List.mem_cons, List.not_mem_nil, or_false] at hc
  rcases hc with rfl | rfl | rfl | rfl | rfl | rfl | rfl | rfl | rfl | rfl | rfl | rfl | rfl | rfl
  · exact w_c0
  · exact w_c1
  · exact w_c2
  · exact w_c3
  · exact w_c4
  · exact w_c5
  · exact w_c6
  · exact w_c7
  · exact w_c8
  · exact w_c9
  · exact w_c10
  · exact w_c11
  · exact w_c12
  · exact w_c13
set_option maxRecDepth 65536 in
theorem w_t1 : (words1.take 24).all (fun c => isCode c || c.before args0 about1) = true := by decide +kernel
set_option maxRecDepth 65536 in
theorem w_t2 : ((words1.drop 24).take 24).all (fun c => isCode c || c.before args0 about1) = true := by decide +kernel
set_option maxRecDepth 65536 in
theorem w_t3 : ((words1.drop 24).drop 24).all (fun c => isCode c || c.before args0 about1) = true := by decide +kernel
theorem w_tables : (allAtoms (Jvm.Cond.code x code maxLocals ret :: tables_1)).before args0 about1 = true := by
  rw [allAtoms_all]
  show words1.all (fun c => c.before args0 about1) = true
  refine all_split ?_ w_codes
  rw [← List.take_append_drop 24 words1, List.all_append, w_t1, ← List.take_append_drop 24 (words1.drop 24), List.all_append, w_t2, w_t3]
  rfl
set_option maxRecDepth 65536 in
theorem w_rest : rest_1_c.before args0 about1 = true := by decide +kernel
set_option maxRecDepth 65536 in
theorem w_case : (Jvm.Cond.and given_1 narrow_1).before args0 about1 = true := by decide +kernel
set_option maxRecDepth 65536 in
theorem w_consts : constsHeld consts_1 about1 := Jvm.Lit.constsHeldB_iff.mp (by decide +kernel)
theorem w_applies : (headSpec (Jvm.Cond.code x code maxLocals ret :: tables_1) room_1).applies x e0.platform about1 = true :=
  (Spec.applies_iff w_frames).mpr ⟨w_running, w_runnable, w_alone, w_named, w_hears, w_ripe, w_room, w_tables⟩
theorem atStart : AtStart classFile x code maxLocals ret World_1 tables_1 room_1 Calls_1 rest_1 Pre_1 launch0 p0 e0 about1 theMethod args0 below0 :=
  ⟨lists_1, trivial, launch0.admits_env _ _ _, launch0.least_env, fairChoices_fair.cas, fairChoices_fair.clock, w_frames, w_args, w_heap, w_applies, ⟨w_consts, trivial⟩, w_rest, w_case⟩
end start1
theorem witness_1 : WitnessClaimed_1 := ⟨start1.p0, start1.e0, start1.about1, start1.theMethod, start1.args0, start1.below0, start1.atStart⟩
end Jvm.Pilot.@@N@@
