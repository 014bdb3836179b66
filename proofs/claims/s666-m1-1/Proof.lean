import JvmDerived
import JvmDerived.Pilot.@@N@@Statement
import JvmDerived.Pilot.@@N@@Code
set_option linter.unusedVariables false
set_option linter.unusedSimpArgs false
/- laws to paste: Road.backV, Road.lenW, Road.empW, Road.codOf, pair_says, StrChars.shr0 (cut by pick.py; bodies as the Statement names them) -/
namespace Jvm.Pilot.@@N@@
namespace StrChars
open Jvm Sem ClassFile Op Lib Jvm.Stand Jvm.Free.XT Jvm.Free.ALB Jvm.Free.JM Jvm.Free
open Jvm.Lib.Cold (StaticIs)
/-- a char array whose places are chars -/
def Ch (a : Addr) (A : Cell) (U : State) : Prop := Arr .char a A U ∧ Typed .char A
theorem Ch.mv {a : Addr} {A : Cell} {U U' : State} (h : Ch a A U) (hal : U.vm.Alike U'.vm) (hh : U'.heap = U.heap) : Ch a A U' := ⟨h.1.mv hal hh, h.2⟩
theorem Ch.keep {a : Addr} {A : Cell} {U U' : State} (h : Ch a A U) (hal : U.vm.Alike U'.vm) (hk : U'.heap[a]? = some A) : Ch a A U' := ⟨h.1.keep hal hk, h.2⟩
/-- what place i of a char[]'s cell holds -/
def cv (A : Cell) (i : Nat) : Int32 := match A.slots[i]? with | some (.int x) => x | _ => 0
theorem Ch.get {a : Addr} {A : Cell} {U : State} (h : Ch a A U) {i : Nat} (hi : i < A.slots.size) : A.slots[i]? = some (.int (cv A i)) := by
  have e := Array.getElem?_eq_getElem hi
  have f := h.2 i _ e
  unfold cv; rw [e]
  generalize A.slots[i] = v at f
  cases v <;> simp [fits] at f ⊢
/-- the byte that i2b leaves of a char -/
def lo8 (x : Int32) : Int32 := x.toInt8.toInt32
theorem fits_lo8 (y : Int32) : fits .byte (.int (lo8 y)) = true := by
  have h1 := y.toInt8.le_toInt
  have h2 := y.toInt8.toInt_lt
  simp only [lo8, fits, Bool.and_eq_true, decide_eq_true_eq, Int32.le_iff_toInt_le, Int8.toInt_toInt32, show (-128 : Int32).toInt = -128 from by decide, show (127 : Int32).toInt = 127 from by decide]
  omega
/-- A' is A but that each place j of lo .. hi - 1 holds f j -/
def Laid (A A' : Cell) (lo hi : Nat) (f : Nat → Value) : Prop := A'.cls = A.cls ∧ A'.vm = A.vm ∧ A'.slots.size = A.slots.size ∧ ∀ i, A'.slots[i]? = if lo ≤ i ∧ i < hi then some (f i) else A.slots[i]?
theorem Laid.zero (A : Cell) (lo : Nat) (f : Nat → Value) : Laid A A lo (lo + 0) f := ⟨rfl, rfl, rfl, fun i => by rw [if_neg (by omega)]⟩
theorem Laid.step {A Ak : Cell} {lo k : Nat} {f : Nat → Value} {v : Value} (h : Laid A Ak lo k f) (hlo : lo ≤ k) (hk : k < Ak.slots.size) (hv : v = f k) : Laid A (Ak.setSlot k v) lo (k + 1) f := by
  refine ⟨h.1, h.2.1, by simpa [Cell.setSlot] using h.2.2.1, fun i => ?_⟩
  by_cases e : k = i
  · subst e; rw [Cell.slots_setSlot_self v hk, if_pos (by omega), hv]
  · rw [Cell.slots_setSlot_ne v e, h.2.2.2 i]
    by_cases q : lo ≤ i ∧ i < k
    · rw [if_pos q, if_pos (by omega)]
    · rw [if_neg q, if_neg (by omega)]
def U16 : String := "java/lang/StringUTF16"
namespace Cmp5
def yN : MethodName := ⟨"java/lang/StringUTF16", "compress", "([CI[BII)I"⟩
abbrev yB : ByteArray := jdk_52_method_21_code
theorem d0 : decode yB 0 = .ok (.iconst 0, 1) := by decide +kernel
theorem d1 : decode yB 1 = .ok (.istore 5, 2) := by decide +kernel
theorem d3 : decode yB 3 = .ok (.iload 5, 2) := by decide +kernel
theorem d5 : decode yB 5 = .ok (.iload 4, 2) := by decide +kernel
theorem d7 : decode yB 7 = .ok (.if_icmp (.ge) 37, 3) := by decide +kernel
theorem d10 : decode yB 10 = .ok (.aload_n 0, 1) := by decide +kernel
theorem d11 : decode yB 11 = .ok (.iload_n 1, 1) := by decide +kernel
theorem d12 : decode yB 12 = .ok (.caload, 1) := by decide +kernel
theorem d13 : decode yB 13 = .ok (.istore 6, 2) := by decide +kernel
theorem d15 : decode yB 15 = .ok (.iload 6, 2) := by decide +kernel
theorem d17 : decode yB 17 = .ok (.sipush 255, 3) := by decide +kernel
theorem d20 : decode yB 20 = .ok (.if_icmp (.le) 6, 3) := by decide +kernel
theorem d26 : decode yB 26 = .ok (.aload_n 2, 1) := by decide +kernel
theorem d27 : decode yB 27 = .ok (.iload_n 3, 1) := by decide +kernel
theorem d28 : decode yB 28 = .ok (.iload 6, 2) := by decide +kernel
theorem d30 : decode yB 30 = .ok (.i2b, 1) := by decide +kernel
theorem d31 : decode yB 31 = .ok (.bastore, 1) := by decide +kernel
theorem d32 : decode yB 32 = .ok (.iinc 1 1, 3) := by decide +kernel
theorem d35 : decode yB 35 = .ok (.iinc 3 1, 3) := by decide +kernel
theorem d38 : decode yB 38 = .ok (.iinc 5 1, 3) := by decide +kernel
theorem d41 : decode yB 41 = .ok (.goto (-38), 3) := by decide +kernel
theorem d44 : decode yB 44 = .ok (.iload 4, 2) := by decide +kernel
theorem d46 : decode yB 46 = .ok (.ireturn, 1) := by decide +kernel
def site : List Cond := []
def tab : Cond := tabOf yN yB 7 (some .int) site
def P (b : Addr) (A : Cell) (d : Addr) (B : Cell) (o q len : Nat) (args : Array Value) (s : State) : Prop := args = #[.ref b, .int (Int32.ofNat o), .ref d, .int (Int32.ofNat q), .int (Int32.ofNat len)] ∧ Ch b A s ∧ Arr .byte d B s ∧ b ≠ d ∧ o + len ≤ A.slots.size ∧ q + len ≤ B.slots.size ∧ ∀ i, i < len → ¬ 255 < cv A (o + i)
def E (b : Addr) (A : Cell) (d : Addr) (B : Cell) (o q len : Nat) (r : Option Value) (s u : State) : Prop := r = some (.int (Int32.ofNat len)) ∧ ∃ B', Put d B' s u ∧ Laid B B' q (q + len) (fun j => Value.int (lo8 (cv A (o + (j - q)))))
/-- no char of the range above 255: len; the places written hold each char's low byte -/
theorem law (l : Launch) (b : Addr) (A : Cell) (d : Addr) (B : Cell) (o q len : Nat) : Law l yN 5 5 0 0 yB 7 (some .int) site (P b A d B o q len) (E b A d B o q len) (copyLocs d q len) 0 0 := by
  refine Law.of_walk (plainFor_of_name (by decide +kernel)) (by decide +kernel) (by decide +kernel) (by decide) (fun _ _ h => by rw [h.1]; rfl) (fun _ U U' hal hh h => ⟨h.1, h.2.1.mv hal hh, h.2.2.1.mv hal hh, h.2.2.2⟩) (fun r U U' V V' h1 hal h2 h => ⟨h.1, h.2.elim fun B' q => ⟨B', q.1.mv h1 h2, q.2⟩⟩) ?_
  intro p e s m args below meth c s₁ X0 hexec hbytes hml hret hlk hnm hown hh0 W hP
  obtain ⟨rfl, hA, hB, hne, l1, l2, hp⟩ := hP
  have c1 : Steps p.tables e below (s₁.setTop (entryFrame m #[.ref b, .int (Int32.ofNat o), .ref d, .int (Int32.ofNat q), .int (Int32.ofNat len)] 7)) (s₁.setTop (mkF m 0 #[.val (.ref b), .val (.int (Int32.ofNat o)), .val (.ref d), .val (.int (Int32.ofNat q)), .val (.int (Int32.ofNat len)), .unset, .unset] [])) := entry rfl
  have hA0 := hA.1.mv X0.warmed.alike hh0
  have hB0 := hB.mv X0.warmed.alike hh0
  have a31 := hA.1.2.2.2
  have c2 : Steps p.tables e below (s₁.setTop (entryFrame m #[.ref b, .int (Int32.ofNat o), .ref d, .int (Int32.ofNat q), .int (Int32.ofNat len)] 7)) (s₁.setTop (mkF m 3 #[.val (.ref b), .val (.int (Int32.ofNat o)), .val (.ref d), .val (.int (Int32.ofNat q)), .val (.int (Int32.ofNat len)), .val (.int 0), .unset] [])) := c1.trans (by
    refine iconstV X0.here hexec rfl 0 (hb hbytes d0) (by decide) ?_
    refine XS.istore X0.here hexec rfl (hb hbytes d1) rfl rfl ?_
    exact Steps.refl _)
  have loop : ∀ (r i : Nat), i + r = len → ∀ (z : Slot), (z = .unset ∨ ∃ w, z = .val w ∧ w.category = 1) → ∀ (Tl : State) (Bk : Cell), Stand p l e { frames := 0, locals := 0, cells := 0, slots := 0 } s m #[.ref b, .int (Int32.ofNat o), .ref d, .int (Int32.ofNat q), .int (Int32.ofNat len)] below meth c Tl ([] ++ copyLocs d q i) 0 0 → Put d Bk s₁ Tl → Laid B Bk q (q + i) (fun j => Value.int (lo8 (cv A (o + (j - q))))) →
      Steps p.tables e below (s₁.setTop (entryFrame m #[.ref b, .int (Int32.ofNat o), .ref d, .int (Int32.ofNat q), .int (Int32.ofNat len)] 7)) (Tl.setTop (mkF m 3 #[.val (.ref b), .val (.int (Int32.ofNat (o + i))), .val (.ref d), .val (.int (Int32.ofNat (q + i))), .val (.int (Int32.ofNat len)), .val (.int (Int32.ofNat i)), z] [])) → ∃ (T' : State) (B' : Cell) (z' : Slot), Stand p l e { frames := 0, locals := 0, cells := 0, slots := 0 } s m #[.ref b, .int (Int32.ofNat o), .ref d, .int (Int32.ofNat q), .int (Int32.ofNat len)] below meth c T' ([] ++ copyLocs d q len) 0 0 ∧ Put d B' s₁ T' ∧ Laid B B' q (q + len) (fun j => Value.int (lo8 (cv A (o + (j - q))))) ∧
      Steps p.tables e below (s₁.setTop (entryFrame m #[.ref b, .int (Int32.ofNat o), .ref d, .int (Int32.ofNat q), .int (Int32.ofNat len)] 7)) (T'.setTop (mkF m 3 #[.val (.ref b), .val (.int (Int32.ofNat (o + len))), .val (.ref d), .val (.int (Int32.ofNat (q + len))), .val (.int (Int32.ofNat len)), .val (.int (Int32.ofNat len)), z'] [])) := by
    intro r
    induction r with
    | zero =>
      intro i hi z hz Tl Bk Xl pl fl cl
      have hil : i = len := by omega
      rw [hil] at Xl fl cl
      exact ⟨Tl, Bk, z, Xl, pl, fl, cl⟩
    | succ r ih =>
      intro i hi z hz Tl Bk Xl pl fl cl
      have all := X0.warmed.alike.symm.trans Xl.warmed.alike
      have hAl := hA0.keep all (pl.other hne hA0.1)
      have hBk := hB0.like all pl.1 fl.1 fl.2.1 fl.2.2.1
      have hlt : q + i < Bk.slots.size := by rw [fl.2.2.1]; omega
      have c3 : Steps p.tables e below (s₁.setTop (entryFrame m #[.ref b, .int (Int32.ofNat o), .ref d, .int (Int32.ofNat q), .int (Int32.ofNat len)] 7)) (Tl.setTop (mkF m 12 #[.val (.ref b), .val (.int (Int32.ofNat (o + i))), .val (.ref d), .val (.int (Int32.ofNat (q + i))), .val (.int (Int32.ofNat len)), .val (.int (Int32.ofNat i)), z] [.int (Int32.ofNat (o + i)), .ref b])) := cl.trans (by
        refine XS.iload Xl.here hexec rfl (hb hbytes d3) rfl ?_
        refine XS.iload Xl.here hexec rfl (hb hbytes d5) rfl ?_
        refine XS.icmpNo Xl.here hexec rfl (hb hbytes d7) rfl (ii_ge_f (lt32 (by omega) (by omega))) ?_
        refine XS.aloadN Xl.here hexec rfl (hb hbytes d10) rfl rfl ?_
        refine XS.iloadN Xl.here hexec rfl (hb hbytes d11) rfl ?_
        exact Steps.refl _)
      have c4 : Steps p.tables e below (s₁.setTop (entryFrame m #[.ref b, .int (Int32.ofNat o), .ref d, .int (Int32.ofNat q), .int (Int32.ofNat len)] 7)) (Tl.setTop (mkF m 13 #[.val (.ref b), .val (.int (Int32.ofNat (o + i))), .val (.ref d), .val (.int (Int32.ofNat (q + i))), .val (.int (Int32.ofNat len)), .val (.int (Int32.ofNat i)), z] [.int (cv A (o + i))])) := c3.trans (by
        refine Xl.aget hexec hAl rfl (hA.get (i := o + i) (by omega)) rfl rfl (hb hbytes d12) ?_
        exact Steps.refl _)
      have c5 : Steps p.tables e below (s₁.setTop (entryFrame m #[.ref b, .int (Int32.ofNat o), .ref d, .int (Int32.ofNat q), .int (Int32.ofNat len)] 7)) (Tl.setTop (mkF m 15 #[.val (.ref b), .val (.int (Int32.ofNat (o + i))), .val (.ref d), .val (.int (Int32.ofNat (q + i))), .val (.int (Int32.ofNat len)), .val (.int (Int32.ofNat i)), .val (.int (cv A (o + i)))] [])) := c4.trans (by
        refine XS.istoreS Xl.here hexec rfl (hb hbytes d13) rfl rfl hz ?_
        exact Steps.refl _)
      have c6 : Steps p.tables e below (s₁.setTop (entryFrame m #[.ref b, .int (Int32.ofNat o), .ref d, .int (Int32.ofNat q), .int (Int32.ofNat len)] 7)) (Tl.setTop (mkF m 31 #[.val (.ref b), .val (.int (Int32.ofNat (o + i))), .val (.ref d), .val (.int (Int32.ofNat (q + i))), .val (.int (Int32.ofNat len)), .val (.int (Int32.ofNat i)), .val (.int (cv A (o + i)))] [.int (lo8 (cv A (o + i))), .int (Int32.ofNat (q + i)), .ref d])) := c5.trans (by
        refine XS.iload Xl.here hexec rfl (hb hbytes d15) rfl ?_
        refine sipushV Xl.here hexec rfl 255 (hb hbytes d17) (by decide) ?_
        refine XS.icmpYes Xl.here hexec rfl (pc0 := 20) rfl (hb hbytes d20) rfl (ii_le_t (hp i (by omega))) (by decide) rfl ?_
        refine XS.aloadN Xl.here hexec rfl (hb hbytes d26) rfl rfl ?_
        refine XS.iloadN Xl.here hexec rfl (hb hbytes d27) rfl ?_
        refine XS.iload Xl.here hexec rfl (hb hbytes d28) rfl ?_
        refine i2b Xl.here hexec rfl (hb hbytes d30) rfl ?_
        exact Steps.refl _)
      obtain ⟨T7, X7, p7, st7⟩ := Xl.aput hexec hBk rfl hlt rfl (fits_lo8 (cv A (o + i))) (g := (mkF m 31 #[.val (.ref b), .val (.int (Int32.ofNat (o + i))), .val (.ref d), .val (.int (Int32.ofNat (q + i))), .val (.int (Int32.ofNat len)), .val (.int (Int32.ofNat i)), .val (.int (cv A (o + i)))] [.int (lo8 (cv A (o + i))), .int (Int32.ofNat (q + i)), .ref d])) rfl (rest := []) rfl (hb hbytes d31)
      have c8 : Steps p.tables e below (s₁.setTop (entryFrame m #[.ref b, .int (Int32.ofNat o), .ref d, .int (Int32.ofNat q), .int (Int32.ofNat len)] 7)) (T7.setTop (mkF m 32 #[.val (.ref b), .val (.int (Int32.ofNat (o + i))), .val (.ref d), .val (.int (Int32.ofNat (q + i))), .val (.int (Int32.ofNat len)), .val (.int (Int32.ofNat i)), .val (.int (cv A (o + i)))] [])) := c6.trans (st7 _ (Steps.refl _))
      have c9 : Steps p.tables e below (s₁.setTop (entryFrame m #[.ref b, .int (Int32.ofNat o), .ref d, .int (Int32.ofNat q), .int (Int32.ofNat len)] 7)) (T7.setTop (mkF m 3 #[.val (.ref b), .val (.int (Int32.ofNat (o + i) + 1)), .val (.ref d), .val (.int (Int32.ofNat (q + i) + 1)), .val (.int (Int32.ofNat len)), .val (.int (Int32.ofNat i + 1)), .val (.int (cv A (o + i)))] [])) := c8.trans (by
        refine iincV X7.here hexec rfl 1 (hb hbytes d32) (by decide) rfl rfl ?_
        refine iincV X7.here hexec rfl 1 (hb hbytes d35) (by decide) rfl rfl ?_
        refine iincV X7.here hexec rfl 1 (hb hbytes d38) (by decide) rfl rfl ?_
        refine XS.goto X7.here hexec rfl (pc0 := 41) rfl (hb hbytes d41) (by decide) rfl ?_
        exact Steps.refl _)
      have c10 : Steps p.tables e below (s₁.setTop (entryFrame m #[.ref b, .int (Int32.ofNat o), .ref d, .int (Int32.ofNat q), .int (Int32.ofNat len)] 7)) (T7.setTop (mkF m 3 #[.val (.ref b), .val (.int (Int32.ofNat (o + (i + 1)))), .val (.ref d), .val (.int (Int32.ofNat (q + (i + 1)))), .val (.int (Int32.ofNat len)), .val (.int (Int32.ofNat (i + 1))), .val (.int (cv A (o + i)))] [])) := by
        have := c9
        rw [succ32, succ32, succ32] at this
        exact this
      exact ih (i + 1) (by omega) _ (Or.inr ⟨_, rfl, rfl⟩) T7 _ (by rw [copyLocs_step, ← List.append_assoc]; exact X7) (pl.trans p7) (fl.step (by omega) hlt (by simp)) c10
  obtain ⟨T9, B9, z9, X9, p9, f9, g9⟩ := loop len 0 (by omega) .unset (Or.inl rfl) s₁ B (by simpa [copyLocs] using X0) ⟨hB0.1, fun _ _ => rfl, rfl⟩ (Laid.zero _ _ _) c2
  have c11 : Steps p.tables e below (s₁.setTop (entryFrame m #[.ref b, .int (Int32.ofNat o), .ref d, .int (Int32.ofNat q), .int (Int32.ofNat len)] 7)) (T9.setTop (mkF m 46 #[.val (.ref b), .val (.int (Int32.ofNat (o + len))), .val (.ref d), .val (.int (Int32.ofNat (q + len))), .val (.int (Int32.ofNat len)), .val (.int (Int32.ofNat len)), z9] [.int (Int32.ofNat len)])) := g9.trans (by
    refine XS.iload X9.here hexec rfl (hb hbytes d3) rfl ?_
    refine XS.iload X9.here hexec rfl (hb hbytes d5) rfl ?_
    refine XS.icmpYes X9.here hexec rfl (pc0 := 7) rfl (hb hbytes d7) rfl (ii_ge_t (nlt32 (by omega) (Nat.le_refl _))) (by decide) rfl ?_
    refine XS.iload X9.here hexec rfl (hb hbytes d44) rfl ?_
    exact Steps.refl _)
  exact ⟨T9, some (.int (Int32.ofNat len)), _, _, _, X9, by simp, rfl, rfl, (fun h => by cases h), ⟨rfl, B9, p9.from hh0, f9⟩, fun fs hl => c11.trans (X9.ireturnOut hexec hret rfl (Or.inl rfl) (hb hbytes d46) hl)⟩
end Cmp5
namespace Cmp3
def yN : MethodName := ⟨"java/lang/StringUTF16", "compress", "([CII)[B"⟩
abbrev yB : ByteArray := jdk_52_method_16_code
theorem d0 : decode yB 0 = .ok (.iload_n 2, 1) := by decide +kernel
theorem d1 : decode yB 1 = .ok (.newarray .byte, 2) := by decide +kernel
theorem d3 : decode yB 3 = .ok (.astore_n 3, 1) := by decide +kernel
theorem d4 : decode yB 4 = .ok (.aload_n 0, 1) := by decide +kernel
theorem d5 : decode yB 5 = .ok (.iload_n 1, 1) := by decide +kernel
theorem d6 : decode yB 6 = .ok (.aload_n 3, 1) := by decide +kernel
theorem d7 : decode yB 7 = .ok (.iconst 0, 1) := by decide +kernel
theorem d8 : decode yB 8 = .ok (.iload_n 2, 1) := by decide +kernel
theorem d9 : decode yB 9 = .ok (.invokestatic 115, 3) := by decide +kernel
theorem d12 : decode yB 12 = .ok (.istore 4, 2) := by decide +kernel
theorem d14 : decode yB 14 = .ok (.iload 4, 2) := by decide +kernel
theorem d16 : decode yB 16 = .ok (.iload_n 2, 1) := by decide +kernel
theorem d17 : decode yB 17 = .ok (.if_icmp (.eq) 40, 3) := by decide +kernel
theorem d57 : decode yB 57 = .ok (.aload_n 3, 1) := by decide +kernel
theorem d58 : decode yB 58 = .ok (.areturn, 1) := by decide +kernel
def site : List Cond := [.arrayClass .byte, Cmp5.tab] ++ staticW U16 115 Cmp5.yN
def tab : Cond := tabOf yN yB 6 (some (.array .byte)) site
def P (b : Addr) (A : Cell) (o len : Nat) (args : Array Value) (s : State) : Prop := args = #[.ref b, .int (Int32.ofNat o), .int (Int32.ofNat len)] ∧ Ch b A s ∧ o + len ≤ A.slots.size ∧ len ≤ 536870912 ∧ ∀ i, i < len → ¬ 255 < cv A (o + i)
def E (b : Addr) (A : Cell) (o len : Nat) (r : Option Value) (s u : State) : Prop := NewArr .byte "[B" len (fun j => .int (lo8 (cv A (o + j)))) r s u ∧ u.heap.size = s.heap.size + 1
/-- no char of the range above 255: a new byte[] of their low bytes -/
theorem law (l : Launch) (b : Addr) (A : Cell) (o len : Nat) : Law l yN 3 3 1 18 yB 6 (some (.array .byte)) site (P b A o len) (E b A o len) [] 1 len := by
  refine Law.of_walk (plainFor_of_name (by decide +kernel)) (by decide +kernel) (by decide +kernel) (by decide) (fun _ _ h => by rw [h.1]; rfl) (fun _ U U' hal hh h => ⟨h.1, h.2.1.mv hal hh, h.2.2⟩) (fun r U U' V V' h1 hal h2 h => ⟨NewArr.mv r U U' V V' h1 hal h2 h.1, by rw [h1, h2]; exact h.2⟩) ?_
  intro p e s m args below meth c s₁ X0 hexec hbytes hml hret hlk hnm hown hh0 W hP
  obtain ⟨rfl, hA, l1, l2, hp⟩ := hP
  have a31 := hA.1.2.2.2
  have c1 : Steps p.tables e below (s₁.setTop (entryFrame m #[.ref b, .int (Int32.ofNat o), .int (Int32.ofNat len)] 6)) (s₁.setTop (mkF m 0 #[.val (.ref b), .val (.int (Int32.ofNat o)), .val (.int (Int32.ofNat len)), .unset, .unset, .unset] [])) := entry rfl
  have c2 : Steps p.tables e below (s₁.setTop (entryFrame m #[.ref b, .int (Int32.ofNat o), .int (Int32.ofNat len)] 6)) (s₁.setTop (mkF m 1 #[.val (.ref b), .val (.int (Int32.ofNat o)), .val (.int (Int32.ofNat len)), .unset, .unset, .unset] [.int (Int32.ofNat len)])) := c1.trans (by
    refine XS.iloadN X0.here hexec rfl (hb hbytes d0) rfl ?_
    exact Steps.refl _)
  obtain ⟨T3, B3, X3, ba3, bs3, bv3, bh3, bf3, st3⟩ := X0.anew hexec (atype := .byte) (wk W (.arrayClass .byte)) rfl (by show len * 1 ≤ _; omega) (by omega) (g := (mkF m 1 #[.val (.ref b), .val (.int (Int32.ofNat o)), .val (.int (Int32.ofNat len)), .unset, .unset, .unset] [.int (Int32.ofNat len)])) rfl (hb hbytes d1) (rest := []) rfl (Nat.le_refl _) (by show 0 + len ≤ len; omega)
  rw [hh0] at ba3 st3
  have kp3 : XT.Kept s T3 := (XT.Kept.of_eq hh0).push bh3
  have hA3 := hA.keep X3.warmed.alike (kp3 _ _ hA.1.1)
  have hne : b ≠ s.heap.size := hA.1.ne
  have c4 : Steps p.tables e below (s₁.setTop (entryFrame m #[.ref b, .int (Int32.ofNat o), .int (Int32.ofNat len)] 6)) (T3.setTop (mkF m 3 #[.val (.ref b), .val (.int (Int32.ofNat o)), .val (.int (Int32.ofNat len)), .unset, .unset, .unset] [.ref s.heap.size])) := c2.trans (st3 _ (Steps.refl _))
  have c5 : Steps p.tables e below (s₁.setTop (entryFrame m #[.ref b, .int (Int32.ofNat o), .int (Int32.ofNat len)] 6)) (T3.setTop (mkF m 9 #[.val (.ref b), .val (.int (Int32.ofNat o)), .val (.int (Int32.ofNat len)), .val (.ref s.heap.size), .unset, .unset] [.int (Int32.ofNat len), .int 0, .ref s.heap.size, .int (Int32.ofNat o), .ref b])) := c4.trans (by
    refine XS.astoreN X3.here hexec rfl (hb hbytes d3) rfl rfl rfl ?_
    refine XS.aloadN X3.here hexec rfl (hb hbytes d4) rfl rfl ?_
    refine XS.iloadN X3.here hexec rfl (hb hbytes d5) rfl ?_
    refine XS.aloadN X3.here hexec rfl (hb hbytes d6) rfl rfl ?_
    refine iconstV X3.here hexec rfl 0 (hb hbytes d7) (by decide) ?_
    refine XS.iloadN X3.here hexec rfl (hb hbytes d8) rfl ?_
    exact Steps.refl _)
  obtain ⟨v6, T6, X6, E6, g6⟩ := X3.callS hexec (Cmp5.law l b A s.heap.size B3 o 0 len) hown (wks W (staticW U16 115 Cmp5.yN)) (wk W Cmp5.tab) (W := 0) (Nat.le_of_ble_eq_true rfl) (Nat.le_of_ble_eq_true rfl) (Nat.le_refl _) (by show 0 + len + 0 ≤ len; omega) (g := (mkF m 9 #[.val (.ref b), .val (.int (Int32.ofNat o)), .val (.int (Int32.ofNat len)), .val (.ref s.heap.size), .unset, .unset] [.int (Int32.ofNat len), .int (Int32.ofNat 0), .ref s.heap.size, .int (Int32.ofNat o), .ref b])) rfl (by rw [hml]; rfl) c5 (argsL := [.ref b, .int (Int32.ofNat o), .ref s.heap.size, .int (Int32.ofNat 0), .int (Int32.ofNat len)]) (rest := []) rfl rfl (by show 2 * 0 + 0 ≤ _; decide) (hb hbytes d9) (⟨rfl, hA3, ba3, hne, l1, by rw [bs3]; simp, hp⟩)
  obtain ⟨rfl, B6, p6, f6⟩ := E6
  have c7 : Steps p.tables e below (s₁.setTop (entryFrame m #[.ref b, .int (Int32.ofNat o), .int (Int32.ofNat len)] 6)) (T6.setTop (mkF m 12 #[.val (.ref b), .val (.int (Int32.ofNat o)), .val (.int (Int32.ofNat len)), .val (.ref s.heap.size), .unset, .unset] [.int (Int32.ofNat len)])) := g6
  have c8 : Steps p.tables e below (s₁.setTop (entryFrame m #[.ref b, .int (Int32.ofNat o), .int (Int32.ofNat len)] 6)) (T6.setTop (mkF m 58 #[.val (.ref b), .val (.int (Int32.ofNat o)), .val (.int (Int32.ofNat len)), .val (.ref s.heap.size), .val (.int (Int32.ofNat len)), .unset] [.ref s.heap.size])) := c7.trans (by
    refine XS.istore X6.here hexec rfl (hb hbytes d12) rfl rfl ?_
    refine XS.iload X6.here hexec rfl (hb hbytes d14) rfl ?_
    refine XS.iloadN X6.here hexec rfl (hb hbytes d16) rfl ?_
    refine XS.icmpYes X6.here hexec rfl (pc0 := 17) rfl (hb hbytes d17) rfl (ii_eq_t rfl) (by decide) rfl ?_
    refine XS.aloadN X6.here hexec rfl (hb hbytes d57) rfl rfl ?_
    exact Steps.refl _)
  have X8 := X6.wide (L' := []) (cells' := 1) (slots' := len) (fun x hx hlt => by
    simp only [List.nil_append, copyLocs, List.mem_map, List.mem_range] at hx
    obtain ⟨i, -, rfl⟩ := hx
    exact absurd hlt (Nat.lt_irrefl _)) (Nat.le_refl _) (by omega)
  exact ⟨T6, some (.ref s.heap.size), _, _, _, X8, rfl, rfl, rfl, (fun h => by cases h), ⟨⟨rfl, B6, ba3.like (X3.warmed.alike.symm.trans X6.warmed.alike) p6.1 f6.1 f6.2.1 f6.2.2.1, f6.2.1.trans bv3, by rw [X6.warmed.alike.findClass, f6.1]; exact bf3, by rw [f6.2.2.1, bs3]; simp, fun j hj => by rw [f6.2.2.2 j, if_pos (by omega)]; rfl, kp3.put p6 (Nat.le_refl _)⟩, by rw [p6.2.2, bh3, hh0]; simp⟩, fun fs hl => c8.trans (X8.areturnOut hexec rfl hret rfl (hb hbytes d58) hl)⟩
end Cmp3
namespace CodL
def yN : MethodName := ⟨"java/lang/StringUTF16", "coderFromArrayLen", "([BI)B"⟩
abbrev yB : ByteArray := jdk_52_method_15_code
theorem d0 : decode yB 0 = .ok (.iload_n 1, 1) := by decide +kernel
theorem d1 : decode yB 1 = .ok (.aload_n 0, 1) := by decide +kernel
theorem d2 : decode yB 2 = .ok (.arraylength, 1) := by decide +kernel
theorem d3 : decode yB 3 = .ok (.isub, 1) := by decide +kernel
theorem d4 : decode yB 4 = .ok (.bipush 31, 2) := by decide +kernel
theorem d6 : decode yB 6 = .ok (.iushr, 1) := by decide +kernel
theorem d7 : decode yB 7 = .ok (.i2b, 1) := by decide +kernel
theorem d8 : decode yB 8 = .ok (.ireturn, 1) := by decide +kernel
def site : List Cond := []
def tab : Cond := tabOf yN yB 2 (some .byte) site
def P (d : Addr) (B : Cell) (args : Array Value) (s : State) : Prop := args = #[.ref d, .int (Int32.ofNat B.slots.size)] ∧ Arr .byte d B s
def E (r : Option Value) (s u : State) : Prop := XT.PureE (some (.int 0)) r s u
/-- an array as long as the number of chars: LATIN1 -/
theorem law (l : Launch) (d : Addr) (B : Cell) : Law l yN 2 2 0 0 yB 2 (some .byte) site (P d B) E [] 0 0 := by
  refine Law.of_walk (plainFor_of_name (by decide +kernel)) (by decide +kernel) (by decide +kernel) (by decide) (fun _ _ h => by rw [h.1]; rfl) (fun _ U U' hal hh h => ⟨h.1, h.2.mv hal hh⟩) (fun r U U' V V' h1 hal h2 h => XT.PureE.mv r U U' V V' h1 hal h2 h) ?_
  intro p e s m args below meth c s₁ X0 hexec hbytes hml hret hlk hnm hown hh0 W hP
  obtain ⟨rfl, hB⟩ := hP
  have hB0 := hB.mv X0.warmed.alike hh0
  have c1 : Steps p.tables e below (s₁.setTop (entryFrame m #[.ref d, .int (Int32.ofNat B.slots.size)] 2)) (s₁.setTop (mkF m 0 #[.val (.ref d), .val (.int (Int32.ofNat B.slots.size))] [])) := entry rfl
  have c2 : Steps p.tables e below (s₁.setTop (entryFrame m #[.ref d, .int (Int32.ofNat B.slots.size)] 2)) (s₁.setTop (mkF m 2 #[.val (.ref d), .val (.int (Int32.ofNat B.slots.size))] [.ref d, .int (Int32.ofNat B.slots.size)])) := c1.trans (by
    refine XS.iloadN X0.here hexec rfl (hb hbytes d0) rfl ?_
    refine XS.aloadN X0.here hexec rfl (hb hbytes d1) rfl rfl ?_
    exact Steps.refl _)
  have c3 : Steps p.tables e below (s₁.setTop (entryFrame m #[.ref d, .int (Int32.ofNat B.slots.size)] 2)) (s₁.setTop (mkF m 8 #[.val (.ref d), .val (.int (Int32.ofNat B.slots.size))] [.int (lo8 (ushr (Int32.ofNat B.slots.size - Int32.ofNat B.slots.size) 31))])) := c2.trans (by
    refine X0.alen hexec hB0 rfl rfl (hb hbytes d2) ?_
    refine XS.isub X0.here hexec rfl (hb hbytes d3) rfl ?_
    refine bipushV X0.here hexec rfl 31 (hb hbytes d4) (by decide) ?_
    refine iushr X0.here hexec rfl (hb hbytes d6) rfl ?_
    refine i2b X0.here hexec rfl (hb hbytes d7) rfl ?_
    exact Steps.refl _)
  have e0 : lo8 (ushr (Int32.ofNat B.slots.size - Int32.ofNat B.slots.size) 31) = 0 := by rw [Int32.sub_self]; decide
  rw [e0] at c3
  exact ⟨s₁, some (.int 0), _, _, _, X0, rfl, rfl, rfl, (fun h => by cases h), ⟨rfl, hh0⟩, fun fs hl => c3.trans (X0.ireturnOut hexec hret rfl (Or.inr (Or.inr (Or.inl rfl))) (hb hbytes d8) hl)⟩
end CodL
/-- the String at a is Latin-1 over a new byte[] (the heap's one new cell): the low bytes of the len chars of A from o on; every cell but a is kept -/
def Got (a : Addr) (D : Cell) (fV fC : Field) (A : Cell) (o len : Nat) (r : Option Value) (s u : State) : Prop := r = none ∧ ∃ D' V : Cell, Blank "java/lang/String" a D' u ∧ Same D D' [fV.slot, fC.slot] ∧ D'.slots[fV.slot]? = some (.ref s.heap.size) ∧ D'.slots[fC.slot]? = some (.int 0) ∧ Arr .byte s.heap.size V u ∧ V.vm = .none ∧ u.vm.findClass "[B" = some V.cls ∧ V.slots.size = len ∧ (∀ j, j < len → V.slots[j]? = some (.int (lo8 (cv A (o + j))))) ∧ (∀ (y : Addr) (c : Cell), y ≠ a → s.heap[y]? = some c → u.heap[y]? = some c) ∧ u.heap.size = s.heap.size + 1
theorem Got.mv {a : Addr} {D A : Cell} {fV fC : Field} {o len : Nat} : ∀ r (U U' V V' : State), U'.heap = U.heap → V.vm.Alike V'.vm → V'.heap = V.heap → Got a D fV fC A o len r U V → Got a D fV fC A o len r U' V' :=
  fun r U U' V V' h1 hal h2 ⟨e0, D', X, a1, a2, a3, a4, a5, a6, a7, a8, a9, a10, a11⟩ => ⟨e0, D', X, a1.mv hal h2, a2, by rw [h1]; exact a3, a4, by rw [h1]; exact a5.mv hal h2, a6, by rw [hal.findClass]; exact a7, a8, a9, by rw [h1, h2]; exact a10, by rw [h1, h2]; exact a11⟩
namespace New4
def yN : MethodName := ⟨"java/lang/String", "<init>", "([CIILjava/lang/Void;)V"⟩
abbrev yB : ByteArray := jdk_42_method_149_code
theorem d0 : decode yB 0 = .ok (.aload_n 0, 1) := by decide +kernel
theorem d1 : decode yB 1 = .ok (.invokespecial 1, 3) := by decide +kernel
theorem d4 : decode yB 4 = .ok (.iload_n 3, 1) := by decide +kernel
theorem d5 : decode yB 5 = .ok (.ifCond (.ne) 22, 3) := by decide +kernel
theorem d27 : decode yB 27 = .ok (.getstatic 38, 3) := by decide +kernel
theorem d30 : decode yB 30 = .ok (.ifCond (.eq) 28, 3) := by decide +kernel
theorem d33 : decode yB 33 = .ok (.aload_n 1, 1) := by decide +kernel
theorem d34 : decode yB 34 = .ok (.iload_n 2, 1) := by decide +kernel
theorem d35 : decode yB 35 = .ok (.iload_n 3, 1) := by decide +kernel
theorem d36 : decode yB 36 = .ok (.invokestatic 177, 3) := by decide +kernel
theorem d39 : decode yB 39 = .ok (.astore 5, 2) := by decide +kernel
theorem d41 : decode yB 41 = .ok (.aload_n 0, 1) := by decide +kernel
theorem d42 : decode yB 42 = .ok (.aload 5, 2) := by decide +kernel
theorem d44 : decode yB 44 = .ok (.iload_n 3, 1) := by decide +kernel
theorem d45 : decode yB 45 = .ok (.invokestatic 47, 3) := by decide +kernel
theorem d48 : decode yB 48 = .ok (.putfield 15, 3) := by decide +kernel
theorem d51 : decode yB 51 = .ok (.aload_n 0, 1) := by decide +kernel
theorem d52 : decode yB 52 = .ok (.aload 5, 2) := by decide +kernel
theorem d54 : decode yB 54 = .ok (.putfield 9, 3) := by decide +kernel
theorem d57 : decode yB 57 = .ok (.return_, 1) := by decide +kernel
def site : List Cond := [.fieldLink "java/lang/String" 38 "java/lang/String" "COMPACT_STRINGS" "Z", Cmp3.tab, CodL.tab, .laysFinal "java/lang/String" "java/lang/String" "value" "[B", .fieldLink "java/lang/String" 9 "java/lang/String" "value" "[B", .laysFinal "java/lang/String" "java/lang/String" "coder" "B", .fieldLink "java/lang/String" 15 "java/lang/String" "coder" "B"] ++ objW "java/lang/String" 1 ++ staticW "java/lang/String" 177 Cmp3.yN ++ staticW "java/lang/String" 47 CodL.yN
def tab : Cond := tabOf yN yB 6 none site
def P (a : Addr) (D : Cell) (fV fC : Field) (b : Addr) (A : Cell) (z : Int32) (o len : Nat) (args : Array Value) (s : State) : Prop := args = #[.ref a, .ref b, .int (Int32.ofNat o), .int (Int32.ofNat len), .null] ∧ Blank "java/lang/String" a D s ∧ Found "java/lang/String" "value" "[B" fV s ∧ Found "java/lang/String" "coder" "B" fC s ∧ Ch b A s ∧ StaticIs s "java/lang/String" "COMPACT_STRINGS" "Z" (.int z) ∧ ¬ z = 0 ∧ 0 < len ∧ o + len ≤ A.slots.size ∧ len ≤ 536870912 ∧ ∀ i, i < len → ¬ 255 < cv A (o + i)
def E (a : Addr) (D : Cell) (fV fC : Field) (A : Cell) (o len : Nat) (r : Option Value) (s u : State) : Prop := Got a D fV fC A o len r s u
/-- len > 0, no char of the range above 255: a Latin-1 String of their low bytes -/
theorem law (l : Launch) (a : Addr) (D : Cell) (fV fC : Field) (b : Addr) (A : Cell) (z : Int32) (o len : Nat) : Law l yN 5 4 2 35 yB 6 none site (P a D fV fC b A z o len) (E a D fV fC A o len) [⟨a, fC.slot⟩, ⟨a, fV.slot⟩] 1 len := by
  refine Law.of_walk (plainFor_of_name (by decide +kernel)) (by decide +kernel) (by decide +kernel) (by decide) (fun _ _ h => by rw [h.1]; rfl) (fun _ U U' hal hh h => ⟨h.1, h.2.1.mv hal hh, h.2.2.1.al hal, h.2.2.2.1.al hal, h.2.2.2.2.1.mv hal hh, h.2.2.2.2.2.1.there hal hh, h.2.2.2.2.2.2⟩) (fun r U U' V V' h1 hal h2 h => Got.mv r U U' V V' h1 hal h2 h) ?_
  intro p e s m args below meth c s₁ X0 hexec hbytes hml hret hlk hnm hown hh0 W hP
  obtain ⟨rfl, hB, f1, f2, hA, s1, hz, l0, l1, l2, hp⟩ := hP
  have a31 := hA.1.2.2.2
  have c1 : Steps p.tables e below (s₁.setTop (entryFrame m #[.ref a, .ref b, .int (Int32.ofNat o), .int (Int32.ofNat len), .null] 6)) (s₁.setTop (mkF m 0 #[.val (.ref a), .val (.ref b), .val (.int (Int32.ofNat o)), .val (.int (Int32.ofNat len)), .val .null, .unset] [])) := entry rfl
  have c2 : Steps p.tables e below (s₁.setTop (entryFrame m #[.ref a, .ref b, .int (Int32.ofNat o), .int (Int32.ofNat len), .null] 6)) (s₁.setTop (mkF m 1 #[.val (.ref a), .val (.ref b), .val (.int (Int32.ofNat o)), .val (.int (Int32.ofNat len)), .val .null, .unset] [.ref a])) := c1.trans (by
    refine XS.aloadN X0.here hexec rfl (hb hbytes d0) rfl rfl ?_
    exact Steps.refl _)
  obtain ⟨T3, X3, q3, st3⟩ := X0.oinit hexec hown (wks W (objW "java/lang/String" 1)) (g := (mkF m 1 #[.val (.ref a), .val (.ref b), .val (.int (Int32.ofNat o)), .val (.int (Int32.ofNat len)), .val .null, .unset] [.ref a])) rfl (by rw [hml]; rfl) (rest := []) rfl (hb hbytes d1) (W := 0) (by show 2 * 0 + 0 ≤ _; decide) (Nat.le_of_ble_eq_true rfl) (Nat.le_of_ble_eq_true rfl)
  have hh3 := q3.trans hh0
  have c4 : Steps p.tables e below (s₁.setTop (entryFrame m #[.ref a, .ref b, .int (Int32.ofNat o), .int (Int32.ofNat len), .null] 6)) (T3.setTop (mkF m 27 #[.val (.ref a), .val (.ref b), .val (.int (Int32.ofNat o)), .val (.int (Int32.ofNat len)), .val .null, .unset] [])) := (c2.trans (st3 _ (Steps.refl _))).trans (by
    refine XS.iloadN X3.here hexec rfl (hb hbytes d4) rfl ?_
    refine XS.ifYes X3.here hexec rfl (pc0 := 5) rfl (hb hbytes d5) rfl (i0_ne_t (nz32 (by omega) l0)) (by decide) rfl ?_
    exact Steps.refl _)
  obtain ⟨T5, X5, q5, st5⟩ := X3.sget hexec hown (wk W (.fieldLink "java/lang/String" 38 "java/lang/String" "COMPACT_STRINGS" "Z")) s1 (fun _ _ h => by rw [hh3]; exact h) (g := (mkF m 27 #[.val (.ref a), .val (.ref b), .val (.int (Int32.ofNat o)), .val (.int (Int32.ofNat len)), .val .null, .unset] [])) rfl (hb hbytes d27)
  have hh5 := q5.trans hh3
  have c6 : Steps p.tables e below (s₁.setTop (entryFrame m #[.ref a, .ref b, .int (Int32.ofNat o), .int (Int32.ofNat len), .null] 6)) (T5.setTop (mkF m 30 #[.val (.ref a), .val (.ref b), .val (.int (Int32.ofNat o)), .val (.int (Int32.ofNat len)), .val .null, .unset] [.int z])) := c4.trans (st5 _ (Steps.refl _))
  have c7 : Steps p.tables e below (s₁.setTop (entryFrame m #[.ref a, .ref b, .int (Int32.ofNat o), .int (Int32.ofNat len), .null] 6)) (T5.setTop (mkF m 36 #[.val (.ref a), .val (.ref b), .val (.int (Int32.ofNat o)), .val (.int (Int32.ofNat len)), .val .null, .unset] [.int (Int32.ofNat len), .int (Int32.ofNat o), .ref b])) := c6.trans (by
    refine XS.ifNo X5.here hexec rfl (hb hbytes d30) rfl (i0_eq_f hz) ?_
    refine XS.aloadN X5.here hexec rfl (hb hbytes d33) rfl rfl ?_
    refine XS.iloadN X5.here hexec rfl (hb hbytes d34) rfl ?_
    refine XS.iloadN X5.here hexec rfl (hb hbytes d35) rfl ?_
    exact Steps.refl _)
  obtain ⟨v8, T8, X8, E8, g8⟩ := X5.callS hexec (Cmp3.law l b A o len) hown (wks W (staticW "java/lang/String" 177 Cmp3.yN)) (wk W Cmp3.tab) (W := 0) (Nat.le_of_ble_eq_true rfl) (Nat.le_of_ble_eq_true rfl) (Nat.le_refl _) (by show 0 + len ≤ len; omega) (g := (mkF m 36 #[.val (.ref a), .val (.ref b), .val (.int (Int32.ofNat o)), .val (.int (Int32.ofNat len)), .val .null, .unset] [.int (Int32.ofNat len), .int (Int32.ofNat o), .ref b])) rfl (by rw [hml]; rfl) c7 (argsL := [.ref b, .int (Int32.ofNat o), .int (Int32.ofNat len)]) (rest := []) rfl rfl (by show 2 * 0 + 0 ≤ _; decide) (hb hbytes d36) (⟨rfl, hA.mv X5.warmed.alike hh5, l1, l2, hp⟩)
  obtain ⟨e8, z8⟩ := E8
  obtain ⟨rfl, N, n1, n2, n3, n4, n5, n6⟩ := NewArr.mv _ T5 s _ _ hh5.symm (Vm.Alike.refl _) rfl e8
  rw [hh5] at z8
  have hB1 := hB.keep X8.warmed.alike (n6 _ _ hB.1)
  have hne : s.heap.size ≠ a := (Nat.ne_of_lt (Array.getElem?_eq_some_iff.mp hB.1).1).symm
  have c9 : Steps p.tables e below (s₁.setTop (entryFrame m #[.ref a, .ref b, .int (Int32.ofNat o), .int (Int32.ofNat len), .null] 6)) (T8.setTop (mkF m 39 #[.val (.ref a), .val (.ref b), .val (.int (Int32.ofNat o)), .val (.int (Int32.ofNat len)), .val .null, .unset] [.ref s.heap.size])) := g8
  have c10 : Steps p.tables e below (s₁.setTop (entryFrame m #[.ref a, .ref b, .int (Int32.ofNat o), .int (Int32.ofNat len), .null] 6)) (T8.setTop (mkF m 45 #[.val (.ref a), .val (.ref b), .val (.int (Int32.ofNat o)), .val (.int (Int32.ofNat len)), .val .null, .val (.ref s.heap.size)] [.int (Int32.ofNat N.slots.size), .ref s.heap.size, .ref a])) := by
    have hc : Steps p.tables e below (s₁.setTop (entryFrame m #[.ref a, .ref b, .int (Int32.ofNat o), .int (Int32.ofNat len), .null] 6)) (T8.setTop (mkF m 45 #[.val (.ref a), .val (.ref b), .val (.int (Int32.ofNat o)), .val (.int (Int32.ofNat len)), .val .null, .val (.ref s.heap.size)] [.int (Int32.ofNat len), .ref s.heap.size, .ref a])) := c9.trans (by
      refine XS.astore X8.here hexec rfl (hb hbytes d39) rfl rfl rfl ?_
      refine XS.aloadN X8.here hexec rfl (hb hbytes d41) rfl rfl ?_
      refine XS.aload X8.here hexec rfl (hb hbytes d42) rfl rfl ?_
      refine XS.iloadN X8.here hexec rfl (hb hbytes d44) rfl ?_
      exact Steps.refl _)
    rw [n4]; exact hc
  obtain ⟨v11, T11, X11, E11, g11⟩ := X8.callS hexec (CodL.law l s.heap.size N) hown (wks W (staticW "java/lang/String" 47 CodL.yN)) (wk W CodL.tab) (W := 1) (Nat.le_of_ble_eq_true rfl) (Nat.le_of_ble_eq_true rfl) (Nat.le_refl _) (by show 0 + len + 0 ≤ len; omega) (g := (mkF m 45 #[.val (.ref a), .val (.ref b), .val (.int (Int32.ofNat o)), .val (.int (Int32.ofNat len)), .val .null, .val (.ref s.heap.size)] [.int (Int32.ofNat N.slots.size), .ref s.heap.size, .ref a])) rfl (by rw [hml]; rfl) c10 (argsL := [.ref s.heap.size, .int (Int32.ofNat N.slots.size)]) (rest := [.ref a]) rfl rfl (by show 2 * 0 + (1 + 0) ≤ _; decide) (hb hbytes d45) (⟨rfl, n1⟩)
  obtain ⟨rfl, q11⟩ := E11
  have hB11 := hB1.mv (X8.warmed.alike.symm.trans X11.warmed.alike) q11
  have c12 : Steps p.tables e below (s₁.setTop (entryFrame m #[.ref a, .ref b, .int (Int32.ofNat o), .int (Int32.ofNat len), .null] 6)) (T11.setTop (mkF m 48 #[.val (.ref a), .val (.ref b), .val (.int (Int32.ofNat o)), .val (.int (Int32.ofNat len)), .val .null, .val (.ref s.heap.size)] [.int 0, .ref a])) := g11
  obtain ⟨T13, X13, p13, bl13, sl13, st13⟩ := X11.finit hexec hown (wk W (.fieldLink "java/lang/String" 15 "java/lang/String" "coder" "B")) (Or.inr ⟨_, (wk W (.laysFinal "java/lang/String" "java/lang/String" "coder" "B"))⟩) (Or.inl ⟨rfl, hnm⟩) f2 (Or.inl rfl) hB11 (t := .byte) (by decide +kernel) rfl (g := (mkF m 48 #[.val (.ref a), .val (.ref b), .val (.int (Int32.ofNat o)), .val (.int (Int32.ofNat len)), .val .null, .val (.ref s.heap.size)] [.int 0, .ref a])) rfl (rest := []) rfl (hb hbytes d48)
  have c14 : Steps p.tables e below (s₁.setTop (entryFrame m #[.ref a, .ref b, .int (Int32.ofNat o), .int (Int32.ofNat len), .null] 6)) (T13.setTop (mkF m 54 #[.val (.ref a), .val (.ref b), .val (.int (Int32.ofNat o)), .val (.int (Int32.ofNat len)), .val .null, .val (.ref s.heap.size)] [.ref s.heap.size, .ref a])) := (c12.trans (st13 _ (Steps.refl _))).trans (by
    refine XS.aloadN X13.here hexec rfl (hb hbytes d51) rfl rfl ?_
    refine XS.aload X13.here hexec rfl (hb hbytes d52) rfl rfl ?_
    exact Steps.refl _)
  obtain ⟨T15, X15, p15, bl15, sl15, st15⟩ := X13.finit hexec hown (wk W (.fieldLink "java/lang/String" 9 "java/lang/String" "value" "[B")) (Or.inr ⟨_, (wk W (.laysFinal "java/lang/String" "java/lang/String" "value" "[B"))⟩) (Or.inl ⟨rfl, hnm⟩) f1 (Or.inl rfl) bl13 (t := (.array .byte)) (by decide +kernel) rfl (g := (mkF m 54 #[.val (.ref a), .val (.ref b), .val (.int (Int32.ofNat o)), .val (.int (Int32.ofNat len)), .val .null, .val (.ref s.heap.size)] [.ref s.heap.size, .ref a])) rfl (rest := []) rfl (hb hbytes d54)
  have c16 : Steps p.tables e below (s₁.setTop (entryFrame m #[.ref a, .ref b, .int (Int32.ofNat o), .int (Int32.ofNat len), .null] 6)) (T15.setTop (mkF m 57 #[.val (.ref a), .val (.ref b), .val (.int (Int32.ofNat o)), .val (.int (Int32.ofNat len)), .val .null, .val (.ref s.heap.size)] [])) := c14.trans (st15 _ (Steps.refl _))
  have ap := apart (Or.inr ⟨_, (wk W (.laysFinal "java/lang/String" "java/lang/String" "value" "[B"))⟩) (Or.inr ⟨_, (wk W (.laysFinal "java/lang/String" "java/lang/String" "coder" "B"))⟩) f1 f2 (t₁ := .array .byte) (t₂ := .byte) (by decide +kernel) (by decide +kernel) (by decide)
  have al := X8.warmed.alike.symm.trans X15.warmed.alike
  have n7 : T11.heap[s.heap.size]? = some N := by rw [q11]; exact n1.1
  exact ⟨T15, none, _, _, _, X15, by simp, rfl, by omega, (fun _ => rfl), ⟨rfl, _, N, bl15, ((Same.refl D _).set _ (by simp)).set _ (by simp), sl15, (Cell.slots_setSlot_ne _ ap).trans sl13, n1.keep al (p15.other hne (p13.other hne n7)), n2, by rw [al.findClass]; exact n3, n4, n5, fun y c h1 h2 => p15.other h1 (p13.other h1 (by rw [q11]; exact n6 y c h2)), by rw [p15.2.2, p13.2.2, q11]; exact z8⟩, fun fs hl => c16.trans (X15.returnOut hexec hret (hb hbytes d57) hl)⟩
end New4
namespace New1
def yN : MethodName := ⟨"java/lang/String", "<init>", "([C)V"⟩
abbrev yB : ByteArray := jdk_42_method_3_code
theorem d0 : decode yB 0 = .ok (.aload_n 0, 1) := by decide +kernel
theorem d1 : decode yB 1 = .ok (.aload_n 1, 1) := by decide +kernel
theorem d2 : decode yB 2 = .ok (.iconst 0, 1) := by decide +kernel
theorem d3 : decode yB 3 = .ok (.aload_n 1, 1) := by decide +kernel
theorem d4 : decode yB 4 = .ok (.arraylength, 1) := by decide +kernel
theorem d5 : decode yB 5 = .ok (.aconst_null, 1) := by decide +kernel
theorem d6 : decode yB 6 = .ok (.invokespecial 27, 3) := by decide +kernel
theorem d9 : decode yB 9 = .ok (.return_, 1) := by decide +kernel
def site : List Cond := [New4.tab] ++ initW "java/lang/String" 27 New4.yN
def tab : Cond := tabOf yN yB 2 none site
def P (a : Addr) (D : Cell) (fV fC : Field) (b : Addr) (A : Cell) (z : Int32) (args : Array Value) (s : State) : Prop := args = #[.ref a, .ref b] ∧ Blank "java/lang/String" a D s ∧ Found "java/lang/String" "value" "[B" fV s ∧ Found "java/lang/String" "coder" "B" fC s ∧ Ch b A s ∧ StaticIs s "java/lang/String" "COMPACT_STRINGS" "Z" (.int z) ∧ ¬ z = 0 ∧ 0 < A.slots.size ∧ A.slots.size ≤ 536870912 ∧ ∀ i, i < A.slots.size → ¬ 255 < cv A i
def E (a : Addr) (D : Cell) (fV fC : Field) (A : Cell) (r : Option Value) (s u : State) : Prop := Got a D fV fC A 0 A.slots.size r s u
/-- new String(chars), not empty, no char above 255: a Latin-1 String of their low bytes -/
theorem law (l : Launch) (a : Addr) (D : Cell) (fV fC : Field) (b : Addr) (A : Cell) (z : Int32) : Law l yN 2 1 3 52 yB 2 none site (P a D fV fC b A z) (E a D fV fC A) [⟨a, fC.slot⟩, ⟨a, fV.slot⟩] 1 A.slots.size := by
  refine Law.of_walk (plainFor_of_name (by decide +kernel)) (by decide +kernel) (by decide +kernel) (by decide) (fun _ _ h => by rw [h.1]; rfl) (fun _ U U' hal hh h => ⟨h.1, h.2.1.mv hal hh, h.2.2.1.al hal, h.2.2.2.1.al hal, h.2.2.2.2.1.mv hal hh, h.2.2.2.2.2.1.there hal hh, h.2.2.2.2.2.2⟩) (fun r U U' V V' h1 hal h2 h => Got.mv r U U' V V' h1 hal h2 h) ?_
  intro p e s m args below meth c s₁ X0 hexec hbytes hml hret hlk hnm hown hh0 W hP
  obtain ⟨rfl, hB, f1, f2, hA, s1, hz, l0, l2, hp⟩ := hP
  have c1 : Steps p.tables e below (s₁.setTop (entryFrame m #[.ref a, .ref b] 2)) (s₁.setTop (mkF m 0 #[.val (.ref a), .val (.ref b)] [])) := entry rfl
  have c2 : Steps p.tables e below (s₁.setTop (entryFrame m #[.ref a, .ref b] 2)) (s₁.setTop (mkF m 6 #[.val (.ref a), .val (.ref b)] [.null, .int (Int32.ofNat A.slots.size), .int 0, .ref b, .ref a])) := c1.trans (by
    refine XS.aloadN X0.here hexec rfl (hb hbytes d0) rfl rfl ?_
    refine XS.aloadN X0.here hexec rfl (hb hbytes d1) rfl rfl ?_
    refine iconstV X0.here hexec rfl 0 (hb hbytes d2) (by decide) ?_
    refine XS.aloadN X0.here hexec rfl (hb hbytes d3) rfl rfl ?_
    refine X0.alen hexec (hA.1.mv X0.warmed.alike hh0) rfl rfl (hb hbytes d4) ?_
    refine XS.aconstNull X0.here hexec rfl (hb hbytes d5) ?_
    exact Steps.refl _)
  obtain ⟨v3, T3, X3, E3, g3⟩ := X0.callN hexec (New4.law l a D fV fC b A z 0 A.slots.size) rfl hown (wks W (initW "java/lang/String" 27 New4.yN)) (W New4.tab (by simp only [site, List.mem_cons, List.mem_append, true_or, or_true])) (W := 0) (Nat.le_of_ble_eq_true rfl) (Nat.le_of_ble_eq_true rfl) (Nat.le_refl _) (by show 0 + A.slots.size ≤ A.slots.size; omega) (g := (mkF m 6 #[.val (.ref a), .val (.ref b)] [.null, .int (Int32.ofNat A.slots.size), .int (Int32.ofNat 0), .ref b, .ref a])) rfl (by rw [hml]; rfl) c2 (argsL := [.ref b, .int (Int32.ofNat 0), .int (Int32.ofNat A.slots.size), .null]) (rest := []) rfl rfl (by show 2 * 0 + 0 ≤ _; decide) (hb hbytes d6) (⟨rfl, hB.mv X0.warmed.alike hh0, f1.al X0.warmed.alike, f2.al X0.warmed.alike, hA.mv X0.warmed.alike hh0, s1.there X0.warmed.alike hh0, hz, l0, by omega, l2, fun i hi => by rw [Nat.zero_add]; exact hp i hi⟩)
  have e0 := Got.mv _ s₁ s _ _ hh0.symm (Vm.Alike.refl _) rfl E3
  obtain rfl := e0.1
  have c4 : Steps p.tables e below (s₁.setTop (entryFrame m #[.ref a, .ref b] 2)) (T3.setTop (mkF m 9 #[.val (.ref a), .val (.ref b)] [])) := g3
  exact ⟨T3, none, _, _, _, X3, by simp, rfl, by omega, (fun _ => rfl), e0, fun fs hl => c4.trans (X3.returnOut hexec hret (hb hbytes d9) hl)⟩
theorem pays {l : Launch} {R : Room} {p : Program} {e : Env} {below : List Frame} {s : State} {sargs : Array Value} {len W : Nat} (a : Addr) (D : Cell) (fV fC : Field) (b : Addr) (A : Cell) (z : Int32) (htab : tab.before sargs s = true) (hfr : 4 ≤ R.frames) (hlo : W + 65 ≤ R.locals) :
    Back l R p e below s sargs yN len W (fun A₁ a₁ => A₁.cells + 1 ≤ R.cells ∧ A₁.slots + A.slots.size ≤ R.slots ∧ P a D fV fC b A z a₁ A₁.U) (fun A₁ _ v₁ B₁ => E a D fV fC A v₁ A₁.U B₁.U ∧ B₁.locs = A₁.locs ++ [⟨a, fC.slot⟩, ⟨a, fV.slot⟩] ∧ B₁.cells = A₁.cells + 1 ∧ B₁.slots = A₁.slots + A.slots.size) :=
  (law l a D fV fC b A z).pays htab hfr (by omega)
end New1
end StrChars
namespace StrChars.Road
open Jvm Sem ClassFile Op Lib Jvm.Stand Jvm.Free Jvm.Free.XT
open Jvm.Lib.Cold (StaticIs)
abbrev ST : String := "java/lang/String"
/-- every table word that New1's law asks, flat -/
abbrev words : List Jvm.Cond := [.code New1.yN New1.yB 2 none, .initialized ST, .methodLink ST 27 New4.yN, .instanceMethod New4.yN,
  .code New4.yN New4.yB 6 none, .fieldLink ST 38 ST "COMPACT_STRINGS" "Z", .laysFinal ST ST "value" "[B", .fieldLink ST 9 ST "value" "[B", .laysFinal ST ST "coder" "B", .fieldLink ST 15 ST "coder" "B",
  .methodLink ST 1 Lib.objectInit, .instanceMethod Lib.objectInit, .code Lib.objectInit ⟨#[0xb1]⟩ 1 none, .methodLink ST 177 Cmp3.yN, .static Cmp3.yN, .methodLink ST 47 CodL.yN, .static CodL.yN,
  .code Cmp3.yN Cmp3.yB 6 (some (.array .byte)), .initialized U16, .arrayClass .byte, .methodLink U16 115 Cmp5.yN, .static Cmp5.yN, .code Cmp5.yN Cmp5.yB 7 (some .int), .code CodL.yN CodL.yB 2 (some .byte)]
theorem tab_of {a : Array Value} {s : State} (h : ∀ w ∈ words, w.before a s = true) : New1.tab.before a s = true := by
  have h5 : Cmp5.tab.before a s = true := unparts (wk h (.code Cmp5.yN Cmp5.yB 7 (some .int))) (wks h (.initialized Cmp5.yN.cls :: Cmp5.site))
  have hc : CodL.tab.before a s = true := unparts (wk h (.code CodL.yN CodL.yB 2 (some .byte))) (wks h (.initialized CodL.yN.cls :: CodL.site))
  have q5 : ∀ w ∈ Cmp5.tab :: words, w.before a s = true := fun w hw => (List.mem_cons.mp hw).elim (fun e => e ▸ h5) (h w)
  have h3 : Cmp3.tab.before a s = true := unparts (wk q5 (.code Cmp3.yN Cmp3.yB 6 (some (.array .byte)))) (wks q5 (.initialized Cmp3.yN.cls :: Cmp3.site))
  have q3 : ∀ w ∈ Cmp3.tab :: CodL.tab :: words, w.before a s = true := fun w hw => (List.mem_cons.mp hw).elim (fun e => e ▸ h3) fun hw => (List.mem_cons.mp hw).elim (fun e => e ▸ hc) (h w)
  have h4 : New4.tab.before a s = true := unparts (wk q3 (.code New4.yN New4.yB 6 none)) (wks q3 (.initialized New4.yN.cls :: New4.site))
  have q4 : ∀ w ∈ New4.tab :: words, w.before a s = true := fun w hw => (List.mem_cons.mp hw).elim (fun e => e ▸ h4) (h w)
  exact unparts (wk q4 (.code New1.yN New1.yB 2 none)) (wks q4 (.initialized New1.yN.cls :: New1.site))
/-- the words ride from the start Z to the walk's own state -/
theorem moved {Z s : State} {a0 args : Array Value} (hZ : Z.Warmed39 s.vm) (hw : ∀ d ∈ words, d.before a0 Z = true) : ∀ d ∈ words, d.before args s = true := fun d hd => by
  have q := hw d hd
  have t : ∀ d ∈ words, d = .arrayClass .byte ∨ (d.onTables && d.keepsFace) = true := by decide +kernel
  rcases t d hd with rfl | t
  · exact RoadKit.mvA hZ q
  · exact RoadKit.mv hZ q t
/-- WHAT COMES BACK, over the tables of the start Z: h the heap at the call, h' behind it -/
def Q (Z : State) (x : Addr) (A : Cell) (h : Heap) (v : Option Value) (h' : Heap) (L : List Loc) : Prop := v = none ∧ (∀ y ∈ L, y.base = x) ∧ RoadKit.Keep h h' [x] ∧ h'.size = h.size + 1 ∧ RoadKit.Exa Z h' x ST ∧ RoadKit.Fld Z h' x ST "value" "[B" (.ref h.size) ∧ RoadKit.Fld Z h' x ST "coder" "B" (.int 0) ∧
  (∃ V : Cell, RoadKit.Arr Z h' h.size V .byte ∧ V.vm = .none ∧ Z.vm.findClass "[B" = some V.cls ∧ V.slots.size = A.slots.size ∧ ∀ j, j < A.slots.size → V.slots[j]? = some (.int (lo8 (cv A j)))) ∧
  ∀ (O n d : String) (w : Value), RoadKit.Fld Z h x O n d w → RoadKit.slotOf Z O n d ≠ RoadKit.slotOf Z ST "value" "[B" → RoadKit.slotOf Z O n d ≠ RoadKit.slotOf Z ST "coder" "B" → RoadKit.Fld Z h' x O n d w
/-- **new String(chars) AT A CALL, IN THE ROAD'S FORM**: for specialBack behind newO: x the fresh String, b the char[] with the cell A -/
theorem back {p : Program} {l : Launch} {e : Env} {R : Room} {s : State} {args : Array Value} {below : List Frame} {len W : Nat} {Z : State} {a0 : Array Value} {h : Heap} (hZ : Z.Warmed39 s.vm) (hw : ∀ d ∈ words, d.before a0 Z = true) {kI : Nat} (wi : (Jvm.Cond.instantiable ST kI).before a0 Z = true)
    {x b : Addr} {A : Cell} {z : Int32} {v0 c0 : Value} (E : RoadKit.Exa Z h x ST) (V : RoadKit.Fld Z h x ST "value" "[B" v0) (C : RoadKit.Fld Z h x ST "coder" "B" c0) (K : RoadKit.Arr Z h b A .char) (hty : Typed .char A) (S : RoadKit.Sta Z h ST "COMPACT_STRINGS" "Z" (.int z)) (hz : ¬ z = 0)
    (l0 : 0 < A.slots.size) (l2 : A.slots.size ≤ 536870912) (hp : ∀ i, i < A.slots.size → ¬ 255 < cv A i) (hfr : 4 ≤ R.frames) (hlo : W + 65 ≤ R.locals) :
    Back l R p e below s args New1.yN len W (fun P a => a = #[.ref x, .ref b] ∧ P.U.heap = h ∧ P.cells + 1 ≤ R.cells ∧ P.slots + A.slots.size ≤ R.slots)
      (fun P _ v B => ∃ L, Q Z x A h v B.U.heap L ∧ B.locs = P.locs ++ L ∧ B.cells = P.cells + 1 ∧ B.slots = P.slots + A.slots.size) := by
  intro m meth c P g ig mk a X hg hsize hdg hW hn hp'
  obtain ⟨rfl, rfl, r1, r2⟩ := hp'
  have al : Z.vm.Alike P.U.vm := hZ.alike.trans X.warmed.alike
  obtain ⟨D, cfV, kV, iV, fV, hD, gV, stV, knV, obV, asV, slV⟩ := id V
  obtain ⟨D', cfC, kC, iC, fC, hD', gC, stC, -, -, asC, slC⟩ := id C
  cases hD.symm.trans hD'
  obtain ⟨D2, kD, e1, e2, e3, e4, e5⟩ := id E
  cases hD.symm.trans e1
  obtain ⟨c2, k2, i1, i2, i3, -⟩ := Cond.instantiable_spec wi
  cases e2.symm.trans i1
  cases e3.symm.trans i2
  obtain ⟨kU, u1, u2⟩ := al.2.2 _ _ e3
  have hB : Blank ST x D P.U := ⟨hD, ⟨knV, fun q hq => by rw [hq] at obV; cases obV⟩, by rw [al.findClass]; exact e2, kU, u1, by rw [u2]; exact i3, by rw [u2]; exact e5 i3⟩
  have F1 : Found ST "value" "[B" fV P.U := ⟨SBG.found_only al ⟨cfV, kV, iV, gV⟩, stV⟩
  have F2 : Found ST "coder" "B" fC P.U := ⟨SBG.found_only al ⟨cfC, kC, iC, gC⟩, stC⟩
  have hA : Ch b A P.U := ⟨⟨K.1, State.isArrayOf_alike al K.2.1, K.2.2, by omega⟩, hty⟩
  have hS : StaticIs P.U ST "COMPACT_STRINGS" "Z" (.int z) := by
    obtain ⟨cfS, iS, kS, fS, st, cS, t1, t2, t3, t4, t5, t6, t7⟩ := S
    exact StaticIs.there (s := { Z with heap := P.U.heap }) ⟨cfS, iS, kS, fS, st, cS, t1, t2, t3, t4, t5, (fun q => by rw [q] at t6; cases t6), t7⟩ al rfl
  obtain ⟨v, B, X', ⟨⟨hv, E', V', q1, q2, q3, q4, q5, q6, q7, q8, q9, q10, q11⟩, hl, hc, hs⟩, st⟩ := New1.pays x D fV fC b A z (tab_of (moved hZ hw)) hfr hlo m meth c P g ig mk _ X hg hsize hdg hW hn ⟨r1, r2, rfl, hB, F1, F2, hA, hS, hz, l0, l2, hp⟩
  have al' : Z.vm.Alike B.U.vm := hZ.alike.trans X'.warmed.alike
  have hsz : E'.slots.size = D.slots.size := by
    obtain ⟨-, -, -, kB, w1, w2, w3⟩ := q1
    obtain ⟨kB', y1, y2⟩ := al'.2.2 _ _ e3
    rw [q2.2.1] at w1
    cases w1.symm.trans y1
    rw [w3, e5 i3, y2]
  refine ⟨v, B, X', ⟨_, ⟨hv, ?_, ⟨by omega, fun y cy hy hn' => q10 y cy (by simpa using hn') hy, fun y cy hy => ?_⟩, q11, ⟨E', _, q1.1, by rw [q2.2.1]; exact e2, by rw [q2.2.1]; exact e3, by rw [q2.1]; exact obV, fun _ => by rw [hsz]; exact e5 i3⟩,
    ⟨E', cfV, kV, iV, fV, q1.1, gV, stV, by rw [q2.1]; exact knV, by rw [q2.1]; exact obV, by rw [q2.2.1]; exact asV, q3⟩, ⟨E', cfC, kC, iC, fC, q1.1, gC, stC, by rw [q2.1]; exact knV, by rw [q2.1]; exact obV, by rw [q2.2.1]; exact asC, q4⟩,
    ⟨V', ⟨q5.1, State.isArrayOf_alike al'.symm q5.2.1, q5.2.2.1⟩, q6, by rw [← al'.findClass]; exact q7, q8, fun j hj => by have := q9 j hj; rwa [Nat.zero_add] at this⟩, fun O n d w F n1 n2 => ?_⟩, hl, hc, hs⟩, st⟩
  · intro y hy
    simp only [List.mem_cons, List.not_mem_nil, or_false] at hy
    rcases hy with rfl | rfl <;> rfl
  · by_cases q : y = x
    · subst q
      cases hD.symm.trans hy
      exact ⟨E', q1.1, q2.2.1, q2.1, hsz⟩
    · exact ⟨cy, q10 y cy q hy, rfl, rfl, rfl⟩
  · obtain ⟨D3, cf, k, i, f, g1, g2, g3, g4, g5, g6, g7⟩ := F
    cases hD.symm.trans g1
    simp only [RoadKit.slotOf, g2, gV, gC, Option.map_some, Option.getD_some] at n1 n2
    exact ⟨E', cf, k, i, f, q1.1, g2, g3, by rw [q2.1]; exact g4, by rw [q2.1]; exact g5, by rw [q2.2.1]; exact g6, by rw [q2.2.2 f.slot (by simp [n1, n2])]; exact g7⟩
end StrChars.Road
namespace StrChars.Road
open Jvm Sem ClassFile Op Lib Jvm.Stand Jvm.Free Jvm.Free.XT
/-- WHAT COMES BACK, the byte[] as a list of values -/
def QA (Z : State) (x : Addr) (zn : Int32) (cs : List Int32) (h : Heap) (v : Option Value) (h' : Heap) (L : List Loc) : Prop := v = none ∧ (∀ y ∈ L, y.base = x) ∧ RoadKit.Keep h h' [x] ∧ h'.size = h.size + 1 ∧ RoadKit.Exa Z h' x ST ∧ RoadKit.Fld Z h' x ST "value" "[B" (.ref h.size) ∧ RoadKit.Fld Z h' x ST "coder" "B" (.int 0) ∧
  (∃ kb, Z.vm.findClass "[B" = some kb ∧ RoadKit.Arv Z h' h.size kb .byte zn (cs.map fun c => .int (lo8 c)) (.int 0)) ∧
  ∀ (O n d : String) (w : Value), RoadKit.Fld Z h x O n d w → RoadKit.slotOf Z O n d ≠ RoadKit.slotOf Z ST "value" "[B" → RoadKit.slotOf Z O n d ≠ RoadKit.slotOf Z ST "coder" "B" → RoadKit.Fld Z h' x O n d w
/-- **new String(chars) AT A CALL, THE ARRAYS AS LISTS**: the char[] at b holds cs, not empty, no char above 255 -/
theorem backArv {p : Program} {l : Launch} {e : Env} {R : Room} {s : State} {args : Array Value} {below : List Frame} {len W : Nat} {Z : State} {a0 : Array Value} {h : Heap} (hZ : Z.Warmed39 s.vm) (hw : ∀ d ∈ words, d.before a0 Z = true) {kI : Nat} (wi : (Jvm.Cond.instantiable ST kI).before a0 Z = true)
    {x b : Addr} {k : ClassId} {zn z : Int32} {cs : List Int32} {dv v0 c0 : Value} (E : RoadKit.Exa Z h x ST) (V : RoadKit.Fld Z h x ST "value" "[B" v0) (C : RoadKit.Fld Z h x ST "coder" "B" c0) (K : RoadKit.Arv Z h b k .char zn (cs.map Value.int) dv) (S : RoadKit.Sta Z h ST "COMPACT_STRINGS" "Z" (.int z)) (hz : ¬ z = 0)
    (hlen : zn.toNatClampNeg = cs.length) (h0 : 0 < cs.length) (hbig : cs.length ≤ 536870912) (hall : ∀ c ∈ cs, ¬ 255 < c) (hfr : 4 ≤ R.frames) (hlo : W + 65 ≤ R.locals) :
    Back l R p e below s args New1.yN len W (fun P a => a = #[.ref x, .ref b] ∧ P.U.heap = h ∧ P.cells + 1 ≤ R.cells ∧ P.slots + cs.length ≤ R.slots)
      (fun P _ v B => ∃ L, QA Z x zn cs h v B.U.heap L ∧ B.locs = P.locs ++ L ∧ B.cells = P.cells + 1 ∧ B.slots = P.slots + cs.length) := by
  obtain ⟨A, K1, K2, K3, K4, K5, K6⟩ := K
  have e : A.slots.size = cs.length := K3.trans hlen
  have hat : ∀ (i : Nat) (hi : i < cs.length), A.slots[i]? = some (.int cs[i]) := fun i hi => by rw [K5 i (by omega)]; simp [List.getD_eq_getElem?_getD, hi]
  have hcv : ∀ (i : Nat) (hi : i < cs.length), cv A i = cs[i] := fun i hi => by unfold cv; rw [hat i hi]
  have hty : Typed .char A := fun i v hv => by
    have hi : i < A.slots.size := (Array.getElem?_eq_some_iff.mp hv).1
    have q := K5 i hi
    rw [hv] at q
    rw [Option.some.inj q]
    exact K6 i hi
  refine Back.mono (back hZ hw wi E V C K1 hty S hz (by omega) (by omega) (fun i hi => by rw [hcv i (by omega)]; exact hall _ (List.getElem_mem _)) hfr hlo) (fun P a hp => ⟨hp.1, hp.2.1, hp.2.2.1, by rw [e]; exact hp.2.2.2⟩) (fun P a v B hp hq => ?_)
  obtain ⟨L, ⟨q1, q2, q3, q4, q5, q6, q7, ⟨V', v1, v2, v3, v4, v5⟩, q9⟩, hl, hc, hs⟩ := hq
  refine ⟨L, ⟨q1, q2, q3, q4, q5, q6, q7, ⟨V'.cls, v3, V', v1, rfl, by rw [v4, e, hlen], K4, fun i hi => ?_, fun i hi => ?_⟩, q9⟩, hl, hc, by rw [hs, e]⟩
  · have hi' : i < cs.length := by omega
    rw [v5 i (by omega), hcv i hi']; simp [List.getD_eq_getElem?_getD, hi']
  · have hi' : i < cs.length := by omega
    simp only [List.getD_eq_getElem?_getD, List.getElem?_map, List.getElem?_eq_getElem hi', Option.map_some, Option.getD_some]
    exact fits_lo8 _
end StrChars.Road
namespace StrChars.Road
open Jvm Sem ClassFile Op Lib Jvm.Stand Jvm.Free Jvm.Free.XT
/-- WHAT COMES BACK, in the writer's own shape -/
def QV (Z : State) (x : Addr) (N : Int32) (bs : List Int32) (h : Heap) (n0 : Nat) (v : Option Value) (h' : Heap) (L : List Loc) : Prop := v = none ∧ RoadKit.Fr n0 L ∧ RoadKit.Keep h h' [x] ∧ RoadKit.Exa Z h' x ST ∧ RoadKit.Fld Z h' x ST "coder" "B" (.int 0) ∧
  ∃ (t : Addr) (kb : ClassId), n0 ≤ t ∧ h.size ≤ t ∧ ¬ t = x ∧ RoadKit.Fld Z h' x ST "value" "[B" (.ref t) ∧ RoadKit.Arv Z h' t kb .byte N (bs.map Value.int) (.int 0)
/-- **new String(chars) AT A CALL, FOR THE WRITER**: a char[] of n known ints, each 0 to 255 -/
theorem backV {p : Program} {l : Launch} {e : Env} {R : Room} {s : State} {args : Array Value} {below : List Frame} {len W : Nat} {Z : State} {a0 : Array Value} {h : Heap} (hZ : Z.Warmed39 s.vm) (hw : ∀ d ∈ words, d.before a0 Z = true) {kI : Nat} (wi : (Jvm.Cond.instantiable ST kI).before a0 Z = true)
    {x b : Addr} {kC : ClassId} {cs bs : List Int32} {d v0 c0 : Value} {z N : Int32} {n n0 : Nat} (hx0 : n0 ≤ x) (hh0 : n0 ≤ h.size) (E : RoadKit.Exa Z h x ST) (V : RoadKit.Fld Z h x ST "value" "[B" v0) (C : RoadKit.Fld Z h x ST "coder" "B" c0) (K : RoadKit.Arv Z h b kC .char N (cs.map Value.int) d) (S : RoadKit.Sta Z h ST "COMPACT_STRINGS" "Z" (.int z)) (hz : ¬ z = 0)
    (hn : cs.length = n) (hN : N = Int32.ofNat n) (l0 : 0 < n) (l2 : n ≤ 4000) (hp : ∀ c ∈ cs, ¬ c < 0 ∧ ¬ (255 : Int32) < c) (hb : bs = cs.map (fun c => c.toInt8.toInt32)) (hfr : 4 ≤ R.frames) (hlo : W + 65 ≤ R.locals) :
    Back l R p e below s args (⟨"java/lang/String", "<init>", "([C)V"⟩ : MethodName) len W (fun P a => a = #[.ref x, .ref b] ∧ P.U.heap = h ∧ P.cells + 1 ≤ R.cells ∧ P.slots + n ≤ R.slots)
      (fun P _ v B => ∃ L, QV Z x N bs h n0 v B.U.heap L ∧ B.locs = P.locs ++ L ∧ B.cells = P.cells + 1 ∧ B.slots = P.slots + n) := by
  subst hn hN hb
  refine Back.mono (backArv hZ hw wi E V C K S hz (n32 (by omega)) l0 (by omega) (fun c hc => (hp c hc).2) hfr hlo) (fun P a hp => hp) (fun P a v B hp hq => ?_)
  obtain ⟨L, ⟨q1, q2, q3, q4, q5, q6, q7, ⟨kb, v1, v2⟩, q9⟩, hl, hc, hs⟩ := hq
  exact ⟨L, ⟨q1, fun y hy => by rw [q2 y hy]; exact hx0, q3, q5, q7, h.size, kb, hh0, Nat.le_refl _, Nat.ne_of_gt E.lt, q6, by rw [List.map_map]; exact v2⟩, hl, hc, hs⟩
end StrChars.Road
namespace StrChars
open Jvm Sem ClassFile Op Lib Jvm.Stand Jvm.Free.XT Jvm.Free.ALB Jvm.Free.JM Jvm.Free
open Jvm.Lib.Cold (StaticIs)
def hi8 (x : Int32) : Int32 := lo8 (x >>> ((8 : Int32) &&& 31))
/-- what StringUTF16.getChar makes of two bytes -/
def pairCh (u v : Int32) : Int32 := (((u &&& 255) <<< ((0 : Int32) &&& 31)) ||| ((v &&& 255) <<< ((8 : Int32) &&& 31))).toUInt32.toUInt16.toUInt32.toInt32
theorem shr0 (c : Int32) : c >>> ((0 : Int32) &&& 31) = c := by
  have e : ((0 : Int32) &&& 31) = 0 := by decide
  rw [e]
  apply Int32.toBitVec_inj.mp
  rw [Int32.toBitVec_shiftRight]
  have e1 : ((0 : Int32).toBitVec.smod 32) = 0#32 := by decide
  rw [e1, BitVec.sshiftRight_eq']
  exact BitVec.sshiftRight_zero
theorem lo8_and (x : Int32) : (lo8 x &&& 255).toBitVec.toNat = x.toBitVec.toNat % 256 := by
  have h : (lo8 x).toBitVec = (x.toBitVec.signExtend 8).signExtend 32 := by rw [lo8, Int8.toBitVec_toInt32, Int32.toBitVec_toInt8]
  rw [Int32.toBitVec_and, BitVec.toNat_and, h]
  have e : ((x.toBitVec.signExtend 8).signExtend 32).toNat % 256 = x.toBitVec.toNat % 256 := by
    rw [BitVec.toNat_signExtend]
    have hlt := x.toBitVec.isLt
    simp only [BitVec.toNat_setWidth, BitVec.toNat_signExtend]
    split <;> split <;> omega
  rw [← e]
  exact Nat.and_two_pow_sub_one_eq_mod _ 8
theorem pair_says {c : Int32} (h0 : ¬ c < 0) (h1 : ¬ 65535 < c) : pairCh (lo8 c) (hi8 c) = c := by
  rw [Int32.lt_iff_toInt_lt] at h0 h1
  have e0 : (0 : Int32).toInt = 0 := rfl
  have e1 : (65535 : Int32).toInt = 65535 := rfl
  have hc : c.toInt = c.toBitVec.toNat := by
    have := c.toBitVec.isLt
    have e : c.toInt = c.toBitVec.toInt := rfl
    rw [e] at h0 h1
    rw [e]
    rw [BitVec.toInt_eq_toNat_cond] at h0 h1 ⊢
    split at h0 <;> split <;> omega
  have hn : c.toBitVec.toNat < 65536 := by omega
  have a1 := lo8_and c
  have a2 : (hi8 c &&& 255).toBitVec.toNat = c.toBitVec.toNat / 256 := by
    rw [hi8, lo8_and]
    have e : ((8 : Int32) &&& 31) = 8 := by decide
    rw [e, Int32.toBitVec_shiftRight]
    have e2 : ((8 : Int32).toBitVec.smod 32) = 8#32 := by decide
    rw [e2, BitVec.sshiftRight_eq', BitVec.toNat_sshiftRight_of_msb_false (by rw [BitVec.msb_eq_false_iff_two_mul_lt]; omega)]
    show c.toBitVec.toNat >>> 8 % 256 = _
    rw [Nat.shiftRight_eq_div_pow]
    omega
  unfold pairCh
  apply Int32.toBitVec_inj.mp
  apply BitVec.eq_of_toNat_eq
  have f0 : ((0 : Int32) &&& 31) = 0 := by decide
  have f8 : ((8 : Int32) &&& 31) = 8 := by decide
  rw [f0, f8]
  have g : (((lo8 c &&& 255) <<< (0 : Int32)) ||| ((hi8 c &&& 255) <<< (8 : Int32))).toBitVec.toNat = c.toBitVec.toNat := by
    rw [Int32.toBitVec_or, Int32.toBitVec_shiftLeft, Int32.toBitVec_shiftLeft]
    have s0 : ((0 : Int32).toBitVec.smod 32) = 0#32 := by decide
    have s8 : ((8 : Int32).toBitVec.smod 32) = 8#32 := by decide
    rw [s0, s8, BitVec.toNat_or]
    simp only [BitVec.shiftLeft_eq', BitVec.toNat_shiftLeft, a1, a2]
    show (c.toBitVec.toNat % 256) <<< 0 % 2 ^ 32 ||| (c.toBitVec.toNat / 256) <<< 8 % 2 ^ 32 = _
    rw [Nat.shiftLeft_zero, Nat.mod_eq_of_lt (show c.toBitVec.toNat % 256 < 2 ^ 32 by omega), Nat.mod_eq_of_lt (show (c.toBitVec.toNat / 256) <<< 8 < 2 ^ 32 by rw [Nat.shiftLeft_eq]; omega), Nat.or_comm, ← Nat.shiftLeft_add_eq_or_of_lt (by omega), Nat.shiftLeft_eq]
    omega
  show BitVec.toNat (((((lo8 c &&& 255) <<< (0 : Int32)) ||| ((hi8 c &&& 255) <<< (8 : Int32))).toBitVec.setWidth 16).setWidth 32) = _
  rw [BitVec.toNat_setWidth, BitVec.toNat_setWidth, g]
  omega
end StrChars
namespace StrChars
open Jvm Sem ClassFile Op Lib Jvm.Stand Jvm.Free.XT Jvm.Free.ALB Jvm.Free.JM Jvm.Free
open Jvm.Lib.Cold (StaticIs)
theorem shr1 {n : Nat} (h : 2 * n < 2 ^ 31) : Int32.ofNat (2 * n) >>> ((1 : Int32) &&& 31) = Int32.ofNat n := by
  have e : ((1 : Int32) &&& 31) = 1 := by decide
  rw [e]
  apply Int32.toBitVec_inj.mp
  rw [Int32.toBitVec_shiftRight]
  have e1 : ((1 : Int32).toBitVec.smod 32) = 1#32 := by decide
  have hm : (BitVec.ofNat 32 (2 * n)).toNat = 2 * n := by rw [BitVec.toNat_ofNat, Nat.mod_eq_of_lt (by omega)]
  rw [e1, BitVec.sshiftRight_eq']
  apply BitVec.eq_of_toNat_eq
  show ((BitVec.ofNat 32 (2 * n)).sshiftRight 1).toNat = (BitVec.ofNat 32 n).toNat
  rw [BitVec.toNat_sshiftRight_of_msb_false (by rw [BitVec.msb_eq_false_iff_two_mul_lt, hm]; omega), hm, BitVec.toNat_ofNat, Nat.shiftRight_eq_div_pow]
  omega
/-- the array's cell V codes the n chars f 0 .. f (n - 1) by the coder cd, as the JDK does: coder 1 just where some char is above 255 -/
def Cod (cd : Int32) (n : Nat) (f : Nat → Int32) (V : Cell) : Prop := (cd = 0 ∧ V.slots.size = n ∧ ∀ j, j < n → V.slots[j]? = some (.int (lo8 (f j))) ∧ ¬ 255 < f j) ∨ (cd = 1 ∧ V.slots.size = 2 * n ∧ (∀ j, j < n → V.slots[2 * j]? = some (.int (lo8 (f j))) ∧ V.slots[2 * j + 1]? = some (.int (hi8 (f j)))) ∧ ∃ j, j < n ∧ 255 < f j)
theorem Cod.cd {cd : Int32} {n : Nat} {f : Nat → Int32} {V : Cell} (h : Cod cd n f V) : cd = 0 ∨ cd = 1 := h.imp (fun q => q.1) fun q => q.1
theorem Cod.len {cd : Int32} {n : Nat} {f : Nat → Int32} {V : Cell} (h : Cod cd n f V) (hs : V.slots.size < 2 ^ 31) : Int32.ofNat V.slots.size >>> (cd &&& 31) = Int32.ofNat n := by
  rcases h with ⟨rfl, h, -⟩ | ⟨rfl, h, -⟩
  · rw [shr0, h]
  · rw [h, shr1 (by omega)]
/-- **x is a String of the n chars f 0 .. f (n - 1)**, Latin-1 or UTF-16; its array at t has the cell V -/
def Txt (x t : Addr) (V : Cell) (cd : Int32) (n : Nat) (f : Nat → Int32) (U : State) : Prop := Exact "java/lang/String" x U ∧ Has x "java/lang/String" "value" "[B" (.ref t) U ∧ Has x "java/lang/String" "coder" "B" (.int cd) U ∧ XT.Arr .byte t V U ∧ Cod cd n f V ∧ ∀ j, j < n → ¬ f j < 0 ∧ ¬ 65535 < f j
theorem Txt.mv {x t : Addr} {V : Cell} {cd : Int32} {n : Nat} {f : Nat → Int32} {U U' : State} (h : Txt x t V cd n f U) (hal : U.vm.Alike U'.vm) (hh : U'.heap = U.heap) : Txt x t V cd n f U' := ⟨h.1.mv hal hh, h.2.1.mv hal hh, h.2.2.1.mv hal hh, h.2.2.2.1.mv hal hh, h.2.2.2.2⟩
namespace Cdr
def yN : MethodName := ⟨"java/lang/String", "coder", "()B"⟩
abbrev yB : ByteArray := jdk_42_method_152_code
theorem d0 : decode yB 0 = .ok (.getstatic 38, 3) := by decide +kernel
theorem d3 : decode yB 3 = .ok (.ifCond (.eq) 10, 3) := by decide +kernel
theorem d6 : decode yB 6 = .ok (.aload_n 0, 1) := by decide +kernel
theorem d7 : decode yB 7 = .ok (.getfield 15, 3) := by decide +kernel
theorem d10 : decode yB 10 = .ok (.goto 4, 3) := by decide +kernel
theorem d14 : decode yB 14 = .ok (.ireturn, 1) := by decide +kernel
def site : List Cond := [.fieldLink "java/lang/String" 38 "java/lang/String" "COMPACT_STRINGS" "Z", .fieldLink "java/lang/String" 15 "java/lang/String" "coder" "B"]
def tab : Cond := tabOf yN yB 1 (some .byte) site
def P (x : Addr) (cd z : Int32) (args : Array Value) (s : State) : Prop := args = #[.ref x] ∧ Has x "java/lang/String" "coder" "B" (.int cd) s ∧ (cd = 0 ∨ cd = 1) ∧ StaticIs s "java/lang/String" "COMPACT_STRINGS" "Z" (.int z) ∧ ¬ z = 0
def E (cd : Int32) (r : Option Value) (s u : State) : Prop := XT.PureE (some (.int cd)) r s u
theorem law (l : Launch) (x : Addr) (cd z : Int32) : Law l yN 1 0 0 0 yB 1 (some .byte) site (P x cd z) (E cd) [] 0 0 := by
  refine Law.of_walk (plainFor_of_name (by decide +kernel)) (by decide +kernel) (by decide +kernel) (by decide) (fun _ _ h => by rw [h.1]; rfl) (fun _ U U' hal hh h => ⟨h.1, h.2.1.mv hal hh, h.2.2.1, h.2.2.2.1.there hal hh, h.2.2.2.2⟩) (fun r U U' V V' h1 hal h2 h => XT.PureE.mv r U U' V V' h1 hal h2 h) ?_
  intro p e s m args below meth c s₁ X0 hexec hbytes hml hret hlk hnm hown hh0 W hP
  obtain ⟨rfl, hx, hc, s1, hz⟩ := hP
  have c1 : Steps p.tables e below (s₁.setTop (entryFrame m #[.ref x] 1)) (s₁.setTop (mkF m 0 #[.val (.ref x)] [])) := entry rfl
  obtain ⟨T2, X2, q2, st2⟩ := X0.sget hexec hown (wk W (.fieldLink "java/lang/String" 38 "java/lang/String" "COMPACT_STRINGS" "Z")) s1 (fun _ _ h => by rw [hh0]; exact h) (g := (mkF m 0 #[.val (.ref x)] [])) rfl (hb hbytes d0)
  have hh2 := q2.trans hh0
  have c3 : Steps p.tables e below (s₁.setTop (entryFrame m #[.ref x] 1)) (T2.setTop (mkF m 7 #[.val (.ref x)] [.ref x])) := (c1.trans (st2 _ (Steps.refl _))).trans (by
    refine XS.ifNo X2.here hexec rfl (hb hbytes d3) rfl (i0_eq_f hz) ?_
    refine XS.aloadN X2.here hexec rfl (hb hbytes d6) rfl rfl ?_
    exact Steps.refl _)
  obtain ⟨T4, X4, q4, st4⟩ := X2.hget hexec hown (wk W (.fieldLink "java/lang/String" 15 "java/lang/String" "coder" "B")) (hx.mv X2.warmed.alike hh2) (g := (mkF m 7 #[.val (.ref x)] [.ref x])) rfl (rest := []) rfl (hb hbytes d7)
  have c5 : Steps p.tables e below (s₁.setTop (entryFrame m #[.ref x] 1)) (T4.setTop (mkF m 14 #[.val (.ref x)] [.int cd])) := (c3.trans (st4 _ (Steps.refl _))).trans (by
    refine XS.goto X4.here hexec rfl (pc0 := 10) rfl (hb hbytes d10) (by decide) rfl ?_
    exact Steps.refl _)
  exact ⟨T4, some (.int cd), _, _, _, X4, rfl, rfl, rfl, (fun h => by cases h), ⟨rfl, q4.trans hh2⟩, fun fs hl => c5.trans (X4.ireturnOut hexec hret (by rcases hc with rfl | rfl <;> rfl) (Or.inr (Or.inr (Or.inl rfl))) (hb hbytes d14) hl)⟩
end Cdr
namespace Len
def yN : MethodName := ⟨"java/lang/String", "length", "()I"⟩
abbrev yB : ByteArray := jdk_42_method_54_code
theorem d0 : decode yB 0 = .ok (.aload_n 0, 1) := by decide +kernel
theorem d1 : decode yB 1 = .ok (.getfield 9, 3) := by decide +kernel
theorem d4 : decode yB 4 = .ok (.arraylength, 1) := by decide +kernel
theorem d5 : decode yB 5 = .ok (.aload_n 0, 1) := by decide +kernel
theorem d6 : decode yB 6 = .ok (.invokevirtual 335, 3) := by decide +kernel
theorem d9 : decode yB 9 = .ok (.ishr, 1) := by decide +kernel
theorem d10 : decode yB 10 = .ok (.ireturn, 1) := by decide +kernel
def site : List Cond := [.fieldLink "java/lang/String" 9 "java/lang/String" "value" "[B", Cdr.tab] ++ virtW "java/lang/String" 335 "java/lang/String" Cdr.yN Cdr.yN
def tab : Cond := tabOf yN yB 1 (some .int) site
def P (x t : Addr) (V : Cell) (cd : Int32) (n : Nat) (f : Nat → Int32) (z : Int32) (args : Array Value) (s : State) : Prop := args = #[.ref x] ∧ Txt x t V cd n f s ∧ StaticIs s "java/lang/String" "COMPACT_STRINGS" "Z" (.int z) ∧ ¬ z = 0
def E (n : Nat) (r : Option Value) (s u : State) : Prop := XT.PureE (some (.int (Int32.ofNat n))) r s u
/-- length() of a String of n chars, in either coding -/
theorem law (l : Launch) (x t : Addr) (V : Cell) (cd : Int32) (n : Nat) (f : Nat → Int32) (z : Int32) : Law l yN 1 0 1 13 yB 1 (some .int) site (P x t V cd n f z) (E n) [] 0 0 := by
  refine Law.of_walk (plainFor_of_name (by decide +kernel)) (by decide +kernel) (by decide +kernel) (by decide) (fun _ _ h => by rw [h.1]; rfl) (fun _ U U' hal hh h => ⟨h.1, h.2.1.mv hal hh, h.2.2.1.there hal hh, h.2.2.2⟩) (fun r U U' V V' h1 hal h2 h => XT.PureE.mv r U U' V V' h1 hal h2 h) ?_
  intro p e s m args below meth c s₁ X0 hexec hbytes hml hret hlk hnm hown hh0 W hP
  obtain ⟨rfl, hx, s1, hz⟩ := hP
  have v31 := hx.2.2.2.1.2.2.2
  have c1 : Steps p.tables e below (s₁.setTop (entryFrame m #[.ref x] 1)) (s₁.setTop (mkF m 1 #[.val (.ref x)] [.ref x])) := Steps.trans (entry rfl) (by
    show Steps p.tables e below (s₁.setTop (mkF m 0 #[.val (.ref x)] [])) _
    refine XS.aloadN X0.here hexec rfl (hb hbytes d0) rfl rfl ?_
    exact Steps.refl _)
  obtain ⟨T2, X2, q2, st2⟩ := X0.hget hexec hown (wk W (.fieldLink "java/lang/String" 9 "java/lang/String" "value" "[B")) (hx.mv X0.warmed.alike hh0).2.1 (g := (mkF m 1 #[.val (.ref x)] [.ref x])) rfl (rest := []) rfl (hb hbytes d1)
  have hh2 := q2.trans hh0
  have hx2 := hx.mv X2.warmed.alike hh2
  have c3 : Steps p.tables e below (s₁.setTop (entryFrame m #[.ref x] 1)) (T2.setTop (mkF m 6 #[.val (.ref x)] [.ref x, .int (Int32.ofNat V.slots.size)])) := (c1.trans (st2 _ (Steps.refl _))).trans (by
    refine X2.alen hexec hx2.2.2.2.1 rfl rfl (hb hbytes d4) ?_
    refine XS.aloadN X2.here hexec rfl (hb hbytes d5) rfl rfl ?_
    exact Steps.refl _)
  obtain ⟨v4, T4, X4, E4, g4⟩ := X2.callV hexec (Cdr.law l x cd z) hown (wks W (virtW "java/lang/String" 335 "java/lang/String" Cdr.yN Cdr.yN)) rfl (by decide) (wk W Cdr.tab) (W := 1) (Nat.le_of_ble_eq_true rfl) (Nat.le_of_ble_eq_true rfl) (Nat.le_refl _) (Nat.le_refl _) (hx2.1.fc X2.warmed.alike) hx2.1.is (g := (mkF m 6 #[.val (.ref x)] [.ref x, .int (Int32.ofNat V.slots.size)])) rfl (by rw [hml]; rfl) c3 (argsL := []) (rest := [.int (Int32.ofNat V.slots.size)]) rfl rfl (by show 2 * 0 + (1 + 0) ≤ _; decide) (hb hbytes d6) (⟨rfl, hx2.2.2.1, hx.2.2.2.2.1.cd, s1.there X2.warmed.alike hh2, hz⟩)
  obtain ⟨rfl, q4⟩ := E4
  have c5 : Steps p.tables e below (s₁.setTop (entryFrame m #[.ref x] 1)) (T4.setTop (mkF m 10 #[.val (.ref x)] [.int (Int32.ofNat V.slots.size >>> (cd &&& 31))])) := Steps.trans g4 (by
    refine ishr X4.here hexec rfl (hb hbytes d9) rfl ?_
    exact Steps.refl _)
  rw [hx.2.2.2.2.1.len v31] at c5
  exact ⟨T4, some (.int (Int32.ofNat n)), _, _, _, X4, rfl, rfl, rfl, (fun h => by cases h), ⟨rfl, q4.trans hh2⟩, fun fs hl => c5.trans (X4.ireturnOut hexec hret rfl (Or.inl rfl) (hb hbytes d10) hl)⟩
theorem pays {l : Launch} {R : Room} {p : Program} {e : Env} {below : List Frame} {s : State} {sargs : Array Value} {len W : Nat} (x t : Addr) (V : Cell) (cd : Int32) (n : Nat) (f : Nat → Int32) (z : Int32) (htab : tab.before sargs s = true) (hfr : 2 ≤ R.frames) (hlo : W + 25 ≤ R.locals) :
    Back l R p e below s sargs yN len W (fun A₁ a₁ => A₁.cells + 0 ≤ R.cells ∧ A₁.slots + 0 ≤ R.slots ∧ P x t V cd n f z a₁ A₁.U) (fun A₁ _ v₁ B₁ => E n v₁ A₁.U B₁.U ∧ B₁.locs = A₁.locs ++ [] ∧ B₁.cells = A₁.cells + 0 ∧ B₁.slots = A₁.slots + 0) :=
  (law l x t V cd n f z).pays htab hfr (by omega)
end Len
end StrChars
namespace StrChars.Road
open Jvm Sem ClassFile Op Lib Jvm.Stand Jvm.Free Jvm.Free.XT
open Jvm.Lib.Cold (StaticIs)
theorem consq {a : Array Value} {s : State} {c : Jvm.Cond} {L : List Jvm.Cond} (h0 : c.before a s = true) (h : ∀ w ∈ L, w.before a s = true) : ∀ w ∈ c :: L, w.before a s = true := fun w hw => (List.mem_cons.mp hw).elim (fun e => e ▸ h0) (h w)
/-- the words of String.length(), either coding -/
abbrev wordsLen : List Jvm.Cond := [.code Len.yN Len.yB 1 (some .int), .initialized ST, .fieldLink ST 9 ST "value" "[B", .fieldLink ST 38 ST "COMPACT_STRINGS" "Z", .fieldLink ST 15 ST "coder" "B", .code Cdr.yN Cdr.yB 1 (some .byte), .methodLink ST 335 Cdr.yN, .declares Cdr.yN, .selects ST Cdr.yN Cdr.yN, .instanceMethod Cdr.yN]
theorem tabLen_of {a : Array Value} {s : State} (h : ∀ w ∈ wordsLen, w.before a s = true) : Len.tab.before a s = true := by
  have hc : Cdr.tab.before a s = true := unparts (wk h (.code Cdr.yN Cdr.yB 1 (some .byte))) (wks h (.initialized Cdr.yN.cls :: Cdr.site))
  have q := consq hc h
  exact unparts (wk q (.code Len.yN Len.yB 1 (some .int))) (wks q (.initialized Len.yN.cls :: Len.site))
theorem movedLen {Z s : State} {a0 args : Array Value} (hZ : Z.Warmed39 s.vm) (hw : ∀ d ∈ wordsLen, d.before a0 Z = true) : ∀ d ∈ wordsLen, d.before args s = true := fun d hd => by
  have q := hw d hd
  have t : ∀ d ∈ wordsLen, d = .arrayClass .byte ∨ (d.onTables && d.keepsFace) = true := by decide +kernel
  rcases t d hd with rfl | t
  · exact RoadKit.mvA hZ q
  · exact RoadKit.mv hZ q t
/-- the bytes of the chars cs, low before high -/
def wideBytes : List Int32 → List Value
  | [] => []
  | c :: cs => .int (lo8 c) :: .int (hi8 c) :: wideBytes cs
theorem wide_lo (d : Value) : ∀ (cs : List Int32) (j : Nat), j < cs.length → (wideBytes cs).getD (2 * j) d = .int (lo8 (cs.getD j 0))
  | [], j, h => absurd h (Nat.not_lt_zero j)
  | c :: cs, 0, _ => rfl
  | c :: cs, j + 1, h => by
    have q := wide_lo d cs j (by simpa using h)
    rw [show 2 * (j + 1) = 2 * j + 1 + 1 from by omega]
    simpa [wideBytes] using q
theorem wide_hi (d : Value) : ∀ (cs : List Int32) (j : Nat), j < cs.length → (wideBytes cs).getD (2 * j + 1) d = .int (hi8 (cs.getD j 0))
  | [], j, h => absurd h (Nat.not_lt_zero j)
  | c :: cs, 0, _ => rfl
  | c :: cs, j + 1, h => by
    have q := wide_hi d cs j (by simpa using h)
    rw [show 2 * (j + 1) + 1 = 2 * j + 1 + 1 + 1 from by omega]
    simpa [wideBytes] using q
theorem low_at (d : Value) (cs : List Int32) (j : Nat) (h : j < cs.length) : (cs.map fun c => Value.int (lo8 c)).getD j d = .int (lo8 (cs.getD j 0)) := by
  simp [List.getD_eq_getElem?_getD, h]
/-- an array of N2 bytes vs codes the chars cs by the coder cd -/
def CodA (cs : List Int32) (cd N2 : Int32) (vs : List Value) : Prop := (cd = 0 ∧ N2 = Int32.ofNat cs.length ∧ vs = (cs.map fun c => Value.int (lo8 c)) ∧ ∀ c ∈ cs, ¬ 255 < c) ∨ (cd = 1 ∧ N2 = Int32.ofNat (2 * cs.length) ∧ vs = wideBytes cs ∧ ∃ c ∈ cs, 255 < c)
theorem CodA.cod {cs : List Int32} {cd N2 : Int32} {vs : List Value} {V : Cell} (h : CodA cs cd N2 vs) (hn : 2 * cs.length < 2 ^ 31) (hs : V.slots.size = N2.toNatClampNeg) (hv : RoadKit.Has V vs (.int 0)) : Cod cd cs.length (fun j => cs.getD j 0) V := by
  rcases h with ⟨rfl, rfl, rfl, h⟩ | ⟨rfl, rfl, rfl, c, hc, hw⟩
  · rw [n32 (by omega)] at hs
    exact Or.inl ⟨rfl, hs, fun j hj => ⟨by rw [hv j (by omega), low_at _ _ _ hj], by
      have e : cs.getD j 0 = cs[j] := by simp [List.getD_eq_getElem?_getD, hj]
      show ¬ 255 < cs.getD j 0
      rw [e]; exact h _ (List.getElem_mem _)⟩⟩
  · rw [n32 (by omega)] at hs
    obtain ⟨j, hj, rfl⟩ := List.getElem_of_mem hc
    exact Or.inr ⟨rfl, hs, fun j hj => ⟨by rw [hv _ (by omega), wide_lo _ _ _ hj], by rw [hv _ (by omega), wide_hi _ _ _ hj]⟩, j, hj, by
      have e : cs.getD j 0 = cs[j] := by simp [List.getD_eq_getElem?_getD, hj]
      show 255 < cs.getD j 0
      rw [e]; exact hw⟩
/-- an object of exactly java/lang/String, its two fields found: as the laws ask it -/
theorem strObj {Z U : State} {a0 : Array Value} {kI : Nat} (wi : (Jvm.Cond.instantiable ST kI).before a0 Z = true) (al : Z.vm.Alike U.vm) {x : Addr} {v0 c0 : Value} (E : RoadKit.Exa Z U.heap x ST) (V : RoadKit.Fld Z U.heap x ST "value" "[B" v0) (C : RoadKit.Fld Z U.heap x ST "coder" "B" c0) :
    ∃ (D : Cell) (fV fC : Field), Blank ST x D U ∧ Found ST "value" "[B" fV U ∧ Found ST "coder" "B" fC U ∧ D.slots[fV.slot]? = some v0 ∧ D.slots[fC.slot]? = some c0 ∧ RoadKit.slotOf Z ST "value" "[B" = fV.slot ∧ RoadKit.slotOf Z ST "coder" "B" = fC.slot := by
  obtain ⟨D, cfV, kV, iV, fV, hD, gV, stV, knV, obV, asV, slV⟩ := V
  obtain ⟨D', cfC, kC, iC, fC, hD', gC, stC, -, -, asC, slC⟩ := C
  cases hD.symm.trans hD'
  obtain ⟨D2, kD, e1, e2, e3, e4, e5⟩ := E
  cases hD.symm.trans e1
  obtain ⟨c2, k2, i1, i2, i3, -⟩ := Cond.instantiable_spec wi
  cases e2.symm.trans i1
  cases e3.symm.trans i2
  obtain ⟨kU, u1, u2⟩ := al.2.2 _ _ e3
  exact ⟨D, fV, fC, ⟨hD, ⟨knV, fun q hq => by rw [hq] at obV; cases obV⟩, by rw [al.findClass]; exact e2, kU, u1, by rw [u2]; exact i3, by rw [u2]; exact e5 i3⟩, ⟨SBG.found_only al ⟨cfV, kV, iV, gV⟩, stV⟩, ⟨SBG.found_only al ⟨cfC, kC, iC, gC⟩, stC⟩, slV, slC, by simp [RoadKit.slotOf, gV], by simp [RoadKit.slotOf, gC]⟩
theorem sta_is {Z U : State} (al : Z.vm.Alike U.vm) {C n d : String} {v : Value} (S : RoadKit.Sta Z U.heap C n d v) : StaticIs U C n d v := by
  obtain ⟨cfS, iS, kS, fS, st, cS, t1, t2, t3, t4, t5, t6, t7⟩ := S
  exact StaticIs.there (s := { Z with heap := U.heap }) ⟨cfS, iS, kS, fS, st, cS, t1, t2, t3, t4, t5, (fun q => by rw [q] at t6; cases t6), t7⟩ al rfl
/-- **length() OF SUCH A STRING** -/
theorem lenW {p : Program} {l : Launch} {e : Env} {R : Room} {s : State} {args : Array Value} {below : List Frame} {len W : Nat} {Z : State} {a0 : Array Value} {h : Heap} (hZ : Z.Warmed39 s.vm) (hw : ∀ d ∈ wordsLen, d.before a0 Z = true) {kI : Nat} (wi : (Jvm.Cond.instantiable ST kI).before a0 Z = true)
    {x t : Addr} {kb : ClassId} {cs : List Int32} {cd N2 z : Int32} {vs : List Value} (E : RoadKit.Exa Z h x ST) (V : RoadKit.Fld Z h x ST "value" "[B" (.ref t)) (C : RoadKit.Fld Z h x ST "coder" "B" (.int cd)) (K : RoadKit.Arv Z h t kb .byte N2 vs (.int 0)) (hc : CodA cs cd N2 vs) (hb : ∀ c ∈ cs, ¬ c < 0 ∧ ¬ (65535 : Int32) < c)
    (S : RoadKit.Sta Z h ST "COMPACT_STRINGS" "Z" (.int z)) (hz : ¬ z = 0) (l2 : cs.length ≤ 4000) (hfr : 2 ≤ R.frames) (hlo : W + 25 ≤ R.locals) :
    Back l R p e below s args (⟨"java/lang/String", "length", "()I"⟩ : MethodName) len W (fun P a => a = #[.ref x] ∧ P.U.heap = h ∧ P.cells + 0 ≤ R.cells ∧ P.slots + 0 ≤ R.slots)
      (fun P _ v B => ∃ L, (v = some (.int (Int32.ofNat cs.length)) ∧ L = [] ∧ B.U.heap = h) ∧ B.locs = P.locs ++ L ∧ B.cells = P.cells + 0 ∧ B.slots = P.slots + 0) := by
  obtain ⟨A, K1, K2, K3, K4, K5, K6⟩ := K
  have hcod := hc.cod (by omega) K3 K5
  intro m meth c P g ig mk a X hg hsize hdg hW hn hp'
  obtain ⟨rfl, rfl, r1, r2⟩ := hp'
  have al : Z.vm.Alike P.U.vm := hZ.alike.trans X.warmed.alike
  obtain ⟨D, fV, fC, hB, F1, F2, g1, g2, -, -⟩ := strObj wi al E V C
  have hx : Txt x t A cd cs.length (fun j => cs.getD j 0) P.U := ⟨⟨_, hB.2.2.1, D, hB.1, rfl, by cases q : D.vm <;> first | rfl | exact absurd q (hB.2.1.2 _)⟩, Has.of hB F1 g1, Has.of hB F2 g2, ⟨K1.1, State.isArrayOf_alike al K1.2.1, K1.2.2, by rcases hcod with ⟨-, q, -⟩ | ⟨-, q, -⟩ <;> omega⟩, hcod, fun j hj => by
    have e : cs.getD j 0 = cs[j] := by simp [List.getD_eq_getElem?_getD, hj]
    show ¬ cs.getD j 0 < 0 ∧ ¬ 65535 < cs.getD j 0
    rw [e]; exact hb _ (List.getElem_mem _)⟩
  obtain ⟨v, B, X', ⟨⟨hv, hh⟩, hl, hk, hs⟩, st⟩ := Len.pays x t A cd cs.length (fun j => cs.getD j 0) z (tabLen_of (movedLen hZ hw)) hfr hlo m meth c P g ig mk _ X hg hsize hdg hW hn ⟨r1, r2, rfl, hx, sta_is al S, hz⟩
  exact ⟨v, B, X', ⟨[], ⟨hv, rfl, hh⟩, hl, hk, hs⟩, st⟩
end StrChars.Road
namespace StrChars
open Jvm Sem ClassFile Op Lib Jvm.Stand Jvm.Free.XT Jvm.Free.ALB Jvm.Free.JM Jvm.Free
open Jvm.Lib.Cold (StaticIs)
namespace Emp
def yN : MethodName := ⟨"java/lang/String", "isEmpty", "()Z"⟩
abbrev yB : ByteArray := jdk_42_method_55_code
theorem d0 : decode yB 0 = .ok (.aload_n 0, 1) := by decide +kernel
theorem d1 : decode yB 1 = .ok (.getfield 9, 3) := by decide +kernel
theorem d4 : decode yB 4 = .ok (.arraylength, 1) := by decide +kernel
theorem d5 : decode yB 5 = .ok (.ifCond (.ne) 7, 3) := by decide +kernel
theorem d8 : decode yB 8 = .ok (.iconst 1, 1) := by decide +kernel
theorem d9 : decode yB 9 = .ok (.goto 4, 3) := by decide +kernel
theorem d12 : decode yB 12 = .ok (.iconst 0, 1) := by decide +kernel
theorem d13 : decode yB 13 = .ok (.ireturn, 1) := by decide +kernel
def site : List Cond := [.fieldLink "java/lang/String" 9 "java/lang/String" "value" "[B"]
def tab : Cond := tabOf yN yB 1 (some .boolean) site
def P (x t : Addr) (V : Cell) (cd : Int32) (n : Nat) (f : Nat → Int32) (args : Array Value) (s : State) : Prop := args = #[.ref x] ∧ Txt x t V cd n f s
def E (n : Nat) (r : Option Value) (s u : State) : Prop := XT.PureE (some (.int (if n = 0 then 1 else 0))) r s u
/-- isEmpty() of a String of n chars -/
theorem law (l : Launch) (x t : Addr) (V : Cell) (cd : Int32) (n : Nat) (f : Nat → Int32) : Law l yN 1 0 0 0 yB 1 (some .boolean) site (P x t V cd n f) (E n) [] 0 0 := by
  refine Law.of_walk (plainFor_of_name (by decide +kernel)) (by decide +kernel) (by decide +kernel) (by decide) (fun _ _ h => by rw [h.1]; rfl) (fun _ U U' hal hh h => ⟨h.1, h.2.mv hal hh⟩) (fun r U U' V V' h1 hal h2 h => XT.PureE.mv r U U' V V' h1 hal h2 h) ?_
  intro p e s m args below meth c s₁ X0 hexec hbytes hml hret hlk hnm hown hh0 W hP
  obtain ⟨rfl, hx⟩ := hP
  have v31 := hx.2.2.2.1.2.2.2
  have c1 : Steps p.tables e below (s₁.setTop (entryFrame m #[.ref x] 1)) (s₁.setTop (mkF m 1 #[.val (.ref x)] [.ref x])) := Steps.trans (entry rfl) (by
    show Steps p.tables e below (s₁.setTop (mkF m 0 #[.val (.ref x)] [])) _
    refine XS.aloadN X0.here hexec rfl (hb hbytes d0) rfl rfl ?_
    exact Steps.refl _)
  obtain ⟨T2, X2, q2, st2⟩ := X0.hget hexec hown (wk W (.fieldLink "java/lang/String" 9 "java/lang/String" "value" "[B")) (hx.mv X0.warmed.alike hh0).2.1 (g := (mkF m 1 #[.val (.ref x)] [.ref x])) rfl (rest := []) rfl (hb hbytes d1)
  have hh2 := q2.trans hh0
  have hx2 := hx.mv X2.warmed.alike hh2
  have c3 : Steps p.tables e below (s₁.setTop (entryFrame m #[.ref x] 1)) (T2.setTop (mkF m 5 #[.val (.ref x)] [.int (Int32.ofNat V.slots.size)])) := (c1.trans (st2 _ (Steps.refl _))).trans (by
    refine X2.alen hexec hx2.2.2.2.1 rfl rfl (hb hbytes d4) ?_
    exact Steps.refl _)
  have hz : V.slots.size = 0 ↔ n = 0 := by
    rcases hx.2.2.2.2.1 with ⟨-, q, -⟩ | ⟨-, q, -⟩ <;> omega
  by_cases h0 : n = 0
  · have c4 : Steps p.tables e below (s₁.setTop (entryFrame m #[.ref x] 1)) (T2.setTop (mkF m 13 #[.val (.ref x)] [.int 1])) := c3.trans (by
      refine XS.ifNo X2.here hexec rfl (hb hbytes d5) rfl (i0_ne_f (by rw [hz.mpr h0]; rfl)) ?_
      refine iconstV X2.here hexec rfl 1 (hb hbytes d8) (by decide) ?_
      refine XS.goto X2.here hexec rfl (pc0 := 9) rfl (hb hbytes d9) (by decide) rfl ?_
      exact Steps.refl _)
    exact ⟨T2, some (.int 1), _, _, _, X2, rfl, rfl, rfl, (fun h => by cases h), ⟨by rw [if_pos h0], hh2⟩, fun fs hl => c4.trans (X2.ireturnOut hexec hret rfl (Or.inr (Or.inl rfl)) (hb hbytes d13) hl)⟩
  · have c4 : Steps p.tables e below (s₁.setTop (entryFrame m #[.ref x] 1)) (T2.setTop (mkF m 13 #[.val (.ref x)] [.int 0])) := c3.trans (by
      refine XS.ifYes X2.here hexec rfl (pc0 := 5) rfl (hb hbytes d5) rfl (i0_ne_t (nz32 v31 (by omega))) (by decide) rfl ?_
      refine iconstV X2.here hexec rfl 0 (hb hbytes d12) (by decide) ?_
      exact Steps.refl _)
    exact ⟨T2, some (.int 0), _, _, _, X2, rfl, rfl, rfl, (fun h => by cases h), ⟨by rw [if_neg h0], hh2⟩, fun fs hl => c4.trans (X2.ireturnOut hexec hret rfl (Or.inr (Or.inl rfl)) (hb hbytes d13) hl)⟩
theorem pays {l : Launch} {R : Room} {p : Program} {e : Env} {below : List Frame} {s : State} {sargs : Array Value} {len W : Nat} (x t : Addr) (V : Cell) (cd : Int32) (n : Nat) (f : Nat → Int32) (htab : tab.before sargs s = true) (hfr : 1 ≤ R.frames) (hlo : W + 12 ≤ R.locals) :
    Back l R p e below s sargs yN len W (fun A₁ a₁ => A₁.cells + 0 ≤ R.cells ∧ A₁.slots + 0 ≤ R.slots ∧ P x t V cd n f a₁ A₁.U) (fun A₁ _ v₁ B₁ => E n v₁ A₁.U B₁.U ∧ B₁.locs = A₁.locs ++ [] ∧ B₁.cells = A₁.cells + 0 ∧ B₁.slots = A₁.slots + 0) :=
  (law l x t V cd n f).pays htab hfr (by omega)
end Emp
end StrChars
namespace StrChars.Road
open Jvm Sem ClassFile Op Lib Jvm.Stand Jvm.Free Jvm.Free.XT
open Jvm.Lib.Cold (StaticIs)
/-- the words of String.isEmpty() -/
abbrev wordsEmp : List Jvm.Cond := [.code Emp.yN Emp.yB 1 (some .boolean), .initialized ST, .fieldLink ST 9 ST "value" "[B"]
theorem tabEmp_of {a : Array Value} {s : State} (h : ∀ w ∈ wordsEmp, w.before a s = true) : Emp.tab.before a s = true := unparts (wk h (.code Emp.yN Emp.yB 1 (some .boolean))) (wks h (.initialized Emp.yN.cls :: Emp.site))
theorem movedEmp {Z s : State} {a0 args : Array Value} (hZ : Z.Warmed39 s.vm) (hw : ∀ d ∈ wordsEmp, d.before a0 Z = true) : ∀ d ∈ wordsEmp, d.before args s = true := fun d hd => by
  have t : ∀ d ∈ wordsEmp, (d.onTables && d.keepsFace) = true := by decide +kernel
  exact RoadKit.mv hZ (hw d hd) (t d hd)
/-- the road's facts of a String, as the laws ask it -/
theorem txt_of {Z U : State} {a0 : Array Value} {kI : Nat} (wi : (Jvm.Cond.instantiable ST kI).before a0 Z = true) (al : Z.vm.Alike U.vm) {x t : Addr} {kb : ClassId} {cs : List Int32} {cd N2 : Int32} {vs : List Value} (E : RoadKit.Exa Z U.heap x ST) (V : RoadKit.Fld Z U.heap x ST "value" "[B" (.ref t)) (C : RoadKit.Fld Z U.heap x ST "coder" "B" (.int cd)) (K : RoadKit.Arv Z U.heap t kb .byte N2 vs (.int 0)) (hc : CodA cs cd N2 vs) (hb : ∀ c ∈ cs, ¬ c < 0 ∧ ¬ (65535 : Int32) < c) (l2 : cs.length ≤ 4000) :
    ∃ A, Txt x t A cd cs.length (fun j => cs.getD j 0) U := by
  obtain ⟨A, K1, K2, K3, K4, K5, K6⟩ := K
  have hcod := hc.cod (by omega) K3 K5
  obtain ⟨D, fV, fC, hB, F1, F2, g1, g2, -, -⟩ := strObj wi al E V C
  exact ⟨A, ⟨_, hB.2.2.1, D, hB.1, rfl, by cases q : D.vm <;> first | rfl | exact absurd q (hB.2.1.2 _)⟩, Has.of hB F1 g1, Has.of hB F2 g2, ⟨K1.1, State.isArrayOf_alike al K1.2.1, K1.2.2, by rcases hcod with ⟨-, q, -⟩ | ⟨-, q, -⟩ <;> omega⟩, hcod, fun j hj => by
    have e : cs.getD j 0 = cs[j] := by simp [List.getD_eq_getElem?_getD, hj]
    show ¬ cs.getD j 0 < 0 ∧ ¬ 65535 < cs.getD j 0
    rw [e]; exact hb _ (List.getElem_mem _)⟩
/-- **isEmpty() OF SUCH A STRING** -/
theorem empW {p : Program} {l : Launch} {e : Env} {R : Room} {s : State} {args : Array Value} {below : List Frame} {len W : Nat} {Z : State} {a0 : Array Value} {h : Heap} (hZ : Z.Warmed39 s.vm) (hw : ∀ d ∈ wordsEmp, d.before a0 Z = true) {kI : Nat} (wi : (Jvm.Cond.instantiable ST kI).before a0 Z = true)
    {x t : Addr} {kb : ClassId} {cs : List Int32} {cd N2 : Int32} {vs : List Value} (E : RoadKit.Exa Z h x ST) (V : RoadKit.Fld Z h x ST "value" "[B" (.ref t)) (C : RoadKit.Fld Z h x ST "coder" "B" (.int cd)) (K : RoadKit.Arv Z h t kb .byte N2 vs (.int 0)) (hc : CodA cs cd N2 vs) (hb : ∀ c ∈ cs, ¬ c < 0 ∧ ¬ (65535 : Int32) < c) (l2 : cs.length ≤ 4000) (hfr : 1 ≤ R.frames) (hlo : W + 12 ≤ R.locals) :
    Back l R p e below s args (⟨"java/lang/String", "isEmpty", "()Z"⟩ : MethodName) len W (fun P a => a = #[.ref x] ∧ P.U.heap = h ∧ P.cells + 0 ≤ R.cells ∧ P.slots + 0 ≤ R.slots)
      (fun P _ v B => ∃ L, (v = some (.int (if cs.length = 0 then 1 else 0)) ∧ L = [] ∧ B.U.heap = h) ∧ B.locs = P.locs ++ L ∧ B.cells = P.cells + 0 ∧ B.slots = P.slots + 0) := by
  intro m meth c P g ig mk a X hg hsize hdg hW hn hp'
  obtain ⟨rfl, rfl, r1, r2⟩ := hp'
  have al : Z.vm.Alike P.U.vm := hZ.alike.trans X.warmed.alike
  obtain ⟨A, hx⟩ := txt_of wi al E V C K hc hb l2
  obtain ⟨v, B, X', ⟨⟨hv, hh⟩, hl, hk, hs⟩, st⟩ := Emp.pays x t A cd cs.length (fun j => cs.getD j 0) (tabEmp_of (movedEmp hZ hw)) hfr hlo m meth c P g ig mk _ X hg hsize hdg hW hn ⟨r1, r2, rfl, hx⟩
  exact ⟨v, B, X', ⟨[], ⟨hv, rfl, hh⟩, hl, hk, hs⟩, st⟩
end StrChars.Road
namespace StrChars.Road
open Jvm Sem ClassFile Op Lib Jvm.Stand Jvm.Free Jvm.Free.XT
open Jvm.Lib.Cold (StaticIs)
/-- what backV says of its String, as the contracts of this text ask it: cs's low bytes, coder 0 -/
theorem codOf {cs : List Int32} {n : Nat} (hn : cs.length = n) (hb : ∀ c ∈ cs, ¬ 255 < c) : CodA cs 0 (Int32.ofNat n) ((cs.map lo8).map Value.int) := Or.inl ⟨rfl, by rw [hn], by simp [List.map_map, Function.comp_def], hb⟩
end StrChars.Road
end Jvm.Pilot.@@N@@

namespace Jvm.Pilot.@@N@@
open Jvm Jvm.ClassFile Sem Op Lib Jvm.Free Jvm.Stand Jvm.LawKit Jvm.RoadKit Bundle Jvm.Pilot.@@N@@.Jvm.D
section OwnGo
variable {p : Program} {l : Launch} {e : Env} {R : Room} {s : State} {m : MethodId} {args : Array Value} {below : List Frame} {meth : Method} {c : Code} {T : State} {locs : List Loc} {cells slots : Nat} {Z : State} {a0 : Array Value} {h : Heap} {Q : Option Value → Heap → List Loc → Prop} {kc kn : Nat} {V V' : State}
/-- from V the run comes to the body's end, and there Q holds -/
def own_Go (p : Program) (e : Env) (below : List Frame) (s : State) (Q : Option Value → Heap → List Loc → Prop) (kc kn : Nat) (V : State) : Prop :=
  ∃ U o, Steps p.tables e below V U ∧ U.status = .running ∧ Ended U below o ∧ ∃ v L, o = .returned v ∧ Q v U.heap L ∧ FrameEnd s o U L kc kn
theorem own_st (h : ∀ t, Steps p.tables e below V' t → Steps p.tables e below V t) (k : own_Go p e below s Q kc kn V') : own_Go p e below s Q kc kn V := by
  obtain ⟨U, o, h1, r⟩ := k
  exact ⟨U, o, h U h1, r⟩
theorem own_z0 {n0 : Nat} (X : Old Z n0 h) : n0 ≤ h.size := X.1 ▸ X.2.1
/-- the return of an int, a long or a reference -/
theorem own_ret (X : Stand p l e R s m args below meth c T locs cells slots) (hx : p.tables.exec = Jvm.exec) (hk : meth.locks = false) {pc : Nat} {Ls : Array Slot} {w : Value} {t : FieldType} {i : Instr} {rest : List Value} (hret : meth.sig.returnType = some t) (hn : narrow t w = w)
    (hi : (i = .ireturn ∧ (t = .int ∨ t = .boolean ∨ t = .byte ∨ t = .char ∨ t = .short) ∧ ∃ z, w = .int z) ∨ (i = .lreturn ∧ t = .long ∧ ∃ z, w = .long z) ∨ (i = .dreturn ∧ t = .double ∧ ∃ z, w = .double z) ∨ (i = .freturn ∧ t = .float ∧ ∃ z, w = .float z) ∨ (i = .areturn ∧ t.isReference = true ∧ w.isRef = true))
    (hd : decode c.code pc = .ok (i, 1)) (hc : cells ≤ kc) (hs : slots ≤ kn) (q : Q (some w) T.heap locs) : own_Go p e below s Q kc kn (T.setTop (mkF m pc Ls (w :: rest))) := by
  obtain ⟨fs, hr, hrun, hended, hW, hsame⟩ := X.leave (v := some w) (fun h => by rw [hret] at h; cases h)
  exact ⟨_, _, retOut X hx hret hn hi hd hr, hrun, hended, _, _, rfl, q, ⟨_, rfl⟩, hW, hsame.mono hc hs⟩
theorem own_retI (X : Stand p l e R s m args below meth c T locs cells slots) (hx : p.tables.exec = Jvm.exec) (hk : meth.locks = false) {pc : Nat} {Ls : Array Slot} {z : Int32} {rest : List Value} (hret : meth.sig.returnType = some .int) (hd : decode c.code pc = .ok (.ireturn, 1)) (hc : cells ≤ kc) (hs : slots ≤ kn) (q : Q (some (.int z)) T.heap locs) :
    own_Go p e below s Q kc kn (T.setTop (mkF m pc Ls (.int z :: rest))) := own_ret X hx hk hret rfl (Or.inl ⟨rfl, Or.inl rfl, z, rfl⟩) hd hc hs q
theorem own_retJ (X : Stand p l e R s m args below meth c T locs cells slots) (hx : p.tables.exec = Jvm.exec) (hk : meth.locks = false) {pc : Nat} {Ls : Array Slot} {z : Int64} {rest : List Value} (hret : meth.sig.returnType = some .long) (hd : decode c.code pc = .ok (.lreturn, 1)) (hc : cells ≤ kc) (hs : slots ≤ kn) (q : Q (some (.long z)) T.heap locs) :
    own_Go p e below s Q kc kn (T.setTop (mkF m pc Ls (.long z :: rest))) := own_ret X hx hk hret rfl (Or.inr (Or.inl ⟨rfl, rfl, z, rfl⟩)) hd hc hs q
theorem own_retR (X : Stand p l e R s m args below meth c T locs cells slots) (hx : p.tables.exec = Jvm.exec) (hk : meth.locks = false) {pc : Nat} {Ls : Array Slot} {w : Value} {t : FieldType} {rest : List Value} (hret : meth.sig.returnType = some t) (ht : t.isReference = true) (hw : w.isRef = true) (hd : decode c.code pc = .ok (.areturn, 1)) (hc : cells ≤ kc) (hs : slots ≤ kn) (q : Q (some w) T.heap locs) :
    own_Go p e below s Q kc kn (T.setTop (mkF m pc Ls (w :: rest))) := by
  refine own_ret X hx hk hret ?_ (Or.inr (Or.inr (Or.inr (Or.inr ⟨rfl, ht, hw⟩)))) hd hc hs q
  rcases ref_cases hw with rfl | ⟨b, rfl⟩ <;> cases t <;> first | rfl | (cases ht; done)
/-- the return of a boolean, byte, char or short -/
theorem own_retN (X : Stand p l e R s m args below meth c T locs cells slots) (hx : p.tables.exec = Jvm.exec) (hk : meth.locks = false) {pc : Nat} {Ls : Array Slot} {z : Int32} {t : FieldType} {rest : List Value} (hret : meth.sig.returnType = some t) (ht : t = .boolean ∨ t = .byte ∨ t = .char ∨ t = .short) (hd : decode c.code pc = .ok (.ireturn, 1)) (hc : cells ≤ kc) (hs : slots ≤ kn) (q : Q (some (.int (nar t z))) T.heap locs) :
    own_Go p e below s Q kc kn (T.setTop (mkF m pc Ls (.int z :: rest))) := by
  obtain ⟨fs, hr, hrun, hended, hW, hsame⟩ := X.leave (v := some (.int (nar t z))) (fun h => by rw [hret] at h; cases h)
  exact ⟨_, _, retN X hx hret ht hd hr, hrun, hended, _, _, rfl, q, ⟨_, rfl⟩, hW, hsame.mono hc hs⟩
theorem own_retV (X : Stand p l e R s m args below meth c T locs cells slots) (hx : p.tables.exec = Jvm.exec) (hk : meth.locks = false) {pc : Nat} {Ls : Array Slot} (hret : meth.sig.returnType = none) (hd : decode c.code pc = .ok (.return_, 1)) (hc : cells ≤ kc) (hs : slots ≤ kn) (q : Q none T.heap locs) :
    own_Go p e below s Q kc kn (T.setTop (mkF m pc Ls [])) := by
  obtain ⟨fs, hr, hrun, hended, hW, hsame⟩ := X.leave (v := none) (fun _ => rfl)
  exact ⟨_, _, X.returnOut hx hret hd hr, hrun, hended, _, _, rfl, q, ⟨_, rfl⟩, hW, hsame.mono hc hs⟩
/-! calls, by a Back or by the callee's own contract -/
variable {own : String} {index : Nat} {y z : MethodName} {bytes : ByteArray} {maxL : Nat} {ret : Option FieldType} {W k n : Nat} {as' : Array Value} {Qy : Option Value → Heap → List Loc → Prop} {g : JFrame} {argsL rest : List Value} {rm : Room}
theorem own_backS (X : Stand p l e R s m args below meth c T locs cells slots) (hx : p.tables.exec = Jvm.exec) (hZ : Z.Warmed39 s.vm) (hown : s.vm.findClass own = some m.cls) (w1 : (Cond.methodLink own index y).before a0 Z = true) (w2 : (Cond.static y).before a0 Z = true) (w3 : (Cond.initialized y.cls).before a0 Z = true) (w4 : (Cond.code y bytes maxL ret).before a0 Z = true)
    (hy : y.cls ≠ "java/lang/invoke/MethodHandle" ∧ y.cls ≠ "java/lang/invoke/VarHandle")
    (hK : Back l R p e below s args y 3 W (fun A a => a = as' ∧ A.U.heap = h ∧ A.cells + k ≤ R.cells ∧ A.slots + n ≤ R.slots) (fun A _ v B => ∃ L, Qy v B.U.heap L ∧ B.locs = A.locs ++ L ∧ B.cells = A.cells + k ∧ B.slots = A.slots + n))
    (eT : T.heap = h) (hg : g.method = m) (hsize : g.locals.size = c.maxLocals) (has : argsL.toArray = as') (hlen : ∀ sig, parseMethodDescriptor y.desc = some sig → argsL.length = sig.parameters.length) (hstack : g.stack = argsL.reverse ++ rest) (hW : 2 * g.monitorRoom + (rest.map fun v => v.category).sum ≤ W)
    (hdg : decode c.code g.pc = .ok (.invokestatic index, 3)) (hc : cells + k ≤ R.cells) (hs : slots + n ≤ R.slots) :
    ∃ v T' h' L, Stand p l e R s m args below meth c T' (locs ++ L) (cells + k) (slots + n) ∧ T'.heap = h' ∧ Qy v h' L ∧ ∀ t, Steps p.tables e below (T'.setTop { g with pc := g.pc + 3, stack := v.toList ++ rest }) t → Steps p.tables e below (T.setTop g) t := by
  obtain ⟨v, _, ⟨T', L', k', n'⟩, -, X', ⟨L, hQ, l1, l2, l3⟩, st⟩ := Jvm.LawKit.callS X hx (y := y) hown (mvT hZ w1) (mvT hZ w2) (mvT hZ w3) (mvT hZ w4) hy hK hg hsize hlen hstack hW hdg (fun _ _ => ⟨has, eT, hc, hs⟩)
  dsimp only [Pt.U, Pt.locs, Pt.cells, Pt.slots] at X' l1 l2 l3 st hQ
  subst l1 l2 l3
  exact ⟨v, T', _, L, X', rfl, hQ, st⟩
theorem own_callS (X : Stand p l e R s m args below meth c T locs cells slots) (hx : p.tables.exec = Jvm.exec) (hZ : Z.Warmed39 s.vm) (hown : s.vm.findClass own = some m.cls) (w1 : (Cond.methodLink own index y).before a0 Z = true) (w2 : (Cond.static y).before a0 Z = true) (w3 : (Cond.initialized y.cls).before a0 Z = true) (w4 : (Cond.code y bytes maxL ret).before a0 Z = true)
    (hy : y.cls ≠ "java/lang/invoke/MethodHandle" ∧ y.cls ≠ "java/lang/invoke/VarHandle")
    (hM : MetFree l y (head1 [Cond.code y bytes maxL ret] rm) (fun a U => a = as' ∧ Z.Warmed39 U.vm ∧ U.heap = h) (fun _ _ _ _ _ => True) (fun _ U o U' => ∃ v L, o = .returned v ∧ Qy v U'.heap L ∧ FrameEnd U o U' L rm.cells rm.slots)) (hf : rm.frames + 1 ≤ R.frames) (hl : W + (maxL + 11) + rm.locals ≤ R.locals)
    (eT : T.heap = h) (hg : g.method = m) (hsize : g.locals.size = c.maxLocals) (has : argsL.toArray = as') (hlen : ∀ sig, parseMethodDescriptor y.desc = some sig → argsL.length = sig.parameters.length) (hstack : g.stack = argsL.reverse ++ rest) (hW : 2 * g.monitorRoom + (rest.map fun v => v.category).sum ≤ W)
    (hdg : decode c.code g.pc = .ok (.invokestatic index, 3)) (hc : cells + rm.cells ≤ R.cells) (hs : slots + rm.slots ≤ R.slots) :
    ∃ v T' h' L, Stand p l e R s m args below meth c T' (locs ++ L) (cells + rm.cells) (slots + rm.slots) ∧ T'.heap = h' ∧ Qy v h' L ∧ ∀ t, Steps p.tables e below (T'.setTop { g with pc := g.pc + 3, stack := v.toList ++ rest }) t → Steps p.tables e below (T.setTop g) t :=
  own_backS X hx hZ hown w1 w2 w3 w4 hy (backOf hM hZ w4 w3 hf hl) eT hg hsize has hlen hstack hW hdg hc hs
theorem own_backI (X : Stand p l e R s m args below meth c T locs cells slots) (hx : p.tables.exec = Jvm.exec) (hZ : Z.Warmed39 s.vm) (hown : s.vm.findClass own = some m.cls) (hy1 : y.name = "<init>") (w1 : (Cond.methodLink own index y).before a0 Z = true) (w2 : (Cond.instanceMethod y).before a0 Z = true) (w4 : (Cond.code y bytes maxL none).before a0 Z = true)
    (hy : y.cls ≠ "java/lang/invoke/MethodHandle" ∧ y.cls ≠ "java/lang/invoke/VarHandle")
    (hK : Back l R p e below s args y 3 W (fun A a => a = as' ∧ A.U.heap = h ∧ A.cells + k ≤ R.cells ∧ A.slots + n ≤ R.slots) (fun A _ v B => ∃ L, Qy v B.U.heap L ∧ B.locs = A.locs ++ L ∧ B.cells = A.cells + k ∧ B.slots = A.slots + n))
    (eT : T.heap = h) {a : Addr} (hg : g.method = m) (hsize : g.locals.size = c.maxLocals) (has : (Value.ref a :: argsL).toArray = as') (hlen : ∀ sig, parseMethodDescriptor y.desc = some sig → argsL.length = sig.parameters.length) (hstack : g.stack = argsL.reverse ++ .ref a :: rest) (hW : 2 * g.monitorRoom + (rest.map fun v => v.category).sum ≤ W)
    (hdg : decode c.code g.pc = .ok (.invokespecial index, 3)) (hc : cells + k ≤ R.cells) (hs : slots + n ≤ R.slots) :
    ∃ v T' h' L, Stand p l e R s m args below meth c T' (locs ++ L) (cells + k) (slots + n) ∧ T'.heap = h' ∧ Qy v h' L ∧ ∀ t, Steps p.tables e below (T'.setTop { g with pc := g.pc + 3, stack := v.toList ++ rest }) t → Steps p.tables e below (T.setTop g) t := by
  obtain ⟨v, _, ⟨T', L', k', n'⟩, -, X', ⟨L, hQ, l1, l2, l3⟩, st⟩ := X.specialBack hx (y := y) hy1 hown (mvT hZ w1) (mvT hZ w2) (mvT hZ w4) hy hK hg hsize (Steps.refl _) hlen hstack hW hdg (fun _ _ => ⟨has, eT, hc, hs⟩)
  dsimp only [Pt.U, Pt.locs, Pt.cells, Pt.slots] at X' l1 l2 l3 st hQ
  subst l1 l2 l3
  exact ⟨v, T', _, L, X', rfl, hQ, fun t k => st.trans k⟩
theorem own_callI (X : Stand p l e R s m args below meth c T locs cells slots) (hx : p.tables.exec = Jvm.exec) (hZ : Z.Warmed39 s.vm) (hown : s.vm.findClass own = some m.cls) (hy1 : y.name = "<init>") (w1 : (Cond.methodLink own index y).before a0 Z = true) (w2 : (Cond.instanceMethod y).before a0 Z = true) (w3 : (Cond.initialized y.cls).before a0 Z = true) (w4 : (Cond.code y bytes maxL none).before a0 Z = true)
    (hy : y.cls ≠ "java/lang/invoke/MethodHandle" ∧ y.cls ≠ "java/lang/invoke/VarHandle")
    (hM : MetFree l y (head1 [Cond.code y bytes maxL none] rm) (fun a U => a = as' ∧ Z.Warmed39 U.vm ∧ U.heap = h) (fun _ _ _ _ _ => True) (fun _ U o U' => ∃ v L, o = .returned v ∧ Qy v U'.heap L ∧ FrameEnd U o U' L rm.cells rm.slots)) (hf : rm.frames + 1 ≤ R.frames) (hl : W + (maxL + 11) + rm.locals ≤ R.locals)
    (eT : T.heap = h) {a : Addr} (hg : g.method = m) (hsize : g.locals.size = c.maxLocals) (has : (Value.ref a :: argsL).toArray = as') (hlen : ∀ sig, parseMethodDescriptor y.desc = some sig → argsL.length = sig.parameters.length) (hstack : g.stack = argsL.reverse ++ .ref a :: rest) (hW : 2 * g.monitorRoom + (rest.map fun v => v.category).sum ≤ W)
    (hdg : decode c.code g.pc = .ok (.invokespecial index, 3)) (hc : cells + rm.cells ≤ R.cells) (hs : slots + rm.slots ≤ R.slots) :
    ∃ v T' h' L, Stand p l e R s m args below meth c T' (locs ++ L) (cells + rm.cells) (slots + rm.slots) ∧ T'.heap = h' ∧ Qy v h' L ∧ ∀ t, Steps p.tables e below (T'.setTop { g with pc := g.pc + 3, stack := v.toList ++ rest }) t → Steps p.tables e below (T.setTop g) t :=
  own_backI X hx hZ hown hy1 w1 w2 w4 hy (backOf hM hZ w4 w3 hf hl) eT hg hsize has hlen hstack hW hdg hc hs
theorem own_backV (X : Stand p l e R s m args below meth c T locs cells slots) (hx : p.tables.exec = Jvm.exec) (hZ : Z.Warmed39 s.vm) (hown : s.vm.findClass own = some m.cls) {C : String} (w1 : (Cond.methodLink own index y).before a0 Z = true) (w2 : (Cond.declares y).before a0 Z = true) (hnf : NotFace s y) (w3 : (Cond.selects C y z).before a0 Z = true) (w4 : (Cond.instanceMethod z).before a0 Z = true)
    (hy : y.cls ≠ "java/lang/invoke/MethodHandle" ∧ y.cls ≠ "java/lang/invoke/VarHandle")
    (hK : Back l R p e below s args z 3 W (fun A a => a = as' ∧ A.U.heap = h ∧ A.cells + k ≤ R.cells ∧ A.slots + n ≤ R.slots) (fun A _ v B => ∃ L, Qy v B.U.heap L ∧ B.locs = A.locs ++ L ∧ B.cells = A.cells + k ∧ B.slots = A.slots + n))
    (eT : T.heap = h) {b : Addr} (E : Exa Z h b C) (hg : g.method = m) (hsize : g.locals.size = c.maxLocals) (has : (Value.ref b :: argsL).toArray = as') (hlen : ∀ sig, parseMethodDescriptor y.desc = some sig → argsL.length = sig.parameters.length) (hstack : g.stack = argsL.reverse ++ .ref b :: rest) (hW : 2 * g.monitorRoom + (rest.map fun v => v.category).sum ≤ W)
    (hdg : decode c.code g.pc = .ok (.invokevirtual index, 3)) (hc : cells + k ≤ R.cells) (hs : slots + n ≤ R.slots) :
    ∃ v T' h' L, Stand p l e R s m args below meth c T' (locs ++ L) (cells + k) (slots + n) ∧ T'.heap = h' ∧ Qy v h' L ∧ ∀ t, Steps p.tables e below (T'.setTop { g with pc := g.pc + 3, stack := v.toList ++ rest }) t → Steps p.tables e below (T.setTop g) t := by
  obtain ⟨cq, kq, qa, qb, qc⟩ := isOf hZ eT E
  obtain ⟨v, _, ⟨T', L', k', n'⟩, -, X', ⟨L, hQ, l1, l2, l3⟩, st⟩ := X.virtualBack hx (y := y) (z := z) hown (mvT hZ w1) (mvT hZ w2) hnf (mvT hZ w3) (mvT hZ w4) hy hK qa qc hg hsize (Steps.refl _) hlen hstack hW hdg (fun _ _ => ⟨has, eT, hc, hs⟩)
  dsimp only [Pt.U, Pt.locs, Pt.cells, Pt.slots] at X' l1 l2 l3 st hQ
  subst l1 l2 l3
  exact ⟨v, T', _, L, X', rfl, hQ, fun t k => st.trans k⟩
theorem own_callV (X : Stand p l e R s m args below meth c T locs cells slots) (hx : p.tables.exec = Jvm.exec) (hZ : Z.Warmed39 s.vm) (hown : s.vm.findClass own = some m.cls) {C : String} (w1 : (Cond.methodLink own index y).before a0 Z = true) (w2 : (Cond.declares y).before a0 Z = true) (w3 : (Cond.selects C y y).before a0 Z = true) (w4 : (Cond.instanceMethod y).before a0 Z = true) (w5 : (Cond.initialized y.cls).before a0 Z = true) (w6 : (Cond.code y bytes maxL ret).before a0 Z = true)
    (hy : y.cls ≠ "java/lang/invoke/MethodHandle" ∧ y.cls ≠ "java/lang/invoke/VarHandle")
    (hM : MetFree l y (head1 [Cond.code y bytes maxL ret] rm) (fun a U => a = as' ∧ Z.Warmed39 U.vm ∧ U.heap = h) (fun _ _ _ _ _ => True) (fun _ U o U' => ∃ v L, o = .returned v ∧ Qy v U'.heap L ∧ FrameEnd U o U' L rm.cells rm.slots)) (hf : rm.frames + 1 ≤ R.frames) (hl : W + (maxL + 11) + rm.locals ≤ R.locals)
    (eT : T.heap = h) {b : Addr} (E : Exa Z h b C) (hg : g.method = m) (hsize : g.locals.size = c.maxLocals) (has : (Value.ref b :: argsL).toArray = as') (hlen : ∀ sig, parseMethodDescriptor y.desc = some sig → argsL.length = sig.parameters.length) (hstack : g.stack = argsL.reverse ++ .ref b :: rest) (hW : 2 * g.monitorRoom + (rest.map fun v => v.category).sum ≤ W)
    (hdg : decode c.code g.pc = .ok (.invokevirtual index, 3)) (hc : cells + rm.cells ≤ R.cells) (hs : slots + rm.slots ≤ R.slots) :
    ∃ v T' h' L, Stand p l e R s m args below meth c T' (locs ++ L) (cells + rm.cells) (slots + rm.slots) ∧ T'.heap = h' ∧ Qy v h' L ∧ ∀ t, Steps p.tables e below (T'.setTop { g with pc := g.pc + 3, stack := v.toList ++ rest }) t → Steps p.tables e below (T.setTop g) t :=
  own_backV X hx hZ hown w1 w2 (notFace_of_selects (args := #[]) (mvT hZ w3)) w3 w4 hy (backOf hM hZ w6 w5 hf hl) eT E hg hsize has hlen hstack hW hdg hc hs
end OwnGo
section OwnArr
variable {p : Program} {l : Launch} {e : Env} {R : Room} {s : State} {m : MethodId} {args : Array Value} {below : List Frame} {meth : Method} {c : Code} {T : State} {locs : List Loc} {cells slots : Nat} {Z : State} {a0 : Array Value} {h : Heap} {a : Addr} {k : ClassId} {ty : FieldType} {z j : Int32} {vs : List Value} {d v : Value} {g : JFrame} {rest : List Value}
theorem own_alen (X : Stand p l e R s m args below meth c T locs cells slots) (hx : p.tables.exec = Jvm.exec) (hZ : Z.Warmed39 s.vm) (eT : T.heap = h) (A : Arv Z h a k ty z vs d) (hg : g.method = m) (hs : g.stack = .ref a :: rest) (hd : decode c.code g.pc = .ok (.arraylength, 1)) (t : State)
    (hr : Steps p.tables e below (T.setTop { g with pc := g.pc + 1, stack := .int z :: rest }) t) : Steps p.tables e below (T.setTop g) t := by
  obtain ⟨cl, A1, A2, A3, A4, A5, A6⟩ := A
  refine X.arraylength hx (by rw [eT]; exact A1.1) (State.isArrayOf_alike hZ.alike A1.2.1) hg hs hd t ?_
  rw [len_of A3 A4]
  exact hr
theorem own_cald (X : Stand p l e R s m args below meth c T locs cells slots) (hx : p.tables.exec = Jvm.exec) (hZ : Z.Warmed39 s.vm) (eT : T.heap = h) (A : Arv Z h a k .char z vs d) (hj : ¬ j < 0 ∧ j < z) (hv : vs.getD j.toNatClampNeg d = v) (hg : g.method = m) (hs : g.stack = .int j :: .ref a :: rest) (hd : decode c.code g.pc = .ok (.caload, 1)) (t : State)
    (hr : Steps p.tables e below (T.setTop { g with pc := g.pc + 1, stack := v :: rest }) t) : Steps p.tables e below (T.setTop g) t := by
  obtain ⟨cl, A1, A2, A3, A4, A5, A6⟩ := A
  exact X.caload hx (by rw [eT]; exact A1.1) (State.isArrayOf_alike hZ.alike A1.2.1) A1.2.2 (inb_of A3 hj) (A5.at (inb_of A3 hj) hv) hg hs hd t hr
theorem own_bald (X : Stand p l e R s m args below meth c T locs cells slots) (hx : p.tables.exec = Jvm.exec) (hZ : Z.Warmed39 s.vm) (eT : T.heap = h) (A : Arv Z h a k .byte z vs d) (hj : ¬ j < 0 ∧ j < z) (hv : vs.getD j.toNatClampNeg d = v) (hg : g.method = m) (hs : g.stack = .int j :: .ref a :: rest) (hd : decode c.code g.pc = .ok (.baload, 1)) (t : State)
    (hr : Steps p.tables e below (T.setTop { g with pc := g.pc + 1, stack := v :: rest }) t) : Steps p.tables e below (T.setTop g) t := by
  obtain ⟨cl, A1, A2, A3, A4, A5, A6⟩ := A
  exact X.baloadBytes hx (by rw [eT]; exact A1.1) (State.isArrayOf_alike hZ.alike A1.2.1) A1.2.2 (inb_of A3 hj) (A5.at (inb_of A3 hj) hv) hg hs hd t hr
end OwnArr
section OwnFace
variable {p : Program} {l : Launch} {e : Env} {R : Room} {s : State} {m : MethodId} {args : Array Value} {below : List Frame} {meth : Method} {c : Code} {T : State} {locs : List Loc} {cells slots : Nat} {Z : State} {a0 : Array Value} {h : Heap} {own C : String} {index count : Nat} {y z : MethodName} {bytes : ByteArray} {maxL : Nat} {ret : Option FieldType} {W : Nat} {as' : Array Value} {Qy : Option Value → Heap → List Loc → Prop} {g : JFrame} {argsL rest : List Value} {rm : Room}
theorem own_callF (X : Stand p l e R s m args below meth c T locs cells slots) (hx : p.tables.exec = Jvm.exec) (hZ : Z.Warmed39 s.vm) (hown : s.vm.findClass own = some m.cls) (w1 : (Cond.methodLink own index y).before a0 Z = true) (w2 : (Cond.declares y).before a0 Z = true) (w3 : (Cond.interfaceMethod y.cls y.cls y.name y.desc).before args s = true) (w4 : (Cond.selects C y z).before a0 Z = true) (w5 : (Cond.instanceMethod z).before a0 Z = true) (w6 : (Cond.publicMethod z).before a0 Z = true) (w7 : (Cond.unhidden C y.name y.desc).before a0 Z = true) (w8 : (Cond.castable C y.cls).before a0 Z = true) (w9 : (Cond.initialized z.cls).before a0 Z = true) (w10 : (Cond.code z bytes maxL ret).before a0 Z = true)
    (hy : y.cls ≠ "java/lang/invoke/MethodHandle" ∧ y.cls ≠ "java/lang/invoke/VarHandle")
    (hM : MetFree l z (head1 [Cond.code z bytes maxL ret] rm) (fun a U => a = as' ∧ Z.Warmed39 U.vm ∧ U.heap = h) (fun _ _ _ _ _ => True) (fun _ U o U' => ∃ v L, o = .returned v ∧ Qy v U'.heap L ∧ FrameEnd U o U' L rm.cells rm.slots)) (hf : rm.frames + 1 ≤ R.frames) (hl : W + (maxL + 11) + rm.locals ≤ R.locals)
    (eT : T.heap = h) {b : Addr} (E : Exa Z h b C) (hg : g.method = m) (hsize : g.locals.size = c.maxLocals) (has : (Value.ref b :: argsL).toArray = as') (hlen : ∀ sig, parseMethodDescriptor y.desc = some sig → argsL.length = sig.parameters.length) (hstack : g.stack = argsL.reverse ++ .ref b :: rest) (hW : 2 * g.monitorRoom + (rest.map fun v => v.category).sum ≤ W)
    (hdg : decode c.code g.pc = .ok (.invokeinterface index count, 5)) (hc : cells + rm.cells ≤ R.cells) (hs : slots + rm.slots ≤ R.slots) :
    ∃ v T' h' L, Stand p l e R s m args below meth c T' (locs ++ L) (cells + rm.cells) (slots + rm.slots) ∧ T'.heap = h' ∧ Qy v h' L ∧ ∀ t, Steps p.tables e below (T'.setTop { g with pc := g.pc + 5, stack := v.toList ++ rest }) t → Steps p.tables e below (T.setTop g) t := by
  obtain ⟨cq, kq, qa, qb, qc⟩ := isOf hZ eT E
  obtain ⟨v, _, ⟨T', L', k', n'⟩, -, X', ⟨L, hQ, l1, l2, l3⟩, st⟩ := X.interfaceBack hx (xi := y) (y := z) hown (mvT hZ w1) (mvT hZ w2) w3 (mvT hZ w4) (mvT hZ w5) (mvT hZ w6) (mvT hZ w7) (mvT hZ w8) hy (backOf hM hZ w10 w9 hf hl) qa qb qc hg hsize (Steps.refl _) hlen hstack hW hdg (fun _ _ => ⟨has, eT, hc, hs⟩)
  dsimp only [Pt.U, Pt.locs, Pt.cells, Pt.slots] at X' l1 l2 l3 st hQ
  subst l1 l2 l3
  exact ⟨v, T', _, L, X', rfl, hQ, fun t k => st.trans k⟩
end OwnFace
def own_first : List Int32 → Int32 → Int32
  | [], i => i
  | c :: cs, i => if 255 < c then i else own_first cs (i + 1)
theorem own_nb (y : Int32) : nar .byte (y.toInt8.toInt32) = StrChars.lo8 y := by
  show (y.toInt8.toInt32).toInt8.toInt32 = y.toInt8.toInt32
  simp
theorem own_lo (c : Int32) : nar .byte ((c >>> ((0 : Int32) &&& 31)).toInt8.toInt32) = StrChars.lo8 c := by rw [own_nb, StrChars.shr0]
theorem own_hi (c : Int32) : nar .byte ((c >>> ((8 : Int32) &&& 31)).toInt8.toInt32) = StrChars.hi8 c := own_nb _
theorem own_nc (y : Int32) : nar .char (y.toUInt32.toUInt16.toUInt32.toInt32) = y.toUInt32.toUInt16.toUInt32.toInt32 := by
  have e : ∀ u : UInt16, u.toUInt32.toInt32.toUInt32.toUInt16 = u := fun u => by simp
  show ((y.toUInt32.toUInt16).toUInt32.toInt32).toUInt32.toUInt16.toUInt32.toInt32 = _
  rw [e]
theorem own_pair {c : Int32} (h0 : ¬ c < 0) (h1 : ¬ 65535 < c) : nar .char ((((StrChars.lo8 c &&& 255) <<< ((0 : Int32) &&& 31)) ||| ((StrChars.hi8 c &&& 255) <<< ((8 : Int32) &&& 31))).toUInt32.toUInt16.toUInt32.toInt32) = c := by
  rw [own_nc]
  exact StrChars.pair_says h0 h1
theorem own_charR (y : Int32) : ¬ nar .char y < 0 ∧ ¬ (65535 : Int32) < nar .char y := rng_char (fits_nar_char y)
theorem own_sta {s : State} {args : Array Value} {C n d : String} {k : Int32} (h : (Jvm.Cond.eq (Term.static C n d) (Term.int k)).before args s = true) (hi : (Jvm.Cond.initializedFor C n d).before args s = true) : Sta s s.heap C n d (.int k) := by
  obtain ⟨x, y, hx, hy, k1, k2⟩ := cmp_v (Or.inl (Cond.before_iff.mp h))
  rw [Term.int_eval k] at hy
  cases hy
  obtain ⟨z, rfl⟩ : ∃ z, x = .int z := k2
  have e := gotT (show (Jvm.Cond.eq (Term.static C n d) (Term.int k)).value args s none s [] = some (decide (z = k)) by simp [Cond.value, hx, Term.int_eval]) (Cond.before_iff.mp h)
  subst e
  exact Sta.start hx (Or.inl hi)
theorem own_pn0 : plainName "java/lang/StringUTF16" = true := by first | (simp [plainName, overriddenIn]; done) | decide +kernel
theorem own_d_jdk_52_method_3_0 : decode jdk_52_method_3_code 0 = .ok (.iload_n 0, 1) := by decide +kernel
theorem own_d_jdk_52_method_3_1 : decode jdk_52_method_3_code 1 = .ok (.ifCond .ge 11, 3) := by decide +kernel
theorem own_d_jdk_52_method_3_12 : decode jdk_52_method_3_code 12 = .ok (.iload_n 0, 1) := by decide +kernel
theorem own_d_jdk_52_method_3_13 : decode jdk_52_method_3_code 13 = .ok (.ldc 20, 2) := by decide +kernel
theorem own_d_jdk_52_method_3_15 : decode jdk_52_method_3_code 15 = .ok (.if_icmp .lt 40, 3) := by decide +kernel
theorem own_d_jdk_52_method_3_55 : decode jdk_52_method_3_code 55 = .ok (.iload_n 0, 1) := by decide +kernel
theorem own_d_jdk_52_method_3_56 : decode jdk_52_method_3_code 56 = .ok (.iconst 1, 1) := by decide +kernel
theorem own_d_jdk_52_method_3_57 : decode jdk_52_method_3_code 57 = .ok (.ishl, 1) := by decide +kernel
theorem own_d_jdk_52_method_3_58 : decode jdk_52_method_3_code 58 = .ok (.ireturn, 1) := by decide +kernel
theorem own_ef_nbl (m : MethodId) (x0 : Int32) : entryFrame m #[(.int x0)] 1 = mkF m 0 #[.val (.int x0)] [] := by first | (simp [entryFrame, mkF, argsToLocals, Value.category]; done) | rfl
def own_Q_nbl (Z : State) (n : Int32) (h0 : Heap) (n0 : Nat) (v : Option Value) (h : Heap) (L : List Loc) : Prop := v = some (.int (n <<< ((1 : Int32) &&& 31))) ∧ Fr n0 L ∧ h = h0
set_option maxRecDepth 65536 in
set_option maxHeartbeats 40000000 in
theorem own_rm_nbl (l : Launch) (Z : State) (a0 : Array Value) (hw : ∀ d ∈ tables_1, d.before a0 Z = true) (ws : List Jvm.Cond) (n : Int32) (h0 : Heap) (n0 : Nat) (Od : Old Z n0 h0) (b1 : ¬ n < (0 : Int32)) (b2 : n < (1073741823 : Int32)) :
    MetFree l (⟨"java/lang/StringUTF16", "newBytesLength", "(I)I"⟩ : MethodName) (head1 (Jvm.Cond.code (⟨"java/lang/StringUTF16", "newBytesLength", "(I)I"⟩ : MethodName) jdk_52_method_3_code 1 (some .int) :: ws) ({ frames := 0, cells := 0, slots := 0, locals := 0 } : Room)) (fun a9 U => a9 = #[(.int n)] ∧ Z.Warmed39 U.vm ∧ U.heap = h0) (fun _ _ _ _ _ => True) (fun _ U o U' => ∃ v L, o = .returned v ∧ own_Q_nbl Z n h0 n0 v U'.heap L ∧ FrameEnd U o U' L ({ frames := 0, cells := 0, slots := 0, locals := 0 } : Room).cells ({ frames := 0, cells := 0, slots := 0, locals := 0 } : Room).slots) := by
  refine MetFree.of_bodySF (plainFor_of_name own_pn0) hisR ?_
  intro p e s m args below meth c s₁ Bd hml0 hP hK
  obtain ⟨rfl, hZ, hh⟩ := hP
  have hx := Bd.exec
  have hby := Bd.bytes
  have hml : c.maxLocals = 1 := hml0
  have hown : s.vm.findClass "java/lang/StringUTF16" = some m.cls := findClass_of_methodNamed Bd.named
  have hnm := (name_of_methodNamed Bd.named Bd.method).1
  have hlk : meth.locks = false := Bd.notSynchronized
  have X0 : Stand p l e ({ frames := 0, cells := 0, slots := 0, locals := 0 } : Room) s m #[(.int n)] below meth c s₁ [] 0 0 := Stand.of_body Bd
  have e0 : s₁.heap = h0 := by rw [← hh, Bd.state]; rfl
  have N0 := Fr.nil n0
  show own_Go p e below s (own_Q_nbl Z n h0 n0) ({ frames := 0, cells := 0, slots := 0, locals := 0 } : Room).cells ({ frames := 0, cells := 0, slots := 0, locals := 0 } : Room).slots (s₁.setTop (entryFrame m #[(.int n)] 1))
  refine own_st (fun t9 k9 => castTop (own_ef_nbl m n) k9) ?_
  show own_Go p e below s _ _ _ (s₁.setTop (mkF m 0 #[.val (.int n)] []))
  refine own_st (fun t9 k9 => XS.iloadN X0.here hx rfl (hb hby own_d_jdk_52_method_3_0) rfl  k9) ?_
  show own_Go p e below s _ _ _ (s₁.setTop (mkF m 1 #[.val (.int n)] [(.int n)]))
  refine own_st (fun t9 k9 => XS.ifYes X0.here hx rfl (pc0 := 1) (pc' := 12) rfl (hb hby own_d_jdk_52_method_3_1) rfl ((if0 _ _).trans (flt (b1 : ¬ (n < (0 : Int32)))).2.1) (by decide) (by decide) k9) ?_
  show own_Go p e below s _ _ _ (s₁.setTop (mkF m 12 #[.val (.int n)] []))
  refine own_st (fun t9 k9 => XS.iloadN X0.here hx rfl (hb hby own_d_jdk_52_method_3_12) rfl  k9) ?_
  show own_Go p e below s _ _ _ (s₁.setTop (mkF m 13 #[.val (.int n)] [(.int n)]))
  refine own_st (fun t9 k9 => X0.ldcInt hx hown (mvT hZ (hw _ (List.mem_of_getElem? (i := 62) rfl))) (g := (mkF m 13 #[.val (.int n)] [(.int n)])) rfl (hb hby own_d_jdk_52_method_3_13) t9 k9) ?_
  show own_Go p e below s _ _ _ (s₁.setTop (mkF m 15 #[.val (.int n)] [(.int (1073741823 : Int32)), (.int n)]))
  refine own_st (fun t9 k9 => XS.icmpYes X0.here hx rfl (pc0 := 15) (pc' := 55) rfl (hb hby own_d_jdk_52_method_3_15) rfl (tlt (b2 : n < (1073741823 : Int32))).1 (by decide) (by decide) k9) ?_
  show own_Go p e below s _ _ _ (s₁.setTop (mkF m 55 #[.val (.int n)] []))
  refine own_st (fun t9 k9 => XS.iloadN X0.here hx rfl (hb hby own_d_jdk_52_method_3_55) rfl  k9) ?_
  show own_Go p e below s _ _ _ (s₁.setTop (mkF m 56 #[.val (.int n)] [(.int n)]))
  refine own_st (fun t9 k9 => XS.iconst X0.here hx rfl (hb hby own_d_jdk_52_method_3_56) k9) ?_
  show own_Go p e below s _ _ _ (s₁.setTop (mkF m 57 #[.val (.int n)] [(.int (1 : Int32)), (.int n)]))
  refine own_st (fun t9 k9 => XT.ishl X0.here hx rfl (hb hby own_d_jdk_52_method_3_57) rfl k9) ?_
  show own_Go p e below s _ _ _ (s₁.setTop (mkF m 58 #[.val (.int n)] [(.int (n <<< ((1 : Int32) &&& 31)))]))
  exact own_retI X0 hx hlk Bd.returns (hb hby own_d_jdk_52_method_3_58) (by decide) (by decide) (by rw [e0]; exact ⟨rfl, N0, rfl⟩)
theorem own_d_jdk_52_method_4_0 : decode jdk_52_method_4_code 0 = .ok (.getstatic 44, 3) := by decide +kernel
theorem own_d_jdk_52_method_4_3 : decode jdk_52_method_4_code 3 = .ok (.ifCond .ne 25, 3) := by decide +kernel
theorem own_d_jdk_52_method_4_28 : decode jdk_52_method_4_code 28 = .ok (.iload_n 1, 1) := by decide +kernel
theorem own_d_jdk_52_method_4_29 : decode jdk_52_method_4_code 29 = .ok (.iconst 1, 1) := by decide +kernel
theorem own_d_jdk_52_method_4_30 : decode jdk_52_method_4_code 30 = .ok (.ishl, 1) := by decide +kernel
theorem own_d_jdk_52_method_4_31 : decode jdk_52_method_4_code 31 = .ok (.istore_n 1, 1) := by decide +kernel
theorem own_d_jdk_52_method_4_32 : decode jdk_52_method_4_code 32 = .ok (.aload_n 0, 1) := by decide +kernel
theorem own_d_jdk_52_method_4_33 : decode jdk_52_method_4_code 33 = .ok (.iload_n 1, 1) := by decide +kernel
theorem own_d_jdk_52_method_4_34 : decode jdk_52_method_4_code 34 = .ok (.iinc 1 1, 3) := by decide +kernel
theorem own_d_jdk_52_method_4_37 : decode jdk_52_method_4_code 37 = .ok (.iload_n 2, 1) := by decide +kernel
theorem own_d_jdk_52_method_4_38 : decode jdk_52_method_4_code 38 = .ok (.getstatic 59, 3) := by decide +kernel
theorem own_d_jdk_52_method_4_41 : decode jdk_52_method_4_code 41 = .ok (.ishr, 1) := by decide +kernel
theorem own_d_jdk_52_method_4_42 : decode jdk_52_method_4_code 42 = .ok (.i2b, 1) := by decide +kernel
theorem own_d_jdk_52_method_4_43 : decode jdk_52_method_4_code 43 = .ok (.bastore, 1) := by decide +kernel
theorem own_d_jdk_52_method_4_44 : decode jdk_52_method_4_code 44 = .ok (.aload_n 0, 1) := by decide +kernel
theorem own_d_jdk_52_method_4_45 : decode jdk_52_method_4_code 45 = .ok (.iload_n 1, 1) := by decide +kernel
theorem own_d_jdk_52_method_4_46 : decode jdk_52_method_4_code 46 = .ok (.iload_n 2, 1) := by decide +kernel
theorem own_d_jdk_52_method_4_47 : decode jdk_52_method_4_code 47 = .ok (.getstatic 63, 3) := by decide +kernel
theorem own_d_jdk_52_method_4_50 : decode jdk_52_method_4_code 50 = .ok (.ishr, 1) := by decide +kernel
theorem own_d_jdk_52_method_4_51 : decode jdk_52_method_4_code 51 = .ok (.i2b, 1) := by decide +kernel
theorem own_d_jdk_52_method_4_52 : decode jdk_52_method_4_code 52 = .ok (.bastore, 1) := by decide +kernel
theorem own_d_jdk_52_method_4_53 : decode jdk_52_method_4_code 53 = .ok (.return_, 1) := by decide +kernel
theorem own_ef_putc (m : MethodId) (x0 : Addr) (x1 : Int32) (x2 : Int32) : entryFrame m #[(.ref x0), (.int x1), (.int x2)] 3 = mkF m 0 #[.val (.ref x0), .val (.int x1), .val (.int x2)] [] := by first | (simp [entryFrame, mkF, argsToLocals, Value.category]; done) | rfl
def own_Q_putc (Z : State) (b : Addr) (i c0 : Int32) (h0 : Heap) (n0 : Nat) (v : Option Value) (h : Heap) (L : List Loc) : Prop := v = none ∧ Fr n0 L ∧ ∃ h1, Wr h0 h1 b (i <<< ((1 : Int32) &&& 31)).toNatClampNeg (.int (StrChars.lo8 c0)) ∧ Wr h1 h b ((i <<< ((1 : Int32) &&& 31)) + (1 : Int32)).toNatClampNeg (.int (StrChars.hi8 c0))
set_option maxRecDepth 65536 in
set_option maxHeartbeats 40000000 in
theorem own_rm_putc (l : Launch) (Z : State) (a0 : Array Value) (hw : ∀ d ∈ tables_1, d.before a0 Z = true) (ws : List Jvm.Cond) (b : Addr) (i c0 : Int32) (cl : Cell) (h0 : Heap) (n0 : Nat) (Od : Old Z n0 h0) (A : Arr Z h0 b cl .byte) (ge_b : n0 ≤ b) (b0 : ¬ ((i <<< ((1 : Int32) &&& 31)) < 0 ∨ cl.slots.size ≤ (i <<< ((1 : Int32) &&& 31)).toNatClampNeg)) (b1 : ¬ (((i <<< ((1 : Int32) &&& 31)) + (1 : Int32)) < 0 ∨ cl.slots.size ≤ ((i <<< ((1 : Int32) &&& 31)) + (1 : Int32)).toNatClampNeg)) (OA : Sta Z Z.heap "java/lang/StringUTF16" "$assertionsDisabled" "Z" (.int (1 : Int32))) (OH : Sta Z Z.heap "java/lang/StringUTF16" "HI_BYTE_SHIFT" "I" (.int (0 : Int32))) (OL : Sta Z Z.heap "java/lang/StringUTF16" "LO_BYTE_SHIFT" "I" (.int (8 : Int32))) :
    MetFree l (⟨"java/lang/StringUTF16", "putChar", "([BII)V"⟩ : MethodName) (head1 (Jvm.Cond.code (⟨"java/lang/StringUTF16", "putChar", "([BII)V"⟩ : MethodName) jdk_52_method_4_code 3 none :: ws) ({ frames := 0, cells := 0, slots := 0, locals := 0 } : Room)) (fun a9 U => a9 = #[(.ref b), (.int i), (.int c0)] ∧ Z.Warmed39 U.vm ∧ U.heap = h0) (fun _ _ _ _ _ => True) (fun _ U o U' => ∃ v L, o = .returned v ∧ own_Q_putc Z b i c0 h0 n0 v U'.heap L ∧ FrameEnd U o U' L ({ frames := 0, cells := 0, slots := 0, locals := 0 } : Room).cells ({ frames := 0, cells := 0, slots := 0, locals := 0 } : Room).slots) := by
  refine MetFree.of_bodySF (plainFor_of_name own_pn0) hisR ?_
  intro p e s m args below meth c s₁ Bd hml0 hP hK
  obtain ⟨rfl, hZ, hh⟩ := hP
  have hx := Bd.exec
  have hby := Bd.bytes
  have hml : c.maxLocals = 3 := hml0
  have hown : s.vm.findClass "java/lang/StringUTF16" = some m.cls := findClass_of_methodNamed Bd.named
  have hnm := (name_of_methodNamed Bd.named Bd.method).1
  have hlk : meth.locks = false := Bd.notSynchronized
  have X0 : Stand p l e ({ frames := 0, cells := 0, slots := 0, locals := 0 } : Room) s m #[(.ref b), (.int i), (.int c0)] below meth c s₁ [] 0 0 := Stand.of_body Bd
  have e0 : s₁.heap = h0 := by rw [← hh, Bd.state]; rfl
  have N0 := Fr.nil n0
  show own_Go p e below s (own_Q_putc Z b i c0 h0 n0) ({ frames := 0, cells := 0, slots := 0, locals := 0 } : Room).cells ({ frames := 0, cells := 0, slots := 0, locals := 0 } : Room).slots (s₁.setTop (entryFrame m #[(.ref b), (.int i), (.int c0)] 3))
  refine own_st (fun t9 k9 => castTop (own_ef_putc m b i c0) k9) ?_
  show own_Go p e below s _ _ _ (s₁.setTop (mkF m 0 #[.val (.ref b), .val (.int i), .val (.int c0)] []))
  obtain ⟨T1, X1, e1, st1⟩ := getS (host := "") X0 hx hZ hown (hw _ (List.mem_of_getElem? (i := 66) rfl)) Via.refl e0 (OA.ext Od.2) (g := (mkF m 0 #[.val (.ref b), .val (.int i), .val (.int c0)] [])) rfl (hb hby own_d_jdk_52_method_4_0)
  refine own_st st1 ?_
  show own_Go p e below s _ _ _ (T1.setTop (mkF m 3 #[.val (.ref b), .val (.int i), .val (.int c0)] [(.int (1 : Int32))]))
  refine own_st (fun t9 k9 => XS.ifYes X1.here hx rfl (pc0 := 3) (pc' := 28) rfl (hb hby own_d_jdk_52_method_4_3) rfl (by decide) (by decide) (by decide) k9) ?_
  show own_Go p e below s _ _ _ (T1.setTop (mkF m 28 #[.val (.ref b), .val (.int i), .val (.int c0)] []))
  refine own_st (fun t9 k9 => XS.iloadN X1.here hx rfl (hb hby own_d_jdk_52_method_4_28) rfl  k9) ?_
  show own_Go p e below s _ _ _ (T1.setTop (mkF m 29 #[.val (.ref b), .val (.int i), .val (.int c0)] [(.int i)]))
  refine own_st (fun t9 k9 => XS.iconst X1.here hx rfl (hb hby own_d_jdk_52_method_4_29) k9) ?_
  show own_Go p e below s _ _ _ (T1.setTop (mkF m 30 #[.val (.ref b), .val (.int i), .val (.int c0)] [(.int (1 : Int32)), (.int i)]))
  refine own_st (fun t9 k9 => XT.ishl X1.here hx rfl (hb hby own_d_jdk_52_method_4_30) rfl k9) ?_
  show own_Go p e below s _ _ _ (T1.setTop (mkF m 31 #[.val (.ref b), .val (.int i), .val (.int c0)] [(.int (i <<< ((1 : Int32) &&& 31)))]))
  refine own_st (fun t9 k9 => XS.istoreN X1.here hx rfl (hb hby own_d_jdk_52_method_4_31) rfl (l' := #[.val (.ref b), .val (.int (i <<< ((1 : Int32) &&& 31))), .val (.int c0)]) rfl k9) ?_
  show own_Go p e below s _ _ _ (T1.setTop (mkF m 32 #[.val (.ref b), .val (.int (i <<< ((1 : Int32) &&& 31))), .val (.int c0)] []))
  refine own_st (fun t9 k9 => XS.aloadN X1.here hx rfl (hb hby own_d_jdk_52_method_4_32) rfl rfl k9) ?_
  show own_Go p e below s _ _ _ (T1.setTop (mkF m 33 #[.val (.ref b), .val (.int (i <<< ((1 : Int32) &&& 31))), .val (.int c0)] [(.ref b)]))
  refine own_st (fun t9 k9 => XS.iloadN X1.here hx rfl (hb hby own_d_jdk_52_method_4_33) rfl  k9) ?_
  show own_Go p e below s _ _ _ (T1.setTop (mkF m 34 #[.val (.ref b), .val (.int (i <<< ((1 : Int32) &&& 31))), .val (.int c0)] [(.int (i <<< ((1 : Int32) &&& 31))), (.ref b)]))
  refine own_st (fun t9 k9 => XS.iinc X1.here hx rfl (hb hby own_d_jdk_52_method_4_34) rfl (l' := #[.val (.ref b), .val (.int ((i <<< ((1 : Int32) &&& 31)) + (1 : Int32))), .val (.int c0)]) rfl k9) ?_
  show own_Go p e below s _ _ _ (T1.setTop (mkF m 37 #[.val (.ref b), .val (.int ((i <<< ((1 : Int32) &&& 31)) + (1 : Int32))), .val (.int c0)] [(.int (i <<< ((1 : Int32) &&& 31))), (.ref b)]))
  refine own_st (fun t9 k9 => XS.iloadN X1.here hx rfl (hb hby own_d_jdk_52_method_4_37) rfl  k9) ?_
  show own_Go p e below s _ _ _ (T1.setTop (mkF m 38 #[.val (.ref b), .val (.int ((i <<< ((1 : Int32) &&& 31)) + (1 : Int32))), .val (.int c0)] [(.int c0), (.int (i <<< ((1 : Int32) &&& 31))), (.ref b)]))
  obtain ⟨T2, X2, e2, st2⟩ := getS (host := "") X1 hx hZ hown (hw _ (List.mem_of_getElem? (i := 67) rfl)) Via.refl e1 (OH.ext Od.2) (g := (mkF m 38 #[.val (.ref b), .val (.int ((i <<< ((1 : Int32) &&& 31)) + (1 : Int32))), .val (.int c0)] [(.int c0), (.int (i <<< ((1 : Int32) &&& 31))), (.ref b)])) rfl (hb hby own_d_jdk_52_method_4_38)
  refine own_st st2 ?_
  show own_Go p e below s _ _ _ (T2.setTop (mkF m 41 #[.val (.ref b), .val (.int ((i <<< ((1 : Int32) &&& 31)) + (1 : Int32))), .val (.int c0)] [(.int (0 : Int32)), (.int c0), (.int (i <<< ((1 : Int32) &&& 31))), (.ref b)]))
  refine own_st (fun t9 k9 => XT.ishr X2.here hx rfl (hb hby own_d_jdk_52_method_4_41) rfl k9) ?_
  show own_Go p e below s _ _ _ (T2.setTop (mkF m 42 #[.val (.ref b), .val (.int ((i <<< ((1 : Int32) &&& 31)) + (1 : Int32))), .val (.int c0)] [(.int (c0 >>> ((0 : Int32) &&& 31))), (.int (i <<< ((1 : Int32) &&& 31))), (.ref b)]))
  refine own_st (fun t9 k9 => XT.i2b X2.here hx rfl (hb hby own_d_jdk_52_method_4_42) rfl k9) ?_
  show own_Go p e below s _ _ _ (T2.setTop (mkF m 43 #[.val (.ref b), .val (.int ((i <<< ((1 : Int32) &&& 31)) + (1 : Int32))), .val (.int c0)] [(.int ((c0 >>> ((0 : Int32) &&& 31)).toInt8.toInt32)), (.int (i <<< ((1 : Int32) &&& 31))), (.ref b)]))
  obtain ⟨T3, h3, X3, e3, W3, st3⟩ := stB X2 hx hZ e2 A (j := (i <<< ((1 : Int32) &&& 31))) b0 (g := (mkF m 43 #[.val (.ref b), .val (.int ((i <<< ((1 : Int32) &&& 31)) + (1 : Int32))), .val (.int c0)] [(.int ((c0 >>> ((0 : Int32) &&& 31)).toInt8.toInt32)), (.int (i <<< ((1 : Int32) &&& 31))), (.ref b)])) rfl rfl (hb hby own_d_jdk_52_method_4_43)
  have N3 := Fr.snoc X3 N0 ge_b
  rw [own_lo] at W3
  have A := A.same W3
  have Od := Od.wr W3 ge_b
  refine own_st st3 ?_
  show own_Go p e below s _ _ _ (T3.setTop (mkF m 44 #[.val (.ref b), .val (.int ((i <<< ((1 : Int32) &&& 31)) + (1 : Int32))), .val (.int c0)] []))
  refine own_st (fun t9 k9 => XS.aloadN X3.here hx rfl (hb hby own_d_jdk_52_method_4_44) rfl rfl k9) ?_
  show own_Go p e below s _ _ _ (T3.setTop (mkF m 45 #[.val (.ref b), .val (.int ((i <<< ((1 : Int32) &&& 31)) + (1 : Int32))), .val (.int c0)] [(.ref b)]))
  refine own_st (fun t9 k9 => XS.iloadN X3.here hx rfl (hb hby own_d_jdk_52_method_4_45) rfl  k9) ?_
  show own_Go p e below s _ _ _ (T3.setTop (mkF m 46 #[.val (.ref b), .val (.int ((i <<< ((1 : Int32) &&& 31)) + (1 : Int32))), .val (.int c0)] [(.int ((i <<< ((1 : Int32) &&& 31)) + (1 : Int32))), (.ref b)]))
  refine own_st (fun t9 k9 => XS.iloadN X3.here hx rfl (hb hby own_d_jdk_52_method_4_46) rfl  k9) ?_
  show own_Go p e below s _ _ _ (T3.setTop (mkF m 47 #[.val (.ref b), .val (.int ((i <<< ((1 : Int32) &&& 31)) + (1 : Int32))), .val (.int c0)] [(.int c0), (.int ((i <<< ((1 : Int32) &&& 31)) + (1 : Int32))), (.ref b)]))
  obtain ⟨T4, X4, e4, st4⟩ := getS (host := "") X3 hx hZ hown (hw _ (List.mem_of_getElem? (i := 68) rfl)) Via.refl e3 (OL.ext Od.2) (g := (mkF m 47 #[.val (.ref b), .val (.int ((i <<< ((1 : Int32) &&& 31)) + (1 : Int32))), .val (.int c0)] [(.int c0), (.int ((i <<< ((1 : Int32) &&& 31)) + (1 : Int32))), (.ref b)])) rfl (hb hby own_d_jdk_52_method_4_47)
  refine own_st st4 ?_
  show own_Go p e below s _ _ _ (T4.setTop (mkF m 50 #[.val (.ref b), .val (.int ((i <<< ((1 : Int32) &&& 31)) + (1 : Int32))), .val (.int c0)] [(.int (8 : Int32)), (.int c0), (.int ((i <<< ((1 : Int32) &&& 31)) + (1 : Int32))), (.ref b)]))
  refine own_st (fun t9 k9 => XT.ishr X4.here hx rfl (hb hby own_d_jdk_52_method_4_50) rfl k9) ?_
  show own_Go p e below s _ _ _ (T4.setTop (mkF m 51 #[.val (.ref b), .val (.int ((i <<< ((1 : Int32) &&& 31)) + (1 : Int32))), .val (.int c0)] [(.int (c0 >>> ((8 : Int32) &&& 31))), (.int ((i <<< ((1 : Int32) &&& 31)) + (1 : Int32))), (.ref b)]))
  refine own_st (fun t9 k9 => XT.i2b X4.here hx rfl (hb hby own_d_jdk_52_method_4_51) rfl k9) ?_
  show own_Go p e below s _ _ _ (T4.setTop (mkF m 52 #[.val (.ref b), .val (.int ((i <<< ((1 : Int32) &&& 31)) + (1 : Int32))), .val (.int c0)] [(.int ((c0 >>> ((8 : Int32) &&& 31)).toInt8.toInt32)), (.int ((i <<< ((1 : Int32) &&& 31)) + (1 : Int32))), (.ref b)]))
  obtain ⟨T5, h5, X5, e5, W5, st5⟩ := stB X4 hx hZ e4 A (j := ((i <<< ((1 : Int32) &&& 31)) + (1 : Int32))) (by rw [sz_set]; exact b1) (g := (mkF m 52 #[.val (.ref b), .val (.int ((i <<< ((1 : Int32) &&& 31)) + (1 : Int32))), .val (.int c0)] [(.int ((c0 >>> ((8 : Int32) &&& 31)).toInt8.toInt32)), (.int ((i <<< ((1 : Int32) &&& 31)) + (1 : Int32))), (.ref b)])) rfl rfl (hb hby own_d_jdk_52_method_4_52)
  have N5 := Fr.snoc X5 N3 ge_b
  rw [own_hi] at W5
  refine own_st st5 ?_
  show own_Go p e below s _ _ _ (T5.setTop (mkF m 53 #[.val (.ref b), .val (.int ((i <<< ((1 : Int32) &&& 31)) + (1 : Int32))), .val (.int c0)] []))
  exact own_retV X5 hx hlk Bd.returns (hb hby own_d_jdk_52_method_4_53) (by decide) (by decide) (by rw [e5]; exact ⟨rfl, N5, _, W3, W5⟩)
theorem own_d_jdk_52_method_5_0 : decode jdk_52_method_5_code 0 = .ok (.getstatic 44, 3) := by decide +kernel
theorem own_d_jdk_52_method_5_3 : decode jdk_52_method_5_code 3 = .ok (.ifCond .ne 25, 3) := by decide +kernel
theorem own_d_jdk_52_method_5_28 : decode jdk_52_method_5_code 28 = .ok (.iload_n 1, 1) := by decide +kernel
theorem own_d_jdk_52_method_5_29 : decode jdk_52_method_5_code 29 = .ok (.iconst 1, 1) := by decide +kernel
theorem own_d_jdk_52_method_5_30 : decode jdk_52_method_5_code 30 = .ok (.ishl, 1) := by decide +kernel
theorem own_d_jdk_52_method_5_31 : decode jdk_52_method_5_code 31 = .ok (.istore_n 1, 1) := by decide +kernel
theorem own_d_jdk_52_method_5_32 : decode jdk_52_method_5_code 32 = .ok (.aload_n 0, 1) := by decide +kernel
theorem own_d_jdk_52_method_5_33 : decode jdk_52_method_5_code 33 = .ok (.iload_n 1, 1) := by decide +kernel
theorem own_d_jdk_52_method_5_34 : decode jdk_52_method_5_code 34 = .ok (.iinc 1 1, 3) := by decide +kernel
theorem own_d_jdk_52_method_5_37 : decode jdk_52_method_5_code 37 = .ok (.baload, 1) := by decide +kernel
theorem own_d_jdk_52_method_5_38 : decode jdk_52_method_5_code 38 = .ok (.sipush 255, 3) := by decide +kernel
theorem own_d_jdk_52_method_5_41 : decode jdk_52_method_5_code 41 = .ok (.iand, 1) := by decide +kernel
theorem own_d_jdk_52_method_5_42 : decode jdk_52_method_5_code 42 = .ok (.getstatic 59, 3) := by decide +kernel
theorem own_d_jdk_52_method_5_45 : decode jdk_52_method_5_code 45 = .ok (.ishl, 1) := by decide +kernel
theorem own_d_jdk_52_method_5_46 : decode jdk_52_method_5_code 46 = .ok (.aload_n 0, 1) := by decide +kernel
theorem own_d_jdk_52_method_5_47 : decode jdk_52_method_5_code 47 = .ok (.iload_n 1, 1) := by decide +kernel
theorem own_d_jdk_52_method_5_48 : decode jdk_52_method_5_code 48 = .ok (.baload, 1) := by decide +kernel
theorem own_d_jdk_52_method_5_49 : decode jdk_52_method_5_code 49 = .ok (.sipush 255, 3) := by decide +kernel
theorem own_d_jdk_52_method_5_52 : decode jdk_52_method_5_code 52 = .ok (.iand, 1) := by decide +kernel
theorem own_d_jdk_52_method_5_53 : decode jdk_52_method_5_code 53 = .ok (.getstatic 63, 3) := by decide +kernel
theorem own_d_jdk_52_method_5_56 : decode jdk_52_method_5_code 56 = .ok (.ishl, 1) := by decide +kernel
theorem own_d_jdk_52_method_5_57 : decode jdk_52_method_5_code 57 = .ok (.ior, 1) := by decide +kernel
theorem own_d_jdk_52_method_5_58 : decode jdk_52_method_5_code 58 = .ok (.i2c, 1) := by decide +kernel
theorem own_d_jdk_52_method_5_59 : decode jdk_52_method_5_code 59 = .ok (.ireturn, 1) := by decide +kernel
theorem own_ef_getc (m : MethodId) (x0 : Addr) (x1 : Int32) : entryFrame m #[(.ref x0), (.int x1)] 2 = mkF m 0 #[.val (.ref x0), .val (.int x1)] [] := by first | (simp [entryFrame, mkF, argsToLocals, Value.category]; done) | rfl
def own_Q_getc (Z : State) (x0 : Int32) (x1 : Int32) (h0 : Heap) (n0 : Nat) (v : Option Value) (h : Heap) (L : List Loc) : Prop := v = some (.int (nar .char ((((x0 &&& 255) <<< ((0 : Int32) &&& 31)) ||| ((x1 &&& 255) <<< ((8 : Int32) &&& 31))).toUInt32.toUInt16.toUInt32.toInt32))) ∧ Fr n0 L ∧ h = h0
set_option maxRecDepth 65536 in
set_option maxHeartbeats 40000000 in
theorem own_rm_getc (l : Launch) (Z : State) (a0 : Array Value) (hw : ∀ d ∈ tables_1, d.before a0 Z = true) (ws : List Jvm.Cond) (b : Addr) (i z : Int32) (x0 : Int32) (x1 : Int32) (kb : ClassId) (vs : List Value) (h0 : Heap) (n0 : Nat) (Od : Old Z n0 h0) (A : Arv Z h0 b kb .byte z vs (.int (0 : Int32))) (b0 : ¬ (i <<< ((1 : Int32) &&& 31)) < 0 ∧ (i <<< ((1 : Int32) &&& 31)) < z) (b1 : ¬ ((i <<< ((1 : Int32) &&& 31)) + (1 : Int32)) < 0 ∧ ((i <<< ((1 : Int32) &&& 31)) + (1 : Int32)) < z) (q0 : vs.getD (i <<< ((1 : Int32) &&& 31)).toNatClampNeg (.int (0 : Int32)) = .int x0) (q1 : vs.getD ((i <<< ((1 : Int32) &&& 31)) + (1 : Int32)).toNatClampNeg (.int (0 : Int32)) = .int x1) (OA : Sta Z Z.heap "java/lang/StringUTF16" "$assertionsDisabled" "Z" (.int (1 : Int32))) (OH : Sta Z Z.heap "java/lang/StringUTF16" "HI_BYTE_SHIFT" "I" (.int (0 : Int32))) (OL : Sta Z Z.heap "java/lang/StringUTF16" "LO_BYTE_SHIFT" "I" (.int (8 : Int32))) :
    MetFree l (⟨"java/lang/StringUTF16", "getChar", "([BI)C"⟩ : MethodName) (head1 (Jvm.Cond.code (⟨"java/lang/StringUTF16", "getChar", "([BI)C"⟩ : MethodName) jdk_52_method_5_code 2 (some .char) :: ws) ({ frames := 0, cells := 0, slots := 0, locals := 0 } : Room)) (fun a9 U => a9 = #[(.ref b), (.int i)] ∧ Z.Warmed39 U.vm ∧ U.heap = h0) (fun _ _ _ _ _ => True) (fun _ U o U' => ∃ v L, o = .returned v ∧ own_Q_getc Z x0 x1 h0 n0 v U'.heap L ∧ FrameEnd U o U' L ({ frames := 0, cells := 0, slots := 0, locals := 0 } : Room).cells ({ frames := 0, cells := 0, slots := 0, locals := 0 } : Room).slots) := by
  refine MetFree.of_bodySF (plainFor_of_name own_pn0) hisR ?_
  intro p e s m args below meth c s₁ Bd hml0 hP hK
  obtain ⟨rfl, hZ, hh⟩ := hP
  have hx := Bd.exec
  have hby := Bd.bytes
  have hml : c.maxLocals = 2 := hml0
  have hown : s.vm.findClass "java/lang/StringUTF16" = some m.cls := findClass_of_methodNamed Bd.named
  have hnm := (name_of_methodNamed Bd.named Bd.method).1
  have hlk : meth.locks = false := Bd.notSynchronized
  have X0 : Stand p l e ({ frames := 0, cells := 0, slots := 0, locals := 0 } : Room) s m #[(.ref b), (.int i)] below meth c s₁ [] 0 0 := Stand.of_body Bd
  have e0 : s₁.heap = h0 := by rw [← hh, Bd.state]; rfl
  have N0 := Fr.nil n0
  show own_Go p e below s (own_Q_getc Z x0 x1 h0 n0) ({ frames := 0, cells := 0, slots := 0, locals := 0 } : Room).cells ({ frames := 0, cells := 0, slots := 0, locals := 0 } : Room).slots (s₁.setTop (entryFrame m #[(.ref b), (.int i)] 2))
  refine own_st (fun t9 k9 => castTop (own_ef_getc m b i) k9) ?_
  show own_Go p e below s _ _ _ (s₁.setTop (mkF m 0 #[.val (.ref b), .val (.int i)] []))
  obtain ⟨T6, X6, e6, st6⟩ := getS (host := "") X0 hx hZ hown (hw _ (List.mem_of_getElem? (i := 66) rfl)) Via.refl e0 (OA.ext Od.2) (g := (mkF m 0 #[.val (.ref b), .val (.int i)] [])) rfl (hb hby own_d_jdk_52_method_5_0)
  refine own_st st6 ?_
  show own_Go p e below s _ _ _ (T6.setTop (mkF m 3 #[.val (.ref b), .val (.int i)] [(.int (1 : Int32))]))
  refine own_st (fun t9 k9 => XS.ifYes X6.here hx rfl (pc0 := 3) (pc' := 28) rfl (hb hby own_d_jdk_52_method_5_3) rfl (by decide) (by decide) (by decide) k9) ?_
  show own_Go p e below s _ _ _ (T6.setTop (mkF m 28 #[.val (.ref b), .val (.int i)] []))
  refine own_st (fun t9 k9 => XS.iloadN X6.here hx rfl (hb hby own_d_jdk_52_method_5_28) rfl  k9) ?_
  show own_Go p e below s _ _ _ (T6.setTop (mkF m 29 #[.val (.ref b), .val (.int i)] [(.int i)]))
  refine own_st (fun t9 k9 => XS.iconst X6.here hx rfl (hb hby own_d_jdk_52_method_5_29) k9) ?_
  show own_Go p e below s _ _ _ (T6.setTop (mkF m 30 #[.val (.ref b), .val (.int i)] [(.int (1 : Int32)), (.int i)]))
  refine own_st (fun t9 k9 => XT.ishl X6.here hx rfl (hb hby own_d_jdk_52_method_5_30) rfl k9) ?_
  show own_Go p e below s _ _ _ (T6.setTop (mkF m 31 #[.val (.ref b), .val (.int i)] [(.int (i <<< ((1 : Int32) &&& 31)))]))
  refine own_st (fun t9 k9 => XS.istoreN X6.here hx rfl (hb hby own_d_jdk_52_method_5_31) rfl (l' := #[.val (.ref b), .val (.int (i <<< ((1 : Int32) &&& 31)))]) rfl k9) ?_
  show own_Go p e below s _ _ _ (T6.setTop (mkF m 32 #[.val (.ref b), .val (.int (i <<< ((1 : Int32) &&& 31)))] []))
  refine own_st (fun t9 k9 => XS.aloadN X6.here hx rfl (hb hby own_d_jdk_52_method_5_32) rfl rfl k9) ?_
  show own_Go p e below s _ _ _ (T6.setTop (mkF m 33 #[.val (.ref b), .val (.int (i <<< ((1 : Int32) &&& 31)))] [(.ref b)]))
  refine own_st (fun t9 k9 => XS.iloadN X6.here hx rfl (hb hby own_d_jdk_52_method_5_33) rfl  k9) ?_
  show own_Go p e below s _ _ _ (T6.setTop (mkF m 34 #[.val (.ref b), .val (.int (i <<< ((1 : Int32) &&& 31)))] [(.int (i <<< ((1 : Int32) &&& 31))), (.ref b)]))
  refine own_st (fun t9 k9 => XS.iinc X6.here hx rfl (hb hby own_d_jdk_52_method_5_34) rfl (l' := #[.val (.ref b), .val (.int ((i <<< ((1 : Int32) &&& 31)) + (1 : Int32)))]) rfl k9) ?_
  show own_Go p e below s _ _ _ (T6.setTop (mkF m 37 #[.val (.ref b), .val (.int ((i <<< ((1 : Int32) &&& 31)) + (1 : Int32)))] [(.int (i <<< ((1 : Int32) &&& 31))), (.ref b)]))
  refine own_st (fun t9 k9 => own_bald X6 hx hZ e6 A (j := (i <<< ((1 : Int32) &&& 31))) (v := (.int x0)) b0 q0 (g := (mkF m 37 #[.val (.ref b), .val (.int ((i <<< ((1 : Int32) &&& 31)) + (1 : Int32)))] [(.int (i <<< ((1 : Int32) &&& 31))), (.ref b)])) rfl rfl (hb hby own_d_jdk_52_method_5_37) t9 k9) ?_
  show own_Go p e below s _ _ _ (T6.setTop (mkF m 38 #[.val (.ref b), .val (.int ((i <<< ((1 : Int32) &&& 31)) + (1 : Int32)))] [(.int x0)]))
  refine own_st (fun t9 k9 => XS.sipush X6.here hx rfl (hb hby own_d_jdk_52_method_5_38) k9) ?_
  show own_Go p e below s _ _ _ (T6.setTop (mkF m 41 #[.val (.ref b), .val (.int ((i <<< ((1 : Int32) &&& 31)) + (1 : Int32)))] [(.int (255 : Int32)), (.int x0)]))
  refine own_st (fun t9 k9 => XS.iand X6.here hx rfl (hb hby own_d_jdk_52_method_5_41) rfl k9) ?_
  show own_Go p e below s _ _ _ (T6.setTop (mkF m 42 #[.val (.ref b), .val (.int ((i <<< ((1 : Int32) &&& 31)) + (1 : Int32)))] [(.int (x0 &&& (255 : Int32)))]))
  obtain ⟨T7, X7, e7, st7⟩ := getS (host := "") X6 hx hZ hown (hw _ (List.mem_of_getElem? (i := 67) rfl)) Via.refl e6 (OH.ext Od.2) (g := (mkF m 42 #[.val (.ref b), .val (.int ((i <<< ((1 : Int32) &&& 31)) + (1 : Int32)))] [(.int (x0 &&& (255 : Int32)))])) rfl (hb hby own_d_jdk_52_method_5_42)
  refine own_st st7 ?_
  show own_Go p e below s _ _ _ (T7.setTop (mkF m 45 #[.val (.ref b), .val (.int ((i <<< ((1 : Int32) &&& 31)) + (1 : Int32)))] [(.int (0 : Int32)), (.int (x0 &&& (255 : Int32)))]))
  refine own_st (fun t9 k9 => XT.ishl X7.here hx rfl (hb hby own_d_jdk_52_method_5_45) rfl k9) ?_
  show own_Go p e below s _ _ _ (T7.setTop (mkF m 46 #[.val (.ref b), .val (.int ((i <<< ((1 : Int32) &&& 31)) + (1 : Int32)))] [(.int ((x0 &&& (255 : Int32)) <<< ((0 : Int32) &&& 31)))]))
  refine own_st (fun t9 k9 => XS.aloadN X7.here hx rfl (hb hby own_d_jdk_52_method_5_46) rfl rfl k9) ?_
  show own_Go p e below s _ _ _ (T7.setTop (mkF m 47 #[.val (.ref b), .val (.int ((i <<< ((1 : Int32) &&& 31)) + (1 : Int32)))] [(.ref b), (.int ((x0 &&& (255 : Int32)) <<< ((0 : Int32) &&& 31)))]))
  refine own_st (fun t9 k9 => XS.iloadN X7.here hx rfl (hb hby own_d_jdk_52_method_5_47) rfl  k9) ?_
  show own_Go p e below s _ _ _ (T7.setTop (mkF m 48 #[.val (.ref b), .val (.int ((i <<< ((1 : Int32) &&& 31)) + (1 : Int32)))] [(.int ((i <<< ((1 : Int32) &&& 31)) + (1 : Int32))), (.ref b), (.int ((x0 &&& (255 : Int32)) <<< ((0 : Int32) &&& 31)))]))
  refine own_st (fun t9 k9 => own_bald X7 hx hZ e7 A (j := ((i <<< ((1 : Int32) &&& 31)) + (1 : Int32))) (v := (.int x1)) b1 q1 (g := (mkF m 48 #[.val (.ref b), .val (.int ((i <<< ((1 : Int32) &&& 31)) + (1 : Int32)))] [(.int ((i <<< ((1 : Int32) &&& 31)) + (1 : Int32))), (.ref b), (.int ((x0 &&& (255 : Int32)) <<< ((0 : Int32) &&& 31)))])) rfl rfl (hb hby own_d_jdk_52_method_5_48) t9 k9) ?_
  show own_Go p e below s _ _ _ (T7.setTop (mkF m 49 #[.val (.ref b), .val (.int ((i <<< ((1 : Int32) &&& 31)) + (1 : Int32)))] [(.int x1), (.int ((x0 &&& (255 : Int32)) <<< ((0 : Int32) &&& 31)))]))
  refine own_st (fun t9 k9 => XS.sipush X7.here hx rfl (hb hby own_d_jdk_52_method_5_49) k9) ?_
  show own_Go p e below s _ _ _ (T7.setTop (mkF m 52 #[.val (.ref b), .val (.int ((i <<< ((1 : Int32) &&& 31)) + (1 : Int32)))] [(.int (255 : Int32)), (.int x1), (.int ((x0 &&& (255 : Int32)) <<< ((0 : Int32) &&& 31)))]))
  refine own_st (fun t9 k9 => XS.iand X7.here hx rfl (hb hby own_d_jdk_52_method_5_52) rfl k9) ?_
  show own_Go p e below s _ _ _ (T7.setTop (mkF m 53 #[.val (.ref b), .val (.int ((i <<< ((1 : Int32) &&& 31)) + (1 : Int32)))] [(.int (x1 &&& (255 : Int32))), (.int ((x0 &&& (255 : Int32)) <<< ((0 : Int32) &&& 31)))]))
  obtain ⟨T8, X8, e8, st8⟩ := getS (host := "") X7 hx hZ hown (hw _ (List.mem_of_getElem? (i := 68) rfl)) Via.refl e7 (OL.ext Od.2) (g := (mkF m 53 #[.val (.ref b), .val (.int ((i <<< ((1 : Int32) &&& 31)) + (1 : Int32)))] [(.int (x1 &&& (255 : Int32))), (.int ((x0 &&& (255 : Int32)) <<< ((0 : Int32) &&& 31)))])) rfl (hb hby own_d_jdk_52_method_5_53)
  refine own_st st8 ?_
  show own_Go p e below s _ _ _ (T8.setTop (mkF m 56 #[.val (.ref b), .val (.int ((i <<< ((1 : Int32) &&& 31)) + (1 : Int32)))] [(.int (8 : Int32)), (.int (x1 &&& (255 : Int32))), (.int ((x0 &&& (255 : Int32)) <<< ((0 : Int32) &&& 31)))]))
  refine own_st (fun t9 k9 => XT.ishl X8.here hx rfl (hb hby own_d_jdk_52_method_5_56) rfl k9) ?_
  show own_Go p e below s _ _ _ (T8.setTop (mkF m 57 #[.val (.ref b), .val (.int ((i <<< ((1 : Int32) &&& 31)) + (1 : Int32)))] [(.int ((x1 &&& (255 : Int32)) <<< ((8 : Int32) &&& 31))), (.int ((x0 &&& (255 : Int32)) <<< ((0 : Int32) &&& 31)))]))
  refine own_st (fun t9 k9 => XT.ior X8.here hx rfl (hb hby own_d_jdk_52_method_5_57) rfl k9) ?_
  show own_Go p e below s _ _ _ (T8.setTop (mkF m 58 #[.val (.ref b), .val (.int ((i <<< ((1 : Int32) &&& 31)) + (1 : Int32)))] [(.int (((x0 &&& (255 : Int32)) <<< ((0 : Int32) &&& 31)) ||| ((x1 &&& (255 : Int32)) <<< ((8 : Int32) &&& 31))))]))
  refine own_st (fun t9 k9 => XT.i2c X8.here hx rfl (hb hby own_d_jdk_52_method_5_58) rfl k9) ?_
  show own_Go p e below s _ _ _ (T8.setTop (mkF m 59 #[.val (.ref b), .val (.int ((i <<< ((1 : Int32) &&& 31)) + (1 : Int32)))] [(.int ((((x0 &&& (255 : Int32)) <<< ((0 : Int32) &&& 31)) ||| ((x1 &&& (255 : Int32)) <<< ((8 : Int32) &&& 31))).toUInt32.toUInt16.toUInt32.toInt32))]))
  exact own_retN X8 hx hlk (t := .char) Bd.returns (by simp) (hb hby own_d_jdk_52_method_5_59) (by decide) (by decide) (by rw [e8]; exact ⟨rfl, N0, rfl⟩)
theorem own_d_jdk_52_method_2_0 : decode jdk_52_method_2_code 0 = .ok (.iload_n 0, 1) := by decide +kernel
theorem own_pd0 : parseMethodDescriptor "(I)I" = some ⟨[.int], some .int⟩ := by decide +kernel
theorem own_d_jdk_52_method_2_1 : decode jdk_52_method_2_code 1 = .ok (.invokestatic 11, 3) := by decide +kernel
theorem own_d_jdk_52_method_2_4 : decode jdk_52_method_2_code 4 = .ok (.newarray .byte, 2) := by decide +kernel
theorem own_d_jdk_52_method_2_6 : decode jdk_52_method_2_code 6 = .ok (.areturn, 1) := by decide +kernel
theorem own_ef_nbf1 (m : MethodId) (x0 : Int32) : entryFrame m #[(.int x0)] 1 = mkF m 0 #[.val (.int x0)] [] := by first | (simp [entryFrame, mkF, argsToLocals, Value.category]; done) | rfl
def own_Q_nbf1 (Z : State)  (h0 : Heap) (n0 : Nat) (v : Option Value) (h : Heap) (L : List Loc) : Prop := Fr n0 L ∧ Keep h0 h [] ∧ ∃ a k, v = some (.ref a) ∧ h0.size ≤ a ∧ Arv Z h a k .byte (2 : Int32) [(.int (0 : Int32)), (.int (0 : Int32))] (.int (0 : Int32))
set_option maxRecDepth 65536 in
set_option maxHeartbeats 40000000 in
theorem own_rm_nbf1 (l : Launch) (Z : State) (a0 : Array Value) (hw : ∀ d ∈ tables_1, d.before a0 Z = true) (ws : List Jvm.Cond)  (h0 : Heap) (n0 : Nat) (Od : Old Z n0 h0) :
    MetFree l (⟨"java/lang/StringUTF16", "newBytesFor", "(I)[B"⟩ : MethodName) (head1 (Jvm.Cond.code (⟨"java/lang/StringUTF16", "newBytesFor", "(I)[B"⟩ : MethodName) jdk_52_method_2_code 1 (some (.array .byte)) :: ws) ({ frames := 1, cells := 1, slots := 2, locals := 12 } : Room)) (fun a9 U => a9 = #[(.int (1 : Int32))] ∧ Z.Warmed39 U.vm ∧ U.heap = h0) (fun _ _ _ _ _ => True) (fun _ U o U' => ∃ v L, o = .returned v ∧ own_Q_nbf1 Z  h0 n0 v U'.heap L ∧ FrameEnd U o U' L ({ frames := 1, cells := 1, slots := 2, locals := 12 } : Room).cells ({ frames := 1, cells := 1, slots := 2, locals := 12 } : Room).slots) := by
  refine MetFree.of_bodySF (plainFor_of_name own_pn0) hisR ?_
  intro p e s m args below meth c s₁ Bd hml0 hP hK
  obtain ⟨rfl, hZ, hh⟩ := hP
  have hx := Bd.exec
  have hby := Bd.bytes
  have hml : c.maxLocals = 1 := hml0
  have hown : s.vm.findClass "java/lang/StringUTF16" = some m.cls := findClass_of_methodNamed Bd.named
  have hnm := (name_of_methodNamed Bd.named Bd.method).1
  have hlk : meth.locks = false := Bd.notSynchronized
  have X0 : Stand p l e ({ frames := 1, cells := 1, slots := 2, locals := 12 } : Room) s m #[(.int (1 : Int32))] below meth c s₁ [] 0 0 := Stand.of_body Bd
  have e0 : s₁.heap = h0 := by rw [← hh, Bd.state]; rfl
  have N0 := Fr.nil n0
  show own_Go p e below s (own_Q_nbf1 Z  h0 n0) ({ frames := 1, cells := 1, slots := 2, locals := 12 } : Room).cells ({ frames := 1, cells := 1, slots := 2, locals := 12 } : Room).slots (s₁.setTop (entryFrame m #[(.int (1 : Int32))] 1))
  refine own_st (fun t9 k9 => castTop (own_ef_nbf1 m (1 : Int32)) k9) ?_
  show own_Go p e below s _ _ _ (s₁.setTop (mkF m 0 #[.val (.int (1 : Int32))] []))
  have Kp : Keep h0 h0 [] := Keep.refl h0 []
  refine own_st (fun t9 k9 => XS.iloadN X0.here hx rfl (hb hby own_d_jdk_52_method_2_0) rfl  k9) ?_
  show own_Go p e below s _ _ _ (s₁.setTop (mkF m 1 #[.val (.int (1 : Int32))] [(.int (1 : Int32))]))
  obtain ⟨_, T9, h9, L9, X9, e9, ⟨rfl, Nc, hu⟩, st9⟩ := own_callS X0 hx hZ hown (hw _ (List.mem_of_getElem? (i := 59) rfl)) (hw _ (List.mem_of_getElem? (i := 60) rfl)) (hw _ (List.mem_of_getElem? (i := 21) rfl)) (hw _ (List.mem_of_getElem? (i := 61) rfl)) (by decide) (own_rm_nbl l Z a0 hw [] (1 : Int32) h0 n0 Od (by decide) (by decide)) (by decide) (by decide) e0 (W := 0) (g := (mkF m 1 #[.val (.int (1 : Int32))] [(.int (1 : Int32))])) rfl (by rw [hml]; rfl) (argsL := [(.int (1 : Int32))]) (rest := []) rfl (lenOf own_pd0 rfl) rfl (by show 2 * 0 + _ ≤ _; exact Nat.le_of_eq rfl) (hb hby own_d_jdk_52_method_2_1) (by decide) (by decide)
  have N9 := Fr.app N0 Nc
  refine own_st st9 ?_
  show own_Go p e below s _ _ _ (T9.setTop (mkF m 4 #[.val (.int (1 : Int32))] [(.int ((1 : Int32) <<< ((1 : Int32) &&& 31)))]))
  show own_Go p e below s _ _ _ (T9.setTop (mkF m 4 #[.val (.int (1 : Int32))] [(.int (2 : Int32))]))
  obtain ⟨T10, h10, k10, X10, e10, E10, A10, st10⟩ := newP X9 hx hZ (hw _ (List.mem_of_getElem? (i := 23) rfl)) (e9.trans hu) (g := (mkF m 4 #[.val (.int (1 : Int32))] [(.int (2 : Int32))])) rfl (hb hby own_d_jdk_52_method_2_4) rfl (by decide) (cap := 2) (by decide) (by decide) (by decide) (by decide)
  obtain ⟨a, g10⟩ : ∃ z, z = h0.size := ⟨_, rfl⟩
  rw [← g10] at A10 st10
  have ge_a : n0 ≤ a := Nat.le_trans (own_z0 Od) (Nat.le_of_eq g10.symm)
  have gz_a : h0.size ≤ a := Nat.le_trans Kp.1 (Nat.le_of_eq g10.symm)
  have Od := Od.ext E10
  have Kp := Kp.ext E10
  refine own_st st10 ?_
  show own_Go p e below s _ _ _ (T10.setTop (mkF m 6 #[.val (.int (1 : Int32))] [(.ref a)]))
  have V_a : Arv Z h10 a k10 .byte (2 : Int32) [(.int (0 : Int32)), (.int (0 : Int32))] (.int (0 : Int32)) := (Arv.new A10 (by decide)).pad (pad_rep [] (.int (0 : Int32)) 2)
  exact own_retR X10 hx hlk Bd.returns rfl rfl (hb hby own_d_jdk_52_method_2_6) (by decide) (by decide) (by rw [e10]; exact ⟨N9, Kp, a, _, rfl, gz_a, V_a⟩)
theorem own_d_jdk_52_method_14_0 : decode jdk_52_method_14_code 0 = .ok (.iload_n 2, 1) := by decide +kernel
theorem own_pd1 : parseMethodDescriptor "(I)[B" = some ⟨[.int], some (.array .byte)⟩ := by decide +kernel
theorem own_d_jdk_52_method_14_1 : decode jdk_52_method_14_code 1 = .ok (.invokestatic 107, 3) := by decide +kernel
theorem own_d_jdk_52_method_14_4 : decode jdk_52_method_14_code 4 = .ok (.astore_n 3, 1) := by decide +kernel
theorem own_d_jdk_52_method_14_5 : decode jdk_52_method_14_code 5 = .ok (.iconst 0, 1) := by decide +kernel
theorem own_d_jdk_52_method_14_6 : decode jdk_52_method_14_code 6 = .ok (.istore 4, 2) := by decide +kernel
theorem own_d_jdk_52_method_14_8 : decode jdk_52_method_14_code 8 = .ok (.iload 4, 2) := by decide +kernel
theorem own_d_jdk_52_method_14_10 : decode jdk_52_method_14_code 10 = .ok (.iload_n 2, 1) := by decide +kernel
theorem own_d_jdk_52_method_14_11 : decode jdk_52_method_14_code 11 = .ok (.if_icmp .ge 21, 3) := by decide +kernel
theorem own_d_jdk_52_method_14_14 : decode jdk_52_method_14_code 14 = .ok (.aload_n 3, 1) := by decide +kernel
theorem own_d_jdk_52_method_14_15 : decode jdk_52_method_14_code 15 = .ok (.iload 4, 2) := by decide +kernel
theorem own_d_jdk_52_method_14_17 : decode jdk_52_method_14_code 17 = .ok (.aload_n 0, 1) := by decide +kernel
theorem own_d_jdk_52_method_14_18 : decode jdk_52_method_14_code 18 = .ok (.iload_n 1, 1) := by decide +kernel
theorem own_d_jdk_52_method_14_19 : decode jdk_52_method_14_code 19 = .ok (.caload, 1) := by decide +kernel
theorem own_pd2 : parseMethodDescriptor "([BII)V" = some ⟨[(.array .byte), .int, .int], none⟩ := by decide +kernel
theorem own_d_jdk_52_method_14_20 : decode jdk_52_method_14_code 20 = .ok (.invokestatic 111, 3) := by decide +kernel
theorem own_d_jdk_52_method_14_23 : decode jdk_52_method_14_code 23 = .ok (.iinc 1 1, 3) := by decide +kernel
theorem own_d_jdk_52_method_14_26 : decode jdk_52_method_14_code 26 = .ok (.iinc 4 1, 3) := by decide +kernel
theorem own_d_jdk_52_method_14_29 : decode jdk_52_method_14_code 29 = .ok (.goto (-21), 3) := by decide +kernel
theorem own_d_jdk_52_method_14_32 : decode jdk_52_method_14_code 32 = .ok (.aload_n 3, 1) := by decide +kernel
theorem own_d_jdk_52_method_14_33 : decode jdk_52_method_14_code 33 = .ok (.areturn, 1) := by decide +kernel
theorem own_ef_tob1 (m : MethodId) (x0 : Addr) (x1 : Int32) (x2 : Int32) : entryFrame m #[(.ref x0), (.int x1), (.int x2)] 5 = mkF m 0 #[.val (.ref x0), .val (.int x1), .val (.int x2), .unset, .unset] [] := by first | (simp [entryFrame, mkF, argsToLocals, Value.category]; done) | rfl
def own_Q_tob1 (Z : State) (x0 : Int32) (h0 : Heap) (n0 : Nat) (v : Option Value) (h : Heap) (L : List Loc) : Prop := Fr n0 L ∧ Keep h0 h [] ∧ ∃ a k, v = some (.ref a) ∧ h0.size ≤ a ∧ Arv Z h a k .byte (2 : Int32) [(.int (StrChars.lo8 x0)), (.int (StrChars.hi8 x0))] (.int (0 : Int32))
set_option maxRecDepth 65536 in
set_option maxHeartbeats 40000000 in
theorem own_rm_tob1 (l : Launch) (Z : State) (a0 : Array Value) (hw : ∀ d ∈ tables_1, d.before a0 Z = true) (ws : List Jvm.Cond) (sr : Addr) (ks : ClassId) (x0 : Int32) (h0 : Heap) (n0 : Nat) (Od : Old Z n0 h0) (V_s : Arv Z h0 sr ks .char (1 : Int32) [(.int x0)] (.int (0 : Int32))) (OA : Sta Z Z.heap "java/lang/StringUTF16" "$assertionsDisabled" "Z" (.int (1 : Int32))) (OH : Sta Z Z.heap "java/lang/StringUTF16" "HI_BYTE_SHIFT" "I" (.int (0 : Int32))) (OL : Sta Z Z.heap "java/lang/StringUTF16" "LO_BYTE_SHIFT" "I" (.int (8 : Int32))) :
    MetFree l (⟨"java/lang/StringUTF16", "toBytes", "([CII)[B"⟩ : MethodName) (head1 (Jvm.Cond.code (⟨"java/lang/StringUTF16", "toBytes", "([CII)[B"⟩ : MethodName) jdk_52_method_14_code 5 (some (.array .byte)) :: ws) ({ frames := 2, cells := 1, slots := 2, locals := 24 } : Room)) (fun a9 U => a9 = #[(.ref sr), (.int (0 : Int32)), (.int (1 : Int32))] ∧ Z.Warmed39 U.vm ∧ U.heap = h0) (fun _ _ _ _ _ => True) (fun _ U o U' => ∃ v L, o = .returned v ∧ own_Q_tob1 Z x0 h0 n0 v U'.heap L ∧ FrameEnd U o U' L ({ frames := 2, cells := 1, slots := 2, locals := 24 } : Room).cells ({ frames := 2, cells := 1, slots := 2, locals := 24 } : Room).slots) := by
  refine MetFree.of_bodySF (plainFor_of_name own_pn0) hisR ?_
  intro p e s m args below meth c s₁ Bd hml0 hP hK
  obtain ⟨rfl, hZ, hh⟩ := hP
  have hx := Bd.exec
  have hby := Bd.bytes
  have hml : c.maxLocals = 5 := hml0
  have hown : s.vm.findClass "java/lang/StringUTF16" = some m.cls := findClass_of_methodNamed Bd.named
  have hnm := (name_of_methodNamed Bd.named Bd.method).1
  have hlk : meth.locks = false := Bd.notSynchronized
  have X0 : Stand p l e ({ frames := 2, cells := 1, slots := 2, locals := 24 } : Room) s m #[(.ref sr), (.int (0 : Int32)), (.int (1 : Int32))] below meth c s₁ [] 0 0 := Stand.of_body Bd
  have e0 : s₁.heap = h0 := by rw [← hh, Bd.state]; rfl
  have N0 := Fr.nil n0
  show own_Go p e below s (own_Q_tob1 Z x0 h0 n0) ({ frames := 2, cells := 1, slots := 2, locals := 24 } : Room).cells ({ frames := 2, cells := 1, slots := 2, locals := 24 } : Room).slots (s₁.setTop (entryFrame m #[(.ref sr), (.int (0 : Int32)), (.int (1 : Int32))] 5))
  refine own_st (fun t9 k9 => castTop (own_ef_tob1 m sr (0 : Int32) (1 : Int32)) k9) ?_
  show own_Go p e below s _ _ _ (s₁.setTop (mkF m 0 #[.val (.ref sr), .val (.int (0 : Int32)), .val (.int (1 : Int32)), .unset, .unset] []))
  have Kp : Keep h0 h0 [] := Keep.refl h0 []
  refine own_st (fun t9 k9 => XS.iloadN X0.here hx rfl (hb hby own_d_jdk_52_method_14_0) rfl  k9) ?_
  show own_Go p e below s _ _ _ (s₁.setTop (mkF m 1 #[.val (.ref sr), .val (.int (0 : Int32)), .val (.int (1 : Int32)), .unset, .unset] [(.int (1 : Int32))]))
  obtain ⟨_, T11, h11, L11, X11, e11, ⟨Nc, Kc, a, ka, rfl, gea, V_a⟩, st11⟩ := own_callS X0 hx hZ hown (hw _ (List.mem_of_getElem? (i := 56) rfl)) (hw _ (List.mem_of_getElem? (i := 57) rfl)) (hw _ (List.mem_of_getElem? (i := 21) rfl)) (hw _ (List.mem_of_getElem? (i := 58) rfl)) (by decide) (own_rm_nbf1 l Z a0 hw [] h0 n0 Od) (by decide) (by decide) e0 (W := 0) (g := (mkF m 1 #[.val (.ref sr), .val (.int (0 : Int32)), .val (.int (1 : Int32)), .unset, .unset] [(.int (1 : Int32))])) rfl (by rw [hml]; rfl) (argsL := [(.int (1 : Int32))]) (rest := []) rfl (lenOf own_pd1 rfl) rfl (by show 2 * 0 + _ ≤ _; exact Nat.le_of_eq rfl) (hb hby own_d_jdk_52_method_14_1) (by decide) (by decide)
  have N11 := Fr.app N0 Nc
  have ne_sr_a : sr ≠ a := Nat.ne_of_lt (Nat.lt_of_lt_of_le V_s.lt gea)
  have ge_a : n0 ≤ a := Nat.le_trans (own_z0 Od) gea
  have gz_a : h0.size ≤ a := Nat.le_trans Kp.1 gea
  have V_s := V_s.keep Kc nin0
  have Od := Od.keep Kc all0
  have Kp := Kp.trans Kc all0
  refine own_st st11 ?_
  show own_Go p e below s _ _ _ (T11.setTop (mkF m 4 #[.val (.ref sr), .val (.int (0 : Int32)), .val (.int (1 : Int32)), .unset, .unset] [(.ref a)]))
  refine own_st (fun t9 k9 => XS.astoreN X11.here hx rfl (hb hby own_d_jdk_52_method_14_4) rfl rfl (l' := #[.val (.ref sr), .val (.int (0 : Int32)), .val (.int (1 : Int32)), .val (.ref a), .unset]) rfl k9) ?_
  show own_Go p e below s _ _ _ (T11.setTop (mkF m 5 #[.val (.ref sr), .val (.int (0 : Int32)), .val (.int (1 : Int32)), .val (.ref a), .unset] []))
  refine own_st (fun t9 k9 => XS.iconst X11.here hx rfl (hb hby own_d_jdk_52_method_14_5) k9) ?_
  show own_Go p e below s _ _ _ (T11.setTop (mkF m 6 #[.val (.ref sr), .val (.int (0 : Int32)), .val (.int (1 : Int32)), .val (.ref a), .unset] [(.int (0 : Int32))]))
  refine own_st (fun t9 k9 => XS.istore X11.here hx rfl (hb hby own_d_jdk_52_method_14_6) rfl (l' := #[.val (.ref sr), .val (.int (0 : Int32)), .val (.int (1 : Int32)), .val (.ref a), .val (.int (0 : Int32))]) rfl k9) ?_
  show own_Go p e below s _ _ _ (T11.setTop (mkF m 8 #[.val (.ref sr), .val (.int (0 : Int32)), .val (.int (1 : Int32)), .val (.ref a), .val (.int (0 : Int32))] []))
  refine own_st (fun t9 k9 => XS.iload X11.here hx rfl (hb hby own_d_jdk_52_method_14_8) rfl  k9) ?_
  show own_Go p e below s _ _ _ (T11.setTop (mkF m 10 #[.val (.ref sr), .val (.int (0 : Int32)), .val (.int (1 : Int32)), .val (.ref a), .val (.int (0 : Int32))] [(.int (0 : Int32))]))
  refine own_st (fun t9 k9 => XS.iloadN X11.here hx rfl (hb hby own_d_jdk_52_method_14_10) rfl  k9) ?_
  show own_Go p e below s _ _ _ (T11.setTop (mkF m 11 #[.val (.ref sr), .val (.int (0 : Int32)), .val (.int (1 : Int32)), .val (.ref a), .val (.int (0 : Int32))] [(.int (1 : Int32)), (.int (0 : Int32))]))
  refine own_st (fun t9 k9 => XS.icmpNo X11.here hx rfl (hb hby own_d_jdk_52_method_14_11) rfl (by decide) k9) ?_
  show own_Go p e below s _ _ _ (T11.setTop (mkF m 14 #[.val (.ref sr), .val (.int (0 : Int32)), .val (.int (1 : Int32)), .val (.ref a), .val (.int (0 : Int32))] []))
  refine own_st (fun t9 k9 => XS.aloadN X11.here hx rfl (hb hby own_d_jdk_52_method_14_14) rfl rfl k9) ?_
  show own_Go p e below s _ _ _ (T11.setTop (mkF m 15 #[.val (.ref sr), .val (.int (0 : Int32)), .val (.int (1 : Int32)), .val (.ref a), .val (.int (0 : Int32))] [(.ref a)]))
  refine own_st (fun t9 k9 => XS.iload X11.here hx rfl (hb hby own_d_jdk_52_method_14_15) rfl  k9) ?_
  show own_Go p e below s _ _ _ (T11.setTop (mkF m 17 #[.val (.ref sr), .val (.int (0 : Int32)), .val (.int (1 : Int32)), .val (.ref a), .val (.int (0 : Int32))] [(.int (0 : Int32)), (.ref a)]))
  refine own_st (fun t9 k9 => XS.aloadN X11.here hx rfl (hb hby own_d_jdk_52_method_14_17) rfl rfl k9) ?_
  show own_Go p e below s _ _ _ (T11.setTop (mkF m 18 #[.val (.ref sr), .val (.int (0 : Int32)), .val (.int (1 : Int32)), .val (.ref a), .val (.int (0 : Int32))] [(.ref sr), (.int (0 : Int32)), (.ref a)]))
  refine own_st (fun t9 k9 => XS.iloadN X11.here hx rfl (hb hby own_d_jdk_52_method_14_18) rfl  k9) ?_
  show own_Go p e below s _ _ _ (T11.setTop (mkF m 19 #[.val (.ref sr), .val (.int (0 : Int32)), .val (.int (1 : Int32)), .val (.ref a), .val (.int (0 : Int32))] [(.int (0 : Int32)), (.ref sr), (.int (0 : Int32)), (.ref a)]))
  refine own_st (fun t9 k9 => own_cald X11 hx hZ e11 V_s (j := (0 : Int32)) (v := (.int x0)) ⟨by decide, by decide⟩ rfl (g := (mkF m 19 #[.val (.ref sr), .val (.int (0 : Int32)), .val (.int (1 : Int32)), .val (.ref a), .val (.int (0 : Int32))] [(.int (0 : Int32)), (.ref sr), (.int (0 : Int32)), (.ref a)])) rfl rfl (hb hby own_d_jdk_52_method_14_19) t9 k9) ?_
  show own_Go p e below s _ _ _ (T11.setTop (mkF m 20 #[.val (.ref sr), .val (.int (0 : Int32)), .val (.int (1 : Int32)), .val (.ref a), .val (.int (0 : Int32))] [(.int x0), (.int (0 : Int32)), (.ref a)]))
  obtain ⟨cl, A1, A2, A3, A4, A5, A6⟩ := id V_a
  obtain ⟨_, T12, h12, L12, X12, e12, ⟨rfl, Nc, h1, W1, W2⟩, st12⟩ := own_callS X11 hx hZ hown (hw _ (List.mem_of_getElem? (i := 63) rfl)) (hw _ (List.mem_of_getElem? (i := 64) rfl)) (hw _ (List.mem_of_getElem? (i := 21) rfl)) (hw _ (List.mem_of_getElem? (i := 65) rfl)) (by decide) (own_rm_putc l Z a0 hw [] a (0 : Int32) x0 cl h11 n0 Od A1 ge_a (inb_of A3 ⟨by decide, by decide⟩) (inb_of A3 ⟨by decide, by decide⟩) OA OH OL) (by decide) (by decide) e11 (W := 0) (g := (mkF m 20 #[.val (.ref sr), .val (.int (0 : Int32)), .val (.int (1 : Int32)), .val (.ref a), .val (.int (0 : Int32))] [(.int x0), (.int (0 : Int32)), (.ref a)])) rfl (by rw [hml]; rfl) (argsL := [(.ref a), (.int (0 : Int32)), (.int x0)]) (rest := []) rfl (lenOf own_pd2 rfl) rfl (by show 2 * 0 + _ ≤ _; exact Nat.le_of_eq rfl) (hb hby own_d_jdk_52_method_14_20) (by decide) (by decide)
  have N12 := Fr.app N11 Nc
  have V_s := V_s.keep ((Keep.of_wr W1).trans (Keep.of_wr W2) (fun x hx => Or.inl hx)) (ninS ne_sr_a nin0)
  have Od := Od.keep ((Keep.of_wr W1).trans (Keep.of_wr W2) (fun x hx => Or.inl hx)) (allS ge_a all0)
  have Kp := Kp.trans ((Keep.of_wr W1).trans (Keep.of_wr W2) (fun x hx => Or.inl hx)) (allS (Or.inr gz_a) all0)
  refine own_st st12 ?_
  show own_Go p e below s _ _ _ (T12.setTop (mkF m 23 #[.val (.ref sr), .val (.int (0 : Int32)), .val (.int (1 : Int32)), .val (.ref a), .val (.int (0 : Int32))] []))
  have V_m : Arv Z h1 a ka .byte (2 : Int32) [(.int (StrChars.lo8 x0)), (.int (0 : Int32))] (.int (0 : Int32)) := Arv.set A1 A2 A3 A4 A5 A6 (fits_nar_byte _) W1 0 rfl (Nat.le_of_ble_eq_true rfl)
  obtain ⟨cm, B1, B2, B3, B4, B5, B6⟩ := id V_m
  have V_a : Arv Z h12 a ka .byte (2 : Int32) [(.int (StrChars.lo8 x0)), (.int (StrChars.hi8 x0))] (.int (0 : Int32)) := Arv.set B1 B2 B3 B4 B5 B6 (fits_nar_byte _) W2 1 rfl (Nat.le_of_ble_eq_true rfl)
  refine own_st (fun t9 k9 => XS.iinc X12.here hx rfl (hb hby own_d_jdk_52_method_14_23) rfl (l' := #[.val (.ref sr), .val (.int ((0 : Int32) + (1 : Int32))), .val (.int (1 : Int32)), .val (.ref a), .val (.int (0 : Int32))]) rfl k9) ?_
  show own_Go p e below s _ _ _ (T12.setTop (mkF m 26 #[.val (.ref sr), .val (.int ((0 : Int32) + (1 : Int32))), .val (.int (1 : Int32)), .val (.ref a), .val (.int (0 : Int32))] []))
  show own_Go p e below s _ _ _ (T12.setTop (mkF m 26 #[.val (.ref sr), .val (.int (1 : Int32)), .val (.int (1 : Int32)), .val (.ref a), .val (.int (0 : Int32))] []))
  refine own_st (fun t9 k9 => XS.iinc X12.here hx rfl (hb hby own_d_jdk_52_method_14_26) rfl (l' := #[.val (.ref sr), .val (.int (1 : Int32)), .val (.int (1 : Int32)), .val (.ref a), .val (.int ((0 : Int32) + (1 : Int32)))]) rfl k9) ?_
  show own_Go p e below s _ _ _ (T12.setTop (mkF m 29 #[.val (.ref sr), .val (.int (1 : Int32)), .val (.int (1 : Int32)), .val (.ref a), .val (.int ((0 : Int32) + (1 : Int32)))] []))
  show own_Go p e below s _ _ _ (T12.setTop (mkF m 29 #[.val (.ref sr), .val (.int (1 : Int32)), .val (.int (1 : Int32)), .val (.ref a), .val (.int (1 : Int32))] []))
  refine own_st (fun t9 k9 => XS.goto X12.here hx rfl (pc0 := 29) (pc' := 8) rfl (hb hby own_d_jdk_52_method_14_29) (by decide) (by decide) k9) ?_
  show own_Go p e below s _ _ _ (T12.setTop (mkF m 8 #[.val (.ref sr), .val (.int (1 : Int32)), .val (.int (1 : Int32)), .val (.ref a), .val (.int (1 : Int32))] []))
  refine own_st (fun t9 k9 => XS.iload X12.here hx rfl (hb hby own_d_jdk_52_method_14_8) rfl  k9) ?_
  show own_Go p e below s _ _ _ (T12.setTop (mkF m 10 #[.val (.ref sr), .val (.int (1 : Int32)), .val (.int (1 : Int32)), .val (.ref a), .val (.int (1 : Int32))] [(.int (1 : Int32))]))
  refine own_st (fun t9 k9 => XS.iloadN X12.here hx rfl (hb hby own_d_jdk_52_method_14_10) rfl  k9) ?_
  show own_Go p e below s _ _ _ (T12.setTop (mkF m 11 #[.val (.ref sr), .val (.int (1 : Int32)), .val (.int (1 : Int32)), .val (.ref a), .val (.int (1 : Int32))] [(.int (1 : Int32)), (.int (1 : Int32))]))
  refine own_st (fun t9 k9 => XS.icmpYes X12.here hx rfl (pc0 := 11) (pc' := 32) rfl (hb hby own_d_jdk_52_method_14_11) rfl (by decide) (by decide) (by decide) k9) ?_
  show own_Go p e below s _ _ _ (T12.setTop (mkF m 32 #[.val (.ref sr), .val (.int (1 : Int32)), .val (.int (1 : Int32)), .val (.ref a), .val (.int (1 : Int32))] []))
  refine own_st (fun t9 k9 => XS.aloadN X12.here hx rfl (hb hby own_d_jdk_52_method_14_32) rfl rfl k9) ?_
  show own_Go p e below s _ _ _ (T12.setTop (mkF m 33 #[.val (.ref sr), .val (.int (1 : Int32)), .val (.int (1 : Int32)), .val (.ref a), .val (.int (1 : Int32))] [(.ref a)]))
  exact own_retR X12 hx hlk Bd.returns rfl rfl (hb hby own_d_jdk_52_method_14_33) (by decide) (by decide) (by rw [e12]; exact ⟨N12, Kp, a, ka, rfl, gz_a, V_a⟩)
theorem own_d_jdk_52_method_21_0 : decode jdk_52_method_21_code 0 = .ok (.iconst 0, 1) := by decide +kernel
theorem own_d_jdk_52_method_21_1 : decode jdk_52_method_21_code 1 = .ok (.istore 5, 2) := by decide +kernel
theorem own_d_jdk_52_method_21_3 : decode jdk_52_method_21_code 3 = .ok (.iload 5, 2) := by decide +kernel
theorem own_d_jdk_52_method_21_5 : decode jdk_52_method_21_code 5 = .ok (.iload 4, 2) := by decide +kernel
theorem own_d_jdk_52_method_21_7 : decode jdk_52_method_21_code 7 = .ok (.if_icmp .ge 37, 3) := by decide +kernel
theorem own_d_jdk_52_method_21_10 : decode jdk_52_method_21_code 10 = .ok (.aload_n 0, 1) := by decide +kernel
theorem own_d_jdk_52_method_21_11 : decode jdk_52_method_21_code 11 = .ok (.iload_n 1, 1) := by decide +kernel
theorem own_d_jdk_52_method_21_12 : decode jdk_52_method_21_code 12 = .ok (.caload, 1) := by decide +kernel
theorem own_d_jdk_52_method_21_13 : decode jdk_52_method_21_code 13 = .ok (.istore 6, 2) := by decide +kernel
theorem own_d_jdk_52_method_21_15 : decode jdk_52_method_21_code 15 = .ok (.iload 6, 2) := by decide +kernel
theorem own_d_jdk_52_method_21_17 : decode jdk_52_method_21_code 17 = .ok (.sipush 255, 3) := by decide +kernel
theorem own_d_jdk_52_method_21_20 : decode jdk_52_method_21_code 20 = .ok (.if_icmp .le 6, 3) := by decide +kernel
theorem own_d_jdk_52_method_21_23 : decode jdk_52_method_21_code 23 = .ok (.iload 5, 2) := by decide +kernel
theorem own_d_jdk_52_method_21_25 : decode jdk_52_method_21_code 25 = .ok (.ireturn, 1) := by decide +kernel
theorem own_d_jdk_52_method_21_26 : decode jdk_52_method_21_code 26 = .ok (.aload_n 2, 1) := by decide +kernel
theorem own_d_jdk_52_method_21_27 : decode jdk_52_method_21_code 27 = .ok (.iload_n 3, 1) := by decide +kernel
theorem own_d_jdk_52_method_21_28 : decode jdk_52_method_21_code 28 = .ok (.iload 6, 2) := by decide +kernel
theorem own_d_jdk_52_method_21_30 : decode jdk_52_method_21_code 30 = .ok (.i2b, 1) := by decide +kernel
theorem own_d_jdk_52_method_21_31 : decode jdk_52_method_21_code 31 = .ok (.bastore, 1) := by decide +kernel
theorem own_d_jdk_52_method_21_32 : decode jdk_52_method_21_code 32 = .ok (.iinc 1 1, 3) := by decide +kernel
theorem own_d_jdk_52_method_21_35 : decode jdk_52_method_21_code 35 = .ok (.iinc 3 1, 3) := by decide +kernel
theorem own_d_jdk_52_method_21_38 : decode jdk_52_method_21_code 38 = .ok (.iinc 5 1, 3) := by decide +kernel
theorem own_d_jdk_52_method_21_41 : decode jdk_52_method_21_code 41 = .ok (.goto (-38), 3) := by decide +kernel
theorem own_d_jdk_52_method_21_44 : decode jdk_52_method_21_code 44 = .ok (.iload 4, 2) := by decide +kernel
theorem own_d_jdk_52_method_21_46 : decode jdk_52_method_21_code 46 = .ok (.ireturn, 1) := by decide +kernel
theorem own_ef_cm1 (m : MethodId) (x0 : Addr) (x1 : Int32) (x2 : Addr) (x3 : Int32) (x4 : Int32) : entryFrame m #[(.ref x0), (.int x1), (.ref x2), (.int x3), (.int x4)] 7 = mkF m 0 #[.val (.ref x0), .val (.int x1), .val (.ref x2), .val (.int x3), .val (.int x4), .unset, .unset] [] := by first | (simp [entryFrame, mkF, argsToLocals, Value.category]; done) | rfl
def own_Q_cm1 (Z : State) (ds : Addr) (x0 : Int32) (h0 : Heap) (n0 : Nat) (v : Option Value) (h : Heap) (L : List Loc) : Prop := v = some (.int (own_first [x0] 0)) ∧ Fr n0 L ∧ Keep h0 h [ds]
set_option maxRecDepth 65536 in
set_option maxHeartbeats 40000000 in
theorem own_rm_cm1 (l : Launch) (Z : State) (a0 : Array Value) (hw : ∀ d ∈ tables_1, d.before a0 Z = true) (ws : List Jvm.Cond) (sr ds : Addr) (ks kd : ClassId) (x0 : Int32) (h0 : Heap) (n0 : Nat) (Od : Old Z n0 h0) (V_s : Arv Z h0 sr ks .char (1 : Int32) [(.int x0)] (.int (0 : Int32))) (V_d : Arv Z h0 ds kd .byte (1 : Int32) [(.int (0 : Int32))] (.int (0 : Int32))) (ne_s : sr ≠ ds) (ge_ds : n0 ≤ ds) :
    MetFree l (⟨"java/lang/StringUTF16", "compress", "([CI[BII)I"⟩ : MethodName) (head1 (Jvm.Cond.code (⟨"java/lang/StringUTF16", "compress", "([CI[BII)I"⟩ : MethodName) jdk_52_method_21_code 7 (some .int) :: ws) ({ frames := 0, cells := 0, slots := 0, locals := 0 } : Room)) (fun a9 U => a9 = #[(.ref sr), (.int (0 : Int32)), (.ref ds), (.int (0 : Int32)), (.int (1 : Int32))] ∧ Z.Warmed39 U.vm ∧ U.heap = h0) (fun _ _ _ _ _ => True) (fun _ U o U' => ∃ v L, o = .returned v ∧ own_Q_cm1 Z ds x0 h0 n0 v U'.heap L ∧ FrameEnd U o U' L ({ frames := 0, cells := 0, slots := 0, locals := 0 } : Room).cells ({ frames := 0, cells := 0, slots := 0, locals := 0 } : Room).slots) := by
  refine MetFree.of_bodySF (plainFor_of_name own_pn0) hisR ?_
  intro p e s m args below meth c s₁ Bd hml0 hP hK
  obtain ⟨rfl, hZ, hh⟩ := hP
  have hx := Bd.exec
  have hby := Bd.bytes
  have hml : c.maxLocals = 7 := hml0
  have hown : s.vm.findClass "java/lang/StringUTF16" = some m.cls := findClass_of_methodNamed Bd.named
  have hnm := (name_of_methodNamed Bd.named Bd.method).1
  have hlk : meth.locks = false := Bd.notSynchronized
  have X0 : Stand p l e ({ frames := 0, cells := 0, slots := 0, locals := 0 } : Room) s m #[(.ref sr), (.int (0 : Int32)), (.ref ds), (.int (0 : Int32)), (.int (1 : Int32))] below meth c s₁ [] 0 0 := Stand.of_body Bd
  have e0 : s₁.heap = h0 := by rw [← hh, Bd.state]; rfl
  have N0 := Fr.nil n0
  show own_Go p e below s (own_Q_cm1 Z ds x0 h0 n0) ({ frames := 0, cells := 0, slots := 0, locals := 0 } : Room).cells ({ frames := 0, cells := 0, slots := 0, locals := 0 } : Room).slots (s₁.setTop (entryFrame m #[(.ref sr), (.int (0 : Int32)), (.ref ds), (.int (0 : Int32)), (.int (1 : Int32))] 7))
  refine own_st (fun t9 k9 => castTop (own_ef_cm1 m sr (0 : Int32) ds (0 : Int32) (1 : Int32)) k9) ?_
  show own_Go p e below s _ _ _ (s₁.setTop (mkF m 0 #[.val (.ref sr), .val (.int (0 : Int32)), .val (.ref ds), .val (.int (0 : Int32)), .val (.int (1 : Int32)), .unset, .unset] []))
  have Kp : Keep h0 h0 [ds] := Keep.refl h0 [ds]
  refine own_st (fun t9 k9 => XS.iconst X0.here hx rfl (hb hby own_d_jdk_52_method_21_0) k9) ?_
  show own_Go p e below s _ _ _ (s₁.setTop (mkF m 1 #[.val (.ref sr), .val (.int (0 : Int32)), .val (.ref ds), .val (.int (0 : Int32)), .val (.int (1 : Int32)), .unset, .unset] [(.int (0 : Int32))]))
  refine own_st (fun t9 k9 => XS.istore X0.here hx rfl (hb hby own_d_jdk_52_method_21_1) rfl (l' := #[.val (.ref sr), .val (.int (0 : Int32)), .val (.ref ds), .val (.int (0 : Int32)), .val (.int (1 : Int32)), .val (.int (0 : Int32)), .unset]) rfl k9) ?_
  show own_Go p e below s _ _ _ (s₁.setTop (mkF m 3 #[.val (.ref sr), .val (.int (0 : Int32)), .val (.ref ds), .val (.int (0 : Int32)), .val (.int (1 : Int32)), .val (.int (0 : Int32)), .unset] []))
  refine own_st (fun t9 k9 => XS.iload X0.here hx rfl (hb hby own_d_jdk_52_method_21_3) rfl  k9) ?_
  show own_Go p e below s _ _ _ (s₁.setTop (mkF m 5 #[.val (.ref sr), .val (.int (0 : Int32)), .val (.ref ds), .val (.int (0 : Int32)), .val (.int (1 : Int32)), .val (.int (0 : Int32)), .unset] [(.int (0 : Int32))]))
  refine own_st (fun t9 k9 => XS.iload X0.here hx rfl (hb hby own_d_jdk_52_method_21_5) rfl  k9) ?_
  show own_Go p e below s _ _ _ (s₁.setTop (mkF m 7 #[.val (.ref sr), .val (.int (0 : Int32)), .val (.ref ds), .val (.int (0 : Int32)), .val (.int (1 : Int32)), .val (.int (0 : Int32)), .unset] [(.int (1 : Int32)), (.int (0 : Int32))]))
  refine own_st (fun t9 k9 => XS.icmpNo X0.here hx rfl (hb hby own_d_jdk_52_method_21_7) rfl (by decide) k9) ?_
  show own_Go p e below s _ _ _ (s₁.setTop (mkF m 10 #[.val (.ref sr), .val (.int (0 : Int32)), .val (.ref ds), .val (.int (0 : Int32)), .val (.int (1 : Int32)), .val (.int (0 : Int32)), .unset] []))
  refine own_st (fun t9 k9 => XS.aloadN X0.here hx rfl (hb hby own_d_jdk_52_method_21_10) rfl rfl k9) ?_
  show own_Go p e below s _ _ _ (s₁.setTop (mkF m 11 #[.val (.ref sr), .val (.int (0 : Int32)), .val (.ref ds), .val (.int (0 : Int32)), .val (.int (1 : Int32)), .val (.int (0 : Int32)), .unset] [(.ref sr)]))
  refine own_st (fun t9 k9 => XS.iloadN X0.here hx rfl (hb hby own_d_jdk_52_method_21_11) rfl  k9) ?_
  show own_Go p e below s _ _ _ (s₁.setTop (mkF m 12 #[.val (.ref sr), .val (.int (0 : Int32)), .val (.ref ds), .val (.int (0 : Int32)), .val (.int (1 : Int32)), .val (.int (0 : Int32)), .unset] [(.int (0 : Int32)), (.ref sr)]))
  refine own_st (fun t9 k9 => own_cald X0 hx hZ e0 V_s (j := (0 : Int32)) (v := (.int x0)) ⟨by decide, by decide⟩ rfl (g := (mkF m 12 #[.val (.ref sr), .val (.int (0 : Int32)), .val (.ref ds), .val (.int (0 : Int32)), .val (.int (1 : Int32)), .val (.int (0 : Int32)), .unset] [(.int (0 : Int32)), (.ref sr)])) rfl rfl (hb hby own_d_jdk_52_method_21_12) t9 k9) ?_
  show own_Go p e below s _ _ _ (s₁.setTop (mkF m 13 #[.val (.ref sr), .val (.int (0 : Int32)), .val (.ref ds), .val (.int (0 : Int32)), .val (.int (1 : Int32)), .val (.int (0 : Int32)), .unset] [(.int x0)]))
  refine own_st (fun t9 k9 => XS.istore X0.here hx rfl (hb hby own_d_jdk_52_method_21_13) rfl (l' := #[.val (.ref sr), .val (.int (0 : Int32)), .val (.ref ds), .val (.int (0 : Int32)), .val (.int (1 : Int32)), .val (.int (0 : Int32)), .val (.int x0)]) rfl k9) ?_
  show own_Go p e below s _ _ _ (s₁.setTop (mkF m 15 #[.val (.ref sr), .val (.int (0 : Int32)), .val (.ref ds), .val (.int (0 : Int32)), .val (.int (1 : Int32)), .val (.int (0 : Int32)), .val (.int x0)] []))
  refine own_st (fun t9 k9 => XS.iload X0.here hx rfl (hb hby own_d_jdk_52_method_21_15) rfl  k9) ?_
  show own_Go p e below s _ _ _ (s₁.setTop (mkF m 17 #[.val (.ref sr), .val (.int (0 : Int32)), .val (.ref ds), .val (.int (0 : Int32)), .val (.int (1 : Int32)), .val (.int (0 : Int32)), .val (.int x0)] [(.int x0)]))
  refine own_st (fun t9 k9 => XS.sipush X0.here hx rfl (hb hby own_d_jdk_52_method_21_17) k9) ?_
  show own_Go p e below s _ _ _ (s₁.setTop (mkF m 20 #[.val (.ref sr), .val (.int (0 : Int32)), .val (.ref ds), .val (.int (0 : Int32)), .val (.int (1 : Int32)), .val (.int (0 : Int32)), .val (.int x0)] [(.int (255 : Int32)), (.int x0)]))
  by_cases hg0 : (255 : Int32) < x0
  · skip
    refine own_st (fun t9 k9 => XS.icmpNo X0.here hx rfl (hb hby own_d_jdk_52_method_21_20) rfl (tlt (hg0 : (255 : Int32) < x0)).2.2.2 k9) ?_
    show own_Go p e below s _ _ _ (s₁.setTop (mkF m 23 #[.val (.ref sr), .val (.int (0 : Int32)), .val (.ref ds), .val (.int (0 : Int32)), .val (.int (1 : Int32)), .val (.int (0 : Int32)), .val (.int x0)] []))
    refine own_st (fun t9 k9 => XS.iload X0.here hx rfl (hb hby own_d_jdk_52_method_21_23) rfl  k9) ?_
    show own_Go p e below s _ _ _ (s₁.setTop (mkF m 25 #[.val (.ref sr), .val (.int (0 : Int32)), .val (.ref ds), .val (.int (0 : Int32)), .val (.int (1 : Int32)), .val (.int (0 : Int32)), .val (.int x0)] [(.int (0 : Int32))]))
    exact own_retI X0 hx hlk Bd.returns (hb hby own_d_jdk_52_method_21_25) (by decide) (by decide) (by rw [e0]; exact ⟨by rw [(show own_first [x0] 0 = (0 : Int32) from (if_pos hg0))], N0, Kp⟩)
  · skip
    refine own_st (fun t9 k9 => XS.icmpYes X0.here hx rfl (pc0 := 20) (pc' := 26) rfl (hb hby own_d_jdk_52_method_21_20) rfl (flt (hg0 : ¬ ((255 : Int32) < x0))).2.2.2 (by decide) (by decide) k9) ?_
    show own_Go p e below s _ _ _ (s₁.setTop (mkF m 26 #[.val (.ref sr), .val (.int (0 : Int32)), .val (.ref ds), .val (.int (0 : Int32)), .val (.int (1 : Int32)), .val (.int (0 : Int32)), .val (.int x0)] []))
    refine own_st (fun t9 k9 => XS.aloadN X0.here hx rfl (hb hby own_d_jdk_52_method_21_26) rfl rfl k9) ?_
    show own_Go p e below s _ _ _ (s₁.setTop (mkF m 27 #[.val (.ref sr), .val (.int (0 : Int32)), .val (.ref ds), .val (.int (0 : Int32)), .val (.int (1 : Int32)), .val (.int (0 : Int32)), .val (.int x0)] [(.ref ds)]))
    refine own_st (fun t9 k9 => XS.iloadN X0.here hx rfl (hb hby own_d_jdk_52_method_21_27) rfl  k9) ?_
    show own_Go p e below s _ _ _ (s₁.setTop (mkF m 28 #[.val (.ref sr), .val (.int (0 : Int32)), .val (.ref ds), .val (.int (0 : Int32)), .val (.int (1 : Int32)), .val (.int (0 : Int32)), .val (.int x0)] [(.int (0 : Int32)), (.ref ds)]))
    refine own_st (fun t9 k9 => XS.iload X0.here hx rfl (hb hby own_d_jdk_52_method_21_28) rfl  k9) ?_
    show own_Go p e below s _ _ _ (s₁.setTop (mkF m 30 #[.val (.ref sr), .val (.int (0 : Int32)), .val (.ref ds), .val (.int (0 : Int32)), .val (.int (1 : Int32)), .val (.int (0 : Int32)), .val (.int x0)] [(.int x0), (.int (0 : Int32)), (.ref ds)]))
    refine own_st (fun t9 k9 => XT.i2b X0.here hx rfl (hb hby own_d_jdk_52_method_21_30) rfl k9) ?_
    show own_Go p e below s _ _ _ (s₁.setTop (mkF m 31 #[.val (.ref sr), .val (.int (0 : Int32)), .val (.ref ds), .val (.int (0 : Int32)), .val (.int (1 : Int32)), .val (.int (0 : Int32)), .val (.int x0)] [(.int (x0.toInt8.toInt32)), (.int (0 : Int32)), (.ref ds)]))
    obtain ⟨cl13, Ar13, q13, S13, M13, H13, G13⟩ := id V_d
    obtain ⟨T13, h13, X13, e13, W13, st13⟩ := stB X0 hx hZ e0 Ar13 (j := (0 : Int32)) (inb_of S13 ⟨by decide, by decide⟩) (g := (mkF m 31 #[.val (.ref sr), .val (.int (0 : Int32)), .val (.ref ds), .val (.int (0 : Int32)), .val (.int (1 : Int32)), .val (.int (0 : Int32)), .val (.int x0)] [(.int (x0.toInt8.toInt32)), (.int (0 : Int32)), (.ref ds)])) rfl rfl (hb hby own_d_jdk_52_method_21_31)
    have N13 := Fr.snoc X13 N0 ge_ds
    have V_s := V_s.other W13 ne_s
    have Od := Od.wr W13 ge_ds
    have Kp := Kp.wr W13 (Or.inl (List.mem_of_getElem? (i := 0) rfl))
    refine own_st st13 ?_
    show own_Go p e below s _ _ _ (T13.setTop (mkF m 32 #[.val (.ref sr), .val (.int (0 : Int32)), .val (.ref ds), .val (.int (0 : Int32)), .val (.int (1 : Int32)), .val (.int (0 : Int32)), .val (.int x0)] []))
    have V_d : Arv Z h13 ds kd .byte (1 : Int32) [(.int (nar .byte (x0.toInt8.toInt32)))] (.int (0 : Int32)) := Arv.set Ar13 q13 S13 M13 H13 G13 (fits_nar_byte _) W13 0 rfl (Nat.le_of_ble_eq_true rfl)
    refine own_st (fun t9 k9 => XS.iinc X13.here hx rfl (hb hby own_d_jdk_52_method_21_32) rfl (l' := #[.val (.ref sr), .val (.int ((0 : Int32) + (1 : Int32))), .val (.ref ds), .val (.int (0 : Int32)), .val (.int (1 : Int32)), .val (.int (0 : Int32)), .val (.int x0)]) rfl k9) ?_
    show own_Go p e below s _ _ _ (T13.setTop (mkF m 35 #[.val (.ref sr), .val (.int ((0 : Int32) + (1 : Int32))), .val (.ref ds), .val (.int (0 : Int32)), .val (.int (1 : Int32)), .val (.int (0 : Int32)), .val (.int x0)] []))
    show own_Go p e below s _ _ _ (T13.setTop (mkF m 35 #[.val (.ref sr), .val (.int (1 : Int32)), .val (.ref ds), .val (.int (0 : Int32)), .val (.int (1 : Int32)), .val (.int (0 : Int32)), .val (.int x0)] []))
    refine own_st (fun t9 k9 => XS.iinc X13.here hx rfl (hb hby own_d_jdk_52_method_21_35) rfl (l' := #[.val (.ref sr), .val (.int (1 : Int32)), .val (.ref ds), .val (.int ((0 : Int32) + (1 : Int32))), .val (.int (1 : Int32)), .val (.int (0 : Int32)), .val (.int x0)]) rfl k9) ?_
    show own_Go p e below s _ _ _ (T13.setTop (mkF m 38 #[.val (.ref sr), .val (.int (1 : Int32)), .val (.ref ds), .val (.int ((0 : Int32) + (1 : Int32))), .val (.int (1 : Int32)), .val (.int (0 : Int32)), .val (.int x0)] []))
    show own_Go p e below s _ _ _ (T13.setTop (mkF m 38 #[.val (.ref sr), .val (.int (1 : Int32)), .val (.ref ds), .val (.int (1 : Int32)), .val (.int (1 : Int32)), .val (.int (0 : Int32)), .val (.int x0)] []))
    refine own_st (fun t9 k9 => XS.iinc X13.here hx rfl (hb hby own_d_jdk_52_method_21_38) rfl (l' := #[.val (.ref sr), .val (.int (1 : Int32)), .val (.ref ds), .val (.int (1 : Int32)), .val (.int (1 : Int32)), .val (.int ((0 : Int32) + (1 : Int32))), .val (.int x0)]) rfl k9) ?_
    show own_Go p e below s _ _ _ (T13.setTop (mkF m 41 #[.val (.ref sr), .val (.int (1 : Int32)), .val (.ref ds), .val (.int (1 : Int32)), .val (.int (1 : Int32)), .val (.int ((0 : Int32) + (1 : Int32))), .val (.int x0)] []))
    show own_Go p e below s _ _ _ (T13.setTop (mkF m 41 #[.val (.ref sr), .val (.int (1 : Int32)), .val (.ref ds), .val (.int (1 : Int32)), .val (.int (1 : Int32)), .val (.int (1 : Int32)), .val (.int x0)] []))
    refine own_st (fun t9 k9 => XS.goto X13.here hx rfl (pc0 := 41) (pc' := 3) rfl (hb hby own_d_jdk_52_method_21_41) (by decide) (by decide) k9) ?_
    show own_Go p e below s _ _ _ (T13.setTop (mkF m 3 #[.val (.ref sr), .val (.int (1 : Int32)), .val (.ref ds), .val (.int (1 : Int32)), .val (.int (1 : Int32)), .val (.int (1 : Int32)), .val (.int x0)] []))
    refine own_st (fun t9 k9 => XS.iload X13.here hx rfl (hb hby own_d_jdk_52_method_21_3) rfl  k9) ?_
    show own_Go p e below s _ _ _ (T13.setTop (mkF m 5 #[.val (.ref sr), .val (.int (1 : Int32)), .val (.ref ds), .val (.int (1 : Int32)), .val (.int (1 : Int32)), .val (.int (1 : Int32)), .val (.int x0)] [(.int (1 : Int32))]))
    refine own_st (fun t9 k9 => XS.iload X13.here hx rfl (hb hby own_d_jdk_52_method_21_5) rfl  k9) ?_
    show own_Go p e below s _ _ _ (T13.setTop (mkF m 7 #[.val (.ref sr), .val (.int (1 : Int32)), .val (.ref ds), .val (.int (1 : Int32)), .val (.int (1 : Int32)), .val (.int (1 : Int32)), .val (.int x0)] [(.int (1 : Int32)), (.int (1 : Int32))]))
    refine own_st (fun t9 k9 => XS.icmpYes X13.here hx rfl (pc0 := 7) (pc' := 44) rfl (hb hby own_d_jdk_52_method_21_7) rfl (by decide) (by decide) (by decide) k9) ?_
    show own_Go p e below s _ _ _ (T13.setTop (mkF m 44 #[.val (.ref sr), .val (.int (1 : Int32)), .val (.ref ds), .val (.int (1 : Int32)), .val (.int (1 : Int32)), .val (.int (1 : Int32)), .val (.int x0)] []))
    refine own_st (fun t9 k9 => XS.iload X13.here hx rfl (hb hby own_d_jdk_52_method_21_44) rfl  k9) ?_
    show own_Go p e below s _ _ _ (T13.setTop (mkF m 46 #[.val (.ref sr), .val (.int (1 : Int32)), .val (.ref ds), .val (.int (1 : Int32)), .val (.int (1 : Int32)), .val (.int (1 : Int32)), .val (.int x0)] [(.int (1 : Int32))]))
    exact own_retI X13 hx hlk Bd.returns (hb hby own_d_jdk_52_method_21_46) (by decide) (by decide) (by rw [e13]; exact ⟨by rw [(show own_first [x0] 0 = (1 : Int32) from ((if_neg hg0).trans rfl))], N13, Kp⟩)
theorem own_d_jdk_52_method_16_0 : decode jdk_52_method_16_code 0 = .ok (.iload_n 2, 1) := by decide +kernel
theorem own_d_jdk_52_method_16_1 : decode jdk_52_method_16_code 1 = .ok (.newarray .byte, 2) := by decide +kernel
theorem own_d_jdk_52_method_16_3 : decode jdk_52_method_16_code 3 = .ok (.astore_n 3, 1) := by decide +kernel
theorem own_d_jdk_52_method_16_4 : decode jdk_52_method_16_code 4 = .ok (.aload_n 0, 1) := by decide +kernel
theorem own_d_jdk_52_method_16_5 : decode jdk_52_method_16_code 5 = .ok (.iload_n 1, 1) := by decide +kernel
theorem own_d_jdk_52_method_16_6 : decode jdk_52_method_16_code 6 = .ok (.aload_n 3, 1) := by decide +kernel
theorem own_d_jdk_52_method_16_7 : decode jdk_52_method_16_code 7 = .ok (.iconst 0, 1) := by decide +kernel
theorem own_d_jdk_52_method_16_8 : decode jdk_52_method_16_code 8 = .ok (.iload_n 2, 1) := by decide +kernel
theorem own_pd3 : parseMethodDescriptor "([CI[BII)I" = some ⟨[(.array .char), .int, (.array .byte), .int, .int], some .int⟩ := by decide +kernel
theorem own_d_jdk_52_method_16_9 : decode jdk_52_method_16_code 9 = .ok (.invokestatic 115, 3) := by decide +kernel
theorem own_d_jdk_52_method_16_12 : decode jdk_52_method_16_code 12 = .ok (.istore 4, 2) := by decide +kernel
theorem own_d_jdk_52_method_16_14 : decode jdk_52_method_16_code 14 = .ok (.iload 4, 2) := by decide +kernel
theorem own_d_jdk_52_method_16_16 : decode jdk_52_method_16_code 16 = .ok (.iload_n 2, 1) := by decide +kernel
theorem own_d_jdk_52_method_16_17 : decode jdk_52_method_16_code 17 = .ok (.if_icmp .eq 40, 3) := by decide +kernel
theorem own_d_jdk_52_method_16_20 : decode jdk_52_method_16_code 20 = .ok (.aload_n 0, 1) := by decide +kernel
theorem own_d_jdk_52_method_16_21 : decode jdk_52_method_16_code 21 = .ok (.iload_n 1, 1) := by decide +kernel
theorem own_d_jdk_52_method_16_22 : decode jdk_52_method_16_code 22 = .ok (.iload_n 2, 1) := by decide +kernel
theorem own_pd4 : parseMethodDescriptor "([CII)[B" = some ⟨[(.array .char), .int, .int], some (.array .byte)⟩ := by decide +kernel
theorem own_d_jdk_52_method_16_23 : decode jdk_52_method_16_code 23 = .ok (.invokestatic 119, 3) := by decide +kernel
theorem own_d_jdk_52_method_16_26 : decode jdk_52_method_16_code 26 = .ok (.astore 5, 2) := by decide +kernel
theorem own_d_jdk_52_method_16_28 : decode jdk_52_method_16_code 28 = .ok (.aload 5, 2) := by decide +kernel
theorem own_d_jdk_52_method_16_30 : decode jdk_52_method_16_code 30 = .ok (.iload 4, 2) := by decide +kernel
theorem own_pd5 : parseMethodDescriptor "([BI)C" = some ⟨[(.array .byte), .int], some .char⟩ := by decide +kernel
theorem own_d_jdk_52_method_16_32 : decode jdk_52_method_16_code 32 = .ok (.invokestatic 71, 3) := by decide +kernel
theorem own_d_jdk_52_method_16_35 : decode jdk_52_method_16_code 35 = .ok (.sipush 255, 3) := by decide +kernel
theorem own_d_jdk_52_method_16_38 : decode jdk_52_method_16_code 38 = .ok (.if_icmp .gt 16, 3) := by decide +kernel
theorem own_d_jdk_52_method_16_54 : decode jdk_52_method_16_code 54 = .ok (.aload 5, 2) := by decide +kernel
theorem own_d_jdk_52_method_16_56 : decode jdk_52_method_16_code 56 = .ok (.areturn, 1) := by decide +kernel
theorem own_ef_cp1 (m : MethodId) (x0 : Addr) (x1 : Int32) (x2 : Int32) : entryFrame m #[(.ref x0), (.int x1), (.int x2)] 6 = mkF m 0 #[.val (.ref x0), .val (.int x1), .val (.int x2), .unset, .unset, .unset] [] := by first | (simp [entryFrame, mkF, argsToLocals, Value.category]; done) | rfl
def own_Q_cp1 (Z : State) (x0 : Int32) (h0 : Heap) (n0 : Nat) (v : Option Value) (h : Heap) (L : List Loc) : Prop := Fr n0 L ∧ Keep h0 h [] ∧ ∃ a k, v = some (.ref a) ∧ h0.size ≤ a ∧ Arv Z h a k .byte (2 : Int32) [(.int (StrChars.lo8 x0)), (.int (StrChars.hi8 x0))] (.int (0 : Int32))
set_option maxRecDepth 65536 in
set_option maxHeartbeats 40000000 in
theorem own_rm_cp1 (l : Launch) (Z : State) (a0 : Array Value) (hw : ∀ d ∈ tables_1, d.before a0 Z = true) (ws : List Jvm.Cond) (sr : Addr) (ks : ClassId) (x0 : Int32) (h0 : Heap) (n0 : Nat) (Od : Old Z n0 h0) (V_s : Arv Z h0 sr ks .char (1 : Int32) [(.int x0)] (.int (0 : Int32))) (hr0 : ¬ x0 < 0 ∧ ¬ (65535 : Int32) < x0) (hm : ¬ own_first [x0] 0 = (1 : Int32)) (OA : Sta Z Z.heap "java/lang/StringUTF16" "$assertionsDisabled" "Z" (.int (1 : Int32))) (OH : Sta Z Z.heap "java/lang/StringUTF16" "HI_BYTE_SHIFT" "I" (.int (0 : Int32))) (OL : Sta Z Z.heap "java/lang/StringUTF16" "LO_BYTE_SHIFT" "I" (.int (8 : Int32))) :
    MetFree l (⟨"java/lang/StringUTF16", "compress", "([CII)[B"⟩ : MethodName) (head1 (Jvm.Cond.code (⟨"java/lang/StringUTF16", "compress", "([CII)[B"⟩ : MethodName) jdk_52_method_16_code 6 (some (.array .byte)) :: ws) ({ frames := 3, cells := 2, slots := 3, locals := 40 } : Room)) (fun a9 U => a9 = #[(.ref sr), (.int (0 : Int32)), (.int (1 : Int32))] ∧ Z.Warmed39 U.vm ∧ U.heap = h0) (fun _ _ _ _ _ => True) (fun _ U o U' => ∃ v L, o = .returned v ∧ own_Q_cp1 Z x0 h0 n0 v U'.heap L ∧ FrameEnd U o U' L ({ frames := 3, cells := 2, slots := 3, locals := 40 } : Room).cells ({ frames := 3, cells := 2, slots := 3, locals := 40 } : Room).slots) := by
  refine MetFree.of_bodySF (plainFor_of_name own_pn0) hisR ?_
  intro p e s m args below meth c s₁ Bd hml0 hP hK
  obtain ⟨rfl, hZ, hh⟩ := hP
  have hx := Bd.exec
  have hby := Bd.bytes
  have hml : c.maxLocals = 6 := hml0
  have hown : s.vm.findClass "java/lang/StringUTF16" = some m.cls := findClass_of_methodNamed Bd.named
  have hnm := (name_of_methodNamed Bd.named Bd.method).1
  have hlk : meth.locks = false := Bd.notSynchronized
  have X0 : Stand p l e ({ frames := 3, cells := 2, slots := 3, locals := 40 } : Room) s m #[(.ref sr), (.int (0 : Int32)), (.int (1 : Int32))] below meth c s₁ [] 0 0 := Stand.of_body Bd
  have e0 : s₁.heap = h0 := by rw [← hh, Bd.state]; rfl
  have N0 := Fr.nil n0
  show own_Go p e below s (own_Q_cp1 Z x0 h0 n0) ({ frames := 3, cells := 2, slots := 3, locals := 40 } : Room).cells ({ frames := 3, cells := 2, slots := 3, locals := 40 } : Room).slots (s₁.setTop (entryFrame m #[(.ref sr), (.int (0 : Int32)), (.int (1 : Int32))] 6))
  refine own_st (fun t9 k9 => castTop (own_ef_cp1 m sr (0 : Int32) (1 : Int32)) k9) ?_
  show own_Go p e below s _ _ _ (s₁.setTop (mkF m 0 #[.val (.ref sr), .val (.int (0 : Int32)), .val (.int (1 : Int32)), .unset, .unset, .unset] []))
  have Kp : Keep h0 h0 [] := Keep.refl h0 []
  refine own_st (fun t9 k9 => XS.iloadN X0.here hx rfl (hb hby own_d_jdk_52_method_16_0) rfl  k9) ?_
  show own_Go p e below s _ _ _ (s₁.setTop (mkF m 1 #[.val (.ref sr), .val (.int (0 : Int32)), .val (.int (1 : Int32)), .unset, .unset, .unset] [(.int (1 : Int32))]))
  obtain ⟨T14, h14, k14, X14, e14, E14, A14, st14⟩ := newP X0 hx hZ (hw _ (List.mem_of_getElem? (i := 23) rfl)) e0 (g := (mkF m 1 #[.val (.ref sr), .val (.int (0 : Int32)), .val (.int (1 : Int32)), .unset, .unset, .unset] [(.int (1 : Int32))])) rfl (hb hby own_d_jdk_52_method_16_1) rfl (by decide) (cap := 1) (by decide) (by decide) (by decide) (by decide)
  obtain ⟨ds, g14⟩ : ∃ z, z = h0.size := ⟨_, rfl⟩
  rw [← g14] at A14 st14
  have ne_sr_ds : sr ≠ ds := Nat.ne_of_lt (Nat.lt_of_lt_of_le V_s.lt (Nat.le_of_eq g14.symm))
  have ge_ds : n0 ≤ ds := Nat.le_trans (own_z0 Od) (Nat.le_of_eq g14.symm)
  have gz_ds : h0.size ≤ ds := Nat.le_trans Kp.1 (Nat.le_of_eq g14.symm)
  have V_s := V_s.ext E14
  have Od := Od.ext E14
  have Kp := Kp.ext E14
  refine own_st st14 ?_
  show own_Go p e below s _ _ _ (T14.setTop (mkF m 3 #[.val (.ref sr), .val (.int (0 : Int32)), .val (.int (1 : Int32)), .unset, .unset, .unset] [(.ref ds)]))
  have V_d : Arv Z h14 ds k14 .byte (1 : Int32) [(.int (0 : Int32))] (.int (0 : Int32)) := (Arv.new A14 (by decide)).pad (pad_rep [] (.int (0 : Int32)) 1)
  refine own_st (fun t9 k9 => XS.astoreN X14.here hx rfl (hb hby own_d_jdk_52_method_16_3) rfl rfl (l' := #[.val (.ref sr), .val (.int (0 : Int32)), .val (.int (1 : Int32)), .val (.ref ds), .unset, .unset]) rfl k9) ?_
  show own_Go p e below s _ _ _ (T14.setTop (mkF m 4 #[.val (.ref sr), .val (.int (0 : Int32)), .val (.int (1 : Int32)), .val (.ref ds), .unset, .unset] []))
  refine own_st (fun t9 k9 => XS.aloadN X14.here hx rfl (hb hby own_d_jdk_52_method_16_4) rfl rfl k9) ?_
  show own_Go p e below s _ _ _ (T14.setTop (mkF m 5 #[.val (.ref sr), .val (.int (0 : Int32)), .val (.int (1 : Int32)), .val (.ref ds), .unset, .unset] [(.ref sr)]))
  refine own_st (fun t9 k9 => XS.iloadN X14.here hx rfl (hb hby own_d_jdk_52_method_16_5) rfl  k9) ?_
  show own_Go p e below s _ _ _ (T14.setTop (mkF m 6 #[.val (.ref sr), .val (.int (0 : Int32)), .val (.int (1 : Int32)), .val (.ref ds), .unset, .unset] [(.int (0 : Int32)), (.ref sr)]))
  refine own_st (fun t9 k9 => XS.aloadN X14.here hx rfl (hb hby own_d_jdk_52_method_16_6) rfl rfl k9) ?_
  show own_Go p e below s _ _ _ (T14.setTop (mkF m 7 #[.val (.ref sr), .val (.int (0 : Int32)), .val (.int (1 : Int32)), .val (.ref ds), .unset, .unset] [(.ref ds), (.int (0 : Int32)), (.ref sr)]))
  refine own_st (fun t9 k9 => XS.iconst X14.here hx rfl (hb hby own_d_jdk_52_method_16_7) k9) ?_
  show own_Go p e below s _ _ _ (T14.setTop (mkF m 8 #[.val (.ref sr), .val (.int (0 : Int32)), .val (.int (1 : Int32)), .val (.ref ds), .unset, .unset] [(.int (0 : Int32)), (.ref ds), (.int (0 : Int32)), (.ref sr)]))
  refine own_st (fun t9 k9 => XS.iloadN X14.here hx rfl (hb hby own_d_jdk_52_method_16_8) rfl  k9) ?_
  show own_Go p e below s _ _ _ (T14.setTop (mkF m 9 #[.val (.ref sr), .val (.int (0 : Int32)), .val (.int (1 : Int32)), .val (.ref ds), .unset, .unset] [(.int (1 : Int32)), (.int (0 : Int32)), (.ref ds), (.int (0 : Int32)), (.ref sr)]))
  obtain ⟨_, T15, h15, L15, X15, e15, ⟨rfl, Nc, Kc⟩, st15⟩ := own_callS X14 hx hZ hown (hw _ (List.mem_of_getElem? (i := 24) rfl)) (hw _ (List.mem_of_getElem? (i := 25) rfl)) (hw _ (List.mem_of_getElem? (i := 21) rfl)) (hw _ (List.mem_of_getElem? (i := 26) rfl)) (by decide) (own_rm_cm1 l Z a0 hw [] sr ds ks _ x0 h14 n0 Od V_s V_d ne_sr_ds ge_ds) (by decide) (by decide) e14 (W := 0) (g := (mkF m 9 #[.val (.ref sr), .val (.int (0 : Int32)), .val (.int (1 : Int32)), .val (.ref ds), .unset, .unset] [(.int (1 : Int32)), (.int (0 : Int32)), (.ref ds), (.int (0 : Int32)), (.ref sr)])) rfl (by rw [hml]; rfl) (argsL := [(.ref sr), (.int (0 : Int32)), (.ref ds), (.int (0 : Int32)), (.int (1 : Int32))]) (rest := []) rfl (lenOf own_pd3 rfl) rfl (by show 2 * 0 + _ ≤ _; exact Nat.le_of_eq rfl) (hb hby own_d_jdk_52_method_16_9) (by decide) (by decide)
  have N15 := Fr.app N0 Nc
  have V_s := V_s.keep Kc (ninS ne_sr_ds nin0)
  have Od := Od.keep Kc (allS ge_ds all0)
  have Kp := Kp.trans Kc (allS (Or.inr gz_ds) all0)
  refine own_st st15 ?_
  show own_Go p e below s _ _ _ (T15.setTop (mkF m 12 #[.val (.ref sr), .val (.int (0 : Int32)), .val (.int (1 : Int32)), .val (.ref ds), .unset, .unset] [(.int (own_first [x0] 0))]))
  refine own_st (fun t9 k9 => XS.istore X15.here hx rfl (hb hby own_d_jdk_52_method_16_12) rfl (l' := #[.val (.ref sr), .val (.int (0 : Int32)), .val (.int (1 : Int32)), .val (.ref ds), .val (.int (own_first [x0] 0)), .unset]) rfl k9) ?_
  show own_Go p e below s _ _ _ (T15.setTop (mkF m 14 #[.val (.ref sr), .val (.int (0 : Int32)), .val (.int (1 : Int32)), .val (.ref ds), .val (.int (own_first [x0] 0)), .unset] []))
  refine own_st (fun t9 k9 => XS.iload X15.here hx rfl (hb hby own_d_jdk_52_method_16_14) rfl  k9) ?_
  show own_Go p e below s _ _ _ (T15.setTop (mkF m 16 #[.val (.ref sr), .val (.int (0 : Int32)), .val (.int (1 : Int32)), .val (.ref ds), .val (.int (own_first [x0] 0)), .unset] [(.int (own_first [x0] 0))]))
  refine own_st (fun t9 k9 => XS.iloadN X15.here hx rfl (hb hby own_d_jdk_52_method_16_16) rfl  k9) ?_
  show own_Go p e below s _ _ _ (T15.setTop (mkF m 17 #[.val (.ref sr), .val (.int (0 : Int32)), .val (.int (1 : Int32)), .val (.ref ds), .val (.int (own_first [x0] 0)), .unset] [(.int (1 : Int32)), (.int (own_first [x0] 0))]))
  refine own_st (fun t9 k9 => XS.icmpNo X15.here hx rfl (hb hby own_d_jdk_52_method_16_17) rfl (feq (hm : ¬ ((own_first [x0] 0) = (1 : Int32)))).1 k9) ?_
  show own_Go p e below s _ _ _ (T15.setTop (mkF m 20 #[.val (.ref sr), .val (.int (0 : Int32)), .val (.int (1 : Int32)), .val (.ref ds), .val (.int (own_first [x0] 0)), .unset] []))
  refine own_st (fun t9 k9 => XS.aloadN X15.here hx rfl (hb hby own_d_jdk_52_method_16_20) rfl rfl k9) ?_
  show own_Go p e below s _ _ _ (T15.setTop (mkF m 21 #[.val (.ref sr), .val (.int (0 : Int32)), .val (.int (1 : Int32)), .val (.ref ds), .val (.int (own_first [x0] 0)), .unset] [(.ref sr)]))
  refine own_st (fun t9 k9 => XS.iloadN X15.here hx rfl (hb hby own_d_jdk_52_method_16_21) rfl  k9) ?_
  show own_Go p e below s _ _ _ (T15.setTop (mkF m 22 #[.val (.ref sr), .val (.int (0 : Int32)), .val (.int (1 : Int32)), .val (.ref ds), .val (.int (own_first [x0] 0)), .unset] [(.int (0 : Int32)), (.ref sr)]))
  refine own_st (fun t9 k9 => XS.iloadN X15.here hx rfl (hb hby own_d_jdk_52_method_16_22) rfl  k9) ?_
  show own_Go p e below s _ _ _ (T15.setTop (mkF m 23 #[.val (.ref sr), .val (.int (0 : Int32)), .val (.int (1 : Int32)), .val (.ref ds), .val (.int (own_first [x0] 0)), .unset] [(.int (1 : Int32)), (.int (0 : Int32)), (.ref sr)]))
  obtain ⟨_, T16, h16, L16, X16, e16, ⟨Nd, Kd, a, ka, rfl, gea, V_a⟩, st16⟩ := own_callS X15 hx hZ hown (hw _ (List.mem_of_getElem? (i := 53) rfl)) (hw _ (List.mem_of_getElem? (i := 54) rfl)) (hw _ (List.mem_of_getElem? (i := 21) rfl)) (hw _ (List.mem_of_getElem? (i := 55) rfl)) (by decide) (own_rm_tob1 l Z a0 hw [] sr ks x0 h15 n0 Od V_s OA OH OL) (by decide) (by decide) e15 (W := 0) (g := (mkF m 23 #[.val (.ref sr), .val (.int (0 : Int32)), .val (.int (1 : Int32)), .val (.ref ds), .val (.int (own_first [x0] 0)), .unset] [(.int (1 : Int32)), (.int (0 : Int32)), (.ref sr)])) rfl (by rw [hml]; rfl) (argsL := [(.ref sr), (.int (0 : Int32)), (.int (1 : Int32))]) (rest := []) rfl (lenOf own_pd4 rfl) rfl (by show 2 * 0 + _ ≤ _; exact Nat.le_of_eq rfl) (hb hby own_d_jdk_52_method_16_23) (by decide) (by decide)
  have N16 := Fr.app N15 Nd
  have ne_sr_a : sr ≠ a := Nat.ne_of_lt (Nat.lt_of_lt_of_le V_s.lt gea)
  have ge_a : n0 ≤ a := Nat.le_trans (own_z0 Od) gea
  have gz_a : h0.size ≤ a := Nat.le_trans Kp.1 gea
  have V_s := V_s.keep Kd nin0
  have Od := Od.keep Kd all0
  have Kp := Kp.trans Kd all0
  refine own_st st16 ?_
  show own_Go p e below s _ _ _ (T16.setTop (mkF m 26 #[.val (.ref sr), .val (.int (0 : Int32)), .val (.int (1 : Int32)), .val (.ref ds), .val (.int (own_first [x0] 0)), .unset] [(.ref a)]))
  refine own_st (fun t9 k9 => XS.astore X16.here hx rfl (hb hby own_d_jdk_52_method_16_26) rfl rfl (l' := #[.val (.ref sr), .val (.int (0 : Int32)), .val (.int (1 : Int32)), .val (.ref ds), .val (.int (own_first [x0] 0)), .val (.ref a)]) rfl k9) ?_
  show own_Go p e below s _ _ _ (T16.setTop (mkF m 28 #[.val (.ref sr), .val (.int (0 : Int32)), .val (.int (1 : Int32)), .val (.ref ds), .val (.int (own_first [x0] 0)), .val (.ref a)] []))
  refine own_st (fun t9 k9 => XS.aload X16.here hx rfl (hb hby own_d_jdk_52_method_16_28) rfl rfl k9) ?_
  show own_Go p e below s _ _ _ (T16.setTop (mkF m 30 #[.val (.ref sr), .val (.int (0 : Int32)), .val (.int (1 : Int32)), .val (.ref ds), .val (.int (own_first [x0] 0)), .val (.ref a)] [(.ref a)]))
  refine own_st (fun t9 k9 => XS.iload X16.here hx rfl (hb hby own_d_jdk_52_method_16_30) rfl  k9) ?_
  show own_Go p e below s _ _ _ (T16.setTop (mkF m 32 #[.val (.ref sr), .val (.int (0 : Int32)), .val (.int (1 : Int32)), .val (.ref ds), .val (.int (own_first [x0] 0)), .val (.ref a)] [(.int (own_first [x0] 0)), (.ref a)]))
  obtain ⟨c9, r9, g9, b0, b1, q0, q1⟩ : ∃ c9 : Int32, (¬ c9 < 0 ∧ ¬ (65535 : Int32) < c9) ∧ (255 : Int32) < c9 ∧ (¬ ((own_first [x0] 0) <<< ((1 : Int32) &&& 31)) < 0 ∧ ((own_first [x0] 0) <<< ((1 : Int32) &&& 31)) < (2 : Int32)) ∧ (¬ (((own_first [x0] 0) <<< ((1 : Int32) &&& 31)) + (1 : Int32)) < 0 ∧ (((own_first [x0] 0) <<< ((1 : Int32) &&& 31)) + (1 : Int32)) < (2 : Int32)) ∧ ([(.int (StrChars.lo8 x0)), (.int (StrChars.hi8 x0))] : List Value).getD ((own_first [x0] 0) <<< ((1 : Int32) &&& 31)).toNatClampNeg (.int (0 : Int32)) = .int (StrChars.lo8 c9) ∧ ([(.int (StrChars.lo8 x0)), (.int (StrChars.hi8 x0))] : List Value).getD (((own_first [x0] 0) <<< ((1 : Int32) &&& 31)) + (1 : Int32)).toNatClampNeg (.int (0 : Int32)) = .int (StrChars.hi8 c9) := by
    by_cases hg0 : (255 : Int32) < x0
    · rw [(show own_first [x0] 0 = (0 : Int32) from (if_pos hg0))]
      exact ⟨x0, hr0, hg0, by decide, by decide, rfl, rfl⟩
    exact absurd (show own_first [x0] 0 = (1 : Int32) from ((if_neg hg0).trans rfl)) hm
  obtain ⟨_, T17, h17, L17, X17, e17, ⟨rfl, Nq, hu⟩, st17⟩ := own_callS X16 hx hZ hown (hw _ (List.mem_of_getElem? (i := 69) rfl)) (hw _ (List.mem_of_getElem? (i := 70) rfl)) (hw _ (List.mem_of_getElem? (i := 21) rfl)) (hw _ (List.mem_of_getElem? (i := 71) rfl)) (by decide) (own_rm_getc l Z a0 hw [] a (own_first [x0] 0) (2 : Int32) (StrChars.lo8 c9) (StrChars.hi8 c9) ka [(.int (StrChars.lo8 x0)), (.int (StrChars.hi8 x0))] h16 n0 Od V_a b0 b1 q0 q1 OA OH OL) (by decide) (by decide) e16 (W := 0) (g := (mkF m 32 #[.val (.ref sr), .val (.int (0 : Int32)), .val (.int (1 : Int32)), .val (.ref ds), .val (.int (own_first [x0] 0)), .val (.ref a)] [(.int (own_first [x0] 0)), (.ref a)])) rfl (by rw [hml]; rfl) (argsL := [(.ref a), (.int (own_first [x0] 0))]) (rest := []) rfl (lenOf own_pd5 rfl) rfl (by show 2 * 0 + _ ≤ _; exact Nat.le_of_eq rfl) (hb hby own_d_jdk_52_method_16_32) (by decide) (by decide)
  have N17 := Fr.app N16 Nq
  refine own_st st17 ?_
  show own_Go p e below s _ _ _ (T17.setTop (mkF m 35 #[.val (.ref sr), .val (.int (0 : Int32)), .val (.int (1 : Int32)), .val (.ref ds), .val (.int (own_first [x0] 0)), .val (.ref a)] [(.int (nar .char ((((StrChars.lo8 c9 &&& 255) <<< ((0 : Int32) &&& 31)) ||| ((StrChars.hi8 c9 &&& 255) <<< ((8 : Int32) &&& 31))).toUInt32.toUInt16.toUInt32.toInt32)))]))
  rw [own_pair r9.1 r9.2]
  show own_Go p e below s _ _ _ (T17.setTop (mkF m 35 #[.val (.ref sr), .val (.int (0 : Int32)), .val (.int (1 : Int32)), .val (.ref ds), .val (.int (own_first [x0] 0)), .val (.ref a)] [(.int c9)]))
  refine own_st (fun t9 k9 => XS.sipush X17.here hx rfl (hb hby own_d_jdk_52_method_16_35) k9) ?_
  show own_Go p e below s _ _ _ (T17.setTop (mkF m 38 #[.val (.ref sr), .val (.int (0 : Int32)), .val (.int (1 : Int32)), .val (.ref ds), .val (.int (own_first [x0] 0)), .val (.ref a)] [(.int (255 : Int32)), (.int c9)]))
  refine own_st (fun t9 k9 => XS.icmpYes X17.here hx rfl (pc0 := 38) (pc' := 54) rfl (hb hby own_d_jdk_52_method_16_38) rfl (tlt (g9 : (255 : Int32) < c9)).2.2.1 (by decide) (by decide) k9) ?_
  show own_Go p e below s _ _ _ (T17.setTop (mkF m 54 #[.val (.ref sr), .val (.int (0 : Int32)), .val (.int (1 : Int32)), .val (.ref ds), .val (.int (own_first [x0] 0)), .val (.ref a)] []))
  refine own_st (fun t9 k9 => XS.aload X17.here hx rfl (hb hby own_d_jdk_52_method_16_54) rfl rfl k9) ?_
  show own_Go p e below s _ _ _ (T17.setTop (mkF m 56 #[.val (.ref sr), .val (.int (0 : Int32)), .val (.int (1 : Int32)), .val (.ref ds), .val (.int (own_first [x0] 0)), .val (.ref a)] [(.ref a)]))
  exact own_retR X17 hx hlk Bd.returns rfl rfl (hb hby own_d_jdk_52_method_16_56) (by decide) (by decide) (by rw [(e17.trans hu)]; exact ⟨N17, Kp, a, ka, rfl, gz_a, V_a⟩)
theorem own_d_jdk_52_method_15_0 : decode jdk_52_method_15_code 0 = .ok (.iload_n 1, 1) := by decide +kernel
theorem own_d_jdk_52_method_15_1 : decode jdk_52_method_15_code 1 = .ok (.aload_n 0, 1) := by decide +kernel
theorem own_d_jdk_52_method_15_2 : decode jdk_52_method_15_code 2 = .ok (.arraylength, 1) := by decide +kernel
theorem own_d_jdk_52_method_15_3 : decode jdk_52_method_15_code 3 = .ok (.isub, 1) := by decide +kernel
theorem own_d_jdk_52_method_15_4 : decode jdk_52_method_15_code 4 = .ok (.bipush 31, 2) := by decide +kernel
theorem own_d_jdk_52_method_15_6 : decode jdk_52_method_15_code 6 = .ok (.iushr, 1) := by decide +kernel
theorem own_d_jdk_52_method_15_7 : decode jdk_52_method_15_code 7 = .ok (.i2b, 1) := by decide +kernel
theorem own_d_jdk_52_method_15_8 : decode jdk_52_method_15_code 8 = .ok (.ireturn, 1) := by decide +kernel
theorem own_ef_cfal1 (m : MethodId) (x0 : Addr) (x1 : Int32) : entryFrame m #[(.ref x0), (.int x1)] 2 = mkF m 0 #[.val (.ref x0), .val (.int x1)] [] := by first | (simp [entryFrame, mkF, argsToLocals, Value.category]; done) | rfl
def own_Q_cfal1 (Z : State)  (h0 : Heap) (n0 : Nat) (v : Option Value) (h : Heap) (L : List Loc) : Prop := v = some (.int (1 : Int32)) ∧ Fr n0 L ∧ h = h0
set_option maxRecDepth 65536 in
set_option maxHeartbeats 40000000 in
theorem own_rm_cfal1 (l : Launch) (Z : State) (a0 : Array Value) (hw : ∀ d ∈ tables_1, d.before a0 Z = true) (ws : List Jvm.Cond) (b : Addr) (kb : ClassId) (vs : List Value) (h0 : Heap) (n0 : Nat) (Od : Old Z n0 h0) (A : Arv Z h0 b kb .byte (2 : Int32) vs (.int (0 : Int32))) :
    MetFree l (⟨"java/lang/StringUTF16", "coderFromArrayLen", "([BI)B"⟩ : MethodName) (head1 (Jvm.Cond.code (⟨"java/lang/StringUTF16", "coderFromArrayLen", "([BI)B"⟩ : MethodName) jdk_52_method_15_code 2 (some .byte) :: ws) ({ frames := 0, cells := 0, slots := 0, locals := 0 } : Room)) (fun a9 U => a9 = #[(.ref b), (.int (1 : Int32))] ∧ Z.Warmed39 U.vm ∧ U.heap = h0) (fun _ _ _ _ _ => True) (fun _ U o U' => ∃ v L, o = .returned v ∧ own_Q_cfal1 Z  h0 n0 v U'.heap L ∧ FrameEnd U o U' L ({ frames := 0, cells := 0, slots := 0, locals := 0 } : Room).cells ({ frames := 0, cells := 0, slots := 0, locals := 0 } : Room).slots) := by
  refine MetFree.of_bodySF (plainFor_of_name own_pn0) hisR ?_
  intro p e s m args below meth c s₁ Bd hml0 hP hK
  obtain ⟨rfl, hZ, hh⟩ := hP
  have hx := Bd.exec
  have hby := Bd.bytes
  have hml : c.maxLocals = 2 := hml0
  have hown : s.vm.findClass "java/lang/StringUTF16" = some m.cls := findClass_of_methodNamed Bd.named
  have hnm := (name_of_methodNamed Bd.named Bd.method).1
  have hlk : meth.locks = false := Bd.notSynchronized
  have X0 : Stand p l e ({ frames := 0, cells := 0, slots := 0, locals := 0 } : Room) s m #[(.ref b), (.int (1 : Int32))] below meth c s₁ [] 0 0 := Stand.of_body Bd
  have e0 : s₁.heap = h0 := by rw [← hh, Bd.state]; rfl
  have N0 := Fr.nil n0
  show own_Go p e below s (own_Q_cfal1 Z  h0 n0) ({ frames := 0, cells := 0, slots := 0, locals := 0 } : Room).cells ({ frames := 0, cells := 0, slots := 0, locals := 0 } : Room).slots (s₁.setTop (entryFrame m #[(.ref b), (.int (1 : Int32))] 2))
  refine own_st (fun t9 k9 => castTop (own_ef_cfal1 m b (1 : Int32)) k9) ?_
  show own_Go p e below s _ _ _ (s₁.setTop (mkF m 0 #[.val (.ref b), .val (.int (1 : Int32))] []))
  refine own_st (fun t9 k9 => XS.iloadN X0.here hx rfl (hb hby own_d_jdk_52_method_15_0) rfl  k9) ?_
  show own_Go p e below s _ _ _ (s₁.setTop (mkF m 1 #[.val (.ref b), .val (.int (1 : Int32))] [(.int (1 : Int32))]))
  refine own_st (fun t9 k9 => XS.aloadN X0.here hx rfl (hb hby own_d_jdk_52_method_15_1) rfl rfl k9) ?_
  show own_Go p e below s _ _ _ (s₁.setTop (mkF m 2 #[.val (.ref b), .val (.int (1 : Int32))] [(.ref b), (.int (1 : Int32))]))
  refine own_st (fun t9 k9 => own_alen X0 hx hZ e0 A (g := (mkF m 2 #[.val (.ref b), .val (.int (1 : Int32))] [(.ref b), (.int (1 : Int32))])) rfl rfl (hb hby own_d_jdk_52_method_15_2) t9 k9) ?_
  show own_Go p e below s _ _ _ (s₁.setTop (mkF m 3 #[.val (.ref b), .val (.int (1 : Int32))] [(.int (2 : Int32)), (.int (1 : Int32))]))
  refine own_st (fun t9 k9 => XS.isub X0.here hx rfl (hb hby own_d_jdk_52_method_15_3) rfl k9) ?_
  show own_Go p e below s _ _ _ (s₁.setTop (mkF m 4 #[.val (.ref b), .val (.int (1 : Int32))] [(.int ((1 : Int32) - (2 : Int32)))]))
  refine own_st (fun t9 k9 => XS.bipush X0.here hx rfl (hb hby own_d_jdk_52_method_15_4) k9) ?_
  show own_Go p e below s _ _ _ (s₁.setTop (mkF m 6 #[.val (.ref b), .val (.int (1 : Int32))] [(.int (31 : Int32)), (.int ((1 : Int32) - (2 : Int32)))]))
  refine own_st (fun t9 k9 => XT.iushr X0.here hx rfl (hb hby own_d_jdk_52_method_15_6) rfl k9) ?_
  show own_Go p e below s _ _ _ (s₁.setTop (mkF m 7 #[.val (.ref b), .val (.int (1 : Int32))] [(.int ((((1 : Int32) - (2 : Int32)).toUInt32 >>> ((31 : Int32) &&& 31).toUInt32).toInt32))]))
  refine own_st (fun t9 k9 => XT.i2b X0.here hx rfl (hb hby own_d_jdk_52_method_15_7) rfl k9) ?_
  show own_Go p e below s _ _ _ (s₁.setTop (mkF m 8 #[.val (.ref b), .val (.int (1 : Int32))] [(.int (((((1 : Int32) - (2 : Int32)).toUInt32 >>> ((31 : Int32) &&& 31).toUInt32).toInt32).toInt8.toInt32))]))
  exact own_retN X0 hx hlk (t := .byte) Bd.returns (by simp) (hb hby own_d_jdk_52_method_15_8) (by decide) (by decide) (by rw [e0]; exact ⟨by decide, N0, rfl⟩)
theorem own_pn1 : plainName "java/lang/String" = true := by first | (simp [plainName, overriddenIn]; done) | decide +kernel
theorem own_d_jdk_42_method_149_0 : decode jdk_42_method_149_code 0 = .ok (.aload_n 0, 1) := by decide +kernel
theorem own_d_jdk_42_method_149_1 : decode jdk_42_method_149_code 1 = .ok (.invokespecial 1, 3) := by decide +kernel
theorem own_d_jdk_42_method_149_4 : decode jdk_42_method_149_code 4 = .ok (.iload_n 3, 1) := by decide +kernel
theorem own_d_jdk_42_method_149_5 : decode jdk_42_method_149_code 5 = .ok (.ifCond .ne 22, 3) := by decide +kernel
theorem own_d_jdk_42_method_149_27 : decode jdk_42_method_149_code 27 = .ok (.getstatic 38, 3) := by decide +kernel
theorem own_d_jdk_42_method_149_30 : decode jdk_42_method_149_code 30 = .ok (.ifCond .eq 28, 3) := by decide +kernel
theorem own_d_jdk_42_method_149_33 : decode jdk_42_method_149_code 33 = .ok (.aload_n 1, 1) := by decide +kernel
theorem own_d_jdk_42_method_149_34 : decode jdk_42_method_149_code 34 = .ok (.iload_n 2, 1) := by decide +kernel
theorem own_d_jdk_42_method_149_35 : decode jdk_42_method_149_code 35 = .ok (.iload_n 3, 1) := by decide +kernel
theorem own_d_jdk_42_method_149_36 : decode jdk_42_method_149_code 36 = .ok (.invokestatic 177, 3) := by decide +kernel
theorem own_d_jdk_42_method_149_39 : decode jdk_42_method_149_code 39 = .ok (.astore 5, 2) := by decide +kernel
theorem own_d_jdk_42_method_149_41 : decode jdk_42_method_149_code 41 = .ok (.aload_n 0, 1) := by decide +kernel
theorem own_d_jdk_42_method_149_42 : decode jdk_42_method_149_code 42 = .ok (.aload 5, 2) := by decide +kernel
theorem own_d_jdk_42_method_149_44 : decode jdk_42_method_149_code 44 = .ok (.iload_n 3, 1) := by decide +kernel
theorem own_pd6 : parseMethodDescriptor "([BI)B" = some ⟨[(.array .byte), .int], some .byte⟩ := by decide +kernel
theorem own_d_jdk_42_method_149_45 : decode jdk_42_method_149_code 45 = .ok (.invokestatic 47, 3) := by decide +kernel
theorem own_d_jdk_42_method_149_48 : decode jdk_42_method_149_code 48 = .ok (.putfield 15, 3) := by decide +kernel
theorem own_d_jdk_42_method_149_51 : decode jdk_42_method_149_code 51 = .ok (.aload_n 0, 1) := by decide +kernel
theorem own_d_jdk_42_method_149_52 : decode jdk_42_method_149_code 52 = .ok (.aload 5, 2) := by decide +kernel
theorem own_d_jdk_42_method_149_54 : decode jdk_42_method_149_code 54 = .ok (.putfield 9, 3) := by decide +kernel
theorem own_d_jdk_42_method_149_57 : decode jdk_42_method_149_code 57 = .ok (.return_, 1) := by decide +kernel
theorem own_ef_si2_1 (m : MethodId) (x0 : Addr) (x1 : Addr) (x2 : Int32) (x3 : Int32) : entryFrame m #[(.ref x0), (.ref x1), (.int x2), (.int x3), .null] 6 = mkF m 0 #[.val (.ref x0), .val (.ref x1), .val (.int x2), .val (.int x3), .val .null, .unset] [] := by first | (simp [entryFrame, mkF, argsToLocals, Value.category]; done) | rfl
def own_Q_si2_1 (Z : State) (x : Addr) (x0 : Int32) (h0 : Heap) (n0 : Nat) (v : Option Value) (h : Heap) (L : List Loc) : Prop := v = none ∧ Fr n0 L ∧ Keep h0 h [x] ∧ Exa Z h x "java/lang/String" ∧ Fld Z h x "java/lang/String" "coder" "B" (.int (1 : Int32)) ∧ ∃ t k, h0.size ≤ t ∧ Fld Z h x "java/lang/String" "value" "[B" (.ref t) ∧ Arv Z h t k .byte (2 : Int32) [(.int (StrChars.lo8 x0)), (.int (StrChars.hi8 x0))] (.int (0 : Int32))
set_option maxRecDepth 65536 in
set_option maxHeartbeats 40000000 in
theorem own_rm_si2_1 (l : Launch) (Z : State) (a0 : Array Value) (hw : ∀ d ∈ tables_1, d.before a0 Z = true) (ws : List Jvm.Cond) (x : Addr) (sr : Addr) (ks : ClassId) (v0 c0 : Value) (G : Int32) (x0 : Int32) (h0 : Heap) (n0 : Nat) (Od : Old Z n0 h0) (E_x : Exa Z h0 x "java/lang/String") (F_v : Fld Z h0 x "java/lang/String" "value" "[B" v0) (F_k : Fld Z h0 x "java/lang/String" "coder" "B" c0) (V_s : Arv Z h0 sr ks .char (1 : Int32) [(.int x0)] (.int (0 : Int32))) (ge_x : n0 ≤ x) (ne_s : sr ≠ x) (hr0 : ¬ x0 < 0 ∧ ¬ (65535 : Int32) < x0) (hm : ¬ own_first [x0] 0 = (1 : Int32)) (OA : Sta Z Z.heap "java/lang/StringUTF16" "$assertionsDisabled" "Z" (.int (1 : Int32))) (OH : Sta Z Z.heap "java/lang/StringUTF16" "HI_BYTE_SHIFT" "I" (.int (0 : Int32))) (OL : Sta Z Z.heap "java/lang/StringUTF16" "LO_BYTE_SHIFT" "I" (.int (8 : Int32))) (O2 : Sta Z Z.heap "java/lang/String" "COMPACT_STRINGS" "Z" (.int G)) (P5 : ¬ (G = (0 : Int32))) :
    MetFree l (⟨"java/lang/String", "<init>", "([CIILjava/lang/Void;)V"⟩ : MethodName) (head1 (Jvm.Cond.code (⟨"java/lang/String", "<init>", "([CIILjava/lang/Void;)V"⟩ : MethodName) jdk_42_method_149_code 6 none :: ws) ({ frames := 4, cells := 2, slots := 3, locals := 57 } : Room)) (fun a9 U => a9 = #[(.ref x), (.ref sr), (.int (0 : Int32)), (.int (1 : Int32)), .null] ∧ Z.Warmed39 U.vm ∧ U.heap = h0) (fun _ _ _ _ _ => True) (fun _ U o U' => ∃ v L, o = .returned v ∧ own_Q_si2_1 Z x x0 h0 n0 v U'.heap L ∧ FrameEnd U o U' L ({ frames := 4, cells := 2, slots := 3, locals := 57 } : Room).cells ({ frames := 4, cells := 2, slots := 3, locals := 57 } : Room).slots) := by
  refine MetFree.of_bodySF (plainFor_of_name own_pn1) hisR ?_
  intro p e s m args below meth c s₁ Bd hml0 hP hK
  obtain ⟨rfl, hZ, hh⟩ := hP
  have hx := Bd.exec
  have hby := Bd.bytes
  have hml : c.maxLocals = 6 := hml0
  have hown : s.vm.findClass "java/lang/String" = some m.cls := findClass_of_methodNamed Bd.named
  have hnm := (name_of_methodNamed Bd.named Bd.method).1
  have hlk : meth.locks = false := Bd.notSynchronized
  have X0 : Stand p l e ({ frames := 4, cells := 2, slots := 3, locals := 57 } : Room) s m #[(.ref x), (.ref sr), (.int (0 : Int32)), (.int (1 : Int32)), .null] below meth c s₁ [] 0 0 := Stand.of_body Bd
  have e0 : s₁.heap = h0 := by rw [← hh, Bd.state]; rfl
  have N0 := Fr.nil n0
  show own_Go p e below s (own_Q_si2_1 Z x x0 h0 n0) ({ frames := 4, cells := 2, slots := 3, locals := 57 } : Room).cells ({ frames := 4, cells := 2, slots := 3, locals := 57 } : Room).slots (s₁.setTop (entryFrame m #[(.ref x), (.ref sr), (.int (0 : Int32)), (.int (1 : Int32)), .null] 6))
  refine own_st (fun t9 k9 => castTop (own_ef_si2_1 m x sr (0 : Int32) (1 : Int32)) k9) ?_
  show own_Go p e below s _ _ _ (s₁.setTop (mkF m 0 #[.val (.ref x), .val (.ref sr), .val (.int (0 : Int32)), .val (.int (1 : Int32)), .val .null, .unset] []))
  have Kp : Keep h0 h0 [x] := Keep.refl h0 [x]
  refine own_st (fun t9 k9 => XS.aloadN X0.here hx rfl (hb hby own_d_jdk_42_method_149_0) rfl rfl k9) ?_
  show own_Go p e below s _ _ _ (s₁.setTop (mkF m 1 #[.val (.ref x), .val (.ref sr), .val (.int (0 : Int32)), .val (.int (1 : Int32)), .val .null, .unset] [(.ref x)]))
  obtain ⟨T18, X18, e18, st18⟩ := initO X0 hx hZ hown (hw _ (List.mem_of_getElem? (i := 15) rfl)) (hw _ (List.mem_of_getElem? (i := 16) rfl)) (hw _ (List.mem_of_getElem? (i := 17) rfl)) e0 (g := (mkF m 1 #[.val (.ref x), .val (.ref sr), .val (.int (0 : Int32)), .val (.int (1 : Int32)), .val .null, .unset] [(.ref x)])) rfl (by rw [hml]; rfl) rfl (hb hby own_d_jdk_42_method_149_1) (by decide) (W := 0) (by show 2 * 0 + _ ≤ _; exact Nat.le_of_eq rfl) (by decide)
  refine own_st st18 ?_
  show own_Go p e below s _ _ _ (T18.setTop (mkF m 4 #[.val (.ref x), .val (.ref sr), .val (.int (0 : Int32)), .val (.int (1 : Int32)), .val .null, .unset] []))
  refine own_st (fun t9 k9 => XS.iloadN X18.here hx rfl (hb hby own_d_jdk_42_method_149_4) rfl  k9) ?_
  show own_Go p e below s _ _ _ (T18.setTop (mkF m 5 #[.val (.ref x), .val (.ref sr), .val (.int (0 : Int32)), .val (.int (1 : Int32)), .val .null, .unset] [(.int (1 : Int32))]))
  refine own_st (fun t9 k9 => XS.ifYes X18.here hx rfl (pc0 := 5) (pc' := 27) rfl (hb hby own_d_jdk_42_method_149_5) rfl (by decide) (by decide) (by decide) k9) ?_
  show own_Go p e below s _ _ _ (T18.setTop (mkF m 27 #[.val (.ref x), .val (.ref sr), .val (.int (0 : Int32)), .val (.int (1 : Int32)), .val .null, .unset] []))
  obtain ⟨T19, X19, e19, st19⟩ := getS (host := "") X18 hx hZ hown (hw _ (List.mem_of_getElem? (i := 18) rfl)) Via.refl e18 (O2.ext Od.2) (g := (mkF m 27 #[.val (.ref x), .val (.ref sr), .val (.int (0 : Int32)), .val (.int (1 : Int32)), .val .null, .unset] [])) rfl (hb hby own_d_jdk_42_method_149_27)
  refine own_st st19 ?_
  show own_Go p e below s _ _ _ (T19.setTop (mkF m 30 #[.val (.ref x), .val (.ref sr), .val (.int (0 : Int32)), .val (.int (1 : Int32)), .val .null, .unset] [(.int G)]))
  refine own_st (fun t9 k9 => XS.ifNo X19.here hx rfl (hb hby own_d_jdk_42_method_149_30) rfl ((if0 _ _).trans (feq (P5 : ¬ (G = (0 : Int32)))).1) k9) ?_
  show own_Go p e below s _ _ _ (T19.setTop (mkF m 33 #[.val (.ref x), .val (.ref sr), .val (.int (0 : Int32)), .val (.int (1 : Int32)), .val .null, .unset] []))
  refine own_st (fun t9 k9 => XS.aloadN X19.here hx rfl (hb hby own_d_jdk_42_method_149_33) rfl rfl k9) ?_
  show own_Go p e below s _ _ _ (T19.setTop (mkF m 34 #[.val (.ref x), .val (.ref sr), .val (.int (0 : Int32)), .val (.int (1 : Int32)), .val .null, .unset] [(.ref sr)]))
  refine own_st (fun t9 k9 => XS.iloadN X19.here hx rfl (hb hby own_d_jdk_42_method_149_34) rfl  k9) ?_
  show own_Go p e below s _ _ _ (T19.setTop (mkF m 35 #[.val (.ref x), .val (.ref sr), .val (.int (0 : Int32)), .val (.int (1 : Int32)), .val .null, .unset] [(.int (0 : Int32)), (.ref sr)]))
  refine own_st (fun t9 k9 => XS.iloadN X19.here hx rfl (hb hby own_d_jdk_42_method_149_35) rfl  k9) ?_
  show own_Go p e below s _ _ _ (T19.setTop (mkF m 36 #[.val (.ref x), .val (.ref sr), .val (.int (0 : Int32)), .val (.int (1 : Int32)), .val .null, .unset] [(.int (1 : Int32)), (.int (0 : Int32)), (.ref sr)]))
  obtain ⟨_, T20, h20, L20, X20, e20, ⟨Nc, Kc, t, kt, rfl, get, V_t⟩, st20⟩ := own_callS X19 hx hZ hown (hw _ (List.mem_of_getElem? (i := 19) rfl)) (hw _ (List.mem_of_getElem? (i := 20) rfl)) (hw _ (List.mem_of_getElem? (i := 21) rfl)) (hw _ (List.mem_of_getElem? (i := 22) rfl)) (by decide) (own_rm_cp1 l Z a0 hw [] sr ks x0 h0 n0 Od V_s hr0 hm OA OH OL) (by decide) (by decide) e19 (W := 0) (g := (mkF m 36 #[.val (.ref x), .val (.ref sr), .val (.int (0 : Int32)), .val (.int (1 : Int32)), .val .null, .unset] [(.int (1 : Int32)), (.int (0 : Int32)), (.ref sr)])) rfl (by rw [hml]; rfl) (argsL := [(.ref sr), (.int (0 : Int32)), (.int (1 : Int32))]) (rest := []) rfl (lenOf own_pd4 rfl) rfl (by show 2 * 0 + _ ≤ _; exact Nat.le_of_eq rfl) (hb hby own_d_jdk_42_method_149_36) (by decide) (by decide)
  have N20 := Fr.app N0 Nc
  have ne_x_t : x ≠ t := Nat.ne_of_lt (Nat.lt_of_lt_of_le E_x.lt get)
  have ne_sr_t : sr ≠ t := Nat.ne_of_lt (Nat.lt_of_lt_of_le V_s.lt get)
  have ge_t : n0 ≤ t := Nat.le_trans (own_z0 Od) get
  have gz_t : h0.size ≤ t := Nat.le_trans Kp.1 get
  have E_x := E_x.keep Kc
  have F_v := F_v.keep Kc nin0
  have F_k := F_k.keep Kc nin0
  have V_s := V_s.keep Kc nin0
  have Od := Od.keep Kc all0
  have Kp := Kp.trans Kc all0
  refine own_st st20 ?_
  show own_Go p e below s _ _ _ (T20.setTop (mkF m 39 #[.val (.ref x), .val (.ref sr), .val (.int (0 : Int32)), .val (.int (1 : Int32)), .val .null, .unset] [(.ref t)]))
  refine own_st (fun t9 k9 => XS.astore X20.here hx rfl (hb hby own_d_jdk_42_method_149_39) rfl rfl (l' := #[.val (.ref x), .val (.ref sr), .val (.int (0 : Int32)), .val (.int (1 : Int32)), .val .null, .val (.ref t)]) rfl k9) ?_
  show own_Go p e below s _ _ _ (T20.setTop (mkF m 41 #[.val (.ref x), .val (.ref sr), .val (.int (0 : Int32)), .val (.int (1 : Int32)), .val .null, .val (.ref t)] []))
  refine own_st (fun t9 k9 => XS.aloadN X20.here hx rfl (hb hby own_d_jdk_42_method_149_41) rfl rfl k9) ?_
  show own_Go p e below s _ _ _ (T20.setTop (mkF m 42 #[.val (.ref x), .val (.ref sr), .val (.int (0 : Int32)), .val (.int (1 : Int32)), .val .null, .val (.ref t)] [(.ref x)]))
  refine own_st (fun t9 k9 => XS.aload X20.here hx rfl (hb hby own_d_jdk_42_method_149_42) rfl rfl k9) ?_
  show own_Go p e below s _ _ _ (T20.setTop (mkF m 44 #[.val (.ref x), .val (.ref sr), .val (.int (0 : Int32)), .val (.int (1 : Int32)), .val .null, .val (.ref t)] [(.ref t), (.ref x)]))
  refine own_st (fun t9 k9 => XS.iloadN X20.here hx rfl (hb hby own_d_jdk_42_method_149_44) rfl  k9) ?_
  show own_Go p e below s _ _ _ (T20.setTop (mkF m 45 #[.val (.ref x), .val (.ref sr), .val (.int (0 : Int32)), .val (.int (1 : Int32)), .val .null, .val (.ref t)] [(.int (1 : Int32)), (.ref t), (.ref x)]))
  obtain ⟨_, T21, h21, L21, X21, e21, ⟨rfl, Nd, hu⟩, st21⟩ := own_callS X20 hx hZ hown (hw _ (List.mem_of_getElem? (i := 27) rfl)) (hw _ (List.mem_of_getElem? (i := 28) rfl)) (hw _ (List.mem_of_getElem? (i := 21) rfl)) (hw _ (List.mem_of_getElem? (i := 29) rfl)) (by decide) (own_rm_cfal1 l Z a0 hw [] t kt _ h20 n0 Od V_t) (by decide) (by decide) e20 (W := 1) (g := (mkF m 45 #[.val (.ref x), .val (.ref sr), .val (.int (0 : Int32)), .val (.int (1 : Int32)), .val .null, .val (.ref t)] [(.int (1 : Int32)), (.ref t), (.ref x)])) rfl (by rw [hml]; rfl) (argsL := [(.ref t), (.int (1 : Int32))]) (rest := [(.ref x)]) rfl (lenOf own_pd6 rfl) rfl (by show 2 * 0 + _ ≤ _; exact Nat.le_of_eq rfl) (hb hby own_d_jdk_42_method_149_45) (by decide) (by decide)
  have N21 := Fr.app N20 Nd
  refine own_st st21 ?_
  show own_Go p e below s _ _ _ (T21.setTop (mkF m 48 #[.val (.ref x), .val (.ref sr), .val (.int (0 : Int32)), .val (.int (1 : Int32)), .val .null, .val (.ref t)] [(.int (1 : Int32)), (.ref x)]))
  obtain ⟨T22, h22, X22, e22, W22, st22⟩ := putFN X21 hx hZ hown (hw _ (List.mem_of_getElem? (i := 30) rfl)) Via.refl (e21.trans hu) F_k E_x (Or.inr ⟨(hw _ (List.mem_of_getElem? (i := 31) rfl)), rfl, hnm⟩) (hw _ (List.mem_of_getElem? (i := 5) rfl)) (ty := .byte) (v' := (.int (1 : Int32))) (by decide) rfl rfl (g := (mkF m 48 #[.val (.ref x), .val (.ref sr), .val (.int (0 : Int32)), .val (.int (1 : Int32)), .val .null, .val (.ref t)] [(.int (1 : Int32)), (.ref x)])) rfl rfl (hb hby own_d_jdk_42_method_149_48)
  have N22 := Fr.snoc X22 N21 ge_x
  have E_x := E_x.wr W22
  have F_v := F_v.other W22 (Or.inr (RoadKit.slot_ne (Or.inr (hw _ (List.mem_of_getElem? (i := 33) rfl))) (Or.inr (hw _ (List.mem_of_getElem? (i := 31) rfl))) (by decide) (t := (.array .byte)) (t' := .byte) (by decide) (by decide)))
  have F_k := F_k.same W22
  have V_s := V_s.other W22 ne_s
  have V_t := V_t.other W22 (Ne.symm ne_x_t)
  have Od := Od.wr W22 ge_x
  have Kp := Kp.wr W22 (Or.inl (List.mem_of_getElem? (i := 0) rfl))
  refine own_st st22 ?_
  show own_Go p e below s _ _ _ (T22.setTop (mkF m 51 #[.val (.ref x), .val (.ref sr), .val (.int (0 : Int32)), .val (.int (1 : Int32)), .val .null, .val (.ref t)] []))
  refine own_st (fun t9 k9 => XS.aloadN X22.here hx rfl (hb hby own_d_jdk_42_method_149_51) rfl rfl k9) ?_
  show own_Go p e below s _ _ _ (T22.setTop (mkF m 52 #[.val (.ref x), .val (.ref sr), .val (.int (0 : Int32)), .val (.int (1 : Int32)), .val .null, .val (.ref t)] [(.ref x)]))
  refine own_st (fun t9 k9 => XS.aload X22.here hx rfl (hb hby own_d_jdk_42_method_149_52) rfl rfl k9) ?_
  show own_Go p e below s _ _ _ (T22.setTop (mkF m 54 #[.val (.ref x), .val (.ref sr), .val (.int (0 : Int32)), .val (.int (1 : Int32)), .val .null, .val (.ref t)] [(.ref t), (.ref x)]))
  obtain ⟨T23, h23, X23, e23, W23, st23⟩ := putF X22 hx hZ hown (host := "") (Or.inl (hw _ (List.mem_of_getElem? (i := 32) rfl))) Via.refl e22 F_v E_x (Or.inr ⟨(hw _ (List.mem_of_getElem? (i := 33) rfl)), rfl, hnm⟩) (hw _ (List.mem_of_getElem? (i := 5) rfl)) (ty := (.array .byte)) (by decide) rfl rfl (g := (mkF m 54 #[.val (.ref x), .val (.ref sr), .val (.int (0 : Int32)), .val (.int (1 : Int32)), .val .null, .val (.ref t)] [(.ref t), (.ref x)])) rfl rfl (hb hby own_d_jdk_42_method_149_54)
  have N23 := Fr.snoc X23 N22 ge_x
  have E_x := E_x.wr W23
  have F_v := F_v.same W23
  have F_k := F_k.other W23 (Or.inr (RoadKit.slot_ne (Or.inr (hw _ (List.mem_of_getElem? (i := 31) rfl))) (Or.inr (hw _ (List.mem_of_getElem? (i := 33) rfl))) (by decide) (t := .byte) (t' := (.array .byte)) (by decide) (by decide)))
  have V_s := V_s.other W23 ne_s
  have V_t := V_t.other W23 (Ne.symm ne_x_t)
  have Od := Od.wr W23 ge_x
  have Kp := Kp.wr W23 (Or.inl (List.mem_of_getElem? (i := 0) rfl))
  refine own_st st23 ?_
  show own_Go p e below s _ _ _ (T23.setTop (mkF m 57 #[.val (.ref x), .val (.ref sr), .val (.int (0 : Int32)), .val (.int (1 : Int32)), .val .null, .val (.ref t)] []))
  exact own_retV X23 hx hlk Bd.returns (hb hby own_d_jdk_42_method_149_57) (by decide) (by decide) (by rw [e23]; exact ⟨rfl, N23, Kp, E_x, F_k, t, kt, gz_t, F_v, V_t⟩)
theorem own_d_jdk_42_method_3_0 : decode jdk_42_method_3_code 0 = .ok (.aload_n 0, 1) := by decide +kernel
theorem own_d_jdk_42_method_3_1 : decode jdk_42_method_3_code 1 = .ok (.aload_n 1, 1) := by decide +kernel
theorem own_d_jdk_42_method_3_2 : decode jdk_42_method_3_code 2 = .ok (.iconst 0, 1) := by decide +kernel
theorem own_d_jdk_42_method_3_3 : decode jdk_42_method_3_code 3 = .ok (.aload_n 1, 1) := by decide +kernel
theorem own_d_jdk_42_method_3_4 : decode jdk_42_method_3_code 4 = .ok (.arraylength, 1) := by decide +kernel
theorem own_d_jdk_42_method_3_5 : decode jdk_42_method_3_code 5 = .ok (.aconst_null, 1) := by decide +kernel
theorem own_pd7 : parseMethodDescriptor "([CIILjava/lang/Void;)V" = some ⟨[(.array .char), .int, .int, (.object "java/lang/Void")], none⟩ := by decide +kernel
theorem own_d_jdk_42_method_3_6 : decode jdk_42_method_3_code 6 = .ok (.invokespecial 27, 3) := by decide +kernel
theorem own_d_jdk_42_method_3_9 : decode jdk_42_method_3_code 9 = .ok (.return_, 1) := by decide +kernel
theorem own_ef_si1_1 (m : MethodId) (x0 : Addr) (x1 : Addr) : entryFrame m #[(.ref x0), (.ref x1)] 2 = mkF m 0 #[.val (.ref x0), .val (.ref x1)] [] := by first | (simp [entryFrame, mkF, argsToLocals, Value.category]; done) | rfl
def own_Q_si1_1 (Z : State) (x : Addr) (x0 : Int32) (h0 : Heap) (n0 : Nat) (v : Option Value) (h : Heap) (L : List Loc) : Prop := v = none ∧ Fr n0 L ∧ Keep h0 h [x] ∧ Exa Z h x "java/lang/String" ∧ Fld Z h x "java/lang/String" "coder" "B" (.int (1 : Int32)) ∧ ∃ t k, h0.size ≤ t ∧ Fld Z h x "java/lang/String" "value" "[B" (.ref t) ∧ Arv Z h t k .byte (2 : Int32) [(.int (StrChars.lo8 x0)), (.int (StrChars.hi8 x0))] (.int (0 : Int32))
set_option maxRecDepth 65536 in
set_option maxHeartbeats 40000000 in
theorem own_rm_si1_1 (l : Launch) (Z : State) (a0 : Array Value) (hw : ∀ d ∈ tables_1, d.before a0 Z = true) (ws : List Jvm.Cond) (x : Addr) (sr : Addr) (ks : ClassId) (v0 c0 : Value) (G : Int32) (x0 : Int32) (h0 : Heap) (n0 : Nat) (Od : Old Z n0 h0) (E_x : Exa Z h0 x "java/lang/String") (F_v : Fld Z h0 x "java/lang/String" "value" "[B" v0) (F_k : Fld Z h0 x "java/lang/String" "coder" "B" c0) (V_s : Arv Z h0 sr ks .char (1 : Int32) [(.int x0)] (.int (0 : Int32))) (ge_x : n0 ≤ x) (ne_s : sr ≠ x) (hr0 : ¬ x0 < 0 ∧ ¬ (65535 : Int32) < x0) (hm : ¬ own_first [x0] 0 = (1 : Int32)) (OA : Sta Z Z.heap "java/lang/StringUTF16" "$assertionsDisabled" "Z" (.int (1 : Int32))) (OH : Sta Z Z.heap "java/lang/StringUTF16" "HI_BYTE_SHIFT" "I" (.int (0 : Int32))) (OL : Sta Z Z.heap "java/lang/StringUTF16" "LO_BYTE_SHIFT" "I" (.int (8 : Int32))) (O2 : Sta Z Z.heap "java/lang/String" "COMPACT_STRINGS" "Z" (.int G)) (P5 : ¬ (G = (0 : Int32))) :
    MetFree l (⟨"java/lang/String", "<init>", "([C)V"⟩ : MethodName) (head1 (Jvm.Cond.code (⟨"java/lang/String", "<init>", "([C)V"⟩ : MethodName) jdk_42_method_3_code 2 none :: ws) ({ frames := 5, cells := 2, slots := 3, locals := 74 } : Room)) (fun a9 U => a9 = #[(.ref x), (.ref sr)] ∧ Z.Warmed39 U.vm ∧ U.heap = h0) (fun _ _ _ _ _ => True) (fun _ U o U' => ∃ v L, o = .returned v ∧ own_Q_si1_1 Z x x0 h0 n0 v U'.heap L ∧ FrameEnd U o U' L ({ frames := 5, cells := 2, slots := 3, locals := 74 } : Room).cells ({ frames := 5, cells := 2, slots := 3, locals := 74 } : Room).slots) := by
  refine MetFree.of_bodySF (plainFor_of_name own_pn1) hisR ?_
  intro p e s m args below meth c s₁ Bd hml0 hP hK
  obtain ⟨rfl, hZ, hh⟩ := hP
  have hx := Bd.exec
  have hby := Bd.bytes
  have hml : c.maxLocals = 2 := hml0
  have hown : s.vm.findClass "java/lang/String" = some m.cls := findClass_of_methodNamed Bd.named
  have hnm := (name_of_methodNamed Bd.named Bd.method).1
  have hlk : meth.locks = false := Bd.notSynchronized
  have X0 : Stand p l e ({ frames := 5, cells := 2, slots := 3, locals := 74 } : Room) s m #[(.ref x), (.ref sr)] below meth c s₁ [] 0 0 := Stand.of_body Bd
  have e0 : s₁.heap = h0 := by rw [← hh, Bd.state]; rfl
  have N0 := Fr.nil n0
  show own_Go p e below s (own_Q_si1_1 Z x x0 h0 n0) ({ frames := 5, cells := 2, slots := 3, locals := 74 } : Room).cells ({ frames := 5, cells := 2, slots := 3, locals := 74 } : Room).slots (s₁.setTop (entryFrame m #[(.ref x), (.ref sr)] 2))
  refine own_st (fun t9 k9 => castTop (own_ef_si1_1 m x sr) k9) ?_
  show own_Go p e below s _ _ _ (s₁.setTop (mkF m 0 #[.val (.ref x), .val (.ref sr)] []))
  have Kp : Keep h0 h0 [x] := Keep.refl h0 [x]
  refine own_st (fun t9 k9 => XS.aloadN X0.here hx rfl (hb hby own_d_jdk_42_method_3_0) rfl rfl k9) ?_
  show own_Go p e below s _ _ _ (s₁.setTop (mkF m 1 #[.val (.ref x), .val (.ref sr)] [(.ref x)]))
  refine own_st (fun t9 k9 => XS.aloadN X0.here hx rfl (hb hby own_d_jdk_42_method_3_1) rfl rfl k9) ?_
  show own_Go p e below s _ _ _ (s₁.setTop (mkF m 2 #[.val (.ref x), .val (.ref sr)] [(.ref sr), (.ref x)]))
  refine own_st (fun t9 k9 => XS.iconst X0.here hx rfl (hb hby own_d_jdk_42_method_3_2) k9) ?_
  show own_Go p e below s _ _ _ (s₁.setTop (mkF m 3 #[.val (.ref x), .val (.ref sr)] [(.int (0 : Int32)), (.ref sr), (.ref x)]))
  refine own_st (fun t9 k9 => XS.aloadN X0.here hx rfl (hb hby own_d_jdk_42_method_3_3) rfl rfl k9) ?_
  show own_Go p e below s _ _ _ (s₁.setTop (mkF m 4 #[.val (.ref x), .val (.ref sr)] [(.ref sr), (.int (0 : Int32)), (.ref sr), (.ref x)]))
  refine own_st (fun t9 k9 => own_alen X0 hx hZ e0 V_s (g := (mkF m 4 #[.val (.ref x), .val (.ref sr)] [(.ref sr), (.int (0 : Int32)), (.ref sr), (.ref x)])) rfl rfl (hb hby own_d_jdk_42_method_3_4) t9 k9) ?_
  show own_Go p e below s _ _ _ (s₁.setTop (mkF m 5 #[.val (.ref x), .val (.ref sr)] [(.int (1 : Int32)), (.int (0 : Int32)), (.ref sr), (.ref x)]))
  refine own_st (fun t9 k9 => XS.aconstNull X0.here hx rfl (hb hby own_d_jdk_42_method_3_5) k9) ?_
  show own_Go p e below s _ _ _ (s₁.setTop (mkF m 6 #[.val (.ref x), .val (.ref sr)] [.null, (.int (1 : Int32)), (.int (0 : Int32)), (.ref sr), (.ref x)]))
  obtain ⟨_, T24, h24, L24, X24, e24, ⟨rfl, Nc, Kc, E_y, F_c, t, kt, get, F_u, V_t⟩, st24⟩ := own_callI X0 hx hZ hown rfl (hw _ (List.mem_of_getElem? (i := 11) rfl)) (hw _ (List.mem_of_getElem? (i := 12) rfl)) (hw _ (List.mem_of_getElem? (i := 6) rfl)) (hw _ (List.mem_of_getElem? (i := 14) rfl)) (by decide) (own_rm_si2_1 l Z a0 hw [] x sr ks v0 c0 G x0 h0 n0 Od E_x F_v F_k V_s ge_x ne_s hr0 hm OA OH OL O2 P5) (by decide) (by decide) e0 (a := x) (W := 0) (g := (mkF m 6 #[.val (.ref x), .val (.ref sr)] [.null, (.int (1 : Int32)), (.int (0 : Int32)), (.ref sr), (.ref x)])) rfl (by rw [hml]; rfl) (argsL := [(.ref sr), (.int (0 : Int32)), (.int (1 : Int32)), .null]) (rest := []) rfl (lenOf own_pd7 rfl) rfl (by show 2 * 0 + _ ≤ _; exact Nat.le_of_eq rfl) (hb hby own_d_jdk_42_method_3_6) (by decide) (by decide)
  have N24 := Fr.app N0 Nc
  have E_x := E_x.keep Kc
  have V_s := V_s.keep Kc (ninS ne_s nin0)
  have Od := Od.keep Kc (allS ge_x all0)
  have Kp := Kp.trans Kc (allS (Or.inl (List.mem_of_getElem? (i := 0) rfl)) all0)
  refine own_st st24 ?_
  show own_Go p e below s _ _ _ (T24.setTop (mkF m 9 #[.val (.ref x), .val (.ref sr)] []))
  exact own_retV X24 hx hlk Bd.returns (hb hby own_d_jdk_42_method_3_9) (by decide) (by decide) (by rw [e24]; exact ⟨rfl, N24, Kp, E_y, F_c, t, kt, get, F_u, V_t⟩)
theorem own_ef_nbf2 (m : MethodId) (x0 : Int32) : entryFrame m #[(.int x0)] 1 = mkF m 0 #[.val (.int x0)] [] := by first | (simp [entryFrame, mkF, argsToLocals, Value.category]; done) | rfl
def own_Q_nbf2 (Z : State)  (h0 : Heap) (n0 : Nat) (v : Option Value) (h : Heap) (L : List Loc) : Prop := Fr n0 L ∧ Keep h0 h [] ∧ ∃ a k, v = some (.ref a) ∧ h0.size ≤ a ∧ Arv Z h a k .byte (4 : Int32) [(.int (0 : Int32)), (.int (0 : Int32)), (.int (0 : Int32)), (.int (0 : Int32))] (.int (0 : Int32))
set_option maxRecDepth 65536 in
set_option maxHeartbeats 40000000 in
theorem own_rm_nbf2 (l : Launch) (Z : State) (a0 : Array Value) (hw : ∀ d ∈ tables_1, d.before a0 Z = true) (ws : List Jvm.Cond)  (h0 : Heap) (n0 : Nat) (Od : Old Z n0 h0) :
    MetFree l (⟨"java/lang/StringUTF16", "newBytesFor", "(I)[B"⟩ : MethodName) (head1 (Jvm.Cond.code (⟨"java/lang/StringUTF16", "newBytesFor", "(I)[B"⟩ : MethodName) jdk_52_method_2_code 1 (some (.array .byte)) :: ws) ({ frames := 1, cells := 1, slots := 4, locals := 12 } : Room)) (fun a9 U => a9 = #[(.int (2 : Int32))] ∧ Z.Warmed39 U.vm ∧ U.heap = h0) (fun _ _ _ _ _ => True) (fun _ U o U' => ∃ v L, o = .returned v ∧ own_Q_nbf2 Z  h0 n0 v U'.heap L ∧ FrameEnd U o U' L ({ frames := 1, cells := 1, slots := 4, locals := 12 } : Room).cells ({ frames := 1, cells := 1, slots := 4, locals := 12 } : Room).slots) := by
  refine MetFree.of_bodySF (plainFor_of_name own_pn0) hisR ?_
  intro p e s m args below meth c s₁ Bd hml0 hP hK
  obtain ⟨rfl, hZ, hh⟩ := hP
  have hx := Bd.exec
  have hby := Bd.bytes
  have hml : c.maxLocals = 1 := hml0
  have hown : s.vm.findClass "java/lang/StringUTF16" = some m.cls := findClass_of_methodNamed Bd.named
  have hnm := (name_of_methodNamed Bd.named Bd.method).1
  have hlk : meth.locks = false := Bd.notSynchronized
  have X0 : Stand p l e ({ frames := 1, cells := 1, slots := 4, locals := 12 } : Room) s m #[(.int (2 : Int32))] below meth c s₁ [] 0 0 := Stand.of_body Bd
  have e0 : s₁.heap = h0 := by rw [← hh, Bd.state]; rfl
  have N0 := Fr.nil n0
  show own_Go p e below s (own_Q_nbf2 Z  h0 n0) ({ frames := 1, cells := 1, slots := 4, locals := 12 } : Room).cells ({ frames := 1, cells := 1, slots := 4, locals := 12 } : Room).slots (s₁.setTop (entryFrame m #[(.int (2 : Int32))] 1))
  refine own_st (fun t9 k9 => castTop (own_ef_nbf2 m (2 : Int32)) k9) ?_
  show own_Go p e below s _ _ _ (s₁.setTop (mkF m 0 #[.val (.int (2 : Int32))] []))
  have Kp : Keep h0 h0 [] := Keep.refl h0 []
  refine own_st (fun t9 k9 => XS.iloadN X0.here hx rfl (hb hby own_d_jdk_52_method_2_0) rfl  k9) ?_
  show own_Go p e below s _ _ _ (s₁.setTop (mkF m 1 #[.val (.int (2 : Int32))] [(.int (2 : Int32))]))
  obtain ⟨_, T25, h25, L25, X25, e25, ⟨rfl, Nc, hu⟩, st25⟩ := own_callS X0 hx hZ hown (hw _ (List.mem_of_getElem? (i := 59) rfl)) (hw _ (List.mem_of_getElem? (i := 60) rfl)) (hw _ (List.mem_of_getElem? (i := 21) rfl)) (hw _ (List.mem_of_getElem? (i := 61) rfl)) (by decide) (own_rm_nbl l Z a0 hw [] (2 : Int32) h0 n0 Od (by decide) (by decide)) (by decide) (by decide) e0 (W := 0) (g := (mkF m 1 #[.val (.int (2 : Int32))] [(.int (2 : Int32))])) rfl (by rw [hml]; rfl) (argsL := [(.int (2 : Int32))]) (rest := []) rfl (lenOf own_pd0 rfl) rfl (by show 2 * 0 + _ ≤ _; exact Nat.le_of_eq rfl) (hb hby own_d_jdk_52_method_2_1) (by decide) (by decide)
  have N25 := Fr.app N0 Nc
  refine own_st st25 ?_
  show own_Go p e below s _ _ _ (T25.setTop (mkF m 4 #[.val (.int (2 : Int32))] [(.int ((2 : Int32) <<< ((1 : Int32) &&& 31)))]))
  show own_Go p e below s _ _ _ (T25.setTop (mkF m 4 #[.val (.int (2 : Int32))] [(.int (4 : Int32))]))
  obtain ⟨T26, h26, k26, X26, e26, E26, A26, st26⟩ := newP X25 hx hZ (hw _ (List.mem_of_getElem? (i := 23) rfl)) (e25.trans hu) (g := (mkF m 4 #[.val (.int (2 : Int32))] [(.int (4 : Int32))])) rfl (hb hby own_d_jdk_52_method_2_4) rfl (by decide) (cap := 4) (by decide) (by decide) (by decide) (by decide)
  obtain ⟨a, g26⟩ : ∃ z, z = h0.size := ⟨_, rfl⟩
  rw [← g26] at A26 st26
  have ge_a : n0 ≤ a := Nat.le_trans (own_z0 Od) (Nat.le_of_eq g26.symm)
  have gz_a : h0.size ≤ a := Nat.le_trans Kp.1 (Nat.le_of_eq g26.symm)
  have Od := Od.ext E26
  have Kp := Kp.ext E26
  refine own_st st26 ?_
  show own_Go p e below s _ _ _ (T26.setTop (mkF m 6 #[.val (.int (2 : Int32))] [(.ref a)]))
  have V_a : Arv Z h26 a k26 .byte (4 : Int32) [(.int (0 : Int32)), (.int (0 : Int32)), (.int (0 : Int32)), (.int (0 : Int32))] (.int (0 : Int32)) := (Arv.new A26 (by decide)).pad (pad_rep [] (.int (0 : Int32)) 4)
  exact own_retR X26 hx hlk Bd.returns rfl rfl (hb hby own_d_jdk_52_method_2_6) (by decide) (by decide) (by rw [e26]; exact ⟨N25, Kp, a, _, rfl, gz_a, V_a⟩)
theorem own_ef_tob2 (m : MethodId) (x0 : Addr) (x1 : Int32) (x2 : Int32) : entryFrame m #[(.ref x0), (.int x1), (.int x2)] 5 = mkF m 0 #[.val (.ref x0), .val (.int x1), .val (.int x2), .unset, .unset] [] := by first | (simp [entryFrame, mkF, argsToLocals, Value.category]; done) | rfl
def own_Q_tob2 (Z : State) (x0 : Int32) (x1 : Int32) (h0 : Heap) (n0 : Nat) (v : Option Value) (h : Heap) (L : List Loc) : Prop := Fr n0 L ∧ Keep h0 h [] ∧ ∃ a k, v = some (.ref a) ∧ h0.size ≤ a ∧ Arv Z h a k .byte (4 : Int32) [(.int (StrChars.lo8 x0)), (.int (StrChars.hi8 x0)), (.int (StrChars.lo8 x1)), (.int (StrChars.hi8 x1))] (.int (0 : Int32))
set_option maxRecDepth 65536 in
set_option maxHeartbeats 40000000 in
theorem own_rm_tob2 (l : Launch) (Z : State) (a0 : Array Value) (hw : ∀ d ∈ tables_1, d.before a0 Z = true) (ws : List Jvm.Cond) (sr : Addr) (ks : ClassId) (x0 : Int32) (x1 : Int32) (h0 : Heap) (n0 : Nat) (Od : Old Z n0 h0) (V_s : Arv Z h0 sr ks .char (2 : Int32) [(.int x0), (.int x1)] (.int (0 : Int32))) (OA : Sta Z Z.heap "java/lang/StringUTF16" "$assertionsDisabled" "Z" (.int (1 : Int32))) (OH : Sta Z Z.heap "java/lang/StringUTF16" "HI_BYTE_SHIFT" "I" (.int (0 : Int32))) (OL : Sta Z Z.heap "java/lang/StringUTF16" "LO_BYTE_SHIFT" "I" (.int (8 : Int32))) :
    MetFree l (⟨"java/lang/StringUTF16", "toBytes", "([CII)[B"⟩ : MethodName) (head1 (Jvm.Cond.code (⟨"java/lang/StringUTF16", "toBytes", "([CII)[B"⟩ : MethodName) jdk_52_method_14_code 5 (some (.array .byte)) :: ws) ({ frames := 2, cells := 1, slots := 4, locals := 24 } : Room)) (fun a9 U => a9 = #[(.ref sr), (.int (0 : Int32)), (.int (2 : Int32))] ∧ Z.Warmed39 U.vm ∧ U.heap = h0) (fun _ _ _ _ _ => True) (fun _ U o U' => ∃ v L, o = .returned v ∧ own_Q_tob2 Z x0 x1 h0 n0 v U'.heap L ∧ FrameEnd U o U' L ({ frames := 2, cells := 1, slots := 4, locals := 24 } : Room).cells ({ frames := 2, cells := 1, slots := 4, locals := 24 } : Room).slots) := by
  refine MetFree.of_bodySF (plainFor_of_name own_pn0) hisR ?_
  intro p e s m args below meth c s₁ Bd hml0 hP hK
  obtain ⟨rfl, hZ, hh⟩ := hP
  have hx := Bd.exec
  have hby := Bd.bytes
  have hml : c.maxLocals = 5 := hml0
  have hown : s.vm.findClass "java/lang/StringUTF16" = some m.cls := findClass_of_methodNamed Bd.named
  have hnm := (name_of_methodNamed Bd.named Bd.method).1
  have hlk : meth.locks = false := Bd.notSynchronized
  have X0 : Stand p l e ({ frames := 2, cells := 1, slots := 4, locals := 24 } : Room) s m #[(.ref sr), (.int (0 : Int32)), (.int (2 : Int32))] below meth c s₁ [] 0 0 := Stand.of_body Bd
  have e0 : s₁.heap = h0 := by rw [← hh, Bd.state]; rfl
  have N0 := Fr.nil n0
  show own_Go p e below s (own_Q_tob2 Z x0 x1 h0 n0) ({ frames := 2, cells := 1, slots := 4, locals := 24 } : Room).cells ({ frames := 2, cells := 1, slots := 4, locals := 24 } : Room).slots (s₁.setTop (entryFrame m #[(.ref sr), (.int (0 : Int32)), (.int (2 : Int32))] 5))
  refine own_st (fun t9 k9 => castTop (own_ef_tob2 m sr (0 : Int32) (2 : Int32)) k9) ?_
  show own_Go p e below s _ _ _ (s₁.setTop (mkF m 0 #[.val (.ref sr), .val (.int (0 : Int32)), .val (.int (2 : Int32)), .unset, .unset] []))
  have Kp : Keep h0 h0 [] := Keep.refl h0 []
  refine own_st (fun t9 k9 => XS.iloadN X0.here hx rfl (hb hby own_d_jdk_52_method_14_0) rfl  k9) ?_
  show own_Go p e below s _ _ _ (s₁.setTop (mkF m 1 #[.val (.ref sr), .val (.int (0 : Int32)), .val (.int (2 : Int32)), .unset, .unset] [(.int (2 : Int32))]))
  obtain ⟨_, T27, h27, L27, X27, e27, ⟨Nc, Kc, a, ka, rfl, gea, V_a⟩, st27⟩ := own_callS X0 hx hZ hown (hw _ (List.mem_of_getElem? (i := 56) rfl)) (hw _ (List.mem_of_getElem? (i := 57) rfl)) (hw _ (List.mem_of_getElem? (i := 21) rfl)) (hw _ (List.mem_of_getElem? (i := 58) rfl)) (by decide) (own_rm_nbf2 l Z a0 hw [] h0 n0 Od) (by decide) (by decide) e0 (W := 0) (g := (mkF m 1 #[.val (.ref sr), .val (.int (0 : Int32)), .val (.int (2 : Int32)), .unset, .unset] [(.int (2 : Int32))])) rfl (by rw [hml]; rfl) (argsL := [(.int (2 : Int32))]) (rest := []) rfl (lenOf own_pd1 rfl) rfl (by show 2 * 0 + _ ≤ _; exact Nat.le_of_eq rfl) (hb hby own_d_jdk_52_method_14_1) (by decide) (by decide)
  have N27 := Fr.app N0 Nc
  have ne_sr_a : sr ≠ a := Nat.ne_of_lt (Nat.lt_of_lt_of_le V_s.lt gea)
  have ge_a : n0 ≤ a := Nat.le_trans (own_z0 Od) gea
  have gz_a : h0.size ≤ a := Nat.le_trans Kp.1 gea
  have V_s := V_s.keep Kc nin0
  have Od := Od.keep Kc all0
  have Kp := Kp.trans Kc all0
  refine own_st st27 ?_
  show own_Go p e below s _ _ _ (T27.setTop (mkF m 4 #[.val (.ref sr), .val (.int (0 : Int32)), .val (.int (2 : Int32)), .unset, .unset] [(.ref a)]))
  refine own_st (fun t9 k9 => XS.astoreN X27.here hx rfl (hb hby own_d_jdk_52_method_14_4) rfl rfl (l' := #[.val (.ref sr), .val (.int (0 : Int32)), .val (.int (2 : Int32)), .val (.ref a), .unset]) rfl k9) ?_
  show own_Go p e below s _ _ _ (T27.setTop (mkF m 5 #[.val (.ref sr), .val (.int (0 : Int32)), .val (.int (2 : Int32)), .val (.ref a), .unset] []))
  refine own_st (fun t9 k9 => XS.iconst X27.here hx rfl (hb hby own_d_jdk_52_method_14_5) k9) ?_
  show own_Go p e below s _ _ _ (T27.setTop (mkF m 6 #[.val (.ref sr), .val (.int (0 : Int32)), .val (.int (2 : Int32)), .val (.ref a), .unset] [(.int (0 : Int32))]))
  refine own_st (fun t9 k9 => XS.istore X27.here hx rfl (hb hby own_d_jdk_52_method_14_6) rfl (l' := #[.val (.ref sr), .val (.int (0 : Int32)), .val (.int (2 : Int32)), .val (.ref a), .val (.int (0 : Int32))]) rfl k9) ?_
  show own_Go p e below s _ _ _ (T27.setTop (mkF m 8 #[.val (.ref sr), .val (.int (0 : Int32)), .val (.int (2 : Int32)), .val (.ref a), .val (.int (0 : Int32))] []))
  refine own_st (fun t9 k9 => XS.iload X27.here hx rfl (hb hby own_d_jdk_52_method_14_8) rfl  k9) ?_
  show own_Go p e below s _ _ _ (T27.setTop (mkF m 10 #[.val (.ref sr), .val (.int (0 : Int32)), .val (.int (2 : Int32)), .val (.ref a), .val (.int (0 : Int32))] [(.int (0 : Int32))]))
  refine own_st (fun t9 k9 => XS.iloadN X27.here hx rfl (hb hby own_d_jdk_52_method_14_10) rfl  k9) ?_
  show own_Go p e below s _ _ _ (T27.setTop (mkF m 11 #[.val (.ref sr), .val (.int (0 : Int32)), .val (.int (2 : Int32)), .val (.ref a), .val (.int (0 : Int32))] [(.int (2 : Int32)), (.int (0 : Int32))]))
  refine own_st (fun t9 k9 => XS.icmpNo X27.here hx rfl (hb hby own_d_jdk_52_method_14_11) rfl (by decide) k9) ?_
  show own_Go p e below s _ _ _ (T27.setTop (mkF m 14 #[.val (.ref sr), .val (.int (0 : Int32)), .val (.int (2 : Int32)), .val (.ref a), .val (.int (0 : Int32))] []))
  refine own_st (fun t9 k9 => XS.aloadN X27.here hx rfl (hb hby own_d_jdk_52_method_14_14) rfl rfl k9) ?_
  show own_Go p e below s _ _ _ (T27.setTop (mkF m 15 #[.val (.ref sr), .val (.int (0 : Int32)), .val (.int (2 : Int32)), .val (.ref a), .val (.int (0 : Int32))] [(.ref a)]))
  refine own_st (fun t9 k9 => XS.iload X27.here hx rfl (hb hby own_d_jdk_52_method_14_15) rfl  k9) ?_
  show own_Go p e below s _ _ _ (T27.setTop (mkF m 17 #[.val (.ref sr), .val (.int (0 : Int32)), .val (.int (2 : Int32)), .val (.ref a), .val (.int (0 : Int32))] [(.int (0 : Int32)), (.ref a)]))
  refine own_st (fun t9 k9 => XS.aloadN X27.here hx rfl (hb hby own_d_jdk_52_method_14_17) rfl rfl k9) ?_
  show own_Go p e below s _ _ _ (T27.setTop (mkF m 18 #[.val (.ref sr), .val (.int (0 : Int32)), .val (.int (2 : Int32)), .val (.ref a), .val (.int (0 : Int32))] [(.ref sr), (.int (0 : Int32)), (.ref a)]))
  refine own_st (fun t9 k9 => XS.iloadN X27.here hx rfl (hb hby own_d_jdk_52_method_14_18) rfl  k9) ?_
  show own_Go p e below s _ _ _ (T27.setTop (mkF m 19 #[.val (.ref sr), .val (.int (0 : Int32)), .val (.int (2 : Int32)), .val (.ref a), .val (.int (0 : Int32))] [(.int (0 : Int32)), (.ref sr), (.int (0 : Int32)), (.ref a)]))
  refine own_st (fun t9 k9 => own_cald X27 hx hZ e27 V_s (j := (0 : Int32)) (v := (.int x0)) ⟨by decide, by decide⟩ rfl (g := (mkF m 19 #[.val (.ref sr), .val (.int (0 : Int32)), .val (.int (2 : Int32)), .val (.ref a), .val (.int (0 : Int32))] [(.int (0 : Int32)), (.ref sr), (.int (0 : Int32)), (.ref a)])) rfl rfl (hb hby own_d_jdk_52_method_14_19) t9 k9) ?_
  show own_Go p e below s _ _ _ (T27.setTop (mkF m 20 #[.val (.ref sr), .val (.int (0 : Int32)), .val (.int (2 : Int32)), .val (.ref a), .val (.int (0 : Int32))] [(.int x0), (.int (0 : Int32)), (.ref a)]))
  obtain ⟨cl, A1, A2, A3, A4, A5, A6⟩ := id V_a
  obtain ⟨_, T28, h28, L28, X28, e28, ⟨rfl, Nc, h1, W1, W2⟩, st28⟩ := own_callS X27 hx hZ hown (hw _ (List.mem_of_getElem? (i := 63) rfl)) (hw _ (List.mem_of_getElem? (i := 64) rfl)) (hw _ (List.mem_of_getElem? (i := 21) rfl)) (hw _ (List.mem_of_getElem? (i := 65) rfl)) (by decide) (own_rm_putc l Z a0 hw [] a (0 : Int32) x0 cl h27 n0 Od A1 ge_a (inb_of A3 ⟨by decide, by decide⟩) (inb_of A3 ⟨by decide, by decide⟩) OA OH OL) (by decide) (by decide) e27 (W := 0) (g := (mkF m 20 #[.val (.ref sr), .val (.int (0 : Int32)), .val (.int (2 : Int32)), .val (.ref a), .val (.int (0 : Int32))] [(.int x0), (.int (0 : Int32)), (.ref a)])) rfl (by rw [hml]; rfl) (argsL := [(.ref a), (.int (0 : Int32)), (.int x0)]) (rest := []) rfl (lenOf own_pd2 rfl) rfl (by show 2 * 0 + _ ≤ _; exact Nat.le_of_eq rfl) (hb hby own_d_jdk_52_method_14_20) (by decide) (by decide)
  have N28 := Fr.app N27 Nc
  have V_s := V_s.keep ((Keep.of_wr W1).trans (Keep.of_wr W2) (fun x hx => Or.inl hx)) (ninS ne_sr_a nin0)
  have Od := Od.keep ((Keep.of_wr W1).trans (Keep.of_wr W2) (fun x hx => Or.inl hx)) (allS ge_a all0)
  have Kp := Kp.trans ((Keep.of_wr W1).trans (Keep.of_wr W2) (fun x hx => Or.inl hx)) (allS (Or.inr gz_a) all0)
  refine own_st st28 ?_
  show own_Go p e below s _ _ _ (T28.setTop (mkF m 23 #[.val (.ref sr), .val (.int (0 : Int32)), .val (.int (2 : Int32)), .val (.ref a), .val (.int (0 : Int32))] []))
  have V_m : Arv Z h1 a ka .byte (4 : Int32) [(.int (StrChars.lo8 x0)), (.int (0 : Int32)), (.int (0 : Int32)), (.int (0 : Int32))] (.int (0 : Int32)) := Arv.set A1 A2 A3 A4 A5 A6 (fits_nar_byte _) W1 0 rfl (Nat.le_of_ble_eq_true rfl)
  obtain ⟨cm, B1, B2, B3, B4, B5, B6⟩ := id V_m
  have V_a : Arv Z h28 a ka .byte (4 : Int32) [(.int (StrChars.lo8 x0)), (.int (StrChars.hi8 x0)), (.int (0 : Int32)), (.int (0 : Int32))] (.int (0 : Int32)) := Arv.set B1 B2 B3 B4 B5 B6 (fits_nar_byte _) W2 1 rfl (Nat.le_of_ble_eq_true rfl)
  refine own_st (fun t9 k9 => XS.iinc X28.here hx rfl (hb hby own_d_jdk_52_method_14_23) rfl (l' := #[.val (.ref sr), .val (.int ((0 : Int32) + (1 : Int32))), .val (.int (2 : Int32)), .val (.ref a), .val (.int (0 : Int32))]) rfl k9) ?_
  show own_Go p e below s _ _ _ (T28.setTop (mkF m 26 #[.val (.ref sr), .val (.int ((0 : Int32) + (1 : Int32))), .val (.int (2 : Int32)), .val (.ref a), .val (.int (0 : Int32))] []))
  show own_Go p e below s _ _ _ (T28.setTop (mkF m 26 #[.val (.ref sr), .val (.int (1 : Int32)), .val (.int (2 : Int32)), .val (.ref a), .val (.int (0 : Int32))] []))
  refine own_st (fun t9 k9 => XS.iinc X28.here hx rfl (hb hby own_d_jdk_52_method_14_26) rfl (l' := #[.val (.ref sr), .val (.int (1 : Int32)), .val (.int (2 : Int32)), .val (.ref a), .val (.int ((0 : Int32) + (1 : Int32)))]) rfl k9) ?_
  show own_Go p e below s _ _ _ (T28.setTop (mkF m 29 #[.val (.ref sr), .val (.int (1 : Int32)), .val (.int (2 : Int32)), .val (.ref a), .val (.int ((0 : Int32) + (1 : Int32)))] []))
  show own_Go p e below s _ _ _ (T28.setTop (mkF m 29 #[.val (.ref sr), .val (.int (1 : Int32)), .val (.int (2 : Int32)), .val (.ref a), .val (.int (1 : Int32))] []))
  refine own_st (fun t9 k9 => XS.goto X28.here hx rfl (pc0 := 29) (pc' := 8) rfl (hb hby own_d_jdk_52_method_14_29) (by decide) (by decide) k9) ?_
  show own_Go p e below s _ _ _ (T28.setTop (mkF m 8 #[.val (.ref sr), .val (.int (1 : Int32)), .val (.int (2 : Int32)), .val (.ref a), .val (.int (1 : Int32))] []))
  refine own_st (fun t9 k9 => XS.iload X28.here hx rfl (hb hby own_d_jdk_52_method_14_8) rfl  k9) ?_
  show own_Go p e below s _ _ _ (T28.setTop (mkF m 10 #[.val (.ref sr), .val (.int (1 : Int32)), .val (.int (2 : Int32)), .val (.ref a), .val (.int (1 : Int32))] [(.int (1 : Int32))]))
  refine own_st (fun t9 k9 => XS.iloadN X28.here hx rfl (hb hby own_d_jdk_52_method_14_10) rfl  k9) ?_
  show own_Go p e below s _ _ _ (T28.setTop (mkF m 11 #[.val (.ref sr), .val (.int (1 : Int32)), .val (.int (2 : Int32)), .val (.ref a), .val (.int (1 : Int32))] [(.int (2 : Int32)), (.int (1 : Int32))]))
  refine own_st (fun t9 k9 => XS.icmpNo X28.here hx rfl (hb hby own_d_jdk_52_method_14_11) rfl (by decide) k9) ?_
  show own_Go p e below s _ _ _ (T28.setTop (mkF m 14 #[.val (.ref sr), .val (.int (1 : Int32)), .val (.int (2 : Int32)), .val (.ref a), .val (.int (1 : Int32))] []))
  refine own_st (fun t9 k9 => XS.aloadN X28.here hx rfl (hb hby own_d_jdk_52_method_14_14) rfl rfl k9) ?_
  show own_Go p e below s _ _ _ (T28.setTop (mkF m 15 #[.val (.ref sr), .val (.int (1 : Int32)), .val (.int (2 : Int32)), .val (.ref a), .val (.int (1 : Int32))] [(.ref a)]))
  refine own_st (fun t9 k9 => XS.iload X28.here hx rfl (hb hby own_d_jdk_52_method_14_15) rfl  k9) ?_
  show own_Go p e below s _ _ _ (T28.setTop (mkF m 17 #[.val (.ref sr), .val (.int (1 : Int32)), .val (.int (2 : Int32)), .val (.ref a), .val (.int (1 : Int32))] [(.int (1 : Int32)), (.ref a)]))
  refine own_st (fun t9 k9 => XS.aloadN X28.here hx rfl (hb hby own_d_jdk_52_method_14_17) rfl rfl k9) ?_
  show own_Go p e below s _ _ _ (T28.setTop (mkF m 18 #[.val (.ref sr), .val (.int (1 : Int32)), .val (.int (2 : Int32)), .val (.ref a), .val (.int (1 : Int32))] [(.ref sr), (.int (1 : Int32)), (.ref a)]))
  refine own_st (fun t9 k9 => XS.iloadN X28.here hx rfl (hb hby own_d_jdk_52_method_14_18) rfl  k9) ?_
  show own_Go p e below s _ _ _ (T28.setTop (mkF m 19 #[.val (.ref sr), .val (.int (1 : Int32)), .val (.int (2 : Int32)), .val (.ref a), .val (.int (1 : Int32))] [(.int (1 : Int32)), (.ref sr), (.int (1 : Int32)), (.ref a)]))
  refine own_st (fun t9 k9 => own_cald X28 hx hZ e28 V_s (j := (1 : Int32)) (v := (.int x1)) ⟨by decide, by decide⟩ rfl (g := (mkF m 19 #[.val (.ref sr), .val (.int (1 : Int32)), .val (.int (2 : Int32)), .val (.ref a), .val (.int (1 : Int32))] [(.int (1 : Int32)), (.ref sr), (.int (1 : Int32)), (.ref a)])) rfl rfl (hb hby own_d_jdk_52_method_14_19) t9 k9) ?_
  show own_Go p e below s _ _ _ (T28.setTop (mkF m 20 #[.val (.ref sr), .val (.int (1 : Int32)), .val (.int (2 : Int32)), .val (.ref a), .val (.int (1 : Int32))] [(.int x1), (.int (1 : Int32)), (.ref a)]))
  obtain ⟨cl, A1, A2, A3, A4, A5, A6⟩ := id V_a
  obtain ⟨_, T29, h29, L29, X29, e29, ⟨rfl, Nc, h1, W1, W2⟩, st29⟩ := own_callS X28 hx hZ hown (hw _ (List.mem_of_getElem? (i := 63) rfl)) (hw _ (List.mem_of_getElem? (i := 64) rfl)) (hw _ (List.mem_of_getElem? (i := 21) rfl)) (hw _ (List.mem_of_getElem? (i := 65) rfl)) (by decide) (own_rm_putc l Z a0 hw [] a (1 : Int32) x1 cl h28 n0 Od A1 ge_a (inb_of A3 ⟨by decide, by decide⟩) (inb_of A3 ⟨by decide, by decide⟩) OA OH OL) (by decide) (by decide) e28 (W := 0) (g := (mkF m 20 #[.val (.ref sr), .val (.int (1 : Int32)), .val (.int (2 : Int32)), .val (.ref a), .val (.int (1 : Int32))] [(.int x1), (.int (1 : Int32)), (.ref a)])) rfl (by rw [hml]; rfl) (argsL := [(.ref a), (.int (1 : Int32)), (.int x1)]) (rest := []) rfl (lenOf own_pd2 rfl) rfl (by show 2 * 0 + _ ≤ _; exact Nat.le_of_eq rfl) (hb hby own_d_jdk_52_method_14_20) (by decide) (by decide)
  have N29 := Fr.app N28 Nc
  have V_s := V_s.keep ((Keep.of_wr W1).trans (Keep.of_wr W2) (fun x hx => Or.inl hx)) (ninS ne_sr_a nin0)
  have Od := Od.keep ((Keep.of_wr W1).trans (Keep.of_wr W2) (fun x hx => Or.inl hx)) (allS ge_a all0)
  have Kp := Kp.trans ((Keep.of_wr W1).trans (Keep.of_wr W2) (fun x hx => Or.inl hx)) (allS (Or.inr gz_a) all0)
  refine own_st st29 ?_
  show own_Go p e below s _ _ _ (T29.setTop (mkF m 23 #[.val (.ref sr), .val (.int (1 : Int32)), .val (.int (2 : Int32)), .val (.ref a), .val (.int (1 : Int32))] []))
  have V_m : Arv Z h1 a ka .byte (4 : Int32) [(.int (StrChars.lo8 x0)), (.int (StrChars.hi8 x0)), (.int (StrChars.lo8 x1)), (.int (0 : Int32))] (.int (0 : Int32)) := Arv.set A1 A2 A3 A4 A5 A6 (fits_nar_byte _) W1 2 rfl (Nat.le_of_ble_eq_true rfl)
  obtain ⟨cm, B1, B2, B3, B4, B5, B6⟩ := id V_m
  have V_a : Arv Z h29 a ka .byte (4 : Int32) [(.int (StrChars.lo8 x0)), (.int (StrChars.hi8 x0)), (.int (StrChars.lo8 x1)), (.int (StrChars.hi8 x1))] (.int (0 : Int32)) := Arv.set B1 B2 B3 B4 B5 B6 (fits_nar_byte _) W2 3 rfl (Nat.le_of_ble_eq_true rfl)
  refine own_st (fun t9 k9 => XS.iinc X29.here hx rfl (hb hby own_d_jdk_52_method_14_23) rfl (l' := #[.val (.ref sr), .val (.int ((1 : Int32) + (1 : Int32))), .val (.int (2 : Int32)), .val (.ref a), .val (.int (1 : Int32))]) rfl k9) ?_
  show own_Go p e below s _ _ _ (T29.setTop (mkF m 26 #[.val (.ref sr), .val (.int ((1 : Int32) + (1 : Int32))), .val (.int (2 : Int32)), .val (.ref a), .val (.int (1 : Int32))] []))
  show own_Go p e below s _ _ _ (T29.setTop (mkF m 26 #[.val (.ref sr), .val (.int (2 : Int32)), .val (.int (2 : Int32)), .val (.ref a), .val (.int (1 : Int32))] []))
  refine own_st (fun t9 k9 => XS.iinc X29.here hx rfl (hb hby own_d_jdk_52_method_14_26) rfl (l' := #[.val (.ref sr), .val (.int (2 : Int32)), .val (.int (2 : Int32)), .val (.ref a), .val (.int ((1 : Int32) + (1 : Int32)))]) rfl k9) ?_
  show own_Go p e below s _ _ _ (T29.setTop (mkF m 29 #[.val (.ref sr), .val (.int (2 : Int32)), .val (.int (2 : Int32)), .val (.ref a), .val (.int ((1 : Int32) + (1 : Int32)))] []))
  show own_Go p e below s _ _ _ (T29.setTop (mkF m 29 #[.val (.ref sr), .val (.int (2 : Int32)), .val (.int (2 : Int32)), .val (.ref a), .val (.int (2 : Int32))] []))
  refine own_st (fun t9 k9 => XS.goto X29.here hx rfl (pc0 := 29) (pc' := 8) rfl (hb hby own_d_jdk_52_method_14_29) (by decide) (by decide) k9) ?_
  show own_Go p e below s _ _ _ (T29.setTop (mkF m 8 #[.val (.ref sr), .val (.int (2 : Int32)), .val (.int (2 : Int32)), .val (.ref a), .val (.int (2 : Int32))] []))
  refine own_st (fun t9 k9 => XS.iload X29.here hx rfl (hb hby own_d_jdk_52_method_14_8) rfl  k9) ?_
  show own_Go p e below s _ _ _ (T29.setTop (mkF m 10 #[.val (.ref sr), .val (.int (2 : Int32)), .val (.int (2 : Int32)), .val (.ref a), .val (.int (2 : Int32))] [(.int (2 : Int32))]))
  refine own_st (fun t9 k9 => XS.iloadN X29.here hx rfl (hb hby own_d_jdk_52_method_14_10) rfl  k9) ?_
  show own_Go p e below s _ _ _ (T29.setTop (mkF m 11 #[.val (.ref sr), .val (.int (2 : Int32)), .val (.int (2 : Int32)), .val (.ref a), .val (.int (2 : Int32))] [(.int (2 : Int32)), (.int (2 : Int32))]))
  refine own_st (fun t9 k9 => XS.icmpYes X29.here hx rfl (pc0 := 11) (pc' := 32) rfl (hb hby own_d_jdk_52_method_14_11) rfl (by decide) (by decide) (by decide) k9) ?_
  show own_Go p e below s _ _ _ (T29.setTop (mkF m 32 #[.val (.ref sr), .val (.int (2 : Int32)), .val (.int (2 : Int32)), .val (.ref a), .val (.int (2 : Int32))] []))
  refine own_st (fun t9 k9 => XS.aloadN X29.here hx rfl (hb hby own_d_jdk_52_method_14_32) rfl rfl k9) ?_
  show own_Go p e below s _ _ _ (T29.setTop (mkF m 33 #[.val (.ref sr), .val (.int (2 : Int32)), .val (.int (2 : Int32)), .val (.ref a), .val (.int (2 : Int32))] [(.ref a)]))
  exact own_retR X29 hx hlk Bd.returns rfl rfl (hb hby own_d_jdk_52_method_14_33) (by decide) (by decide) (by rw [e29]; exact ⟨N29, Kp, a, ka, rfl, gz_a, V_a⟩)
theorem own_ef_cm2 (m : MethodId) (x0 : Addr) (x1 : Int32) (x2 : Addr) (x3 : Int32) (x4 : Int32) : entryFrame m #[(.ref x0), (.int x1), (.ref x2), (.int x3), (.int x4)] 7 = mkF m 0 #[.val (.ref x0), .val (.int x1), .val (.ref x2), .val (.int x3), .val (.int x4), .unset, .unset] [] := by first | (simp [entryFrame, mkF, argsToLocals, Value.category]; done) | rfl
def own_Q_cm2 (Z : State) (ds : Addr) (x0 : Int32) (x1 : Int32) (h0 : Heap) (n0 : Nat) (v : Option Value) (h : Heap) (L : List Loc) : Prop := v = some (.int (own_first [x0, x1] 0)) ∧ Fr n0 L ∧ Keep h0 h [ds]
set_option maxRecDepth 65536 in
set_option maxHeartbeats 40000000 in
theorem own_rm_cm2 (l : Launch) (Z : State) (a0 : Array Value) (hw : ∀ d ∈ tables_1, d.before a0 Z = true) (ws : List Jvm.Cond) (sr ds : Addr) (ks kd : ClassId) (x0 : Int32) (x1 : Int32) (h0 : Heap) (n0 : Nat) (Od : Old Z n0 h0) (V_s : Arv Z h0 sr ks .char (2 : Int32) [(.int x0), (.int x1)] (.int (0 : Int32))) (V_d : Arv Z h0 ds kd .byte (2 : Int32) [(.int (0 : Int32)), (.int (0 : Int32))] (.int (0 : Int32))) (ne_s : sr ≠ ds) (ge_ds : n0 ≤ ds) :
    MetFree l (⟨"java/lang/StringUTF16", "compress", "([CI[BII)I"⟩ : MethodName) (head1 (Jvm.Cond.code (⟨"java/lang/StringUTF16", "compress", "([CI[BII)I"⟩ : MethodName) jdk_52_method_21_code 7 (some .int) :: ws) ({ frames := 0, cells := 0, slots := 0, locals := 0 } : Room)) (fun a9 U => a9 = #[(.ref sr), (.int (0 : Int32)), (.ref ds), (.int (0 : Int32)), (.int (2 : Int32))] ∧ Z.Warmed39 U.vm ∧ U.heap = h0) (fun _ _ _ _ _ => True) (fun _ U o U' => ∃ v L, o = .returned v ∧ own_Q_cm2 Z ds x0 x1 h0 n0 v U'.heap L ∧ FrameEnd U o U' L ({ frames := 0, cells := 0, slots := 0, locals := 0 } : Room).cells ({ frames := 0, cells := 0, slots := 0, locals := 0 } : Room).slots) := by
  refine MetFree.of_bodySF (plainFor_of_name own_pn0) hisR ?_
  intro p e s m args below meth c s₁ Bd hml0 hP hK
  obtain ⟨rfl, hZ, hh⟩ := hP
  have hx := Bd.exec
  have hby := Bd.bytes
  have hml : c.maxLocals = 7 := hml0
  have hown : s.vm.findClass "java/lang/StringUTF16" = some m.cls := findClass_of_methodNamed Bd.named
  have hnm := (name_of_methodNamed Bd.named Bd.method).1
  have hlk : meth.locks = false := Bd.notSynchronized
  have X0 : Stand p l e ({ frames := 0, cells := 0, slots := 0, locals := 0 } : Room) s m #[(.ref sr), (.int (0 : Int32)), (.ref ds), (.int (0 : Int32)), (.int (2 : Int32))] below meth c s₁ [] 0 0 := Stand.of_body Bd
  have e0 : s₁.heap = h0 := by rw [← hh, Bd.state]; rfl
  have N0 := Fr.nil n0
  show own_Go p e below s (own_Q_cm2 Z ds x0 x1 h0 n0) ({ frames := 0, cells := 0, slots := 0, locals := 0 } : Room).cells ({ frames := 0, cells := 0, slots := 0, locals := 0 } : Room).slots (s₁.setTop (entryFrame m #[(.ref sr), (.int (0 : Int32)), (.ref ds), (.int (0 : Int32)), (.int (2 : Int32))] 7))
  refine own_st (fun t9 k9 => castTop (own_ef_cm2 m sr (0 : Int32) ds (0 : Int32) (2 : Int32)) k9) ?_
  show own_Go p e below s _ _ _ (s₁.setTop (mkF m 0 #[.val (.ref sr), .val (.int (0 : Int32)), .val (.ref ds), .val (.int (0 : Int32)), .val (.int (2 : Int32)), .unset, .unset] []))
  have Kp : Keep h0 h0 [ds] := Keep.refl h0 [ds]
  refine own_st (fun t9 k9 => XS.iconst X0.here hx rfl (hb hby own_d_jdk_52_method_21_0) k9) ?_
  show own_Go p e below s _ _ _ (s₁.setTop (mkF m 1 #[.val (.ref sr), .val (.int (0 : Int32)), .val (.ref ds), .val (.int (0 : Int32)), .val (.int (2 : Int32)), .unset, .unset] [(.int (0 : Int32))]))
  refine own_st (fun t9 k9 => XS.istore X0.here hx rfl (hb hby own_d_jdk_52_method_21_1) rfl (l' := #[.val (.ref sr), .val (.int (0 : Int32)), .val (.ref ds), .val (.int (0 : Int32)), .val (.int (2 : Int32)), .val (.int (0 : Int32)), .unset]) rfl k9) ?_
  show own_Go p e below s _ _ _ (s₁.setTop (mkF m 3 #[.val (.ref sr), .val (.int (0 : Int32)), .val (.ref ds), .val (.int (0 : Int32)), .val (.int (2 : Int32)), .val (.int (0 : Int32)), .unset] []))
  refine own_st (fun t9 k9 => XS.iload X0.here hx rfl (hb hby own_d_jdk_52_method_21_3) rfl  k9) ?_
  show own_Go p e below s _ _ _ (s₁.setTop (mkF m 5 #[.val (.ref sr), .val (.int (0 : Int32)), .val (.ref ds), .val (.int (0 : Int32)), .val (.int (2 : Int32)), .val (.int (0 : Int32)), .unset] [(.int (0 : Int32))]))
  refine own_st (fun t9 k9 => XS.iload X0.here hx rfl (hb hby own_d_jdk_52_method_21_5) rfl  k9) ?_
  show own_Go p e below s _ _ _ (s₁.setTop (mkF m 7 #[.val (.ref sr), .val (.int (0 : Int32)), .val (.ref ds), .val (.int (0 : Int32)), .val (.int (2 : Int32)), .val (.int (0 : Int32)), .unset] [(.int (2 : Int32)), (.int (0 : Int32))]))
  refine own_st (fun t9 k9 => XS.icmpNo X0.here hx rfl (hb hby own_d_jdk_52_method_21_7) rfl (by decide) k9) ?_
  show own_Go p e below s _ _ _ (s₁.setTop (mkF m 10 #[.val (.ref sr), .val (.int (0 : Int32)), .val (.ref ds), .val (.int (0 : Int32)), .val (.int (2 : Int32)), .val (.int (0 : Int32)), .unset] []))
  refine own_st (fun t9 k9 => XS.aloadN X0.here hx rfl (hb hby own_d_jdk_52_method_21_10) rfl rfl k9) ?_
  show own_Go p e below s _ _ _ (s₁.setTop (mkF m 11 #[.val (.ref sr), .val (.int (0 : Int32)), .val (.ref ds), .val (.int (0 : Int32)), .val (.int (2 : Int32)), .val (.int (0 : Int32)), .unset] [(.ref sr)]))
  refine own_st (fun t9 k9 => XS.iloadN X0.here hx rfl (hb hby own_d_jdk_52_method_21_11) rfl  k9) ?_
  show own_Go p e below s _ _ _ (s₁.setTop (mkF m 12 #[.val (.ref sr), .val (.int (0 : Int32)), .val (.ref ds), .val (.int (0 : Int32)), .val (.int (2 : Int32)), .val (.int (0 : Int32)), .unset] [(.int (0 : Int32)), (.ref sr)]))
  refine own_st (fun t9 k9 => own_cald X0 hx hZ e0 V_s (j := (0 : Int32)) (v := (.int x0)) ⟨by decide, by decide⟩ rfl (g := (mkF m 12 #[.val (.ref sr), .val (.int (0 : Int32)), .val (.ref ds), .val (.int (0 : Int32)), .val (.int (2 : Int32)), .val (.int (0 : Int32)), .unset] [(.int (0 : Int32)), (.ref sr)])) rfl rfl (hb hby own_d_jdk_52_method_21_12) t9 k9) ?_
  show own_Go p e below s _ _ _ (s₁.setTop (mkF m 13 #[.val (.ref sr), .val (.int (0 : Int32)), .val (.ref ds), .val (.int (0 : Int32)), .val (.int (2 : Int32)), .val (.int (0 : Int32)), .unset] [(.int x0)]))
  refine own_st (fun t9 k9 => XS.istore X0.here hx rfl (hb hby own_d_jdk_52_method_21_13) rfl (l' := #[.val (.ref sr), .val (.int (0 : Int32)), .val (.ref ds), .val (.int (0 : Int32)), .val (.int (2 : Int32)), .val (.int (0 : Int32)), .val (.int x0)]) rfl k9) ?_
  show own_Go p e below s _ _ _ (s₁.setTop (mkF m 15 #[.val (.ref sr), .val (.int (0 : Int32)), .val (.ref ds), .val (.int (0 : Int32)), .val (.int (2 : Int32)), .val (.int (0 : Int32)), .val (.int x0)] []))
  refine own_st (fun t9 k9 => XS.iload X0.here hx rfl (hb hby own_d_jdk_52_method_21_15) rfl  k9) ?_
  show own_Go p e below s _ _ _ (s₁.setTop (mkF m 17 #[.val (.ref sr), .val (.int (0 : Int32)), .val (.ref ds), .val (.int (0 : Int32)), .val (.int (2 : Int32)), .val (.int (0 : Int32)), .val (.int x0)] [(.int x0)]))
  refine own_st (fun t9 k9 => XS.sipush X0.here hx rfl (hb hby own_d_jdk_52_method_21_17) k9) ?_
  show own_Go p e below s _ _ _ (s₁.setTop (mkF m 20 #[.val (.ref sr), .val (.int (0 : Int32)), .val (.ref ds), .val (.int (0 : Int32)), .val (.int (2 : Int32)), .val (.int (0 : Int32)), .val (.int x0)] [(.int (255 : Int32)), (.int x0)]))
  by_cases hg0 : (255 : Int32) < x0
  · skip
    refine own_st (fun t9 k9 => XS.icmpNo X0.here hx rfl (hb hby own_d_jdk_52_method_21_20) rfl (tlt (hg0 : (255 : Int32) < x0)).2.2.2 k9) ?_
    show own_Go p e below s _ _ _ (s₁.setTop (mkF m 23 #[.val (.ref sr), .val (.int (0 : Int32)), .val (.ref ds), .val (.int (0 : Int32)), .val (.int (2 : Int32)), .val (.int (0 : Int32)), .val (.int x0)] []))
    refine own_st (fun t9 k9 => XS.iload X0.here hx rfl (hb hby own_d_jdk_52_method_21_23) rfl  k9) ?_
    show own_Go p e below s _ _ _ (s₁.setTop (mkF m 25 #[.val (.ref sr), .val (.int (0 : Int32)), .val (.ref ds), .val (.int (0 : Int32)), .val (.int (2 : Int32)), .val (.int (0 : Int32)), .val (.int x0)] [(.int (0 : Int32))]))
    exact own_retI X0 hx hlk Bd.returns (hb hby own_d_jdk_52_method_21_25) (by decide) (by decide) (by rw [e0]; exact ⟨by rw [(show own_first [x0, x1] 0 = (0 : Int32) from (if_pos hg0))], N0, Kp⟩)
  · skip
    refine own_st (fun t9 k9 => XS.icmpYes X0.here hx rfl (pc0 := 20) (pc' := 26) rfl (hb hby own_d_jdk_52_method_21_20) rfl (flt (hg0 : ¬ ((255 : Int32) < x0))).2.2.2 (by decide) (by decide) k9) ?_
    show own_Go p e below s _ _ _ (s₁.setTop (mkF m 26 #[.val (.ref sr), .val (.int (0 : Int32)), .val (.ref ds), .val (.int (0 : Int32)), .val (.int (2 : Int32)), .val (.int (0 : Int32)), .val (.int x0)] []))
    refine own_st (fun t9 k9 => XS.aloadN X0.here hx rfl (hb hby own_d_jdk_52_method_21_26) rfl rfl k9) ?_
    show own_Go p e below s _ _ _ (s₁.setTop (mkF m 27 #[.val (.ref sr), .val (.int (0 : Int32)), .val (.ref ds), .val (.int (0 : Int32)), .val (.int (2 : Int32)), .val (.int (0 : Int32)), .val (.int x0)] [(.ref ds)]))
    refine own_st (fun t9 k9 => XS.iloadN X0.here hx rfl (hb hby own_d_jdk_52_method_21_27) rfl  k9) ?_
    show own_Go p e below s _ _ _ (s₁.setTop (mkF m 28 #[.val (.ref sr), .val (.int (0 : Int32)), .val (.ref ds), .val (.int (0 : Int32)), .val (.int (2 : Int32)), .val (.int (0 : Int32)), .val (.int x0)] [(.int (0 : Int32)), (.ref ds)]))
    refine own_st (fun t9 k9 => XS.iload X0.here hx rfl (hb hby own_d_jdk_52_method_21_28) rfl  k9) ?_
    show own_Go p e below s _ _ _ (s₁.setTop (mkF m 30 #[.val (.ref sr), .val (.int (0 : Int32)), .val (.ref ds), .val (.int (0 : Int32)), .val (.int (2 : Int32)), .val (.int (0 : Int32)), .val (.int x0)] [(.int x0), (.int (0 : Int32)), (.ref ds)]))
    refine own_st (fun t9 k9 => XT.i2b X0.here hx rfl (hb hby own_d_jdk_52_method_21_30) rfl k9) ?_
    show own_Go p e below s _ _ _ (s₁.setTop (mkF m 31 #[.val (.ref sr), .val (.int (0 : Int32)), .val (.ref ds), .val (.int (0 : Int32)), .val (.int (2 : Int32)), .val (.int (0 : Int32)), .val (.int x0)] [(.int (x0.toInt8.toInt32)), (.int (0 : Int32)), (.ref ds)]))
    obtain ⟨cl30, Ar30, q30, S30, M30, H30, G30⟩ := id V_d
    obtain ⟨T30, h30, X30, e30, W30, st30⟩ := stB X0 hx hZ e0 Ar30 (j := (0 : Int32)) (inb_of S30 ⟨by decide, by decide⟩) (g := (mkF m 31 #[.val (.ref sr), .val (.int (0 : Int32)), .val (.ref ds), .val (.int (0 : Int32)), .val (.int (2 : Int32)), .val (.int (0 : Int32)), .val (.int x0)] [(.int (x0.toInt8.toInt32)), (.int (0 : Int32)), (.ref ds)])) rfl rfl (hb hby own_d_jdk_52_method_21_31)
    have N30 := Fr.snoc X30 N0 ge_ds
    have V_s := V_s.other W30 ne_s
    have Od := Od.wr W30 ge_ds
    have Kp := Kp.wr W30 (Or.inl (List.mem_of_getElem? (i := 0) rfl))
    refine own_st st30 ?_
    show own_Go p e below s _ _ _ (T30.setTop (mkF m 32 #[.val (.ref sr), .val (.int (0 : Int32)), .val (.ref ds), .val (.int (0 : Int32)), .val (.int (2 : Int32)), .val (.int (0 : Int32)), .val (.int x0)] []))
    have V_d : Arv Z h30 ds kd .byte (2 : Int32) [(.int (nar .byte (x0.toInt8.toInt32))), (.int (0 : Int32))] (.int (0 : Int32)) := Arv.set Ar30 q30 S30 M30 H30 G30 (fits_nar_byte _) W30 0 rfl (Nat.le_of_ble_eq_true rfl)
    refine own_st (fun t9 k9 => XS.iinc X30.here hx rfl (hb hby own_d_jdk_52_method_21_32) rfl (l' := #[.val (.ref sr), .val (.int ((0 : Int32) + (1 : Int32))), .val (.ref ds), .val (.int (0 : Int32)), .val (.int (2 : Int32)), .val (.int (0 : Int32)), .val (.int x0)]) rfl k9) ?_
    show own_Go p e below s _ _ _ (T30.setTop (mkF m 35 #[.val (.ref sr), .val (.int ((0 : Int32) + (1 : Int32))), .val (.ref ds), .val (.int (0 : Int32)), .val (.int (2 : Int32)), .val (.int (0 : Int32)), .val (.int x0)] []))
    show own_Go p e below s _ _ _ (T30.setTop (mkF m 35 #[.val (.ref sr), .val (.int (1 : Int32)), .val (.ref ds), .val (.int (0 : Int32)), .val (.int (2 : Int32)), .val (.int (0 : Int32)), .val (.int x0)] []))
    refine own_st (fun t9 k9 => XS.iinc X30.here hx rfl (hb hby own_d_jdk_52_method_21_35) rfl (l' := #[.val (.ref sr), .val (.int (1 : Int32)), .val (.ref ds), .val (.int ((0 : Int32) + (1 : Int32))), .val (.int (2 : Int32)), .val (.int (0 : Int32)), .val (.int x0)]) rfl k9) ?_
    show own_Go p e below s _ _ _ (T30.setTop (mkF m 38 #[.val (.ref sr), .val (.int (1 : Int32)), .val (.ref ds), .val (.int ((0 : Int32) + (1 : Int32))), .val (.int (2 : Int32)), .val (.int (0 : Int32)), .val (.int x0)] []))
    show own_Go p e below s _ _ _ (T30.setTop (mkF m 38 #[.val (.ref sr), .val (.int (1 : Int32)), .val (.ref ds), .val (.int (1 : Int32)), .val (.int (2 : Int32)), .val (.int (0 : Int32)), .val (.int x0)] []))
    refine own_st (fun t9 k9 => XS.iinc X30.here hx rfl (hb hby own_d_jdk_52_method_21_38) rfl (l' := #[.val (.ref sr), .val (.int (1 : Int32)), .val (.ref ds), .val (.int (1 : Int32)), .val (.int (2 : Int32)), .val (.int ((0 : Int32) + (1 : Int32))), .val (.int x0)]) rfl k9) ?_
    show own_Go p e below s _ _ _ (T30.setTop (mkF m 41 #[.val (.ref sr), .val (.int (1 : Int32)), .val (.ref ds), .val (.int (1 : Int32)), .val (.int (2 : Int32)), .val (.int ((0 : Int32) + (1 : Int32))), .val (.int x0)] []))
    show own_Go p e below s _ _ _ (T30.setTop (mkF m 41 #[.val (.ref sr), .val (.int (1 : Int32)), .val (.ref ds), .val (.int (1 : Int32)), .val (.int (2 : Int32)), .val (.int (1 : Int32)), .val (.int x0)] []))
    refine own_st (fun t9 k9 => XS.goto X30.here hx rfl (pc0 := 41) (pc' := 3) rfl (hb hby own_d_jdk_52_method_21_41) (by decide) (by decide) k9) ?_
    show own_Go p e below s _ _ _ (T30.setTop (mkF m 3 #[.val (.ref sr), .val (.int (1 : Int32)), .val (.ref ds), .val (.int (1 : Int32)), .val (.int (2 : Int32)), .val (.int (1 : Int32)), .val (.int x0)] []))
    refine own_st (fun t9 k9 => XS.iload X30.here hx rfl (hb hby own_d_jdk_52_method_21_3) rfl  k9) ?_
    show own_Go p e below s _ _ _ (T30.setTop (mkF m 5 #[.val (.ref sr), .val (.int (1 : Int32)), .val (.ref ds), .val (.int (1 : Int32)), .val (.int (2 : Int32)), .val (.int (1 : Int32)), .val (.int x0)] [(.int (1 : Int32))]))
    refine own_st (fun t9 k9 => XS.iload X30.here hx rfl (hb hby own_d_jdk_52_method_21_5) rfl  k9) ?_
    show own_Go p e below s _ _ _ (T30.setTop (mkF m 7 #[.val (.ref sr), .val (.int (1 : Int32)), .val (.ref ds), .val (.int (1 : Int32)), .val (.int (2 : Int32)), .val (.int (1 : Int32)), .val (.int x0)] [(.int (2 : Int32)), (.int (1 : Int32))]))
    refine own_st (fun t9 k9 => XS.icmpNo X30.here hx rfl (hb hby own_d_jdk_52_method_21_7) rfl (by decide) k9) ?_
    show own_Go p e below s _ _ _ (T30.setTop (mkF m 10 #[.val (.ref sr), .val (.int (1 : Int32)), .val (.ref ds), .val (.int (1 : Int32)), .val (.int (2 : Int32)), .val (.int (1 : Int32)), .val (.int x0)] []))
    refine own_st (fun t9 k9 => XS.aloadN X30.here hx rfl (hb hby own_d_jdk_52_method_21_10) rfl rfl k9) ?_
    show own_Go p e below s _ _ _ (T30.setTop (mkF m 11 #[.val (.ref sr), .val (.int (1 : Int32)), .val (.ref ds), .val (.int (1 : Int32)), .val (.int (2 : Int32)), .val (.int (1 : Int32)), .val (.int x0)] [(.ref sr)]))
    refine own_st (fun t9 k9 => XS.iloadN X30.here hx rfl (hb hby own_d_jdk_52_method_21_11) rfl  k9) ?_
    show own_Go p e below s _ _ _ (T30.setTop (mkF m 12 #[.val (.ref sr), .val (.int (1 : Int32)), .val (.ref ds), .val (.int (1 : Int32)), .val (.int (2 : Int32)), .val (.int (1 : Int32)), .val (.int x0)] [(.int (1 : Int32)), (.ref sr)]))
    refine own_st (fun t9 k9 => own_cald X30 hx hZ e30 V_s (j := (1 : Int32)) (v := (.int x1)) ⟨by decide, by decide⟩ rfl (g := (mkF m 12 #[.val (.ref sr), .val (.int (1 : Int32)), .val (.ref ds), .val (.int (1 : Int32)), .val (.int (2 : Int32)), .val (.int (1 : Int32)), .val (.int x0)] [(.int (1 : Int32)), (.ref sr)])) rfl rfl (hb hby own_d_jdk_52_method_21_12) t9 k9) ?_
    show own_Go p e below s _ _ _ (T30.setTop (mkF m 13 #[.val (.ref sr), .val (.int (1 : Int32)), .val (.ref ds), .val (.int (1 : Int32)), .val (.int (2 : Int32)), .val (.int (1 : Int32)), .val (.int x0)] [(.int x1)]))
    refine own_st (fun t9 k9 => XS.istore X30.here hx rfl (hb hby own_d_jdk_52_method_21_13) rfl (l' := #[.val (.ref sr), .val (.int (1 : Int32)), .val (.ref ds), .val (.int (1 : Int32)), .val (.int (2 : Int32)), .val (.int (1 : Int32)), .val (.int x1)]) rfl k9) ?_
    show own_Go p e below s _ _ _ (T30.setTop (mkF m 15 #[.val (.ref sr), .val (.int (1 : Int32)), .val (.ref ds), .val (.int (1 : Int32)), .val (.int (2 : Int32)), .val (.int (1 : Int32)), .val (.int x1)] []))
    refine own_st (fun t9 k9 => XS.iload X30.here hx rfl (hb hby own_d_jdk_52_method_21_15) rfl  k9) ?_
    show own_Go p e below s _ _ _ (T30.setTop (mkF m 17 #[.val (.ref sr), .val (.int (1 : Int32)), .val (.ref ds), .val (.int (1 : Int32)), .val (.int (2 : Int32)), .val (.int (1 : Int32)), .val (.int x1)] [(.int x1)]))
    refine own_st (fun t9 k9 => XS.sipush X30.here hx rfl (hb hby own_d_jdk_52_method_21_17) k9) ?_
    show own_Go p e below s _ _ _ (T30.setTop (mkF m 20 #[.val (.ref sr), .val (.int (1 : Int32)), .val (.ref ds), .val (.int (1 : Int32)), .val (.int (2 : Int32)), .val (.int (1 : Int32)), .val (.int x1)] [(.int (255 : Int32)), (.int x1)]))
    by_cases hg1 : (255 : Int32) < x1
    · skip
      refine own_st (fun t9 k9 => XS.icmpNo X30.here hx rfl (hb hby own_d_jdk_52_method_21_20) rfl (tlt (hg1 : (255 : Int32) < x1)).2.2.2 k9) ?_
      show own_Go p e below s _ _ _ (T30.setTop (mkF m 23 #[.val (.ref sr), .val (.int (1 : Int32)), .val (.ref ds), .val (.int (1 : Int32)), .val (.int (2 : Int32)), .val (.int (1 : Int32)), .val (.int x1)] []))
      refine own_st (fun t9 k9 => XS.iload X30.here hx rfl (hb hby own_d_jdk_52_method_21_23) rfl  k9) ?_
      show own_Go p e below s _ _ _ (T30.setTop (mkF m 25 #[.val (.ref sr), .val (.int (1 : Int32)), .val (.ref ds), .val (.int (1 : Int32)), .val (.int (2 : Int32)), .val (.int (1 : Int32)), .val (.int x1)] [(.int (1 : Int32))]))
      exact own_retI X30 hx hlk Bd.returns (hb hby own_d_jdk_52_method_21_25) (by decide) (by decide) (by rw [e30]; exact ⟨by rw [(show own_first [x0, x1] 0 = (1 : Int32) from ((if_neg hg0).trans (if_pos hg1)))], N30, Kp⟩)
    · skip
      refine own_st (fun t9 k9 => XS.icmpYes X30.here hx rfl (pc0 := 20) (pc' := 26) rfl (hb hby own_d_jdk_52_method_21_20) rfl (flt (hg1 : ¬ ((255 : Int32) < x1))).2.2.2 (by decide) (by decide) k9) ?_
      show own_Go p e below s _ _ _ (T30.setTop (mkF m 26 #[.val (.ref sr), .val (.int (1 : Int32)), .val (.ref ds), .val (.int (1 : Int32)), .val (.int (2 : Int32)), .val (.int (1 : Int32)), .val (.int x1)] []))
      refine own_st (fun t9 k9 => XS.aloadN X30.here hx rfl (hb hby own_d_jdk_52_method_21_26) rfl rfl k9) ?_
      show own_Go p e below s _ _ _ (T30.setTop (mkF m 27 #[.val (.ref sr), .val (.int (1 : Int32)), .val (.ref ds), .val (.int (1 : Int32)), .val (.int (2 : Int32)), .val (.int (1 : Int32)), .val (.int x1)] [(.ref ds)]))
      refine own_st (fun t9 k9 => XS.iloadN X30.here hx rfl (hb hby own_d_jdk_52_method_21_27) rfl  k9) ?_
      show own_Go p e below s _ _ _ (T30.setTop (mkF m 28 #[.val (.ref sr), .val (.int (1 : Int32)), .val (.ref ds), .val (.int (1 : Int32)), .val (.int (2 : Int32)), .val (.int (1 : Int32)), .val (.int x1)] [(.int (1 : Int32)), (.ref ds)]))
      refine own_st (fun t9 k9 => XS.iload X30.here hx rfl (hb hby own_d_jdk_52_method_21_28) rfl  k9) ?_
      show own_Go p e below s _ _ _ (T30.setTop (mkF m 30 #[.val (.ref sr), .val (.int (1 : Int32)), .val (.ref ds), .val (.int (1 : Int32)), .val (.int (2 : Int32)), .val (.int (1 : Int32)), .val (.int x1)] [(.int x1), (.int (1 : Int32)), (.ref ds)]))
      refine own_st (fun t9 k9 => XT.i2b X30.here hx rfl (hb hby own_d_jdk_52_method_21_30) rfl k9) ?_
      show own_Go p e below s _ _ _ (T30.setTop (mkF m 31 #[.val (.ref sr), .val (.int (1 : Int32)), .val (.ref ds), .val (.int (1 : Int32)), .val (.int (2 : Int32)), .val (.int (1 : Int32)), .val (.int x1)] [(.int (x1.toInt8.toInt32)), (.int (1 : Int32)), (.ref ds)]))
      obtain ⟨cl31, Ar31, q31, S31, M31, H31, G31⟩ := id V_d
      obtain ⟨T31, h31, X31, e31, W31, st31⟩ := stB X30 hx hZ e30 Ar31 (j := (1 : Int32)) (inb_of S31 ⟨by decide, by decide⟩) (g := (mkF m 31 #[.val (.ref sr), .val (.int (1 : Int32)), .val (.ref ds), .val (.int (1 : Int32)), .val (.int (2 : Int32)), .val (.int (1 : Int32)), .val (.int x1)] [(.int (x1.toInt8.toInt32)), (.int (1 : Int32)), (.ref ds)])) rfl rfl (hb hby own_d_jdk_52_method_21_31)
      have N31 := Fr.snoc X31 N30 ge_ds
      have V_s := V_s.other W31 ne_s
      have Od := Od.wr W31 ge_ds
      have Kp := Kp.wr W31 (Or.inl (List.mem_of_getElem? (i := 0) rfl))
      refine own_st st31 ?_
      show own_Go p e below s _ _ _ (T31.setTop (mkF m 32 #[.val (.ref sr), .val (.int (1 : Int32)), .val (.ref ds), .val (.int (1 : Int32)), .val (.int (2 : Int32)), .val (.int (1 : Int32)), .val (.int x1)] []))
      have V_d : Arv Z h31 ds kd .byte (2 : Int32) [(.int (nar .byte (x0.toInt8.toInt32))), (.int (nar .byte (x1.toInt8.toInt32)))] (.int (0 : Int32)) := Arv.set Ar31 q31 S31 M31 H31 G31 (fits_nar_byte _) W31 1 rfl (Nat.le_of_ble_eq_true rfl)
      refine own_st (fun t9 k9 => XS.iinc X31.here hx rfl (hb hby own_d_jdk_52_method_21_32) rfl (l' := #[.val (.ref sr), .val (.int ((1 : Int32) + (1 : Int32))), .val (.ref ds), .val (.int (1 : Int32)), .val (.int (2 : Int32)), .val (.int (1 : Int32)), .val (.int x1)]) rfl k9) ?_
      show own_Go p e below s _ _ _ (T31.setTop (mkF m 35 #[.val (.ref sr), .val (.int ((1 : Int32) + (1 : Int32))), .val (.ref ds), .val (.int (1 : Int32)), .val (.int (2 : Int32)), .val (.int (1 : Int32)), .val (.int x1)] []))
      show own_Go p e below s _ _ _ (T31.setTop (mkF m 35 #[.val (.ref sr), .val (.int (2 : Int32)), .val (.ref ds), .val (.int (1 : Int32)), .val (.int (2 : Int32)), .val (.int (1 : Int32)), .val (.int x1)] []))
      refine own_st (fun t9 k9 => XS.iinc X31.here hx rfl (hb hby own_d_jdk_52_method_21_35) rfl (l' := #[.val (.ref sr), .val (.int (2 : Int32)), .val (.ref ds), .val (.int ((1 : Int32) + (1 : Int32))), .val (.int (2 : Int32)), .val (.int (1 : Int32)), .val (.int x1)]) rfl k9) ?_
      show own_Go p e below s _ _ _ (T31.setTop (mkF m 38 #[.val (.ref sr), .val (.int (2 : Int32)), .val (.ref ds), .val (.int ((1 : Int32) + (1 : Int32))), .val (.int (2 : Int32)), .val (.int (1 : Int32)), .val (.int x1)] []))
      show own_Go p e below s _ _ _ (T31.setTop (mkF m 38 #[.val (.ref sr), .val (.int (2 : Int32)), .val (.ref ds), .val (.int (2 : Int32)), .val (.int (2 : Int32)), .val (.int (1 : Int32)), .val (.int x1)] []))
      refine own_st (fun t9 k9 => XS.iinc X31.here hx rfl (hb hby own_d_jdk_52_method_21_38) rfl (l' := #[.val (.ref sr), .val (.int (2 : Int32)), .val (.ref ds), .val (.int (2 : Int32)), .val (.int (2 : Int32)), .val (.int ((1 : Int32) + (1 : Int32))), .val (.int x1)]) rfl k9) ?_
      show own_Go p e below s _ _ _ (T31.setTop (mkF m 41 #[.val (.ref sr), .val (.int (2 : Int32)), .val (.ref ds), .val (.int (2 : Int32)), .val (.int (2 : Int32)), .val (.int ((1 : Int32) + (1 : Int32))), .val (.int x1)] []))
      show own_Go p e below s _ _ _ (T31.setTop (mkF m 41 #[.val (.ref sr), .val (.int (2 : Int32)), .val (.ref ds), .val (.int (2 : Int32)), .val (.int (2 : Int32)), .val (.int (2 : Int32)), .val (.int x1)] []))
      refine own_st (fun t9 k9 => XS.goto X31.here hx rfl (pc0 := 41) (pc' := 3) rfl (hb hby own_d_jdk_52_method_21_41) (by decide) (by decide) k9) ?_
      show own_Go p e below s _ _ _ (T31.setTop (mkF m 3 #[.val (.ref sr), .val (.int (2 : Int32)), .val (.ref ds), .val (.int (2 : Int32)), .val (.int (2 : Int32)), .val (.int (2 : Int32)), .val (.int x1)] []))
      refine own_st (fun t9 k9 => XS.iload X31.here hx rfl (hb hby own_d_jdk_52_method_21_3) rfl  k9) ?_
      show own_Go p e below s _ _ _ (T31.setTop (mkF m 5 #[.val (.ref sr), .val (.int (2 : Int32)), .val (.ref ds), .val (.int (2 : Int32)), .val (.int (2 : Int32)), .val (.int (2 : Int32)), .val (.int x1)] [(.int (2 : Int32))]))
      refine own_st (fun t9 k9 => XS.iload X31.here hx rfl (hb hby own_d_jdk_52_method_21_5) rfl  k9) ?_
      show own_Go p e below s _ _ _ (T31.setTop (mkF m 7 #[.val (.ref sr), .val (.int (2 : Int32)), .val (.ref ds), .val (.int (2 : Int32)), .val (.int (2 : Int32)), .val (.int (2 : Int32)), .val (.int x1)] [(.int (2 : Int32)), (.int (2 : Int32))]))
      refine own_st (fun t9 k9 => XS.icmpYes X31.here hx rfl (pc0 := 7) (pc' := 44) rfl (hb hby own_d_jdk_52_method_21_7) rfl (by decide) (by decide) (by decide) k9) ?_
      show own_Go p e below s _ _ _ (T31.setTop (mkF m 44 #[.val (.ref sr), .val (.int (2 : Int32)), .val (.ref ds), .val (.int (2 : Int32)), .val (.int (2 : Int32)), .val (.int (2 : Int32)), .val (.int x1)] []))
      refine own_st (fun t9 k9 => XS.iload X31.here hx rfl (hb hby own_d_jdk_52_method_21_44) rfl  k9) ?_
      show own_Go p e below s _ _ _ (T31.setTop (mkF m 46 #[.val (.ref sr), .val (.int (2 : Int32)), .val (.ref ds), .val (.int (2 : Int32)), .val (.int (2 : Int32)), .val (.int (2 : Int32)), .val (.int x1)] [(.int (2 : Int32))]))
      exact own_retI X31 hx hlk Bd.returns (hb hby own_d_jdk_52_method_21_46) (by decide) (by decide) (by rw [e31]; exact ⟨by rw [(show own_first [x0, x1] 0 = (2 : Int32) from ((if_neg hg0).trans ((if_neg hg1).trans rfl)))], N31, Kp⟩)
theorem own_ef_cp2 (m : MethodId) (x0 : Addr) (x1 : Int32) (x2 : Int32) : entryFrame m #[(.ref x0), (.int x1), (.int x2)] 6 = mkF m 0 #[.val (.ref x0), .val (.int x1), .val (.int x2), .unset, .unset, .unset] [] := by first | (simp [entryFrame, mkF, argsToLocals, Value.category]; done) | rfl
def own_Q_cp2 (Z : State) (x0 : Int32) (x1 : Int32) (h0 : Heap) (n0 : Nat) (v : Option Value) (h : Heap) (L : List Loc) : Prop := Fr n0 L ∧ Keep h0 h [] ∧ ∃ a k, v = some (.ref a) ∧ h0.size ≤ a ∧ Arv Z h a k .byte (4 : Int32) [(.int (StrChars.lo8 x0)), (.int (StrChars.hi8 x0)), (.int (StrChars.lo8 x1)), (.int (StrChars.hi8 x1))] (.int (0 : Int32))
set_option maxRecDepth 65536 in
set_option maxHeartbeats 40000000 in
theorem own_rm_cp2 (l : Launch) (Z : State) (a0 : Array Value) (hw : ∀ d ∈ tables_1, d.before a0 Z = true) (ws : List Jvm.Cond) (sr : Addr) (ks : ClassId) (x0 : Int32) (x1 : Int32) (h0 : Heap) (n0 : Nat) (Od : Old Z n0 h0) (V_s : Arv Z h0 sr ks .char (2 : Int32) [(.int x0), (.int x1)] (.int (0 : Int32))) (hr0 : ¬ x0 < 0 ∧ ¬ (65535 : Int32) < x0) (hr1 : ¬ x1 < 0 ∧ ¬ (65535 : Int32) < x1) (hm : ¬ own_first [x0, x1] 0 = (2 : Int32)) (OA : Sta Z Z.heap "java/lang/StringUTF16" "$assertionsDisabled" "Z" (.int (1 : Int32))) (OH : Sta Z Z.heap "java/lang/StringUTF16" "HI_BYTE_SHIFT" "I" (.int (0 : Int32))) (OL : Sta Z Z.heap "java/lang/StringUTF16" "LO_BYTE_SHIFT" "I" (.int (8 : Int32))) :
    MetFree l (⟨"java/lang/StringUTF16", "compress", "([CII)[B"⟩ : MethodName) (head1 (Jvm.Cond.code (⟨"java/lang/StringUTF16", "compress", "([CII)[B"⟩ : MethodName) jdk_52_method_16_code 6 (some (.array .byte)) :: ws) ({ frames := 3, cells := 2, slots := 6, locals := 40 } : Room)) (fun a9 U => a9 = #[(.ref sr), (.int (0 : Int32)), (.int (2 : Int32))] ∧ Z.Warmed39 U.vm ∧ U.heap = h0) (fun _ _ _ _ _ => True) (fun _ U o U' => ∃ v L, o = .returned v ∧ own_Q_cp2 Z x0 x1 h0 n0 v U'.heap L ∧ FrameEnd U o U' L ({ frames := 3, cells := 2, slots := 6, locals := 40 } : Room).cells ({ frames := 3, cells := 2, slots := 6, locals := 40 } : Room).slots) := by
  refine MetFree.of_bodySF (plainFor_of_name own_pn0) hisR ?_
  intro p e s m args below meth c s₁ Bd hml0 hP hK
  obtain ⟨rfl, hZ, hh⟩ := hP
  have hx := Bd.exec
  have hby := Bd.bytes
  have hml : c.maxLocals = 6 := hml0
  have hown : s.vm.findClass "java/lang/StringUTF16" = some m.cls := findClass_of_methodNamed Bd.named
  have hnm := (name_of_methodNamed Bd.named Bd.method).1
  have hlk : meth.locks = false := Bd.notSynchronized
  have X0 : Stand p l e ({ frames := 3, cells := 2, slots := 6, locals := 40 } : Room) s m #[(.ref sr), (.int (0 : Int32)), (.int (2 : Int32))] below meth c s₁ [] 0 0 := Stand.of_body Bd
  have e0 : s₁.heap = h0 := by rw [← hh, Bd.state]; rfl
  have N0 := Fr.nil n0
  show own_Go p e below s (own_Q_cp2 Z x0 x1 h0 n0) ({ frames := 3, cells := 2, slots := 6, locals := 40 } : Room).cells ({ frames := 3, cells := 2, slots := 6, locals := 40 } : Room).slots (s₁.setTop (entryFrame m #[(.ref sr), (.int (0 : Int32)), (.int (2 : Int32))] 6))
  refine own_st (fun t9 k9 => castTop (own_ef_cp2 m sr (0 : Int32) (2 : Int32)) k9) ?_
  show own_Go p e below s _ _ _ (s₁.setTop (mkF m 0 #[.val (.ref sr), .val (.int (0 : Int32)), .val (.int (2 : Int32)), .unset, .unset, .unset] []))
  have Kp : Keep h0 h0 [] := Keep.refl h0 []
  refine own_st (fun t9 k9 => XS.iloadN X0.here hx rfl (hb hby own_d_jdk_52_method_16_0) rfl  k9) ?_
  show own_Go p e below s _ _ _ (s₁.setTop (mkF m 1 #[.val (.ref sr), .val (.int (0 : Int32)), .val (.int (2 : Int32)), .unset, .unset, .unset] [(.int (2 : Int32))]))
  obtain ⟨T32, h32, k32, X32, e32, E32, A32, st32⟩ := newP X0 hx hZ (hw _ (List.mem_of_getElem? (i := 23) rfl)) e0 (g := (mkF m 1 #[.val (.ref sr), .val (.int (0 : Int32)), .val (.int (2 : Int32)), .unset, .unset, .unset] [(.int (2 : Int32))])) rfl (hb hby own_d_jdk_52_method_16_1) rfl (by decide) (cap := 2) (by decide) (by decide) (by decide) (by decide)
  obtain ⟨ds, g32⟩ : ∃ z, z = h0.size := ⟨_, rfl⟩
  rw [← g32] at A32 st32
  have ne_sr_ds : sr ≠ ds := Nat.ne_of_lt (Nat.lt_of_lt_of_le V_s.lt (Nat.le_of_eq g32.symm))
  have ge_ds : n0 ≤ ds := Nat.le_trans (own_z0 Od) (Nat.le_of_eq g32.symm)
  have gz_ds : h0.size ≤ ds := Nat.le_trans Kp.1 (Nat.le_of_eq g32.symm)
  have V_s := V_s.ext E32
  have Od := Od.ext E32
  have Kp := Kp.ext E32
  refine own_st st32 ?_
  show own_Go p e below s _ _ _ (T32.setTop (mkF m 3 #[.val (.ref sr), .val (.int (0 : Int32)), .val (.int (2 : Int32)), .unset, .unset, .unset] [(.ref ds)]))
  have V_d : Arv Z h32 ds k32 .byte (2 : Int32) [(.int (0 : Int32)), (.int (0 : Int32))] (.int (0 : Int32)) := (Arv.new A32 (by decide)).pad (pad_rep [] (.int (0 : Int32)) 2)
  refine own_st (fun t9 k9 => XS.astoreN X32.here hx rfl (hb hby own_d_jdk_52_method_16_3) rfl rfl (l' := #[.val (.ref sr), .val (.int (0 : Int32)), .val (.int (2 : Int32)), .val (.ref ds), .unset, .unset]) rfl k9) ?_
  show own_Go p e below s _ _ _ (T32.setTop (mkF m 4 #[.val (.ref sr), .val (.int (0 : Int32)), .val (.int (2 : Int32)), .val (.ref ds), .unset, .unset] []))
  refine own_st (fun t9 k9 => XS.aloadN X32.here hx rfl (hb hby own_d_jdk_52_method_16_4) rfl rfl k9) ?_
  show own_Go p e below s _ _ _ (T32.setTop (mkF m 5 #[.val (.ref sr), .val (.int (0 : Int32)), .val (.int (2 : Int32)), .val (.ref ds), .unset, .unset] [(.ref sr)]))
  refine own_st (fun t9 k9 => XS.iloadN X32.here hx rfl (hb hby own_d_jdk_52_method_16_5) rfl  k9) ?_
  show own_Go p e below s _ _ _ (T32.setTop (mkF m 6 #[.val (.ref sr), .val (.int (0 : Int32)), .val (.int (2 : Int32)), .val (.ref ds), .unset, .unset] [(.int (0 : Int32)), (.ref sr)]))
  refine own_st (fun t9 k9 => XS.aloadN X32.here hx rfl (hb hby own_d_jdk_52_method_16_6) rfl rfl k9) ?_
  show own_Go p e below s _ _ _ (T32.setTop (mkF m 7 #[.val (.ref sr), .val (.int (0 : Int32)), .val (.int (2 : Int32)), .val (.ref ds), .unset, .unset] [(.ref ds), (.int (0 : Int32)), (.ref sr)]))
  refine own_st (fun t9 k9 => XS.iconst X32.here hx rfl (hb hby own_d_jdk_52_method_16_7) k9) ?_
  show own_Go p e below s _ _ _ (T32.setTop (mkF m 8 #[.val (.ref sr), .val (.int (0 : Int32)), .val (.int (2 : Int32)), .val (.ref ds), .unset, .unset] [(.int (0 : Int32)), (.ref ds), (.int (0 : Int32)), (.ref sr)]))
  refine own_st (fun t9 k9 => XS.iloadN X32.here hx rfl (hb hby own_d_jdk_52_method_16_8) rfl  k9) ?_
  show own_Go p e below s _ _ _ (T32.setTop (mkF m 9 #[.val (.ref sr), .val (.int (0 : Int32)), .val (.int (2 : Int32)), .val (.ref ds), .unset, .unset] [(.int (2 : Int32)), (.int (0 : Int32)), (.ref ds), (.int (0 : Int32)), (.ref sr)]))
  obtain ⟨_, T33, h33, L33, X33, e33, ⟨rfl, Nc, Kc⟩, st33⟩ := own_callS X32 hx hZ hown (hw _ (List.mem_of_getElem? (i := 24) rfl)) (hw _ (List.mem_of_getElem? (i := 25) rfl)) (hw _ (List.mem_of_getElem? (i := 21) rfl)) (hw _ (List.mem_of_getElem? (i := 26) rfl)) (by decide) (own_rm_cm2 l Z a0 hw [] sr ds ks _ x0 x1 h32 n0 Od V_s V_d ne_sr_ds ge_ds) (by decide) (by decide) e32 (W := 0) (g := (mkF m 9 #[.val (.ref sr), .val (.int (0 : Int32)), .val (.int (2 : Int32)), .val (.ref ds), .unset, .unset] [(.int (2 : Int32)), (.int (0 : Int32)), (.ref ds), (.int (0 : Int32)), (.ref sr)])) rfl (by rw [hml]; rfl) (argsL := [(.ref sr), (.int (0 : Int32)), (.ref ds), (.int (0 : Int32)), (.int (2 : Int32))]) (rest := []) rfl (lenOf own_pd3 rfl) rfl (by show 2 * 0 + _ ≤ _; exact Nat.le_of_eq rfl) (hb hby own_d_jdk_52_method_16_9) (by decide) (by decide)
  have N33 := Fr.app N0 Nc
  have V_s := V_s.keep Kc (ninS ne_sr_ds nin0)
  have Od := Od.keep Kc (allS ge_ds all0)
  have Kp := Kp.trans Kc (allS (Or.inr gz_ds) all0)
  refine own_st st33 ?_
  show own_Go p e below s _ _ _ (T33.setTop (mkF m 12 #[.val (.ref sr), .val (.int (0 : Int32)), .val (.int (2 : Int32)), .val (.ref ds), .unset, .unset] [(.int (own_first [x0, x1] 0))]))
  refine own_st (fun t9 k9 => XS.istore X33.here hx rfl (hb hby own_d_jdk_52_method_16_12) rfl (l' := #[.val (.ref sr), .val (.int (0 : Int32)), .val (.int (2 : Int32)), .val (.ref ds), .val (.int (own_first [x0, x1] 0)), .unset]) rfl k9) ?_
  show own_Go p e below s _ _ _ (T33.setTop (mkF m 14 #[.val (.ref sr), .val (.int (0 : Int32)), .val (.int (2 : Int32)), .val (.ref ds), .val (.int (own_first [x0, x1] 0)), .unset] []))
  refine own_st (fun t9 k9 => XS.iload X33.here hx rfl (hb hby own_d_jdk_52_method_16_14) rfl  k9) ?_
  show own_Go p e below s _ _ _ (T33.setTop (mkF m 16 #[.val (.ref sr), .val (.int (0 : Int32)), .val (.int (2 : Int32)), .val (.ref ds), .val (.int (own_first [x0, x1] 0)), .unset] [(.int (own_first [x0, x1] 0))]))
  refine own_st (fun t9 k9 => XS.iloadN X33.here hx rfl (hb hby own_d_jdk_52_method_16_16) rfl  k9) ?_
  show own_Go p e below s _ _ _ (T33.setTop (mkF m 17 #[.val (.ref sr), .val (.int (0 : Int32)), .val (.int (2 : Int32)), .val (.ref ds), .val (.int (own_first [x0, x1] 0)), .unset] [(.int (2 : Int32)), (.int (own_first [x0, x1] 0))]))
  refine own_st (fun t9 k9 => XS.icmpNo X33.here hx rfl (hb hby own_d_jdk_52_method_16_17) rfl (feq (hm : ¬ ((own_first [x0, x1] 0) = (2 : Int32)))).1 k9) ?_
  show own_Go p e below s _ _ _ (T33.setTop (mkF m 20 #[.val (.ref sr), .val (.int (0 : Int32)), .val (.int (2 : Int32)), .val (.ref ds), .val (.int (own_first [x0, x1] 0)), .unset] []))
  refine own_st (fun t9 k9 => XS.aloadN X33.here hx rfl (hb hby own_d_jdk_52_method_16_20) rfl rfl k9) ?_
  show own_Go p e below s _ _ _ (T33.setTop (mkF m 21 #[.val (.ref sr), .val (.int (0 : Int32)), .val (.int (2 : Int32)), .val (.ref ds), .val (.int (own_first [x0, x1] 0)), .unset] [(.ref sr)]))
  refine own_st (fun t9 k9 => XS.iloadN X33.here hx rfl (hb hby own_d_jdk_52_method_16_21) rfl  k9) ?_
  show own_Go p e below s _ _ _ (T33.setTop (mkF m 22 #[.val (.ref sr), .val (.int (0 : Int32)), .val (.int (2 : Int32)), .val (.ref ds), .val (.int (own_first [x0, x1] 0)), .unset] [(.int (0 : Int32)), (.ref sr)]))
  refine own_st (fun t9 k9 => XS.iloadN X33.here hx rfl (hb hby own_d_jdk_52_method_16_22) rfl  k9) ?_
  show own_Go p e below s _ _ _ (T33.setTop (mkF m 23 #[.val (.ref sr), .val (.int (0 : Int32)), .val (.int (2 : Int32)), .val (.ref ds), .val (.int (own_first [x0, x1] 0)), .unset] [(.int (2 : Int32)), (.int (0 : Int32)), (.ref sr)]))
  obtain ⟨_, T34, h34, L34, X34, e34, ⟨Nd, Kd, a, ka, rfl, gea, V_a⟩, st34⟩ := own_callS X33 hx hZ hown (hw _ (List.mem_of_getElem? (i := 53) rfl)) (hw _ (List.mem_of_getElem? (i := 54) rfl)) (hw _ (List.mem_of_getElem? (i := 21) rfl)) (hw _ (List.mem_of_getElem? (i := 55) rfl)) (by decide) (own_rm_tob2 l Z a0 hw [] sr ks x0 x1 h33 n0 Od V_s OA OH OL) (by decide) (by decide) e33 (W := 0) (g := (mkF m 23 #[.val (.ref sr), .val (.int (0 : Int32)), .val (.int (2 : Int32)), .val (.ref ds), .val (.int (own_first [x0, x1] 0)), .unset] [(.int (2 : Int32)), (.int (0 : Int32)), (.ref sr)])) rfl (by rw [hml]; rfl) (argsL := [(.ref sr), (.int (0 : Int32)), (.int (2 : Int32))]) (rest := []) rfl (lenOf own_pd4 rfl) rfl (by show 2 * 0 + _ ≤ _; exact Nat.le_of_eq rfl) (hb hby own_d_jdk_52_method_16_23) (by decide) (by decide)
  have N34 := Fr.app N33 Nd
  have ne_sr_a : sr ≠ a := Nat.ne_of_lt (Nat.lt_of_lt_of_le V_s.lt gea)
  have ge_a : n0 ≤ a := Nat.le_trans (own_z0 Od) gea
  have gz_a : h0.size ≤ a := Nat.le_trans Kp.1 gea
  have V_s := V_s.keep Kd nin0
  have Od := Od.keep Kd all0
  have Kp := Kp.trans Kd all0
  refine own_st st34 ?_
  show own_Go p e below s _ _ _ (T34.setTop (mkF m 26 #[.val (.ref sr), .val (.int (0 : Int32)), .val (.int (2 : Int32)), .val (.ref ds), .val (.int (own_first [x0, x1] 0)), .unset] [(.ref a)]))
  refine own_st (fun t9 k9 => XS.astore X34.here hx rfl (hb hby own_d_jdk_52_method_16_26) rfl rfl (l' := #[.val (.ref sr), .val (.int (0 : Int32)), .val (.int (2 : Int32)), .val (.ref ds), .val (.int (own_first [x0, x1] 0)), .val (.ref a)]) rfl k9) ?_
  show own_Go p e below s _ _ _ (T34.setTop (mkF m 28 #[.val (.ref sr), .val (.int (0 : Int32)), .val (.int (2 : Int32)), .val (.ref ds), .val (.int (own_first [x0, x1] 0)), .val (.ref a)] []))
  refine own_st (fun t9 k9 => XS.aload X34.here hx rfl (hb hby own_d_jdk_52_method_16_28) rfl rfl k9) ?_
  show own_Go p e below s _ _ _ (T34.setTop (mkF m 30 #[.val (.ref sr), .val (.int (0 : Int32)), .val (.int (2 : Int32)), .val (.ref ds), .val (.int (own_first [x0, x1] 0)), .val (.ref a)] [(.ref a)]))
  refine own_st (fun t9 k9 => XS.iload X34.here hx rfl (hb hby own_d_jdk_52_method_16_30) rfl  k9) ?_
  show own_Go p e below s _ _ _ (T34.setTop (mkF m 32 #[.val (.ref sr), .val (.int (0 : Int32)), .val (.int (2 : Int32)), .val (.ref ds), .val (.int (own_first [x0, x1] 0)), .val (.ref a)] [(.int (own_first [x0, x1] 0)), (.ref a)]))
  obtain ⟨c9, r9, g9, b0, b1, q0, q1⟩ : ∃ c9 : Int32, (¬ c9 < 0 ∧ ¬ (65535 : Int32) < c9) ∧ (255 : Int32) < c9 ∧ (¬ ((own_first [x0, x1] 0) <<< ((1 : Int32) &&& 31)) < 0 ∧ ((own_first [x0, x1] 0) <<< ((1 : Int32) &&& 31)) < (4 : Int32)) ∧ (¬ (((own_first [x0, x1] 0) <<< ((1 : Int32) &&& 31)) + (1 : Int32)) < 0 ∧ (((own_first [x0, x1] 0) <<< ((1 : Int32) &&& 31)) + (1 : Int32)) < (4 : Int32)) ∧ ([(.int (StrChars.lo8 x0)), (.int (StrChars.hi8 x0)), (.int (StrChars.lo8 x1)), (.int (StrChars.hi8 x1))] : List Value).getD ((own_first [x0, x1] 0) <<< ((1 : Int32) &&& 31)).toNatClampNeg (.int (0 : Int32)) = .int (StrChars.lo8 c9) ∧ ([(.int (StrChars.lo8 x0)), (.int (StrChars.hi8 x0)), (.int (StrChars.lo8 x1)), (.int (StrChars.hi8 x1))] : List Value).getD (((own_first [x0, x1] 0) <<< ((1 : Int32) &&& 31)) + (1 : Int32)).toNatClampNeg (.int (0 : Int32)) = .int (StrChars.hi8 c9) := by
    by_cases hg0 : (255 : Int32) < x0
    · rw [(show own_first [x0, x1] 0 = (0 : Int32) from (if_pos hg0))]
      exact ⟨x0, hr0, hg0, by decide, by decide, rfl, rfl⟩
    by_cases hg1 : (255 : Int32) < x1
    · rw [(show own_first [x0, x1] 0 = (1 : Int32) from ((if_neg hg0).trans (if_pos hg1)))]
      exact ⟨x1, hr1, hg1, by decide, by decide, rfl, rfl⟩
    exact absurd (show own_first [x0, x1] 0 = (2 : Int32) from ((if_neg hg0).trans ((if_neg hg1).trans rfl))) hm
  obtain ⟨_, T35, h35, L35, X35, e35, ⟨rfl, Nq, hu⟩, st35⟩ := own_callS X34 hx hZ hown (hw _ (List.mem_of_getElem? (i := 69) rfl)) (hw _ (List.mem_of_getElem? (i := 70) rfl)) (hw _ (List.mem_of_getElem? (i := 21) rfl)) (hw _ (List.mem_of_getElem? (i := 71) rfl)) (by decide) (own_rm_getc l Z a0 hw [] a (own_first [x0, x1] 0) (4 : Int32) (StrChars.lo8 c9) (StrChars.hi8 c9) ka [(.int (StrChars.lo8 x0)), (.int (StrChars.hi8 x0)), (.int (StrChars.lo8 x1)), (.int (StrChars.hi8 x1))] h34 n0 Od V_a b0 b1 q0 q1 OA OH OL) (by decide) (by decide) e34 (W := 0) (g := (mkF m 32 #[.val (.ref sr), .val (.int (0 : Int32)), .val (.int (2 : Int32)), .val (.ref ds), .val (.int (own_first [x0, x1] 0)), .val (.ref a)] [(.int (own_first [x0, x1] 0)), (.ref a)])) rfl (by rw [hml]; rfl) (argsL := [(.ref a), (.int (own_first [x0, x1] 0))]) (rest := []) rfl (lenOf own_pd5 rfl) rfl (by show 2 * 0 + _ ≤ _; exact Nat.le_of_eq rfl) (hb hby own_d_jdk_52_method_16_32) (by decide) (by decide)
  have N35 := Fr.app N34 Nq
  refine own_st st35 ?_
  show own_Go p e below s _ _ _ (T35.setTop (mkF m 35 #[.val (.ref sr), .val (.int (0 : Int32)), .val (.int (2 : Int32)), .val (.ref ds), .val (.int (own_first [x0, x1] 0)), .val (.ref a)] [(.int (nar .char ((((StrChars.lo8 c9 &&& 255) <<< ((0 : Int32) &&& 31)) ||| ((StrChars.hi8 c9 &&& 255) <<< ((8 : Int32) &&& 31))).toUInt32.toUInt16.toUInt32.toInt32)))]))
  rw [own_pair r9.1 r9.2]
  show own_Go p e below s _ _ _ (T35.setTop (mkF m 35 #[.val (.ref sr), .val (.int (0 : Int32)), .val (.int (2 : Int32)), .val (.ref ds), .val (.int (own_first [x0, x1] 0)), .val (.ref a)] [(.int c9)]))
  refine own_st (fun t9 k9 => XS.sipush X35.here hx rfl (hb hby own_d_jdk_52_method_16_35) k9) ?_
  show own_Go p e below s _ _ _ (T35.setTop (mkF m 38 #[.val (.ref sr), .val (.int (0 : Int32)), .val (.int (2 : Int32)), .val (.ref ds), .val (.int (own_first [x0, x1] 0)), .val (.ref a)] [(.int (255 : Int32)), (.int c9)]))
  refine own_st (fun t9 k9 => XS.icmpYes X35.here hx rfl (pc0 := 38) (pc' := 54) rfl (hb hby own_d_jdk_52_method_16_38) rfl (tlt (g9 : (255 : Int32) < c9)).2.2.1 (by decide) (by decide) k9) ?_
  show own_Go p e below s _ _ _ (T35.setTop (mkF m 54 #[.val (.ref sr), .val (.int (0 : Int32)), .val (.int (2 : Int32)), .val (.ref ds), .val (.int (own_first [x0, x1] 0)), .val (.ref a)] []))
  refine own_st (fun t9 k9 => XS.aload X35.here hx rfl (hb hby own_d_jdk_52_method_16_54) rfl rfl k9) ?_
  show own_Go p e below s _ _ _ (T35.setTop (mkF m 56 #[.val (.ref sr), .val (.int (0 : Int32)), .val (.int (2 : Int32)), .val (.ref ds), .val (.int (own_first [x0, x1] 0)), .val (.ref a)] [(.ref a)]))
  exact own_retR X35 hx hlk Bd.returns rfl rfl (hb hby own_d_jdk_52_method_16_56) (by decide) (by decide) (by rw [(e35.trans hu)]; exact ⟨N35, Kp, a, ka, rfl, gz_a, V_a⟩)
theorem own_ef_cfal2 (m : MethodId) (x0 : Addr) (x1 : Int32) : entryFrame m #[(.ref x0), (.int x1)] 2 = mkF m 0 #[.val (.ref x0), .val (.int x1)] [] := by first | (simp [entryFrame, mkF, argsToLocals, Value.category]; done) | rfl
def own_Q_cfal2 (Z : State)  (h0 : Heap) (n0 : Nat) (v : Option Value) (h : Heap) (L : List Loc) : Prop := v = some (.int (1 : Int32)) ∧ Fr n0 L ∧ h = h0
set_option maxRecDepth 65536 in
set_option maxHeartbeats 40000000 in
theorem own_rm_cfal2 (l : Launch) (Z : State) (a0 : Array Value) (hw : ∀ d ∈ tables_1, d.before a0 Z = true) (ws : List Jvm.Cond) (b : Addr) (kb : ClassId) (vs : List Value) (h0 : Heap) (n0 : Nat) (Od : Old Z n0 h0) (A : Arv Z h0 b kb .byte (4 : Int32) vs (.int (0 : Int32))) :
    MetFree l (⟨"java/lang/StringUTF16", "coderFromArrayLen", "([BI)B"⟩ : MethodName) (head1 (Jvm.Cond.code (⟨"java/lang/StringUTF16", "coderFromArrayLen", "([BI)B"⟩ : MethodName) jdk_52_method_15_code 2 (some .byte) :: ws) ({ frames := 0, cells := 0, slots := 0, locals := 0 } : Room)) (fun a9 U => a9 = #[(.ref b), (.int (2 : Int32))] ∧ Z.Warmed39 U.vm ∧ U.heap = h0) (fun _ _ _ _ _ => True) (fun _ U o U' => ∃ v L, o = .returned v ∧ own_Q_cfal2 Z  h0 n0 v U'.heap L ∧ FrameEnd U o U' L ({ frames := 0, cells := 0, slots := 0, locals := 0 } : Room).cells ({ frames := 0, cells := 0, slots := 0, locals := 0 } : Room).slots) := by
  refine MetFree.of_bodySF (plainFor_of_name own_pn0) hisR ?_
  intro p e s m args below meth c s₁ Bd hml0 hP hK
  obtain ⟨rfl, hZ, hh⟩ := hP
  have hx := Bd.exec
  have hby := Bd.bytes
  have hml : c.maxLocals = 2 := hml0
  have hown : s.vm.findClass "java/lang/StringUTF16" = some m.cls := findClass_of_methodNamed Bd.named
  have hnm := (name_of_methodNamed Bd.named Bd.method).1
  have hlk : meth.locks = false := Bd.notSynchronized
  have X0 : Stand p l e ({ frames := 0, cells := 0, slots := 0, locals := 0 } : Room) s m #[(.ref b), (.int (2 : Int32))] below meth c s₁ [] 0 0 := Stand.of_body Bd
  have e0 : s₁.heap = h0 := by rw [← hh, Bd.state]; rfl
  have N0 := Fr.nil n0
  show own_Go p e below s (own_Q_cfal2 Z  h0 n0) ({ frames := 0, cells := 0, slots := 0, locals := 0 } : Room).cells ({ frames := 0, cells := 0, slots := 0, locals := 0 } : Room).slots (s₁.setTop (entryFrame m #[(.ref b), (.int (2 : Int32))] 2))
  refine own_st (fun t9 k9 => castTop (own_ef_cfal2 m b (2 : Int32)) k9) ?_
  show own_Go p e below s _ _ _ (s₁.setTop (mkF m 0 #[.val (.ref b), .val (.int (2 : Int32))] []))
  refine own_st (fun t9 k9 => XS.iloadN X0.here hx rfl (hb hby own_d_jdk_52_method_15_0) rfl  k9) ?_
  show own_Go p e below s _ _ _ (s₁.setTop (mkF m 1 #[.val (.ref b), .val (.int (2 : Int32))] [(.int (2 : Int32))]))
  refine own_st (fun t9 k9 => XS.aloadN X0.here hx rfl (hb hby own_d_jdk_52_method_15_1) rfl rfl k9) ?_
  show own_Go p e below s _ _ _ (s₁.setTop (mkF m 2 #[.val (.ref b), .val (.int (2 : Int32))] [(.ref b), (.int (2 : Int32))]))
  refine own_st (fun t9 k9 => own_alen X0 hx hZ e0 A (g := (mkF m 2 #[.val (.ref b), .val (.int (2 : Int32))] [(.ref b), (.int (2 : Int32))])) rfl rfl (hb hby own_d_jdk_52_method_15_2) t9 k9) ?_
  show own_Go p e below s _ _ _ (s₁.setTop (mkF m 3 #[.val (.ref b), .val (.int (2 : Int32))] [(.int (4 : Int32)), (.int (2 : Int32))]))
  refine own_st (fun t9 k9 => XS.isub X0.here hx rfl (hb hby own_d_jdk_52_method_15_3) rfl k9) ?_
  show own_Go p e below s _ _ _ (s₁.setTop (mkF m 4 #[.val (.ref b), .val (.int (2 : Int32))] [(.int ((2 : Int32) - (4 : Int32)))]))
  refine own_st (fun t9 k9 => XS.bipush X0.here hx rfl (hb hby own_d_jdk_52_method_15_4) k9) ?_
  show own_Go p e below s _ _ _ (s₁.setTop (mkF m 6 #[.val (.ref b), .val (.int (2 : Int32))] [(.int (31 : Int32)), (.int ((2 : Int32) - (4 : Int32)))]))
  refine own_st (fun t9 k9 => XT.iushr X0.here hx rfl (hb hby own_d_jdk_52_method_15_6) rfl k9) ?_
  show own_Go p e below s _ _ _ (s₁.setTop (mkF m 7 #[.val (.ref b), .val (.int (2 : Int32))] [(.int ((((2 : Int32) - (4 : Int32)).toUInt32 >>> ((31 : Int32) &&& 31).toUInt32).toInt32))]))
  refine own_st (fun t9 k9 => XT.i2b X0.here hx rfl (hb hby own_d_jdk_52_method_15_7) rfl k9) ?_
  show own_Go p e below s _ _ _ (s₁.setTop (mkF m 8 #[.val (.ref b), .val (.int (2 : Int32))] [(.int (((((2 : Int32) - (4 : Int32)).toUInt32 >>> ((31 : Int32) &&& 31).toUInt32).toInt32).toInt8.toInt32))]))
  exact own_retN X0 hx hlk (t := .byte) Bd.returns (by simp) (hb hby own_d_jdk_52_method_15_8) (by decide) (by decide) (by rw [e0]; exact ⟨by decide, N0, rfl⟩)
theorem own_ef_si2_2 (m : MethodId) (x0 : Addr) (x1 : Addr) (x2 : Int32) (x3 : Int32) : entryFrame m #[(.ref x0), (.ref x1), (.int x2), (.int x3), .null] 6 = mkF m 0 #[.val (.ref x0), .val (.ref x1), .val (.int x2), .val (.int x3), .val .null, .unset] [] := by first | (simp [entryFrame, mkF, argsToLocals, Value.category]; done) | rfl
def own_Q_si2_2 (Z : State) (x : Addr) (x0 : Int32) (x1 : Int32) (h0 : Heap) (n0 : Nat) (v : Option Value) (h : Heap) (L : List Loc) : Prop := v = none ∧ Fr n0 L ∧ Keep h0 h [x] ∧ Exa Z h x "java/lang/String" ∧ Fld Z h x "java/lang/String" "coder" "B" (.int (1 : Int32)) ∧ ∃ t k, h0.size ≤ t ∧ Fld Z h x "java/lang/String" "value" "[B" (.ref t) ∧ Arv Z h t k .byte (4 : Int32) [(.int (StrChars.lo8 x0)), (.int (StrChars.hi8 x0)), (.int (StrChars.lo8 x1)), (.int (StrChars.hi8 x1))] (.int (0 : Int32))
set_option maxRecDepth 65536 in
set_option maxHeartbeats 40000000 in
theorem own_rm_si2_2 (l : Launch) (Z : State) (a0 : Array Value) (hw : ∀ d ∈ tables_1, d.before a0 Z = true) (ws : List Jvm.Cond) (x : Addr) (sr : Addr) (ks : ClassId) (v0 c0 : Value) (G : Int32) (x0 : Int32) (x1 : Int32) (h0 : Heap) (n0 : Nat) (Od : Old Z n0 h0) (E_x : Exa Z h0 x "java/lang/String") (F_v : Fld Z h0 x "java/lang/String" "value" "[B" v0) (F_k : Fld Z h0 x "java/lang/String" "coder" "B" c0) (V_s : Arv Z h0 sr ks .char (2 : Int32) [(.int x0), (.int x1)] (.int (0 : Int32))) (ge_x : n0 ≤ x) (ne_s : sr ≠ x) (hr0 : ¬ x0 < 0 ∧ ¬ (65535 : Int32) < x0) (hr1 : ¬ x1 < 0 ∧ ¬ (65535 : Int32) < x1) (hm : ¬ own_first [x0, x1] 0 = (2 : Int32)) (OA : Sta Z Z.heap "java/lang/StringUTF16" "$assertionsDisabled" "Z" (.int (1 : Int32))) (OH : Sta Z Z.heap "java/lang/StringUTF16" "HI_BYTE_SHIFT" "I" (.int (0 : Int32))) (OL : Sta Z Z.heap "java/lang/StringUTF16" "LO_BYTE_SHIFT" "I" (.int (8 : Int32))) (O2 : Sta Z Z.heap "java/lang/String" "COMPACT_STRINGS" "Z" (.int G)) (P5 : ¬ (G = (0 : Int32))) :
    MetFree l (⟨"java/lang/String", "<init>", "([CIILjava/lang/Void;)V"⟩ : MethodName) (head1 (Jvm.Cond.code (⟨"java/lang/String", "<init>", "([CIILjava/lang/Void;)V"⟩ : MethodName) jdk_42_method_149_code 6 none :: ws) ({ frames := 4, cells := 2, slots := 6, locals := 57 } : Room)) (fun a9 U => a9 = #[(.ref x), (.ref sr), (.int (0 : Int32)), (.int (2 : Int32)), .null] ∧ Z.Warmed39 U.vm ∧ U.heap = h0) (fun _ _ _ _ _ => True) (fun _ U o U' => ∃ v L, o = .returned v ∧ own_Q_si2_2 Z x x0 x1 h0 n0 v U'.heap L ∧ FrameEnd U o U' L ({ frames := 4, cells := 2, slots := 6, locals := 57 } : Room).cells ({ frames := 4, cells := 2, slots := 6, locals := 57 } : Room).slots) := by
  refine MetFree.of_bodySF (plainFor_of_name own_pn1) hisR ?_
  intro p e s m args below meth c s₁ Bd hml0 hP hK
  obtain ⟨rfl, hZ, hh⟩ := hP
  have hx := Bd.exec
  have hby := Bd.bytes
  have hml : c.maxLocals = 6 := hml0
  have hown : s.vm.findClass "java/lang/String" = some m.cls := findClass_of_methodNamed Bd.named
  have hnm := (name_of_methodNamed Bd.named Bd.method).1
  have hlk : meth.locks = false := Bd.notSynchronized
  have X0 : Stand p l e ({ frames := 4, cells := 2, slots := 6, locals := 57 } : Room) s m #[(.ref x), (.ref sr), (.int (0 : Int32)), (.int (2 : Int32)), .null] below meth c s₁ [] 0 0 := Stand.of_body Bd
  have e0 : s₁.heap = h0 := by rw [← hh, Bd.state]; rfl
  have N0 := Fr.nil n0
  show own_Go p e below s (own_Q_si2_2 Z x x0 x1 h0 n0) ({ frames := 4, cells := 2, slots := 6, locals := 57 } : Room).cells ({ frames := 4, cells := 2, slots := 6, locals := 57 } : Room).slots (s₁.setTop (entryFrame m #[(.ref x), (.ref sr), (.int (0 : Int32)), (.int (2 : Int32)), .null] 6))
  refine own_st (fun t9 k9 => castTop (own_ef_si2_2 m x sr (0 : Int32) (2 : Int32)) k9) ?_
  show own_Go p e below s _ _ _ (s₁.setTop (mkF m 0 #[.val (.ref x), .val (.ref sr), .val (.int (0 : Int32)), .val (.int (2 : Int32)), .val .null, .unset] []))
  have Kp : Keep h0 h0 [x] := Keep.refl h0 [x]
  refine own_st (fun t9 k9 => XS.aloadN X0.here hx rfl (hb hby own_d_jdk_42_method_149_0) rfl rfl k9) ?_
  show own_Go p e below s _ _ _ (s₁.setTop (mkF m 1 #[.val (.ref x), .val (.ref sr), .val (.int (0 : Int32)), .val (.int (2 : Int32)), .val .null, .unset] [(.ref x)]))
  obtain ⟨T36, X36, e36, st36⟩ := initO X0 hx hZ hown (hw _ (List.mem_of_getElem? (i := 15) rfl)) (hw _ (List.mem_of_getElem? (i := 16) rfl)) (hw _ (List.mem_of_getElem? (i := 17) rfl)) e0 (g := (mkF m 1 #[.val (.ref x), .val (.ref sr), .val (.int (0 : Int32)), .val (.int (2 : Int32)), .val .null, .unset] [(.ref x)])) rfl (by rw [hml]; rfl) rfl (hb hby own_d_jdk_42_method_149_1) (by decide) (W := 0) (by show 2 * 0 + _ ≤ _; exact Nat.le_of_eq rfl) (by decide)
  refine own_st st36 ?_
  show own_Go p e below s _ _ _ (T36.setTop (mkF m 4 #[.val (.ref x), .val (.ref sr), .val (.int (0 : Int32)), .val (.int (2 : Int32)), .val .null, .unset] []))
  refine own_st (fun t9 k9 => XS.iloadN X36.here hx rfl (hb hby own_d_jdk_42_method_149_4) rfl  k9) ?_
  show own_Go p e below s _ _ _ (T36.setTop (mkF m 5 #[.val (.ref x), .val (.ref sr), .val (.int (0 : Int32)), .val (.int (2 : Int32)), .val .null, .unset] [(.int (2 : Int32))]))
  refine own_st (fun t9 k9 => XS.ifYes X36.here hx rfl (pc0 := 5) (pc' := 27) rfl (hb hby own_d_jdk_42_method_149_5) rfl (by decide) (by decide) (by decide) k9) ?_
  show own_Go p e below s _ _ _ (T36.setTop (mkF m 27 #[.val (.ref x), .val (.ref sr), .val (.int (0 : Int32)), .val (.int (2 : Int32)), .val .null, .unset] []))
  obtain ⟨T37, X37, e37, st37⟩ := getS (host := "") X36 hx hZ hown (hw _ (List.mem_of_getElem? (i := 18) rfl)) Via.refl e36 (O2.ext Od.2) (g := (mkF m 27 #[.val (.ref x), .val (.ref sr), .val (.int (0 : Int32)), .val (.int (2 : Int32)), .val .null, .unset] [])) rfl (hb hby own_d_jdk_42_method_149_27)
  refine own_st st37 ?_
  show own_Go p e below s _ _ _ (T37.setTop (mkF m 30 #[.val (.ref x), .val (.ref sr), .val (.int (0 : Int32)), .val (.int (2 : Int32)), .val .null, .unset] [(.int G)]))
  refine own_st (fun t9 k9 => XS.ifNo X37.here hx rfl (hb hby own_d_jdk_42_method_149_30) rfl ((if0 _ _).trans (feq (P5 : ¬ (G = (0 : Int32)))).1) k9) ?_
  show own_Go p e below s _ _ _ (T37.setTop (mkF m 33 #[.val (.ref x), .val (.ref sr), .val (.int (0 : Int32)), .val (.int (2 : Int32)), .val .null, .unset] []))
  refine own_st (fun t9 k9 => XS.aloadN X37.here hx rfl (hb hby own_d_jdk_42_method_149_33) rfl rfl k9) ?_
  show own_Go p e below s _ _ _ (T37.setTop (mkF m 34 #[.val (.ref x), .val (.ref sr), .val (.int (0 : Int32)), .val (.int (2 : Int32)), .val .null, .unset] [(.ref sr)]))
  refine own_st (fun t9 k9 => XS.iloadN X37.here hx rfl (hb hby own_d_jdk_42_method_149_34) rfl  k9) ?_
  show own_Go p e below s _ _ _ (T37.setTop (mkF m 35 #[.val (.ref x), .val (.ref sr), .val (.int (0 : Int32)), .val (.int (2 : Int32)), .val .null, .unset] [(.int (0 : Int32)), (.ref sr)]))
  refine own_st (fun t9 k9 => XS.iloadN X37.here hx rfl (hb hby own_d_jdk_42_method_149_35) rfl  k9) ?_
  show own_Go p e below s _ _ _ (T37.setTop (mkF m 36 #[.val (.ref x), .val (.ref sr), .val (.int (0 : Int32)), .val (.int (2 : Int32)), .val .null, .unset] [(.int (2 : Int32)), (.int (0 : Int32)), (.ref sr)]))
  obtain ⟨_, T38, h38, L38, X38, e38, ⟨Nc, Kc, t, kt, rfl, get, V_t⟩, st38⟩ := own_callS X37 hx hZ hown (hw _ (List.mem_of_getElem? (i := 19) rfl)) (hw _ (List.mem_of_getElem? (i := 20) rfl)) (hw _ (List.mem_of_getElem? (i := 21) rfl)) (hw _ (List.mem_of_getElem? (i := 22) rfl)) (by decide) (own_rm_cp2 l Z a0 hw [] sr ks x0 x1 h0 n0 Od V_s hr0 hr1 hm OA OH OL) (by decide) (by decide) e37 (W := 0) (g := (mkF m 36 #[.val (.ref x), .val (.ref sr), .val (.int (0 : Int32)), .val (.int (2 : Int32)), .val .null, .unset] [(.int (2 : Int32)), (.int (0 : Int32)), (.ref sr)])) rfl (by rw [hml]; rfl) (argsL := [(.ref sr), (.int (0 : Int32)), (.int (2 : Int32))]) (rest := []) rfl (lenOf own_pd4 rfl) rfl (by show 2 * 0 + _ ≤ _; exact Nat.le_of_eq rfl) (hb hby own_d_jdk_42_method_149_36) (by decide) (by decide)
  have N38 := Fr.app N0 Nc
  have ne_x_t : x ≠ t := Nat.ne_of_lt (Nat.lt_of_lt_of_le E_x.lt get)
  have ne_sr_t : sr ≠ t := Nat.ne_of_lt (Nat.lt_of_lt_of_le V_s.lt get)
  have ge_t : n0 ≤ t := Nat.le_trans (own_z0 Od) get
  have gz_t : h0.size ≤ t := Nat.le_trans Kp.1 get
  have E_x := E_x.keep Kc
  have F_v := F_v.keep Kc nin0
  have F_k := F_k.keep Kc nin0
  have V_s := V_s.keep Kc nin0
  have Od := Od.keep Kc all0
  have Kp := Kp.trans Kc all0
  refine own_st st38 ?_
  show own_Go p e below s _ _ _ (T38.setTop (mkF m 39 #[.val (.ref x), .val (.ref sr), .val (.int (0 : Int32)), .val (.int (2 : Int32)), .val .null, .unset] [(.ref t)]))
  refine own_st (fun t9 k9 => XS.astore X38.here hx rfl (hb hby own_d_jdk_42_method_149_39) rfl rfl (l' := #[.val (.ref x), .val (.ref sr), .val (.int (0 : Int32)), .val (.int (2 : Int32)), .val .null, .val (.ref t)]) rfl k9) ?_
  show own_Go p e below s _ _ _ (T38.setTop (mkF m 41 #[.val (.ref x), .val (.ref sr), .val (.int (0 : Int32)), .val (.int (2 : Int32)), .val .null, .val (.ref t)] []))
  refine own_st (fun t9 k9 => XS.aloadN X38.here hx rfl (hb hby own_d_jdk_42_method_149_41) rfl rfl k9) ?_
  show own_Go p e below s _ _ _ (T38.setTop (mkF m 42 #[.val (.ref x), .val (.ref sr), .val (.int (0 : Int32)), .val (.int (2 : Int32)), .val .null, .val (.ref t)] [(.ref x)]))
  refine own_st (fun t9 k9 => XS.aload X38.here hx rfl (hb hby own_d_jdk_42_method_149_42) rfl rfl k9) ?_
  show own_Go p e below s _ _ _ (T38.setTop (mkF m 44 #[.val (.ref x), .val (.ref sr), .val (.int (0 : Int32)), .val (.int (2 : Int32)), .val .null, .val (.ref t)] [(.ref t), (.ref x)]))
  refine own_st (fun t9 k9 => XS.iloadN X38.here hx rfl (hb hby own_d_jdk_42_method_149_44) rfl  k9) ?_
  show own_Go p e below s _ _ _ (T38.setTop (mkF m 45 #[.val (.ref x), .val (.ref sr), .val (.int (0 : Int32)), .val (.int (2 : Int32)), .val .null, .val (.ref t)] [(.int (2 : Int32)), (.ref t), (.ref x)]))
  obtain ⟨_, T39, h39, L39, X39, e39, ⟨rfl, Nd, hu⟩, st39⟩ := own_callS X38 hx hZ hown (hw _ (List.mem_of_getElem? (i := 27) rfl)) (hw _ (List.mem_of_getElem? (i := 28) rfl)) (hw _ (List.mem_of_getElem? (i := 21) rfl)) (hw _ (List.mem_of_getElem? (i := 29) rfl)) (by decide) (own_rm_cfal2 l Z a0 hw [] t kt _ h38 n0 Od V_t) (by decide) (by decide) e38 (W := 1) (g := (mkF m 45 #[.val (.ref x), .val (.ref sr), .val (.int (0 : Int32)), .val (.int (2 : Int32)), .val .null, .val (.ref t)] [(.int (2 : Int32)), (.ref t), (.ref x)])) rfl (by rw [hml]; rfl) (argsL := [(.ref t), (.int (2 : Int32))]) (rest := [(.ref x)]) rfl (lenOf own_pd6 rfl) rfl (by show 2 * 0 + _ ≤ _; exact Nat.le_of_eq rfl) (hb hby own_d_jdk_42_method_149_45) (by decide) (by decide)
  have N39 := Fr.app N38 Nd
  refine own_st st39 ?_
  show own_Go p e below s _ _ _ (T39.setTop (mkF m 48 #[.val (.ref x), .val (.ref sr), .val (.int (0 : Int32)), .val (.int (2 : Int32)), .val .null, .val (.ref t)] [(.int (1 : Int32)), (.ref x)]))
  obtain ⟨T40, h40, X40, e40, W40, st40⟩ := putFN X39 hx hZ hown (hw _ (List.mem_of_getElem? (i := 30) rfl)) Via.refl (e39.trans hu) F_k E_x (Or.inr ⟨(hw _ (List.mem_of_getElem? (i := 31) rfl)), rfl, hnm⟩) (hw _ (List.mem_of_getElem? (i := 5) rfl)) (ty := .byte) (v' := (.int (1 : Int32))) (by decide) rfl rfl (g := (mkF m 48 #[.val (.ref x), .val (.ref sr), .val (.int (0 : Int32)), .val (.int (2 : Int32)), .val .null, .val (.ref t)] [(.int (1 : Int32)), (.ref x)])) rfl rfl (hb hby own_d_jdk_42_method_149_48)
  have N40 := Fr.snoc X40 N39 ge_x
  have E_x := E_x.wr W40
  have F_v := F_v.other W40 (Or.inr (RoadKit.slot_ne (Or.inr (hw _ (List.mem_of_getElem? (i := 33) rfl))) (Or.inr (hw _ (List.mem_of_getElem? (i := 31) rfl))) (by decide) (t := (.array .byte)) (t' := .byte) (by decide) (by decide)))
  have F_k := F_k.same W40
  have V_s := V_s.other W40 ne_s
  have V_t := V_t.other W40 (Ne.symm ne_x_t)
  have Od := Od.wr W40 ge_x
  have Kp := Kp.wr W40 (Or.inl (List.mem_of_getElem? (i := 0) rfl))
  refine own_st st40 ?_
  show own_Go p e below s _ _ _ (T40.setTop (mkF m 51 #[.val (.ref x), .val (.ref sr), .val (.int (0 : Int32)), .val (.int (2 : Int32)), .val .null, .val (.ref t)] []))
  refine own_st (fun t9 k9 => XS.aloadN X40.here hx rfl (hb hby own_d_jdk_42_method_149_51) rfl rfl k9) ?_
  show own_Go p e below s _ _ _ (T40.setTop (mkF m 52 #[.val (.ref x), .val (.ref sr), .val (.int (0 : Int32)), .val (.int (2 : Int32)), .val .null, .val (.ref t)] [(.ref x)]))
  refine own_st (fun t9 k9 => XS.aload X40.here hx rfl (hb hby own_d_jdk_42_method_149_52) rfl rfl k9) ?_
  show own_Go p e below s _ _ _ (T40.setTop (mkF m 54 #[.val (.ref x), .val (.ref sr), .val (.int (0 : Int32)), .val (.int (2 : Int32)), .val .null, .val (.ref t)] [(.ref t), (.ref x)]))
  obtain ⟨T41, h41, X41, e41, W41, st41⟩ := putF X40 hx hZ hown (host := "") (Or.inl (hw _ (List.mem_of_getElem? (i := 32) rfl))) Via.refl e40 F_v E_x (Or.inr ⟨(hw _ (List.mem_of_getElem? (i := 33) rfl)), rfl, hnm⟩) (hw _ (List.mem_of_getElem? (i := 5) rfl)) (ty := (.array .byte)) (by decide) rfl rfl (g := (mkF m 54 #[.val (.ref x), .val (.ref sr), .val (.int (0 : Int32)), .val (.int (2 : Int32)), .val .null, .val (.ref t)] [(.ref t), (.ref x)])) rfl rfl (hb hby own_d_jdk_42_method_149_54)
  have N41 := Fr.snoc X41 N40 ge_x
  have E_x := E_x.wr W41
  have F_v := F_v.same W41
  have F_k := F_k.other W41 (Or.inr (RoadKit.slot_ne (Or.inr (hw _ (List.mem_of_getElem? (i := 31) rfl))) (Or.inr (hw _ (List.mem_of_getElem? (i := 33) rfl))) (by decide) (t := .byte) (t' := (.array .byte)) (by decide) (by decide)))
  have V_s := V_s.other W41 ne_s
  have V_t := V_t.other W41 (Ne.symm ne_x_t)
  have Od := Od.wr W41 ge_x
  have Kp := Kp.wr W41 (Or.inl (List.mem_of_getElem? (i := 0) rfl))
  refine own_st st41 ?_
  show own_Go p e below s _ _ _ (T41.setTop (mkF m 57 #[.val (.ref x), .val (.ref sr), .val (.int (0 : Int32)), .val (.int (2 : Int32)), .val .null, .val (.ref t)] []))
  exact own_retV X41 hx hlk Bd.returns (hb hby own_d_jdk_42_method_149_57) (by decide) (by decide) (by rw [e41]; exact ⟨rfl, N41, Kp, E_x, F_k, t, kt, gz_t, F_v, V_t⟩)
theorem own_ef_si1_2 (m : MethodId) (x0 : Addr) (x1 : Addr) : entryFrame m #[(.ref x0), (.ref x1)] 2 = mkF m 0 #[.val (.ref x0), .val (.ref x1)] [] := by first | (simp [entryFrame, mkF, argsToLocals, Value.category]; done) | rfl
def own_Q_si1_2 (Z : State) (x : Addr) (x0 : Int32) (x1 : Int32) (h0 : Heap) (n0 : Nat) (v : Option Value) (h : Heap) (L : List Loc) : Prop := v = none ∧ Fr n0 L ∧ Keep h0 h [x] ∧ Exa Z h x "java/lang/String" ∧ Fld Z h x "java/lang/String" "coder" "B" (.int (1 : Int32)) ∧ ∃ t k, h0.size ≤ t ∧ Fld Z h x "java/lang/String" "value" "[B" (.ref t) ∧ Arv Z h t k .byte (4 : Int32) [(.int (StrChars.lo8 x0)), (.int (StrChars.hi8 x0)), (.int (StrChars.lo8 x1)), (.int (StrChars.hi8 x1))] (.int (0 : Int32))
set_option maxRecDepth 65536 in
set_option maxHeartbeats 40000000 in
theorem own_rm_si1_2 (l : Launch) (Z : State) (a0 : Array Value) (hw : ∀ d ∈ tables_1, d.before a0 Z = true) (ws : List Jvm.Cond) (x : Addr) (sr : Addr) (ks : ClassId) (v0 c0 : Value) (G : Int32) (x0 : Int32) (x1 : Int32) (h0 : Heap) (n0 : Nat) (Od : Old Z n0 h0) (E_x : Exa Z h0 x "java/lang/String") (F_v : Fld Z h0 x "java/lang/String" "value" "[B" v0) (F_k : Fld Z h0 x "java/lang/String" "coder" "B" c0) (V_s : Arv Z h0 sr ks .char (2 : Int32) [(.int x0), (.int x1)] (.int (0 : Int32))) (ge_x : n0 ≤ x) (ne_s : sr ≠ x) (hr0 : ¬ x0 < 0 ∧ ¬ (65535 : Int32) < x0) (hr1 : ¬ x1 < 0 ∧ ¬ (65535 : Int32) < x1) (hm : ¬ own_first [x0, x1] 0 = (2 : Int32)) (OA : Sta Z Z.heap "java/lang/StringUTF16" "$assertionsDisabled" "Z" (.int (1 : Int32))) (OH : Sta Z Z.heap "java/lang/StringUTF16" "HI_BYTE_SHIFT" "I" (.int (0 : Int32))) (OL : Sta Z Z.heap "java/lang/StringUTF16" "LO_BYTE_SHIFT" "I" (.int (8 : Int32))) (O2 : Sta Z Z.heap "java/lang/String" "COMPACT_STRINGS" "Z" (.int G)) (P5 : ¬ (G = (0 : Int32))) :
    MetFree l (⟨"java/lang/String", "<init>", "([C)V"⟩ : MethodName) (head1 (Jvm.Cond.code (⟨"java/lang/String", "<init>", "([C)V"⟩ : MethodName) jdk_42_method_3_code 2 none :: ws) ({ frames := 5, cells := 2, slots := 6, locals := 74 } : Room)) (fun a9 U => a9 = #[(.ref x), (.ref sr)] ∧ Z.Warmed39 U.vm ∧ U.heap = h0) (fun _ _ _ _ _ => True) (fun _ U o U' => ∃ v L, o = .returned v ∧ own_Q_si1_2 Z x x0 x1 h0 n0 v U'.heap L ∧ FrameEnd U o U' L ({ frames := 5, cells := 2, slots := 6, locals := 74 } : Room).cells ({ frames := 5, cells := 2, slots := 6, locals := 74 } : Room).slots) := by
  refine MetFree.of_bodySF (plainFor_of_name own_pn1) hisR ?_
  intro p e s m args below meth c s₁ Bd hml0 hP hK
  obtain ⟨rfl, hZ, hh⟩ := hP
  have hx := Bd.exec
  have hby := Bd.bytes
  have hml : c.maxLocals = 2 := hml0
  have hown : s.vm.findClass "java/lang/String" = some m.cls := findClass_of_methodNamed Bd.named
  have hnm := (name_of_methodNamed Bd.named Bd.method).1
  have hlk : meth.locks = false := Bd.notSynchronized
  have X0 : Stand p l e ({ frames := 5, cells := 2, slots := 6, locals := 74 } : Room) s m #[(.ref x), (.ref sr)] below meth c s₁ [] 0 0 := Stand.of_body Bd
  have e0 : s₁.heap = h0 := by rw [← hh, Bd.state]; rfl
  have N0 := Fr.nil n0
  show own_Go p e below s (own_Q_si1_2 Z x x0 x1 h0 n0) ({ frames := 5, cells := 2, slots := 6, locals := 74 } : Room).cells ({ frames := 5, cells := 2, slots := 6, locals := 74 } : Room).slots (s₁.setTop (entryFrame m #[(.ref x), (.ref sr)] 2))
  refine own_st (fun t9 k9 => castTop (own_ef_si1_2 m x sr) k9) ?_
  show own_Go p e below s _ _ _ (s₁.setTop (mkF m 0 #[.val (.ref x), .val (.ref sr)] []))
  have Kp : Keep h0 h0 [x] := Keep.refl h0 [x]
  refine own_st (fun t9 k9 => XS.aloadN X0.here hx rfl (hb hby own_d_jdk_42_method_3_0) rfl rfl k9) ?_
  show own_Go p e below s _ _ _ (s₁.setTop (mkF m 1 #[.val (.ref x), .val (.ref sr)] [(.ref x)]))
  refine own_st (fun t9 k9 => XS.aloadN X0.here hx rfl (hb hby own_d_jdk_42_method_3_1) rfl rfl k9) ?_
  show own_Go p e below s _ _ _ (s₁.setTop (mkF m 2 #[.val (.ref x), .val (.ref sr)] [(.ref sr), (.ref x)]))
  refine own_st (fun t9 k9 => XS.iconst X0.here hx rfl (hb hby own_d_jdk_42_method_3_2) k9) ?_
  show own_Go p e below s _ _ _ (s₁.setTop (mkF m 3 #[.val (.ref x), .val (.ref sr)] [(.int (0 : Int32)), (.ref sr), (.ref x)]))
  refine own_st (fun t9 k9 => XS.aloadN X0.here hx rfl (hb hby own_d_jdk_42_method_3_3) rfl rfl k9) ?_
  show own_Go p e below s _ _ _ (s₁.setTop (mkF m 4 #[.val (.ref x), .val (.ref sr)] [(.ref sr), (.int (0 : Int32)), (.ref sr), (.ref x)]))
  refine own_st (fun t9 k9 => own_alen X0 hx hZ e0 V_s (g := (mkF m 4 #[.val (.ref x), .val (.ref sr)] [(.ref sr), (.int (0 : Int32)), (.ref sr), (.ref x)])) rfl rfl (hb hby own_d_jdk_42_method_3_4) t9 k9) ?_
  show own_Go p e below s _ _ _ (s₁.setTop (mkF m 5 #[.val (.ref x), .val (.ref sr)] [(.int (2 : Int32)), (.int (0 : Int32)), (.ref sr), (.ref x)]))
  refine own_st (fun t9 k9 => XS.aconstNull X0.here hx rfl (hb hby own_d_jdk_42_method_3_5) k9) ?_
  show own_Go p e below s _ _ _ (s₁.setTop (mkF m 6 #[.val (.ref x), .val (.ref sr)] [.null, (.int (2 : Int32)), (.int (0 : Int32)), (.ref sr), (.ref x)]))
  obtain ⟨_, T42, h42, L42, X42, e42, ⟨rfl, Nc, Kc, E_y, F_c, t, kt, get, F_u, V_t⟩, st42⟩ := own_callI X0 hx hZ hown rfl (hw _ (List.mem_of_getElem? (i := 11) rfl)) (hw _ (List.mem_of_getElem? (i := 12) rfl)) (hw _ (List.mem_of_getElem? (i := 6) rfl)) (hw _ (List.mem_of_getElem? (i := 14) rfl)) (by decide) (own_rm_si2_2 l Z a0 hw [] x sr ks v0 c0 G x0 x1 h0 n0 Od E_x F_v F_k V_s ge_x ne_s hr0 hr1 hm OA OH OL O2 P5) (by decide) (by decide) e0 (a := x) (W := 0) (g := (mkF m 6 #[.val (.ref x), .val (.ref sr)] [.null, (.int (2 : Int32)), (.int (0 : Int32)), (.ref sr), (.ref x)])) rfl (by rw [hml]; rfl) (argsL := [(.ref sr), (.int (0 : Int32)), (.int (2 : Int32)), .null]) (rest := []) rfl (lenOf own_pd7 rfl) rfl (by show 2 * 0 + _ ≤ _; exact Nat.le_of_eq rfl) (hb hby own_d_jdk_42_method_3_6) (by decide) (by decide)
  have N42 := Fr.app N0 Nc
  have E_x := E_x.keep Kc
  have V_s := V_s.keep Kc (ninS ne_s nin0)
  have Od := Od.keep Kc (allS ge_x all0)
  have Kp := Kp.trans Kc (allS (Or.inl (List.mem_of_getElem? (i := 0) rfl)) all0)
  refine own_st st42 ?_
  show own_Go p e below s _ _ _ (T42.setTop (mkF m 9 #[.val (.ref x), .val (.ref sr)] []))
  exact own_retV X42 hx hlk Bd.returns (hb hby own_d_jdk_42_method_3_9) (by decide) (by decide) (by rw [e42]; exact ⟨rfl, N42, Kp, E_y, F_c, t, kt, get, F_u, V_t⟩)
theorem own_ef_nbf3 (m : MethodId) (x0 : Int32) : entryFrame m #[(.int x0)] 1 = mkF m 0 #[.val (.int x0)] [] := by first | (simp [entryFrame, mkF, argsToLocals, Value.category]; done) | rfl
def own_Q_nbf3 (Z : State)  (h0 : Heap) (n0 : Nat) (v : Option Value) (h : Heap) (L : List Loc) : Prop := Fr n0 L ∧ Keep h0 h [] ∧ ∃ a k, v = some (.ref a) ∧ h0.size ≤ a ∧ Arv Z h a k .byte (6 : Int32) [(.int (0 : Int32)), (.int (0 : Int32)), (.int (0 : Int32)), (.int (0 : Int32)), (.int (0 : Int32)), (.int (0 : Int32))] (.int (0 : Int32))
set_option maxRecDepth 65536 in
set_option maxHeartbeats 40000000 in
theorem own_rm_nbf3 (l : Launch) (Z : State) (a0 : Array Value) (hw : ∀ d ∈ tables_1, d.before a0 Z = true) (ws : List Jvm.Cond)  (h0 : Heap) (n0 : Nat) (Od : Old Z n0 h0) :
    MetFree l (⟨"java/lang/StringUTF16", "newBytesFor", "(I)[B"⟩ : MethodName) (head1 (Jvm.Cond.code (⟨"java/lang/StringUTF16", "newBytesFor", "(I)[B"⟩ : MethodName) jdk_52_method_2_code 1 (some (.array .byte)) :: ws) ({ frames := 1, cells := 1, slots := 6, locals := 12 } : Room)) (fun a9 U => a9 = #[(.int (3 : Int32))] ∧ Z.Warmed39 U.vm ∧ U.heap = h0) (fun _ _ _ _ _ => True) (fun _ U o U' => ∃ v L, o = .returned v ∧ own_Q_nbf3 Z  h0 n0 v U'.heap L ∧ FrameEnd U o U' L ({ frames := 1, cells := 1, slots := 6, locals := 12 } : Room).cells ({ frames := 1, cells := 1, slots := 6, locals := 12 } : Room).slots) := by
  refine MetFree.of_bodySF (plainFor_of_name own_pn0) hisR ?_
  intro p e s m args below meth c s₁ Bd hml0 hP hK
  obtain ⟨rfl, hZ, hh⟩ := hP
  have hx := Bd.exec
  have hby := Bd.bytes
  have hml : c.maxLocals = 1 := hml0
  have hown : s.vm.findClass "java/lang/StringUTF16" = some m.cls := findClass_of_methodNamed Bd.named
  have hnm := (name_of_methodNamed Bd.named Bd.method).1
  have hlk : meth.locks = false := Bd.notSynchronized
  have X0 : Stand p l e ({ frames := 1, cells := 1, slots := 6, locals := 12 } : Room) s m #[(.int (3 : Int32))] below meth c s₁ [] 0 0 := Stand.of_body Bd
  have e0 : s₁.heap = h0 := by rw [← hh, Bd.state]; rfl
  have N0 := Fr.nil n0
  show own_Go p e below s (own_Q_nbf3 Z  h0 n0) ({ frames := 1, cells := 1, slots := 6, locals := 12 } : Room).cells ({ frames := 1, cells := 1, slots := 6, locals := 12 } : Room).slots (s₁.setTop (entryFrame m #[(.int (3 : Int32))] 1))
  refine own_st (fun t9 k9 => castTop (own_ef_nbf3 m (3 : Int32)) k9) ?_
  show own_Go p e below s _ _ _ (s₁.setTop (mkF m 0 #[.val (.int (3 : Int32))] []))
  have Kp : Keep h0 h0 [] := Keep.refl h0 []
  refine own_st (fun t9 k9 => XS.iloadN X0.here hx rfl (hb hby own_d_jdk_52_method_2_0) rfl  k9) ?_
  show own_Go p e below s _ _ _ (s₁.setTop (mkF m 1 #[.val (.int (3 : Int32))] [(.int (3 : Int32))]))
  obtain ⟨_, T43, h43, L43, X43, e43, ⟨rfl, Nc, hu⟩, st43⟩ := own_callS X0 hx hZ hown (hw _ (List.mem_of_getElem? (i := 59) rfl)) (hw _ (List.mem_of_getElem? (i := 60) rfl)) (hw _ (List.mem_of_getElem? (i := 21) rfl)) (hw _ (List.mem_of_getElem? (i := 61) rfl)) (by decide) (own_rm_nbl l Z a0 hw [] (3 : Int32) h0 n0 Od (by decide) (by decide)) (by decide) (by decide) e0 (W := 0) (g := (mkF m 1 #[.val (.int (3 : Int32))] [(.int (3 : Int32))])) rfl (by rw [hml]; rfl) (argsL := [(.int (3 : Int32))]) (rest := []) rfl (lenOf own_pd0 rfl) rfl (by show 2 * 0 + _ ≤ _; exact Nat.le_of_eq rfl) (hb hby own_d_jdk_52_method_2_1) (by decide) (by decide)
  have N43 := Fr.app N0 Nc
  refine own_st st43 ?_
  show own_Go p e below s _ _ _ (T43.setTop (mkF m 4 #[.val (.int (3 : Int32))] [(.int ((3 : Int32) <<< ((1 : Int32) &&& 31)))]))
  show own_Go p e below s _ _ _ (T43.setTop (mkF m 4 #[.val (.int (3 : Int32))] [(.int (6 : Int32))]))
  obtain ⟨T44, h44, k44, X44, e44, E44, A44, st44⟩ := newP X43 hx hZ (hw _ (List.mem_of_getElem? (i := 23) rfl)) (e43.trans hu) (g := (mkF m 4 #[.val (.int (3 : Int32))] [(.int (6 : Int32))])) rfl (hb hby own_d_jdk_52_method_2_4) rfl (by decide) (cap := 6) (by decide) (by decide) (by decide) (by decide)
  obtain ⟨a, g44⟩ : ∃ z, z = h0.size := ⟨_, rfl⟩
  rw [← g44] at A44 st44
  have ge_a : n0 ≤ a := Nat.le_trans (own_z0 Od) (Nat.le_of_eq g44.symm)
  have gz_a : h0.size ≤ a := Nat.le_trans Kp.1 (Nat.le_of_eq g44.symm)
  have Od := Od.ext E44
  have Kp := Kp.ext E44
  refine own_st st44 ?_
  show own_Go p e below s _ _ _ (T44.setTop (mkF m 6 #[.val (.int (3 : Int32))] [(.ref a)]))
  have V_a : Arv Z h44 a k44 .byte (6 : Int32) [(.int (0 : Int32)), (.int (0 : Int32)), (.int (0 : Int32)), (.int (0 : Int32)), (.int (0 : Int32)), (.int (0 : Int32))] (.int (0 : Int32)) := (Arv.new A44 (by decide)).pad (pad_rep [] (.int (0 : Int32)) 6)
  exact own_retR X44 hx hlk Bd.returns rfl rfl (hb hby own_d_jdk_52_method_2_6) (by decide) (by decide) (by rw [e44]; exact ⟨N43, Kp, a, _, rfl, gz_a, V_a⟩)
theorem own_ef_tob3 (m : MethodId) (x0 : Addr) (x1 : Int32) (x2 : Int32) : entryFrame m #[(.ref x0), (.int x1), (.int x2)] 5 = mkF m 0 #[.val (.ref x0), .val (.int x1), .val (.int x2), .unset, .unset] [] := by first | (simp [entryFrame, mkF, argsToLocals, Value.category]; done) | rfl
def own_Q_tob3 (Z : State) (x0 : Int32) (x1 : Int32) (x2 : Int32) (h0 : Heap) (n0 : Nat) (v : Option Value) (h : Heap) (L : List Loc) : Prop := Fr n0 L ∧ Keep h0 h [] ∧ ∃ a k, v = some (.ref a) ∧ h0.size ≤ a ∧ Arv Z h a k .byte (6 : Int32) [(.int (StrChars.lo8 x0)), (.int (StrChars.hi8 x0)), (.int (StrChars.lo8 x1)), (.int (StrChars.hi8 x1)), (.int (StrChars.lo8 x2)), (.int (StrChars.hi8 x2))] (.int (0 : Int32))
set_option maxRecDepth 65536 in
set_option maxHeartbeats 40000000 in
theorem own_rm_tob3 (l : Launch) (Z : State) (a0 : Array Value) (hw : ∀ d ∈ tables_1, d.before a0 Z = true) (ws : List Jvm.Cond) (sr : Addr) (ks : ClassId) (x0 : Int32) (x1 : Int32) (x2 : Int32) (h0 : Heap) (n0 : Nat) (Od : Old Z n0 h0) (V_s : Arv Z h0 sr ks .char (3 : Int32) [(.int x0), (.int x1), (.int x2)] (.int (0 : Int32))) (OA : Sta Z Z.heap "java/lang/StringUTF16" "$assertionsDisabled" "Z" (.int (1 : Int32))) (OH : Sta Z Z.heap "java/lang/StringUTF16" "HI_BYTE_SHIFT" "I" (.int (0 : Int32))) (OL : Sta Z Z.heap "java/lang/StringUTF16" "LO_BYTE_SHIFT" "I" (.int (8 : Int32))) :
    MetFree l (⟨"java/lang/StringUTF16", "toBytes", "([CII)[B"⟩ : MethodName) (head1 (Jvm.Cond.code (⟨"java/lang/StringUTF16", "toBytes", "([CII)[B"⟩ : MethodName) jdk_52_method_14_code 5 (some (.array .byte)) :: ws) ({ frames := 2, cells := 1, slots := 6, locals := 24 } : Room)) (fun a9 U => a9 = #[(.ref sr), (.int (0 : Int32)), (.int (3 : Int32))] ∧ Z.Warmed39 U.vm ∧ U.heap = h0) (fun _ _ _ _ _ => True) (fun _ U o U' => ∃ v L, o = .returned v ∧ own_Q_tob3 Z x0 x1 x2 h0 n0 v U'.heap L ∧ FrameEnd U o U' L ({ frames := 2, cells := 1, slots := 6, locals := 24 } : Room).cells ({ frames := 2, cells := 1, slots := 6, locals := 24 } : Room).slots) := by
  refine MetFree.of_bodySF (plainFor_of_name own_pn0) hisR ?_
  intro p e s m args below meth c s₁ Bd hml0 hP hK
  obtain ⟨rfl, hZ, hh⟩ := hP
  have hx := Bd.exec
  have hby := Bd.bytes
  have hml : c.maxLocals = 5 := hml0
  have hown : s.vm.findClass "java/lang/StringUTF16" = some m.cls := findClass_of_methodNamed Bd.named
  have hnm := (name_of_methodNamed Bd.named Bd.method).1
  have hlk : meth.locks = false := Bd.notSynchronized
  have X0 : Stand p l e ({ frames := 2, cells := 1, slots := 6, locals := 24 } : Room) s m #[(.ref sr), (.int (0 : Int32)), (.int (3 : Int32))] below meth c s₁ [] 0 0 := Stand.of_body Bd
  have e0 : s₁.heap = h0 := by rw [← hh, Bd.state]; rfl
  have N0 := Fr.nil n0
  show own_Go p e below s (own_Q_tob3 Z x0 x1 x2 h0 n0) ({ frames := 2, cells := 1, slots := 6, locals := 24 } : Room).cells ({ frames := 2, cells := 1, slots := 6, locals := 24 } : Room).slots (s₁.setTop (entryFrame m #[(.ref sr), (.int (0 : Int32)), (.int (3 : Int32))] 5))
  refine own_st (fun t9 k9 => castTop (own_ef_tob3 m sr (0 : Int32) (3 : Int32)) k9) ?_
  show own_Go p e below s _ _ _ (s₁.setTop (mkF m 0 #[.val (.ref sr), .val (.int (0 : Int32)), .val (.int (3 : Int32)), .unset, .unset] []))
  have Kp : Keep h0 h0 [] := Keep.refl h0 []
  refine own_st (fun t9 k9 => XS.iloadN X0.here hx rfl (hb hby own_d_jdk_52_method_14_0) rfl  k9) ?_
  show own_Go p e below s _ _ _ (s₁.setTop (mkF m 1 #[.val (.ref sr), .val (.int (0 : Int32)), .val (.int (3 : Int32)), .unset, .unset] [(.int (3 : Int32))]))
  obtain ⟨_, T45, h45, L45, X45, e45, ⟨Nc, Kc, a, ka, rfl, gea, V_a⟩, st45⟩ := own_callS X0 hx hZ hown (hw _ (List.mem_of_getElem? (i := 56) rfl)) (hw _ (List.mem_of_getElem? (i := 57) rfl)) (hw _ (List.mem_of_getElem? (i := 21) rfl)) (hw _ (List.mem_of_getElem? (i := 58) rfl)) (by decide) (own_rm_nbf3 l Z a0 hw [] h0 n0 Od) (by decide) (by decide) e0 (W := 0) (g := (mkF m 1 #[.val (.ref sr), .val (.int (0 : Int32)), .val (.int (3 : Int32)), .unset, .unset] [(.int (3 : Int32))])) rfl (by rw [hml]; rfl) (argsL := [(.int (3 : Int32))]) (rest := []) rfl (lenOf own_pd1 rfl) rfl (by show 2 * 0 + _ ≤ _; exact Nat.le_of_eq rfl) (hb hby own_d_jdk_52_method_14_1) (by decide) (by decide)
  have N45 := Fr.app N0 Nc
  have ne_sr_a : sr ≠ a := Nat.ne_of_lt (Nat.lt_of_lt_of_le V_s.lt gea)
  have ge_a : n0 ≤ a := Nat.le_trans (own_z0 Od) gea
  have gz_a : h0.size ≤ a := Nat.le_trans Kp.1 gea
  have V_s := V_s.keep Kc nin0
  have Od := Od.keep Kc all0
  have Kp := Kp.trans Kc all0
  refine own_st st45 ?_
  show own_Go p e below s _ _ _ (T45.setTop (mkF m 4 #[.val (.ref sr), .val (.int (0 : Int32)), .val (.int (3 : Int32)), .unset, .unset] [(.ref a)]))
  refine own_st (fun t9 k9 => XS.astoreN X45.here hx rfl (hb hby own_d_jdk_52_method_14_4) rfl rfl (l' := #[.val (.ref sr), .val (.int (0 : Int32)), .val (.int (3 : Int32)), .val (.ref a), .unset]) rfl k9) ?_
  show own_Go p e below s _ _ _ (T45.setTop (mkF m 5 #[.val (.ref sr), .val (.int (0 : Int32)), .val (.int (3 : Int32)), .val (.ref a), .unset] []))
  refine own_st (fun t9 k9 => XS.iconst X45.here hx rfl (hb hby own_d_jdk_52_method_14_5) k9) ?_
  show own_Go p e below s _ _ _ (T45.setTop (mkF m 6 #[.val (.ref sr), .val (.int (0 : Int32)), .val (.int (3 : Int32)), .val (.ref a), .unset] [(.int (0 : Int32))]))
  refine own_st (fun t9 k9 => XS.istore X45.here hx rfl (hb hby own_d_jdk_52_method_14_6) rfl (l' := #[.val (.ref sr), .val (.int (0 : Int32)), .val (.int (3 : Int32)), .val (.ref a), .val (.int (0 : Int32))]) rfl k9) ?_
  show own_Go p e below s _ _ _ (T45.setTop (mkF m 8 #[.val (.ref sr), .val (.int (0 : Int32)), .val (.int (3 : Int32)), .val (.ref a), .val (.int (0 : Int32))] []))
  refine own_st (fun t9 k9 => XS.iload X45.here hx rfl (hb hby own_d_jdk_52_method_14_8) rfl  k9) ?_
  show own_Go p e below s _ _ _ (T45.setTop (mkF m 10 #[.val (.ref sr), .val (.int (0 : Int32)), .val (.int (3 : Int32)), .val (.ref a), .val (.int (0 : Int32))] [(.int (0 : Int32))]))
  refine own_st (fun t9 k9 => XS.iloadN X45.here hx rfl (hb hby own_d_jdk_52_method_14_10) rfl  k9) ?_
  show own_Go p e below s _ _ _ (T45.setTop (mkF m 11 #[.val (.ref sr), .val (.int (0 : Int32)), .val (.int (3 : Int32)), .val (.ref a), .val (.int (0 : Int32))] [(.int (3 : Int32)), (.int (0 : Int32))]))
  refine own_st (fun t9 k9 => XS.icmpNo X45.here hx rfl (hb hby own_d_jdk_52_method_14_11) rfl (by decide) k9) ?_
  show own_Go p e below s _ _ _ (T45.setTop (mkF m 14 #[.val (.ref sr), .val (.int (0 : Int32)), .val (.int (3 : Int32)), .val (.ref a), .val (.int (0 : Int32))] []))
  refine own_st (fun t9 k9 => XS.aloadN X45.here hx rfl (hb hby own_d_jdk_52_method_14_14) rfl rfl k9) ?_
  show own_Go p e below s _ _ _ (T45.setTop (mkF m 15 #[.val (.ref sr), .val (.int (0 : Int32)), .val (.int (3 : Int32)), .val (.ref a), .val (.int (0 : Int32))] [(.ref a)]))
  refine own_st (fun t9 k9 => XS.iload X45.here hx rfl (hb hby own_d_jdk_52_method_14_15) rfl  k9) ?_
  show own_Go p e below s _ _ _ (T45.setTop (mkF m 17 #[.val (.ref sr), .val (.int (0 : Int32)), .val (.int (3 : Int32)), .val (.ref a), .val (.int (0 : Int32))] [(.int (0 : Int32)), (.ref a)]))
  refine own_st (fun t9 k9 => XS.aloadN X45.here hx rfl (hb hby own_d_jdk_52_method_14_17) rfl rfl k9) ?_
  show own_Go p e below s _ _ _ (T45.setTop (mkF m 18 #[.val (.ref sr), .val (.int (0 : Int32)), .val (.int (3 : Int32)), .val (.ref a), .val (.int (0 : Int32))] [(.ref sr), (.int (0 : Int32)), (.ref a)]))
  refine own_st (fun t9 k9 => XS.iloadN X45.here hx rfl (hb hby own_d_jdk_52_method_14_18) rfl  k9) ?_
  show own_Go p e below s _ _ _ (T45.setTop (mkF m 19 #[.val (.ref sr), .val (.int (0 : Int32)), .val (.int (3 : Int32)), .val (.ref a), .val (.int (0 : Int32))] [(.int (0 : Int32)), (.ref sr), (.int (0 : Int32)), (.ref a)]))
  refine own_st (fun t9 k9 => own_cald X45 hx hZ e45 V_s (j := (0 : Int32)) (v := (.int x0)) ⟨by decide, by decide⟩ rfl (g := (mkF m 19 #[.val (.ref sr), .val (.int (0 : Int32)), .val (.int (3 : Int32)), .val (.ref a), .val (.int (0 : Int32))] [(.int (0 : Int32)), (.ref sr), (.int (0 : Int32)), (.ref a)])) rfl rfl (hb hby own_d_jdk_52_method_14_19) t9 k9) ?_
  show own_Go p e below s _ _ _ (T45.setTop (mkF m 20 #[.val (.ref sr), .val (.int (0 : Int32)), .val (.int (3 : Int32)), .val (.ref a), .val (.int (0 : Int32))] [(.int x0), (.int (0 : Int32)), (.ref a)]))
  obtain ⟨cl, A1, A2, A3, A4, A5, A6⟩ := id V_a
  obtain ⟨_, T46, h46, L46, X46, e46, ⟨rfl, Nc, h1, W1, W2⟩, st46⟩ := own_callS X45 hx hZ hown (hw _ (List.mem_of_getElem? (i := 63) rfl)) (hw _ (List.mem_of_getElem? (i := 64) rfl)) (hw _ (List.mem_of_getElem? (i := 21) rfl)) (hw _ (List.mem_of_getElem? (i := 65) rfl)) (by decide) (own_rm_putc l Z a0 hw [] a (0 : Int32) x0 cl h45 n0 Od A1 ge_a (inb_of A3 ⟨by decide, by decide⟩) (inb_of A3 ⟨by decide, by decide⟩) OA OH OL) (by decide) (by decide) e45 (W := 0) (g := (mkF m 20 #[.val (.ref sr), .val (.int (0 : Int32)), .val (.int (3 : Int32)), .val (.ref a), .val (.int (0 : Int32))] [(.int x0), (.int (0 : Int32)), (.ref a)])) rfl (by rw [hml]; rfl) (argsL := [(.ref a), (.int (0 : Int32)), (.int x0)]) (rest := []) rfl (lenOf own_pd2 rfl) rfl (by show 2 * 0 + _ ≤ _; exact Nat.le_of_eq rfl) (hb hby own_d_jdk_52_method_14_20) (by decide) (by decide)
  have N46 := Fr.app N45 Nc
  have V_s := V_s.keep ((Keep.of_wr W1).trans (Keep.of_wr W2) (fun x hx => Or.inl hx)) (ninS ne_sr_a nin0)
  have Od := Od.keep ((Keep.of_wr W1).trans (Keep.of_wr W2) (fun x hx => Or.inl hx)) (allS ge_a all0)
  have Kp := Kp.trans ((Keep.of_wr W1).trans (Keep.of_wr W2) (fun x hx => Or.inl hx)) (allS (Or.inr gz_a) all0)
  refine own_st st46 ?_
  show own_Go p e below s _ _ _ (T46.setTop (mkF m 23 #[.val (.ref sr), .val (.int (0 : Int32)), .val (.int (3 : Int32)), .val (.ref a), .val (.int (0 : Int32))] []))
  have V_m : Arv Z h1 a ka .byte (6 : Int32) [(.int (StrChars.lo8 x0)), (.int (0 : Int32)), (.int (0 : Int32)), (.int (0 : Int32)), (.int (0 : Int32)), (.int (0 : Int32))] (.int (0 : Int32)) := Arv.set A1 A2 A3 A4 A5 A6 (fits_nar_byte _) W1 0 rfl (Nat.le_of_ble_eq_true rfl)
  obtain ⟨cm, B1, B2, B3, B4, B5, B6⟩ := id V_m
  have V_a : Arv Z h46 a ka .byte (6 : Int32) [(.int (StrChars.lo8 x0)), (.int (StrChars.hi8 x0)), (.int (0 : Int32)), (.int (0 : Int32)), (.int (0 : Int32)), (.int (0 : Int32))] (.int (0 : Int32)) := Arv.set B1 B2 B3 B4 B5 B6 (fits_nar_byte _) W2 1 rfl (Nat.le_of_ble_eq_true rfl)
  refine own_st (fun t9 k9 => XS.iinc X46.here hx rfl (hb hby own_d_jdk_52_method_14_23) rfl (l' := #[.val (.ref sr), .val (.int ((0 : Int32) + (1 : Int32))), .val (.int (3 : Int32)), .val (.ref a), .val (.int (0 : Int32))]) rfl k9) ?_
  show own_Go p e below s _ _ _ (T46.setTop (mkF m 26 #[.val (.ref sr), .val (.int ((0 : Int32) + (1 : Int32))), .val (.int (3 : Int32)), .val (.ref a), .val (.int (0 : Int32))] []))
  show own_Go p e below s _ _ _ (T46.setTop (mkF m 26 #[.val (.ref sr), .val (.int (1 : Int32)), .val (.int (3 : Int32)), .val (.ref a), .val (.int (0 : Int32))] []))
  refine own_st (fun t9 k9 => XS.iinc X46.here hx rfl (hb hby own_d_jdk_52_method_14_26) rfl (l' := #[.val (.ref sr), .val (.int (1 : Int32)), .val (.int (3 : Int32)), .val (.ref a), .val (.int ((0 : Int32) + (1 : Int32)))]) rfl k9) ?_
  show own_Go p e below s _ _ _ (T46.setTop (mkF m 29 #[.val (.ref sr), .val (.int (1 : Int32)), .val (.int (3 : Int32)), .val (.ref a), .val (.int ((0 : Int32) + (1 : Int32)))] []))
  show own_Go p e below s _ _ _ (T46.setTop (mkF m 29 #[.val (.ref sr), .val (.int (1 : Int32)), .val (.int (3 : Int32)), .val (.ref a), .val (.int (1 : Int32))] []))
  refine own_st (fun t9 k9 => XS.goto X46.here hx rfl (pc0 := 29) (pc' := 8) rfl (hb hby own_d_jdk_52_method_14_29) (by decide) (by decide) k9) ?_
  show own_Go p e below s _ _ _ (T46.setTop (mkF m 8 #[.val (.ref sr), .val (.int (1 : Int32)), .val (.int (3 : Int32)), .val (.ref a), .val (.int (1 : Int32))] []))
  refine own_st (fun t9 k9 => XS.iload X46.here hx rfl (hb hby own_d_jdk_52_method_14_8) rfl  k9) ?_
  show own_Go p e below s _ _ _ (T46.setTop (mkF m 10 #[.val (.ref sr), .val (.int (1 : Int32)), .val (.int (3 : Int32)), .val (.ref a), .val (.int (1 : Int32))] [(.int (1 : Int32))]))
  refine own_st (fun t9 k9 => XS.iloadN X46.here hx rfl (hb hby own_d_jdk_52_method_14_10) rfl  k9) ?_
  show own_Go p e below s _ _ _ (T46.setTop (mkF m 11 #[.val (.ref sr), .val (.int (1 : Int32)), .val (.int (3 : Int32)), .val (.ref a), .val (.int (1 : Int32))] [(.int (3 : Int32)), (.int (1 : Int32))]))
  refine own_st (fun t9 k9 => XS.icmpNo X46.here hx rfl (hb hby own_d_jdk_52_method_14_11) rfl (by decide) k9) ?_
  show own_Go p e below s _ _ _ (T46.setTop (mkF m 14 #[.val (.ref sr), .val (.int (1 : Int32)), .val (.int (3 : Int32)), .val (.ref a), .val (.int (1 : Int32))] []))
  refine own_st (fun t9 k9 => XS.aloadN X46.here hx rfl (hb hby own_d_jdk_52_method_14_14) rfl rfl k9) ?_
  show own_Go p e below s _ _ _ (T46.setTop (mkF m 15 #[.val (.ref sr), .val (.int (1 : Int32)), .val (.int (3 : Int32)), .val (.ref a), .val (.int (1 : Int32))] [(.ref a)]))
  refine own_st (fun t9 k9 => XS.iload X46.here hx rfl (hb hby own_d_jdk_52_method_14_15) rfl  k9) ?_
  show own_Go p e below s _ _ _ (T46.setTop (mkF m 17 #[.val (.ref sr), .val (.int (1 : Int32)), .val (.int (3 : Int32)), .val (.ref a), .val (.int (1 : Int32))] [(.int (1 : Int32)), (.ref a)]))
  refine own_st (fun t9 k9 => XS.aloadN X46.here hx rfl (hb hby own_d_jdk_52_method_14_17) rfl rfl k9) ?_
  show own_Go p e below s _ _ _ (T46.setTop (mkF m 18 #[.val (.ref sr), .val (.int (1 : Int32)), .val (.int (3 : Int32)), .val (.ref a), .val (.int (1 : Int32))] [(.ref sr), (.int (1 : Int32)), (.ref a)]))
  refine own_st (fun t9 k9 => XS.iloadN X46.here hx rfl (hb hby own_d_jdk_52_method_14_18) rfl  k9) ?_
  show own_Go p e below s _ _ _ (T46.setTop (mkF m 19 #[.val (.ref sr), .val (.int (1 : Int32)), .val (.int (3 : Int32)), .val (.ref a), .val (.int (1 : Int32))] [(.int (1 : Int32)), (.ref sr), (.int (1 : Int32)), (.ref a)]))
  refine own_st (fun t9 k9 => own_cald X46 hx hZ e46 V_s (j := (1 : Int32)) (v := (.int x1)) ⟨by decide, by decide⟩ rfl (g := (mkF m 19 #[.val (.ref sr), .val (.int (1 : Int32)), .val (.int (3 : Int32)), .val (.ref a), .val (.int (1 : Int32))] [(.int (1 : Int32)), (.ref sr), (.int (1 : Int32)), (.ref a)])) rfl rfl (hb hby own_d_jdk_52_method_14_19) t9 k9) ?_
  show own_Go p e below s _ _ _ (T46.setTop (mkF m 20 #[.val (.ref sr), .val (.int (1 : Int32)), .val (.int (3 : Int32)), .val (.ref a), .val (.int (1 : Int32))] [(.int x1), (.int (1 : Int32)), (.ref a)]))
  obtain ⟨cl, A1, A2, A3, A4, A5, A6⟩ := id V_a
  obtain ⟨_, T47, h47, L47, X47, e47, ⟨rfl, Nc, h1, W1, W2⟩, st47⟩ := own_callS X46 hx hZ hown (hw _ (List.mem_of_getElem? (i := 63) rfl)) (hw _ (List.mem_of_getElem? (i := 64) rfl)) (hw _ (List.mem_of_getElem? (i := 21) rfl)) (hw _ (List.mem_of_getElem? (i := 65) rfl)) (by decide) (own_rm_putc l Z a0 hw [] a (1 : Int32) x1 cl h46 n0 Od A1 ge_a (inb_of A3 ⟨by decide, by decide⟩) (inb_of A3 ⟨by decide, by decide⟩) OA OH OL) (by decide) (by decide) e46 (W := 0) (g := (mkF m 20 #[.val (.ref sr), .val (.int (1 : Int32)), .val (.int (3 : Int32)), .val (.ref a), .val (.int (1 : Int32))] [(.int x1), (.int (1 : Int32)), (.ref a)])) rfl (by rw [hml]; rfl) (argsL := [(.ref a), (.int (1 : Int32)), (.int x1)]) (rest := []) rfl (lenOf own_pd2 rfl) rfl (by show 2 * 0 + _ ≤ _; exact Nat.le_of_eq rfl) (hb hby own_d_jdk_52_method_14_20) (by decide) (by decide)
  have N47 := Fr.app N46 Nc
  have V_s := V_s.keep ((Keep.of_wr W1).trans (Keep.of_wr W2) (fun x hx => Or.inl hx)) (ninS ne_sr_a nin0)
  have Od := Od.keep ((Keep.of_wr W1).trans (Keep.of_wr W2) (fun x hx => Or.inl hx)) (allS ge_a all0)
  have Kp := Kp.trans ((Keep.of_wr W1).trans (Keep.of_wr W2) (fun x hx => Or.inl hx)) (allS (Or.inr gz_a) all0)
  refine own_st st47 ?_
  show own_Go p e below s _ _ _ (T47.setTop (mkF m 23 #[.val (.ref sr), .val (.int (1 : Int32)), .val (.int (3 : Int32)), .val (.ref a), .val (.int (1 : Int32))] []))
  have V_m : Arv Z h1 a ka .byte (6 : Int32) [(.int (StrChars.lo8 x0)), (.int (StrChars.hi8 x0)), (.int (StrChars.lo8 x1)), (.int (0 : Int32)), (.int (0 : Int32)), (.int (0 : Int32))] (.int (0 : Int32)) := Arv.set A1 A2 A3 A4 A5 A6 (fits_nar_byte _) W1 2 rfl (Nat.le_of_ble_eq_true rfl)
  obtain ⟨cm, B1, B2, B3, B4, B5, B6⟩ := id V_m
  have V_a : Arv Z h47 a ka .byte (6 : Int32) [(.int (StrChars.lo8 x0)), (.int (StrChars.hi8 x0)), (.int (StrChars.lo8 x1)), (.int (StrChars.hi8 x1)), (.int (0 : Int32)), (.int (0 : Int32))] (.int (0 : Int32)) := Arv.set B1 B2 B3 B4 B5 B6 (fits_nar_byte _) W2 3 rfl (Nat.le_of_ble_eq_true rfl)
  refine own_st (fun t9 k9 => XS.iinc X47.here hx rfl (hb hby own_d_jdk_52_method_14_23) rfl (l' := #[.val (.ref sr), .val (.int ((1 : Int32) + (1 : Int32))), .val (.int (3 : Int32)), .val (.ref a), .val (.int (1 : Int32))]) rfl k9) ?_
  show own_Go p e below s _ _ _ (T47.setTop (mkF m 26 #[.val (.ref sr), .val (.int ((1 : Int32) + (1 : Int32))), .val (.int (3 : Int32)), .val (.ref a), .val (.int (1 : Int32))] []))
  show own_Go p e below s _ _ _ (T47.setTop (mkF m 26 #[.val (.ref sr), .val (.int (2 : Int32)), .val (.int (3 : Int32)), .val (.ref a), .val (.int (1 : Int32))] []))
  refine own_st (fun t9 k9 => XS.iinc X47.here hx rfl (hb hby own_d_jdk_52_method_14_26) rfl (l' := #[.val (.ref sr), .val (.int (2 : Int32)), .val (.int (3 : Int32)), .val (.ref a), .val (.int ((1 : Int32) + (1 : Int32)))]) rfl k9) ?_
  show own_Go p e below s _ _ _ (T47.setTop (mkF m 29 #[.val (.ref sr), .val (.int (2 : Int32)), .val (.int (3 : Int32)), .val (.ref a), .val (.int ((1 : Int32) + (1 : Int32)))] []))
  show own_Go p e below s _ _ _ (T47.setTop (mkF m 29 #[.val (.ref sr), .val (.int (2 : Int32)), .val (.int (3 : Int32)), .val (.ref a), .val (.int (2 : Int32))] []))
  refine own_st (fun t9 k9 => XS.goto X47.here hx rfl (pc0 := 29) (pc' := 8) rfl (hb hby own_d_jdk_52_method_14_29) (by decide) (by decide) k9) ?_
  show own_Go p e below s _ _ _ (T47.setTop (mkF m 8 #[.val (.ref sr), .val (.int (2 : Int32)), .val (.int (3 : Int32)), .val (.ref a), .val (.int (2 : Int32))] []))
  refine own_st (fun t9 k9 => XS.iload X47.here hx rfl (hb hby own_d_jdk_52_method_14_8) rfl  k9) ?_
  show own_Go p e below s _ _ _ (T47.setTop (mkF m 10 #[.val (.ref sr), .val (.int (2 : Int32)), .val (.int (3 : Int32)), .val (.ref a), .val (.int (2 : Int32))] [(.int (2 : Int32))]))
  refine own_st (fun t9 k9 => XS.iloadN X47.here hx rfl (hb hby own_d_jdk_52_method_14_10) rfl  k9) ?_
  show own_Go p e below s _ _ _ (T47.setTop (mkF m 11 #[.val (.ref sr), .val (.int (2 : Int32)), .val (.int (3 : Int32)), .val (.ref a), .val (.int (2 : Int32))] [(.int (3 : Int32)), (.int (2 : Int32))]))
  refine own_st (fun t9 k9 => XS.icmpNo X47.here hx rfl (hb hby own_d_jdk_52_method_14_11) rfl (by decide) k9) ?_
  show own_Go p e below s _ _ _ (T47.setTop (mkF m 14 #[.val (.ref sr), .val (.int (2 : Int32)), .val (.int (3 : Int32)), .val (.ref a), .val (.int (2 : Int32))] []))
  refine own_st (fun t9 k9 => XS.aloadN X47.here hx rfl (hb hby own_d_jdk_52_method_14_14) rfl rfl k9) ?_
  show own_Go p e below s _ _ _ (T47.setTop (mkF m 15 #[.val (.ref sr), .val (.int (2 : Int32)), .val (.int (3 : Int32)), .val (.ref a), .val (.int (2 : Int32))] [(.ref a)]))
  refine own_st (fun t9 k9 => XS.iload X47.here hx rfl (hb hby own_d_jdk_52_method_14_15) rfl  k9) ?_
  show own_Go p e below s _ _ _ (T47.setTop (mkF m 17 #[.val (.ref sr), .val (.int (2 : Int32)), .val (.int (3 : Int32)), .val (.ref a), .val (.int (2 : Int32))] [(.int (2 : Int32)), (.ref a)]))
  refine own_st (fun t9 k9 => XS.aloadN X47.here hx rfl (hb hby own_d_jdk_52_method_14_17) rfl rfl k9) ?_
  show own_Go p e below s _ _ _ (T47.setTop (mkF m 18 #[.val (.ref sr), .val (.int (2 : Int32)), .val (.int (3 : Int32)), .val (.ref a), .val (.int (2 : Int32))] [(.ref sr), (.int (2 : Int32)), (.ref a)]))
  refine own_st (fun t9 k9 => XS.iloadN X47.here hx rfl (hb hby own_d_jdk_52_method_14_18) rfl  k9) ?_
  show own_Go p e below s _ _ _ (T47.setTop (mkF m 19 #[.val (.ref sr), .val (.int (2 : Int32)), .val (.int (3 : Int32)), .val (.ref a), .val (.int (2 : Int32))] [(.int (2 : Int32)), (.ref sr), (.int (2 : Int32)), (.ref a)]))
  refine own_st (fun t9 k9 => own_cald X47 hx hZ e47 V_s (j := (2 : Int32)) (v := (.int x2)) ⟨by decide, by decide⟩ rfl (g := (mkF m 19 #[.val (.ref sr), .val (.int (2 : Int32)), .val (.int (3 : Int32)), .val (.ref a), .val (.int (2 : Int32))] [(.int (2 : Int32)), (.ref sr), (.int (2 : Int32)), (.ref a)])) rfl rfl (hb hby own_d_jdk_52_method_14_19) t9 k9) ?_
  show own_Go p e below s _ _ _ (T47.setTop (mkF m 20 #[.val (.ref sr), .val (.int (2 : Int32)), .val (.int (3 : Int32)), .val (.ref a), .val (.int (2 : Int32))] [(.int x2), (.int (2 : Int32)), (.ref a)]))
  obtain ⟨cl, A1, A2, A3, A4, A5, A6⟩ := id V_a
  obtain ⟨_, T48, h48, L48, X48, e48, ⟨rfl, Nc, h1, W1, W2⟩, st48⟩ := own_callS X47 hx hZ hown (hw _ (List.mem_of_getElem? (i := 63) rfl)) (hw _ (List.mem_of_getElem? (i := 64) rfl)) (hw _ (List.mem_of_getElem? (i := 21) rfl)) (hw _ (List.mem_of_getElem? (i := 65) rfl)) (by decide) (own_rm_putc l Z a0 hw [] a (2 : Int32) x2 cl h47 n0 Od A1 ge_a (inb_of A3 ⟨by decide, by decide⟩) (inb_of A3 ⟨by decide, by decide⟩) OA OH OL) (by decide) (by decide) e47 (W := 0) (g := (mkF m 20 #[.val (.ref sr), .val (.int (2 : Int32)), .val (.int (3 : Int32)), .val (.ref a), .val (.int (2 : Int32))] [(.int x2), (.int (2 : Int32)), (.ref a)])) rfl (by rw [hml]; rfl) (argsL := [(.ref a), (.int (2 : Int32)), (.int x2)]) (rest := []) rfl (lenOf own_pd2 rfl) rfl (by show 2 * 0 + _ ≤ _; exact Nat.le_of_eq rfl) (hb hby own_d_jdk_52_method_14_20) (by decide) (by decide)
  have N48 := Fr.app N47 Nc
  have V_s := V_s.keep ((Keep.of_wr W1).trans (Keep.of_wr W2) (fun x hx => Or.inl hx)) (ninS ne_sr_a nin0)
  have Od := Od.keep ((Keep.of_wr W1).trans (Keep.of_wr W2) (fun x hx => Or.inl hx)) (allS ge_a all0)
  have Kp := Kp.trans ((Keep.of_wr W1).trans (Keep.of_wr W2) (fun x hx => Or.inl hx)) (allS (Or.inr gz_a) all0)
  refine own_st st48 ?_
  show own_Go p e below s _ _ _ (T48.setTop (mkF m 23 #[.val (.ref sr), .val (.int (2 : Int32)), .val (.int (3 : Int32)), .val (.ref a), .val (.int (2 : Int32))] []))
  have V_m : Arv Z h1 a ka .byte (6 : Int32) [(.int (StrChars.lo8 x0)), (.int (StrChars.hi8 x0)), (.int (StrChars.lo8 x1)), (.int (StrChars.hi8 x1)), (.int (StrChars.lo8 x2)), (.int (0 : Int32))] (.int (0 : Int32)) := Arv.set A1 A2 A3 A4 A5 A6 (fits_nar_byte _) W1 4 rfl (Nat.le_of_ble_eq_true rfl)
  obtain ⟨cm, B1, B2, B3, B4, B5, B6⟩ := id V_m
  have V_a : Arv Z h48 a ka .byte (6 : Int32) [(.int (StrChars.lo8 x0)), (.int (StrChars.hi8 x0)), (.int (StrChars.lo8 x1)), (.int (StrChars.hi8 x1)), (.int (StrChars.lo8 x2)), (.int (StrChars.hi8 x2))] (.int (0 : Int32)) := Arv.set B1 B2 B3 B4 B5 B6 (fits_nar_byte _) W2 5 rfl (Nat.le_of_ble_eq_true rfl)
  refine own_st (fun t9 k9 => XS.iinc X48.here hx rfl (hb hby own_d_jdk_52_method_14_23) rfl (l' := #[.val (.ref sr), .val (.int ((2 : Int32) + (1 : Int32))), .val (.int (3 : Int32)), .val (.ref a), .val (.int (2 : Int32))]) rfl k9) ?_
  show own_Go p e below s _ _ _ (T48.setTop (mkF m 26 #[.val (.ref sr), .val (.int ((2 : Int32) + (1 : Int32))), .val (.int (3 : Int32)), .val (.ref a), .val (.int (2 : Int32))] []))
  show own_Go p e below s _ _ _ (T48.setTop (mkF m 26 #[.val (.ref sr), .val (.int (3 : Int32)), .val (.int (3 : Int32)), .val (.ref a), .val (.int (2 : Int32))] []))
  refine own_st (fun t9 k9 => XS.iinc X48.here hx rfl (hb hby own_d_jdk_52_method_14_26) rfl (l' := #[.val (.ref sr), .val (.int (3 : Int32)), .val (.int (3 : Int32)), .val (.ref a), .val (.int ((2 : Int32) + (1 : Int32)))]) rfl k9) ?_
  show own_Go p e below s _ _ _ (T48.setTop (mkF m 29 #[.val (.ref sr), .val (.int (3 : Int32)), .val (.int (3 : Int32)), .val (.ref a), .val (.int ((2 : Int32) + (1 : Int32)))] []))
  show own_Go p e below s _ _ _ (T48.setTop (mkF m 29 #[.val (.ref sr), .val (.int (3 : Int32)), .val (.int (3 : Int32)), .val (.ref a), .val (.int (3 : Int32))] []))
  refine own_st (fun t9 k9 => XS.goto X48.here hx rfl (pc0 := 29) (pc' := 8) rfl (hb hby own_d_jdk_52_method_14_29) (by decide) (by decide) k9) ?_
  show own_Go p e below s _ _ _ (T48.setTop (mkF m 8 #[.val (.ref sr), .val (.int (3 : Int32)), .val (.int (3 : Int32)), .val (.ref a), .val (.int (3 : Int32))] []))
  refine own_st (fun t9 k9 => XS.iload X48.here hx rfl (hb hby own_d_jdk_52_method_14_8) rfl  k9) ?_
  show own_Go p e below s _ _ _ (T48.setTop (mkF m 10 #[.val (.ref sr), .val (.int (3 : Int32)), .val (.int (3 : Int32)), .val (.ref a), .val (.int (3 : Int32))] [(.int (3 : Int32))]))
  refine own_st (fun t9 k9 => XS.iloadN X48.here hx rfl (hb hby own_d_jdk_52_method_14_10) rfl  k9) ?_
  show own_Go p e below s _ _ _ (T48.setTop (mkF m 11 #[.val (.ref sr), .val (.int (3 : Int32)), .val (.int (3 : Int32)), .val (.ref a), .val (.int (3 : Int32))] [(.int (3 : Int32)), (.int (3 : Int32))]))
  refine own_st (fun t9 k9 => XS.icmpYes X48.here hx rfl (pc0 := 11) (pc' := 32) rfl (hb hby own_d_jdk_52_method_14_11) rfl (by decide) (by decide) (by decide) k9) ?_
  show own_Go p e below s _ _ _ (T48.setTop (mkF m 32 #[.val (.ref sr), .val (.int (3 : Int32)), .val (.int (3 : Int32)), .val (.ref a), .val (.int (3 : Int32))] []))
  refine own_st (fun t9 k9 => XS.aloadN X48.here hx rfl (hb hby own_d_jdk_52_method_14_32) rfl rfl k9) ?_
  show own_Go p e below s _ _ _ (T48.setTop (mkF m 33 #[.val (.ref sr), .val (.int (3 : Int32)), .val (.int (3 : Int32)), .val (.ref a), .val (.int (3 : Int32))] [(.ref a)]))
  exact own_retR X48 hx hlk Bd.returns rfl rfl (hb hby own_d_jdk_52_method_14_33) (by decide) (by decide) (by rw [e48]; exact ⟨N48, Kp, a, ka, rfl, gz_a, V_a⟩)
theorem own_ef_cm3 (m : MethodId) (x0 : Addr) (x1 : Int32) (x2 : Addr) (x3 : Int32) (x4 : Int32) : entryFrame m #[(.ref x0), (.int x1), (.ref x2), (.int x3), (.int x4)] 7 = mkF m 0 #[.val (.ref x0), .val (.int x1), .val (.ref x2), .val (.int x3), .val (.int x4), .unset, .unset] [] := by first | (simp [entryFrame, mkF, argsToLocals, Value.category]; done) | rfl
def own_Q_cm3 (Z : State) (ds : Addr) (x0 : Int32) (x1 : Int32) (x2 : Int32) (h0 : Heap) (n0 : Nat) (v : Option Value) (h : Heap) (L : List Loc) : Prop := v = some (.int (own_first [x0, x1, x2] 0)) ∧ Fr n0 L ∧ Keep h0 h [ds]
set_option maxRecDepth 65536 in
set_option maxHeartbeats 40000000 in
theorem own_rm_cm3 (l : Launch) (Z : State) (a0 : Array Value) (hw : ∀ d ∈ tables_1, d.before a0 Z = true) (ws : List Jvm.Cond) (sr ds : Addr) (ks kd : ClassId) (x0 : Int32) (x1 : Int32) (x2 : Int32) (h0 : Heap) (n0 : Nat) (Od : Old Z n0 h0) (V_s : Arv Z h0 sr ks .char (3 : Int32) [(.int x0), (.int x1), (.int x2)] (.int (0 : Int32))) (V_d : Arv Z h0 ds kd .byte (3 : Int32) [(.int (0 : Int32)), (.int (0 : Int32)), (.int (0 : Int32))] (.int (0 : Int32))) (ne_s : sr ≠ ds) (ge_ds : n0 ≤ ds) :
    MetFree l (⟨"java/lang/StringUTF16", "compress", "([CI[BII)I"⟩ : MethodName) (head1 (Jvm.Cond.code (⟨"java/lang/StringUTF16", "compress", "([CI[BII)I"⟩ : MethodName) jdk_52_method_21_code 7 (some .int) :: ws) ({ frames := 0, cells := 0, slots := 0, locals := 0 } : Room)) (fun a9 U => a9 = #[(.ref sr), (.int (0 : Int32)), (.ref ds), (.int (0 : Int32)), (.int (3 : Int32))] ∧ Z.Warmed39 U.vm ∧ U.heap = h0) (fun _ _ _ _ _ => True) (fun _ U o U' => ∃ v L, o = .returned v ∧ own_Q_cm3 Z ds x0 x1 x2 h0 n0 v U'.heap L ∧ FrameEnd U o U' L ({ frames := 0, cells := 0, slots := 0, locals := 0 } : Room).cells ({ frames := 0, cells := 0, slots := 0, locals := 0 } : Room).slots) := by
  refine MetFree.of_bodySF (plainFor_of_name own_pn0) hisR ?_
  intro p e s m args below meth c s₁ Bd hml0 hP hK
  obtain ⟨rfl, hZ, hh⟩ := hP
  have hx := Bd.exec
  have hby := Bd.bytes
  have hml : c.maxLocals = 7 := hml0
  have hown : s.vm.findClass "java/lang/StringUTF16" = some m.cls := findClass_of_methodNamed Bd.named
  have hnm := (name_of_methodNamed Bd.named Bd.method).1
  have hlk : meth.locks = false := Bd.notSynchronized
  have X0 : Stand p l e ({ frames := 0, cells := 0, slots := 0, locals := 0 } : Room) s m #[(.ref sr), (.int (0 : Int32)), (.ref ds), (.int (0 : Int32)), (.int (3 : Int32))] below meth c s₁ [] 0 0 := Stand.of_body Bd
  have e0 : s₁.heap = h0 := by rw [← hh, Bd.state]; rfl
  have N0 := Fr.nil n0
  show own_Go p e below s (own_Q_cm3 Z ds x0 x1 x2 h0 n0) ({ frames := 0, cells := 0, slots := 0, locals := 0 } : Room).cells ({ frames := 0, cells := 0, slots := 0, locals := 0 } : Room).slots (s₁.setTop (entryFrame m #[(.ref sr), (.int (0 : Int32)), (.ref ds), (.int (0 : Int32)), (.int (3 : Int32))] 7))
  refine own_st (fun t9 k9 => castTop (own_ef_cm3 m sr (0 : Int32) ds (0 : Int32) (3 : Int32)) k9) ?_
  show own_Go p e below s _ _ _ (s₁.setTop (mkF m 0 #[.val (.ref sr), .val (.int (0 : Int32)), .val (.ref ds), .val (.int (0 : Int32)), .val (.int (3 : Int32)), .unset, .unset] []))
  have Kp : Keep h0 h0 [ds] := Keep.refl h0 [ds]
  refine own_st (fun t9 k9 => XS.iconst X0.here hx rfl (hb hby own_d_jdk_52_method_21_0) k9) ?_
  show own_Go p e below s _ _ _ (s₁.setTop (mkF m 1 #[.val (.ref sr), .val (.int (0 : Int32)), .val (.ref ds), .val (.int (0 : Int32)), .val (.int (3 : Int32)), .unset, .unset] [(.int (0 : Int32))]))
  refine own_st (fun t9 k9 => XS.istore X0.here hx rfl (hb hby own_d_jdk_52_method_21_1) rfl (l' := #[.val (.ref sr), .val (.int (0 : Int32)), .val (.ref ds), .val (.int (0 : Int32)), .val (.int (3 : Int32)), .val (.int (0 : Int32)), .unset]) rfl k9) ?_
  show own_Go p e below s _ _ _ (s₁.setTop (mkF m 3 #[.val (.ref sr), .val (.int (0 : Int32)), .val (.ref ds), .val (.int (0 : Int32)), .val (.int (3 : Int32)), .val (.int (0 : Int32)), .unset] []))
  refine own_st (fun t9 k9 => XS.iload X0.here hx rfl (hb hby own_d_jdk_52_method_21_3) rfl  k9) ?_
  show own_Go p e below s _ _ _ (s₁.setTop (mkF m 5 #[.val (.ref sr), .val (.int (0 : Int32)), .val (.ref ds), .val (.int (0 : Int32)), .val (.int (3 : Int32)), .val (.int (0 : Int32)), .unset] [(.int (0 : Int32))]))
  refine own_st (fun t9 k9 => XS.iload X0.here hx rfl (hb hby own_d_jdk_52_method_21_5) rfl  k9) ?_
  show own_Go p e below s _ _ _ (s₁.setTop (mkF m 7 #[.val (.ref sr), .val (.int (0 : Int32)), .val (.ref ds), .val (.int (0 : Int32)), .val (.int (3 : Int32)), .val (.int (0 : Int32)), .unset] [(.int (3 : Int32)), (.int (0 : Int32))]))
  refine own_st (fun t9 k9 => XS.icmpNo X0.here hx rfl (hb hby own_d_jdk_52_method_21_7) rfl (by decide) k9) ?_
  show own_Go p e below s _ _ _ (s₁.setTop (mkF m 10 #[.val (.ref sr), .val (.int (0 : Int32)), .val (.ref ds), .val (.int (0 : Int32)), .val (.int (3 : Int32)), .val (.int (0 : Int32)), .unset] []))
  refine own_st (fun t9 k9 => XS.aloadN X0.here hx rfl (hb hby own_d_jdk_52_method_21_10) rfl rfl k9) ?_
  show own_Go p e below s _ _ _ (s₁.setTop (mkF m 11 #[.val (.ref sr), .val (.int (0 : Int32)), .val (.ref ds), .val (.int (0 : Int32)), .val (.int (3 : Int32)), .val (.int (0 : Int32)), .unset] [(.ref sr)]))
  refine own_st (fun t9 k9 => XS.iloadN X0.here hx rfl (hb hby own_d_jdk_52_method_21_11) rfl  k9) ?_
  show own_Go p e below s _ _ _ (s₁.setTop (mkF m 12 #[.val (.ref sr), .val (.int (0 : Int32)), .val (.ref ds), .val (.int (0 : Int32)), .val (.int (3 : Int32)), .val (.int (0 : Int32)), .unset] [(.int (0 : Int32)), (.ref sr)]))
  refine own_st (fun t9 k9 => own_cald X0 hx hZ e0 V_s (j := (0 : Int32)) (v := (.int x0)) ⟨by decide, by decide⟩ rfl (g := (mkF m 12 #[.val (.ref sr), .val (.int (0 : Int32)), .val (.ref ds), .val (.int (0 : Int32)), .val (.int (3 : Int32)), .val (.int (0 : Int32)), .unset] [(.int (0 : Int32)), (.ref sr)])) rfl rfl (hb hby own_d_jdk_52_method_21_12) t9 k9) ?_
  show own_Go p e below s _ _ _ (s₁.setTop (mkF m 13 #[.val (.ref sr), .val (.int (0 : Int32)), .val (.ref ds), .val (.int (0 : Int32)), .val (.int (3 : Int32)), .val (.int (0 : Int32)), .unset] [(.int x0)]))
  refine own_st (fun t9 k9 => XS.istore X0.here hx rfl (hb hby own_d_jdk_52_method_21_13) rfl (l' := #[.val (.ref sr), .val (.int (0 : Int32)), .val (.ref ds), .val (.int (0 : Int32)), .val (.int (3 : Int32)), .val (.int (0 : Int32)), .val (.int x0)]) rfl k9) ?_
  show own_Go p e below s _ _ _ (s₁.setTop (mkF m 15 #[.val (.ref sr), .val (.int (0 : Int32)), .val (.ref ds), .val (.int (0 : Int32)), .val (.int (3 : Int32)), .val (.int (0 : Int32)), .val (.int x0)] []))
  refine own_st (fun t9 k9 => XS.iload X0.here hx rfl (hb hby own_d_jdk_52_method_21_15) rfl  k9) ?_
  show own_Go p e below s _ _ _ (s₁.setTop (mkF m 17 #[.val (.ref sr), .val (.int (0 : Int32)), .val (.ref ds), .val (.int (0 : Int32)), .val (.int (3 : Int32)), .val (.int (0 : Int32)), .val (.int x0)] [(.int x0)]))
  refine own_st (fun t9 k9 => XS.sipush X0.here hx rfl (hb hby own_d_jdk_52_method_21_17) k9) ?_
  show own_Go p e below s _ _ _ (s₁.setTop (mkF m 20 #[.val (.ref sr), .val (.int (0 : Int32)), .val (.ref ds), .val (.int (0 : Int32)), .val (.int (3 : Int32)), .val (.int (0 : Int32)), .val (.int x0)] [(.int (255 : Int32)), (.int x0)]))
  by_cases hg0 : (255 : Int32) < x0
  · skip
    refine own_st (fun t9 k9 => XS.icmpNo X0.here hx rfl (hb hby own_d_jdk_52_method_21_20) rfl (tlt (hg0 : (255 : Int32) < x0)).2.2.2 k9) ?_
    show own_Go p e below s _ _ _ (s₁.setTop (mkF m 23 #[.val (.ref sr), .val (.int (0 : Int32)), .val (.ref ds), .val (.int (0 : Int32)), .val (.int (3 : Int32)), .val (.int (0 : Int32)), .val (.int x0)] []))
    refine own_st (fun t9 k9 => XS.iload X0.here hx rfl (hb hby own_d_jdk_52_method_21_23) rfl  k9) ?_
    show own_Go p e below s _ _ _ (s₁.setTop (mkF m 25 #[.val (.ref sr), .val (.int (0 : Int32)), .val (.ref ds), .val (.int (0 : Int32)), .val (.int (3 : Int32)), .val (.int (0 : Int32)), .val (.int x0)] [(.int (0 : Int32))]))
    exact own_retI X0 hx hlk Bd.returns (hb hby own_d_jdk_52_method_21_25) (by decide) (by decide) (by rw [e0]; exact ⟨by rw [(show own_first [x0, x1, x2] 0 = (0 : Int32) from (if_pos hg0))], N0, Kp⟩)
  · skip
    refine own_st (fun t9 k9 => XS.icmpYes X0.here hx rfl (pc0 := 20) (pc' := 26) rfl (hb hby own_d_jdk_52_method_21_20) rfl (flt (hg0 : ¬ ((255 : Int32) < x0))).2.2.2 (by decide) (by decide) k9) ?_
    show own_Go p e below s _ _ _ (s₁.setTop (mkF m 26 #[.val (.ref sr), .val (.int (0 : Int32)), .val (.ref ds), .val (.int (0 : Int32)), .val (.int (3 : Int32)), .val (.int (0 : Int32)), .val (.int x0)] []))
    refine own_st (fun t9 k9 => XS.aloadN X0.here hx rfl (hb hby own_d_jdk_52_method_21_26) rfl rfl k9) ?_
    show own_Go p e below s _ _ _ (s₁.setTop (mkF m 27 #[.val (.ref sr), .val (.int (0 : Int32)), .val (.ref ds), .val (.int (0 : Int32)), .val (.int (3 : Int32)), .val (.int (0 : Int32)), .val (.int x0)] [(.ref ds)]))
    refine own_st (fun t9 k9 => XS.iloadN X0.here hx rfl (hb hby own_d_jdk_52_method_21_27) rfl  k9) ?_
    show own_Go p e below s _ _ _ (s₁.setTop (mkF m 28 #[.val (.ref sr), .val (.int (0 : Int32)), .val (.ref ds), .val (.int (0 : Int32)), .val (.int (3 : Int32)), .val (.int (0 : Int32)), .val (.int x0)] [(.int (0 : Int32)), (.ref ds)]))
    refine own_st (fun t9 k9 => XS.iload X0.here hx rfl (hb hby own_d_jdk_52_method_21_28) rfl  k9) ?_
    show own_Go p e below s _ _ _ (s₁.setTop (mkF m 30 #[.val (.ref sr), .val (.int (0 : Int32)), .val (.ref ds), .val (.int (0 : Int32)), .val (.int (3 : Int32)), .val (.int (0 : Int32)), .val (.int x0)] [(.int x0), (.int (0 : Int32)), (.ref ds)]))
    refine own_st (fun t9 k9 => XT.i2b X0.here hx rfl (hb hby own_d_jdk_52_method_21_30) rfl k9) ?_
    show own_Go p e below s _ _ _ (s₁.setTop (mkF m 31 #[.val (.ref sr), .val (.int (0 : Int32)), .val (.ref ds), .val (.int (0 : Int32)), .val (.int (3 : Int32)), .val (.int (0 : Int32)), .val (.int x0)] [(.int (x0.toInt8.toInt32)), (.int (0 : Int32)), (.ref ds)]))
    obtain ⟨cl49, Ar49, q49, S49, M49, H49, G49⟩ := id V_d
    obtain ⟨T49, h49, X49, e49, W49, st49⟩ := stB X0 hx hZ e0 Ar49 (j := (0 : Int32)) (inb_of S49 ⟨by decide, by decide⟩) (g := (mkF m 31 #[.val (.ref sr), .val (.int (0 : Int32)), .val (.ref ds), .val (.int (0 : Int32)), .val (.int (3 : Int32)), .val (.int (0 : Int32)), .val (.int x0)] [(.int (x0.toInt8.toInt32)), (.int (0 : Int32)), (.ref ds)])) rfl rfl (hb hby own_d_jdk_52_method_21_31)
    have N49 := Fr.snoc X49 N0 ge_ds
    have V_s := V_s.other W49 ne_s
    have Od := Od.wr W49 ge_ds
    have Kp := Kp.wr W49 (Or.inl (List.mem_of_getElem? (i := 0) rfl))
    refine own_st st49 ?_
    show own_Go p e below s _ _ _ (T49.setTop (mkF m 32 #[.val (.ref sr), .val (.int (0 : Int32)), .val (.ref ds), .val (.int (0 : Int32)), .val (.int (3 : Int32)), .val (.int (0 : Int32)), .val (.int x0)] []))
    have V_d : Arv Z h49 ds kd .byte (3 : Int32) [(.int (nar .byte (x0.toInt8.toInt32))), (.int (0 : Int32)), (.int (0 : Int32))] (.int (0 : Int32)) := Arv.set Ar49 q49 S49 M49 H49 G49 (fits_nar_byte _) W49 0 rfl (Nat.le_of_ble_eq_true rfl)
    refine own_st (fun t9 k9 => XS.iinc X49.here hx rfl (hb hby own_d_jdk_52_method_21_32) rfl (l' := #[.val (.ref sr), .val (.int ((0 : Int32) + (1 : Int32))), .val (.ref ds), .val (.int (0 : Int32)), .val (.int (3 : Int32)), .val (.int (0 : Int32)), .val (.int x0)]) rfl k9) ?_
    show own_Go p e below s _ _ _ (T49.setTop (mkF m 35 #[.val (.ref sr), .val (.int ((0 : Int32) + (1 : Int32))), .val (.ref ds), .val (.int (0 : Int32)), .val (.int (3 : Int32)), .val (.int (0 : Int32)), .val (.int x0)] []))
    show own_Go p e below s _ _ _ (T49.setTop (mkF m 35 #[.val (.ref sr), .val (.int (1 : Int32)), .val (.ref ds), .val (.int (0 : Int32)), .val (.int (3 : Int32)), .val (.int (0 : Int32)), .val (.int x0)] []))
    refine own_st (fun t9 k9 => XS.iinc X49.here hx rfl (hb hby own_d_jdk_52_method_21_35) rfl (l' := #[.val (.ref sr), .val (.int (1 : Int32)), .val (.ref ds), .val (.int ((0 : Int32) + (1 : Int32))), .val (.int (3 : Int32)), .val (.int (0 : Int32)), .val (.int x0)]) rfl k9) ?_
    show own_Go p e below s _ _ _ (T49.setTop (mkF m 38 #[.val (.ref sr), .val (.int (1 : Int32)), .val (.ref ds), .val (.int ((0 : Int32) + (1 : Int32))), .val (.int (3 : Int32)), .val (.int (0 : Int32)), .val (.int x0)] []))
    show own_Go p e below s _ _ _ (T49.setTop (mkF m 38 #[.val (.ref sr), .val (.int (1 : Int32)), .val (.ref ds), .val (.int (1 : Int32)), .val (.int (3 : Int32)), .val (.int (0 : Int32)), .val (.int x0)] []))
    refine own_st (fun t9 k9 => XS.iinc X49.here hx rfl (hb hby own_d_jdk_52_method_21_38) rfl (l' := #[.val (.ref sr), .val (.int (1 : Int32)), .val (.ref ds), .val (.int (1 : Int32)), .val (.int (3 : Int32)), .val (.int ((0 : Int32) + (1 : Int32))), .val (.int x0)]) rfl k9) ?_
    show own_Go p e below s _ _ _ (T49.setTop (mkF m 41 #[.val (.ref sr), .val (.int (1 : Int32)), .val (.ref ds), .val (.int (1 : Int32)), .val (.int (3 : Int32)), .val (.int ((0 : Int32) + (1 : Int32))), .val (.int x0)] []))
    show own_Go p e below s _ _ _ (T49.setTop (mkF m 41 #[.val (.ref sr), .val (.int (1 : Int32)), .val (.ref ds), .val (.int (1 : Int32)), .val (.int (3 : Int32)), .val (.int (1 : Int32)), .val (.int x0)] []))
    refine own_st (fun t9 k9 => XS.goto X49.here hx rfl (pc0 := 41) (pc' := 3) rfl (hb hby own_d_jdk_52_method_21_41) (by decide) (by decide) k9) ?_
    show own_Go p e below s _ _ _ (T49.setTop (mkF m 3 #[.val (.ref sr), .val (.int (1 : Int32)), .val (.ref ds), .val (.int (1 : Int32)), .val (.int (3 : Int32)), .val (.int (1 : Int32)), .val (.int x0)] []))
    refine own_st (fun t9 k9 => XS.iload X49.here hx rfl (hb hby own_d_jdk_52_method_21_3) rfl  k9) ?_
    show own_Go p e below s _ _ _ (T49.setTop (mkF m 5 #[.val (.ref sr), .val (.int (1 : Int32)), .val (.ref ds), .val (.int (1 : Int32)), .val (.int (3 : Int32)), .val (.int (1 : Int32)), .val (.int x0)] [(.int (1 : Int32))]))
    refine own_st (fun t9 k9 => XS.iload X49.here hx rfl (hb hby own_d_jdk_52_method_21_5) rfl  k9) ?_
    show own_Go p e below s _ _ _ (T49.setTop (mkF m 7 #[.val (.ref sr), .val (.int (1 : Int32)), .val (.ref ds), .val (.int (1 : Int32)), .val (.int (3 : Int32)), .val (.int (1 : Int32)), .val (.int x0)] [(.int (3 : Int32)), (.int (1 : Int32))]))
    refine own_st (fun t9 k9 => XS.icmpNo X49.here hx rfl (hb hby own_d_jdk_52_method_21_7) rfl (by decide) k9) ?_
    show own_Go p e below s _ _ _ (T49.setTop (mkF m 10 #[.val (.ref sr), .val (.int (1 : Int32)), .val (.ref ds), .val (.int (1 : Int32)), .val (.int (3 : Int32)), .val (.int (1 : Int32)), .val (.int x0)] []))
    refine own_st (fun t9 k9 => XS.aloadN X49.here hx rfl (hb hby own_d_jdk_52_method_21_10) rfl rfl k9) ?_
    show own_Go p e below s _ _ _ (T49.setTop (mkF m 11 #[.val (.ref sr), .val (.int (1 : Int32)), .val (.ref ds), .val (.int (1 : Int32)), .val (.int (3 : Int32)), .val (.int (1 : Int32)), .val (.int x0)] [(.ref sr)]))
    refine own_st (fun t9 k9 => XS.iloadN X49.here hx rfl (hb hby own_d_jdk_52_method_21_11) rfl  k9) ?_
    show own_Go p e below s _ _ _ (T49.setTop (mkF m 12 #[.val (.ref sr), .val (.int (1 : Int32)), .val (.ref ds), .val (.int (1 : Int32)), .val (.int (3 : Int32)), .val (.int (1 : Int32)), .val (.int x0)] [(.int (1 : Int32)), (.ref sr)]))
    refine own_st (fun t9 k9 => own_cald X49 hx hZ e49 V_s (j := (1 : Int32)) (v := (.int x1)) ⟨by decide, by decide⟩ rfl (g := (mkF m 12 #[.val (.ref sr), .val (.int (1 : Int32)), .val (.ref ds), .val (.int (1 : Int32)), .val (.int (3 : Int32)), .val (.int (1 : Int32)), .val (.int x0)] [(.int (1 : Int32)), (.ref sr)])) rfl rfl (hb hby own_d_jdk_52_method_21_12) t9 k9) ?_
    show own_Go p e below s _ _ _ (T49.setTop (mkF m 13 #[.val (.ref sr), .val (.int (1 : Int32)), .val (.ref ds), .val (.int (1 : Int32)), .val (.int (3 : Int32)), .val (.int (1 : Int32)), .val (.int x0)] [(.int x1)]))
    refine own_st (fun t9 k9 => XS.istore X49.here hx rfl (hb hby own_d_jdk_52_method_21_13) rfl (l' := #[.val (.ref sr), .val (.int (1 : Int32)), .val (.ref ds), .val (.int (1 : Int32)), .val (.int (3 : Int32)), .val (.int (1 : Int32)), .val (.int x1)]) rfl k9) ?_
    show own_Go p e below s _ _ _ (T49.setTop (mkF m 15 #[.val (.ref sr), .val (.int (1 : Int32)), .val (.ref ds), .val (.int (1 : Int32)), .val (.int (3 : Int32)), .val (.int (1 : Int32)), .val (.int x1)] []))
    refine own_st (fun t9 k9 => XS.iload X49.here hx rfl (hb hby own_d_jdk_52_method_21_15) rfl  k9) ?_
    show own_Go p e below s _ _ _ (T49.setTop (mkF m 17 #[.val (.ref sr), .val (.int (1 : Int32)), .val (.ref ds), .val (.int (1 : Int32)), .val (.int (3 : Int32)), .val (.int (1 : Int32)), .val (.int x1)] [(.int x1)]))
    refine own_st (fun t9 k9 => XS.sipush X49.here hx rfl (hb hby own_d_jdk_52_method_21_17) k9) ?_
    show own_Go p e below s _ _ _ (T49.setTop (mkF m 20 #[.val (.ref sr), .val (.int (1 : Int32)), .val (.ref ds), .val (.int (1 : Int32)), .val (.int (3 : Int32)), .val (.int (1 : Int32)), .val (.int x1)] [(.int (255 : Int32)), (.int x1)]))
    by_cases hg1 : (255 : Int32) < x1
    · skip
      refine own_st (fun t9 k9 => XS.icmpNo X49.here hx rfl (hb hby own_d_jdk_52_method_21_20) rfl (tlt (hg1 : (255 : Int32) < x1)).2.2.2 k9) ?_
      show own_Go p e below s _ _ _ (T49.setTop (mkF m 23 #[.val (.ref sr), .val (.int (1 : Int32)), .val (.ref ds), .val (.int (1 : Int32)), .val (.int (3 : Int32)), .val (.int (1 : Int32)), .val (.int x1)] []))
      refine own_st (fun t9 k9 => XS.iload X49.here hx rfl (hb hby own_d_jdk_52_method_21_23) rfl  k9) ?_
      show own_Go p e below s _ _ _ (T49.setTop (mkF m 25 #[.val (.ref sr), .val (.int (1 : Int32)), .val (.ref ds), .val (.int (1 : Int32)), .val (.int (3 : Int32)), .val (.int (1 : Int32)), .val (.int x1)] [(.int (1 : Int32))]))
      exact own_retI X49 hx hlk Bd.returns (hb hby own_d_jdk_52_method_21_25) (by decide) (by decide) (by rw [e49]; exact ⟨by rw [(show own_first [x0, x1, x2] 0 = (1 : Int32) from ((if_neg hg0).trans (if_pos hg1)))], N49, Kp⟩)
    · skip
      refine own_st (fun t9 k9 => XS.icmpYes X49.here hx rfl (pc0 := 20) (pc' := 26) rfl (hb hby own_d_jdk_52_method_21_20) rfl (flt (hg1 : ¬ ((255 : Int32) < x1))).2.2.2 (by decide) (by decide) k9) ?_
      show own_Go p e below s _ _ _ (T49.setTop (mkF m 26 #[.val (.ref sr), .val (.int (1 : Int32)), .val (.ref ds), .val (.int (1 : Int32)), .val (.int (3 : Int32)), .val (.int (1 : Int32)), .val (.int x1)] []))
      refine own_st (fun t9 k9 => XS.aloadN X49.here hx rfl (hb hby own_d_jdk_52_method_21_26) rfl rfl k9) ?_
      show own_Go p e below s _ _ _ (T49.setTop (mkF m 27 #[.val (.ref sr), .val (.int (1 : Int32)), .val (.ref ds), .val (.int (1 : Int32)), .val (.int (3 : Int32)), .val (.int (1 : Int32)), .val (.int x1)] [(.ref ds)]))
      refine own_st (fun t9 k9 => XS.iloadN X49.here hx rfl (hb hby own_d_jdk_52_method_21_27) rfl  k9) ?_
      show own_Go p e below s _ _ _ (T49.setTop (mkF m 28 #[.val (.ref sr), .val (.int (1 : Int32)), .val (.ref ds), .val (.int (1 : Int32)), .val (.int (3 : Int32)), .val (.int (1 : Int32)), .val (.int x1)] [(.int (1 : Int32)), (.ref ds)]))
      refine own_st (fun t9 k9 => XS.iload X49.here hx rfl (hb hby own_d_jdk_52_method_21_28) rfl  k9) ?_
      show own_Go p e below s _ _ _ (T49.setTop (mkF m 30 #[.val (.ref sr), .val (.int (1 : Int32)), .val (.ref ds), .val (.int (1 : Int32)), .val (.int (3 : Int32)), .val (.int (1 : Int32)), .val (.int x1)] [(.int x1), (.int (1 : Int32)), (.ref ds)]))
      refine own_st (fun t9 k9 => XT.i2b X49.here hx rfl (hb hby own_d_jdk_52_method_21_30) rfl k9) ?_
      show own_Go p e below s _ _ _ (T49.setTop (mkF m 31 #[.val (.ref sr), .val (.int (1 : Int32)), .val (.ref ds), .val (.int (1 : Int32)), .val (.int (3 : Int32)), .val (.int (1 : Int32)), .val (.int x1)] [(.int (x1.toInt8.toInt32)), (.int (1 : Int32)), (.ref ds)]))
      obtain ⟨cl50, Ar50, q50, S50, M50, H50, G50⟩ := id V_d
      obtain ⟨T50, h50, X50, e50, W50, st50⟩ := stB X49 hx hZ e49 Ar50 (j := (1 : Int32)) (inb_of S50 ⟨by decide, by decide⟩) (g := (mkF m 31 #[.val (.ref sr), .val (.int (1 : Int32)), .val (.ref ds), .val (.int (1 : Int32)), .val (.int (3 : Int32)), .val (.int (1 : Int32)), .val (.int x1)] [(.int (x1.toInt8.toInt32)), (.int (1 : Int32)), (.ref ds)])) rfl rfl (hb hby own_d_jdk_52_method_21_31)
      have N50 := Fr.snoc X50 N49 ge_ds
      have V_s := V_s.other W50 ne_s
      have Od := Od.wr W50 ge_ds
      have Kp := Kp.wr W50 (Or.inl (List.mem_of_getElem? (i := 0) rfl))
      refine own_st st50 ?_
      show own_Go p e below s _ _ _ (T50.setTop (mkF m 32 #[.val (.ref sr), .val (.int (1 : Int32)), .val (.ref ds), .val (.int (1 : Int32)), .val (.int (3 : Int32)), .val (.int (1 : Int32)), .val (.int x1)] []))
      have V_d : Arv Z h50 ds kd .byte (3 : Int32) [(.int (nar .byte (x0.toInt8.toInt32))), (.int (nar .byte (x1.toInt8.toInt32))), (.int (0 : Int32))] (.int (0 : Int32)) := Arv.set Ar50 q50 S50 M50 H50 G50 (fits_nar_byte _) W50 1 rfl (Nat.le_of_ble_eq_true rfl)
      refine own_st (fun t9 k9 => XS.iinc X50.here hx rfl (hb hby own_d_jdk_52_method_21_32) rfl (l' := #[.val (.ref sr), .val (.int ((1 : Int32) + (1 : Int32))), .val (.ref ds), .val (.int (1 : Int32)), .val (.int (3 : Int32)), .val (.int (1 : Int32)), .val (.int x1)]) rfl k9) ?_
      show own_Go p e below s _ _ _ (T50.setTop (mkF m 35 #[.val (.ref sr), .val (.int ((1 : Int32) + (1 : Int32))), .val (.ref ds), .val (.int (1 : Int32)), .val (.int (3 : Int32)), .val (.int (1 : Int32)), .val (.int x1)] []))
      show own_Go p e below s _ _ _ (T50.setTop (mkF m 35 #[.val (.ref sr), .val (.int (2 : Int32)), .val (.ref ds), .val (.int (1 : Int32)), .val (.int (3 : Int32)), .val (.int (1 : Int32)), .val (.int x1)] []))
      refine own_st (fun t9 k9 => XS.iinc X50.here hx rfl (hb hby own_d_jdk_52_method_21_35) rfl (l' := #[.val (.ref sr), .val (.int (2 : Int32)), .val (.ref ds), .val (.int ((1 : Int32) + (1 : Int32))), .val (.int (3 : Int32)), .val (.int (1 : Int32)), .val (.int x1)]) rfl k9) ?_
      show own_Go p e below s _ _ _ (T50.setTop (mkF m 38 #[.val (.ref sr), .val (.int (2 : Int32)), .val (.ref ds), .val (.int ((1 : Int32) + (1 : Int32))), .val (.int (3 : Int32)), .val (.int (1 : Int32)), .val (.int x1)] []))
      show own_Go p e below s _ _ _ (T50.setTop (mkF m 38 #[.val (.ref sr), .val (.int (2 : Int32)), .val (.ref ds), .val (.int (2 : Int32)), .val (.int (3 : Int32)), .val (.int (1 : Int32)), .val (.int x1)] []))
      refine own_st (fun t9 k9 => XS.iinc X50.here hx rfl (hb hby own_d_jdk_52_method_21_38) rfl (l' := #[.val (.ref sr), .val (.int (2 : Int32)), .val (.ref ds), .val (.int (2 : Int32)), .val (.int (3 : Int32)), .val (.int ((1 : Int32) + (1 : Int32))), .val (.int x1)]) rfl k9) ?_
      show own_Go p e below s _ _ _ (T50.setTop (mkF m 41 #[.val (.ref sr), .val (.int (2 : Int32)), .val (.ref ds), .val (.int (2 : Int32)), .val (.int (3 : Int32)), .val (.int ((1 : Int32) + (1 : Int32))), .val (.int x1)] []))
      show own_Go p e below s _ _ _ (T50.setTop (mkF m 41 #[.val (.ref sr), .val (.int (2 : Int32)), .val (.ref ds), .val (.int (2 : Int32)), .val (.int (3 : Int32)), .val (.int (2 : Int32)), .val (.int x1)] []))
      refine own_st (fun t9 k9 => XS.goto X50.here hx rfl (pc0 := 41) (pc' := 3) rfl (hb hby own_d_jdk_52_method_21_41) (by decide) (by decide) k9) ?_
      show own_Go p e below s _ _ _ (T50.setTop (mkF m 3 #[.val (.ref sr), .val (.int (2 : Int32)), .val (.ref ds), .val (.int (2 : Int32)), .val (.int (3 : Int32)), .val (.int (2 : Int32)), .val (.int x1)] []))
      refine own_st (fun t9 k9 => XS.iload X50.here hx rfl (hb hby own_d_jdk_52_method_21_3) rfl  k9) ?_
      show own_Go p e below s _ _ _ (T50.setTop (mkF m 5 #[.val (.ref sr), .val (.int (2 : Int32)), .val (.ref ds), .val (.int (2 : Int32)), .val (.int (3 : Int32)), .val (.int (2 : Int32)), .val (.int x1)] [(.int (2 : Int32))]))
      refine own_st (fun t9 k9 => XS.iload X50.here hx rfl (hb hby own_d_jdk_52_method_21_5) rfl  k9) ?_
      show own_Go p e below s _ _ _ (T50.setTop (mkF m 7 #[.val (.ref sr), .val (.int (2 : Int32)), .val (.ref ds), .val (.int (2 : Int32)), .val (.int (3 : Int32)), .val (.int (2 : Int32)), .val (.int x1)] [(.int (3 : Int32)), (.int (2 : Int32))]))
      refine own_st (fun t9 k9 => XS.icmpNo X50.here hx rfl (hb hby own_d_jdk_52_method_21_7) rfl (by decide) k9) ?_
      show own_Go p e below s _ _ _ (T50.setTop (mkF m 10 #[.val (.ref sr), .val (.int (2 : Int32)), .val (.ref ds), .val (.int (2 : Int32)), .val (.int (3 : Int32)), .val (.int (2 : Int32)), .val (.int x1)] []))
      refine own_st (fun t9 k9 => XS.aloadN X50.here hx rfl (hb hby own_d_jdk_52_method_21_10) rfl rfl k9) ?_
      show own_Go p e below s _ _ _ (T50.setTop (mkF m 11 #[.val (.ref sr), .val (.int (2 : Int32)), .val (.ref ds), .val (.int (2 : Int32)), .val (.int (3 : Int32)), .val (.int (2 : Int32)), .val (.int x1)] [(.ref sr)]))
      refine own_st (fun t9 k9 => XS.iloadN X50.here hx rfl (hb hby own_d_jdk_52_method_21_11) rfl  k9) ?_
      show own_Go p e below s _ _ _ (T50.setTop (mkF m 12 #[.val (.ref sr), .val (.int (2 : Int32)), .val (.ref ds), .val (.int (2 : Int32)), .val (.int (3 : Int32)), .val (.int (2 : Int32)), .val (.int x1)] [(.int (2 : Int32)), (.ref sr)]))
      refine own_st (fun t9 k9 => own_cald X50 hx hZ e50 V_s (j := (2 : Int32)) (v := (.int x2)) ⟨by decide, by decide⟩ rfl (g := (mkF m 12 #[.val (.ref sr), .val (.int (2 : Int32)), .val (.ref ds), .val (.int (2 : Int32)), .val (.int (3 : Int32)), .val (.int (2 : Int32)), .val (.int x1)] [(.int (2 : Int32)), (.ref sr)])) rfl rfl (hb hby own_d_jdk_52_method_21_12) t9 k9) ?_
      show own_Go p e below s _ _ _ (T50.setTop (mkF m 13 #[.val (.ref sr), .val (.int (2 : Int32)), .val (.ref ds), .val (.int (2 : Int32)), .val (.int (3 : Int32)), .val (.int (2 : Int32)), .val (.int x1)] [(.int x2)]))
      refine own_st (fun t9 k9 => XS.istore X50.here hx rfl (hb hby own_d_jdk_52_method_21_13) rfl (l' := #[.val (.ref sr), .val (.int (2 : Int32)), .val (.ref ds), .val (.int (2 : Int32)), .val (.int (3 : Int32)), .val (.int (2 : Int32)), .val (.int x2)]) rfl k9) ?_
      show own_Go p e below s _ _ _ (T50.setTop (mkF m 15 #[.val (.ref sr), .val (.int (2 : Int32)), .val (.ref ds), .val (.int (2 : Int32)), .val (.int (3 : Int32)), .val (.int (2 : Int32)), .val (.int x2)] []))
      refine own_st (fun t9 k9 => XS.iload X50.here hx rfl (hb hby own_d_jdk_52_method_21_15) rfl  k9) ?_
      show own_Go p e below s _ _ _ (T50.setTop (mkF m 17 #[.val (.ref sr), .val (.int (2 : Int32)), .val (.ref ds), .val (.int (2 : Int32)), .val (.int (3 : Int32)), .val (.int (2 : Int32)), .val (.int x2)] [(.int x2)]))
      refine own_st (fun t9 k9 => XS.sipush X50.here hx rfl (hb hby own_d_jdk_52_method_21_17) k9) ?_
      show own_Go p e below s _ _ _ (T50.setTop (mkF m 20 #[.val (.ref sr), .val (.int (2 : Int32)), .val (.ref ds), .val (.int (2 : Int32)), .val (.int (3 : Int32)), .val (.int (2 : Int32)), .val (.int x2)] [(.int (255 : Int32)), (.int x2)]))
      by_cases hg2 : (255 : Int32) < x2
      · skip
        refine own_st (fun t9 k9 => XS.icmpNo X50.here hx rfl (hb hby own_d_jdk_52_method_21_20) rfl (tlt (hg2 : (255 : Int32) < x2)).2.2.2 k9) ?_
        show own_Go p e below s _ _ _ (T50.setTop (mkF m 23 #[.val (.ref sr), .val (.int (2 : Int32)), .val (.ref ds), .val (.int (2 : Int32)), .val (.int (3 : Int32)), .val (.int (2 : Int32)), .val (.int x2)] []))
        refine own_st (fun t9 k9 => XS.iload X50.here hx rfl (hb hby own_d_jdk_52_method_21_23) rfl  k9) ?_
        show own_Go p e below s _ _ _ (T50.setTop (mkF m 25 #[.val (.ref sr), .val (.int (2 : Int32)), .val (.ref ds), .val (.int (2 : Int32)), .val (.int (3 : Int32)), .val (.int (2 : Int32)), .val (.int x2)] [(.int (2 : Int32))]))
        exact own_retI X50 hx hlk Bd.returns (hb hby own_d_jdk_52_method_21_25) (by decide) (by decide) (by rw [e50]; exact ⟨by rw [(show own_first [x0, x1, x2] 0 = (2 : Int32) from ((if_neg hg0).trans ((if_neg hg1).trans (if_pos hg2))))], N50, Kp⟩)
      · skip
        refine own_st (fun t9 k9 => XS.icmpYes X50.here hx rfl (pc0 := 20) (pc' := 26) rfl (hb hby own_d_jdk_52_method_21_20) rfl (flt (hg2 : ¬ ((255 : Int32) < x2))).2.2.2 (by decide) (by decide) k9) ?_
        show own_Go p e below s _ _ _ (T50.setTop (mkF m 26 #[.val (.ref sr), .val (.int (2 : Int32)), .val (.ref ds), .val (.int (2 : Int32)), .val (.int (3 : Int32)), .val (.int (2 : Int32)), .val (.int x2)] []))
        refine own_st (fun t9 k9 => XS.aloadN X50.here hx rfl (hb hby own_d_jdk_52_method_21_26) rfl rfl k9) ?_
        show own_Go p e below s _ _ _ (T50.setTop (mkF m 27 #[.val (.ref sr), .val (.int (2 : Int32)), .val (.ref ds), .val (.int (2 : Int32)), .val (.int (3 : Int32)), .val (.int (2 : Int32)), .val (.int x2)] [(.ref ds)]))
        refine own_st (fun t9 k9 => XS.iloadN X50.here hx rfl (hb hby own_d_jdk_52_method_21_27) rfl  k9) ?_
        show own_Go p e below s _ _ _ (T50.setTop (mkF m 28 #[.val (.ref sr), .val (.int (2 : Int32)), .val (.ref ds), .val (.int (2 : Int32)), .val (.int (3 : Int32)), .val (.int (2 : Int32)), .val (.int x2)] [(.int (2 : Int32)), (.ref ds)]))
        refine own_st (fun t9 k9 => XS.iload X50.here hx rfl (hb hby own_d_jdk_52_method_21_28) rfl  k9) ?_
        show own_Go p e below s _ _ _ (T50.setTop (mkF m 30 #[.val (.ref sr), .val (.int (2 : Int32)), .val (.ref ds), .val (.int (2 : Int32)), .val (.int (3 : Int32)), .val (.int (2 : Int32)), .val (.int x2)] [(.int x2), (.int (2 : Int32)), (.ref ds)]))
        refine own_st (fun t9 k9 => XT.i2b X50.here hx rfl (hb hby own_d_jdk_52_method_21_30) rfl k9) ?_
        show own_Go p e below s _ _ _ (T50.setTop (mkF m 31 #[.val (.ref sr), .val (.int (2 : Int32)), .val (.ref ds), .val (.int (2 : Int32)), .val (.int (3 : Int32)), .val (.int (2 : Int32)), .val (.int x2)] [(.int (x2.toInt8.toInt32)), (.int (2 : Int32)), (.ref ds)]))
        obtain ⟨cl51, Ar51, q51, S51, M51, H51, G51⟩ := id V_d
        obtain ⟨T51, h51, X51, e51, W51, st51⟩ := stB X50 hx hZ e50 Ar51 (j := (2 : Int32)) (inb_of S51 ⟨by decide, by decide⟩) (g := (mkF m 31 #[.val (.ref sr), .val (.int (2 : Int32)), .val (.ref ds), .val (.int (2 : Int32)), .val (.int (3 : Int32)), .val (.int (2 : Int32)), .val (.int x2)] [(.int (x2.toInt8.toInt32)), (.int (2 : Int32)), (.ref ds)])) rfl rfl (hb hby own_d_jdk_52_method_21_31)
        have N51 := Fr.snoc X51 N50 ge_ds
        have V_s := V_s.other W51 ne_s
        have Od := Od.wr W51 ge_ds
        have Kp := Kp.wr W51 (Or.inl (List.mem_of_getElem? (i := 0) rfl))
        refine own_st st51 ?_
        show own_Go p e below s _ _ _ (T51.setTop (mkF m 32 #[.val (.ref sr), .val (.int (2 : Int32)), .val (.ref ds), .val (.int (2 : Int32)), .val (.int (3 : Int32)), .val (.int (2 : Int32)), .val (.int x2)] []))
        have V_d : Arv Z h51 ds kd .byte (3 : Int32) [(.int (nar .byte (x0.toInt8.toInt32))), (.int (nar .byte (x1.toInt8.toInt32))), (.int (nar .byte (x2.toInt8.toInt32)))] (.int (0 : Int32)) := Arv.set Ar51 q51 S51 M51 H51 G51 (fits_nar_byte _) W51 2 rfl (Nat.le_of_ble_eq_true rfl)
        refine own_st (fun t9 k9 => XS.iinc X51.here hx rfl (hb hby own_d_jdk_52_method_21_32) rfl (l' := #[.val (.ref sr), .val (.int ((2 : Int32) + (1 : Int32))), .val (.ref ds), .val (.int (2 : Int32)), .val (.int (3 : Int32)), .val (.int (2 : Int32)), .val (.int x2)]) rfl k9) ?_
        show own_Go p e below s _ _ _ (T51.setTop (mkF m 35 #[.val (.ref sr), .val (.int ((2 : Int32) + (1 : Int32))), .val (.ref ds), .val (.int (2 : Int32)), .val (.int (3 : Int32)), .val (.int (2 : Int32)), .val (.int x2)] []))
        show own_Go p e below s _ _ _ (T51.setTop (mkF m 35 #[.val (.ref sr), .val (.int (3 : Int32)), .val (.ref ds), .val (.int (2 : Int32)), .val (.int (3 : Int32)), .val (.int (2 : Int32)), .val (.int x2)] []))
        refine own_st (fun t9 k9 => XS.iinc X51.here hx rfl (hb hby own_d_jdk_52_method_21_35) rfl (l' := #[.val (.ref sr), .val (.int (3 : Int32)), .val (.ref ds), .val (.int ((2 : Int32) + (1 : Int32))), .val (.int (3 : Int32)), .val (.int (2 : Int32)), .val (.int x2)]) rfl k9) ?_
        show own_Go p e below s _ _ _ (T51.setTop (mkF m 38 #[.val (.ref sr), .val (.int (3 : Int32)), .val (.ref ds), .val (.int ((2 : Int32) + (1 : Int32))), .val (.int (3 : Int32)), .val (.int (2 : Int32)), .val (.int x2)] []))
        show own_Go p e below s _ _ _ (T51.setTop (mkF m 38 #[.val (.ref sr), .val (.int (3 : Int32)), .val (.ref ds), .val (.int (3 : Int32)), .val (.int (3 : Int32)), .val (.int (2 : Int32)), .val (.int x2)] []))
        refine own_st (fun t9 k9 => XS.iinc X51.here hx rfl (hb hby own_d_jdk_52_method_21_38) rfl (l' := #[.val (.ref sr), .val (.int (3 : Int32)), .val (.ref ds), .val (.int (3 : Int32)), .val (.int (3 : Int32)), .val (.int ((2 : Int32) + (1 : Int32))), .val (.int x2)]) rfl k9) ?_
        show own_Go p e below s _ _ _ (T51.setTop (mkF m 41 #[.val (.ref sr), .val (.int (3 : Int32)), .val (.ref ds), .val (.int (3 : Int32)), .val (.int (3 : Int32)), .val (.int ((2 : Int32) + (1 : Int32))), .val (.int x2)] []))
        show own_Go p e below s _ _ _ (T51.setTop (mkF m 41 #[.val (.ref sr), .val (.int (3 : Int32)), .val (.ref ds), .val (.int (3 : Int32)), .val (.int (3 : Int32)), .val (.int (3 : Int32)), .val (.int x2)] []))
        refine own_st (fun t9 k9 => XS.goto X51.here hx rfl (pc0 := 41) (pc' := 3) rfl (hb hby own_d_jdk_52_method_21_41) (by decide) (by decide) k9) ?_
        show own_Go p e below s _ _ _ (T51.setTop (mkF m 3 #[.val (.ref sr), .val (.int (3 : Int32)), .val (.ref ds), .val (.int (3 : Int32)), .val (.int (3 : Int32)), .val (.int (3 : Int32)), .val (.int x2)] []))
        refine own_st (fun t9 k9 => XS.iload X51.here hx rfl (hb hby own_d_jdk_52_method_21_3) rfl  k9) ?_
        show own_Go p e below s _ _ _ (T51.setTop (mkF m 5 #[.val (.ref sr), .val (.int (3 : Int32)), .val (.ref ds), .val (.int (3 : Int32)), .val (.int (3 : Int32)), .val (.int (3 : Int32)), .val (.int x2)] [(.int (3 : Int32))]))
        refine own_st (fun t9 k9 => XS.iload X51.here hx rfl (hb hby own_d_jdk_52_method_21_5) rfl  k9) ?_
        show own_Go p e below s _ _ _ (T51.setTop (mkF m 7 #[.val (.ref sr), .val (.int (3 : Int32)), .val (.ref ds), .val (.int (3 : Int32)), .val (.int (3 : Int32)), .val (.int (3 : Int32)), .val (.int x2)] [(.int (3 : Int32)), (.int (3 : Int32))]))
        refine own_st (fun t9 k9 => XS.icmpYes X51.here hx rfl (pc0 := 7) (pc' := 44) rfl (hb hby own_d_jdk_52_method_21_7) rfl (by decide) (by decide) (by decide) k9) ?_
        show own_Go p e below s _ _ _ (T51.setTop (mkF m 44 #[.val (.ref sr), .val (.int (3 : Int32)), .val (.ref ds), .val (.int (3 : Int32)), .val (.int (3 : Int32)), .val (.int (3 : Int32)), .val (.int x2)] []))
        refine own_st (fun t9 k9 => XS.iload X51.here hx rfl (hb hby own_d_jdk_52_method_21_44) rfl  k9) ?_
        show own_Go p e below s _ _ _ (T51.setTop (mkF m 46 #[.val (.ref sr), .val (.int (3 : Int32)), .val (.ref ds), .val (.int (3 : Int32)), .val (.int (3 : Int32)), .val (.int (3 : Int32)), .val (.int x2)] [(.int (3 : Int32))]))
        exact own_retI X51 hx hlk Bd.returns (hb hby own_d_jdk_52_method_21_46) (by decide) (by decide) (by rw [e51]; exact ⟨by rw [(show own_first [x0, x1, x2] 0 = (3 : Int32) from ((if_neg hg0).trans ((if_neg hg1).trans ((if_neg hg2).trans rfl))))], N51, Kp⟩)
theorem own_ef_cp3 (m : MethodId) (x0 : Addr) (x1 : Int32) (x2 : Int32) : entryFrame m #[(.ref x0), (.int x1), (.int x2)] 6 = mkF m 0 #[.val (.ref x0), .val (.int x1), .val (.int x2), .unset, .unset, .unset] [] := by first | (simp [entryFrame, mkF, argsToLocals, Value.category]; done) | rfl
def own_Q_cp3 (Z : State) (x0 : Int32) (x1 : Int32) (x2 : Int32) (h0 : Heap) (n0 : Nat) (v : Option Value) (h : Heap) (L : List Loc) : Prop := Fr n0 L ∧ Keep h0 h [] ∧ ∃ a k, v = some (.ref a) ∧ h0.size ≤ a ∧ Arv Z h a k .byte (6 : Int32) [(.int (StrChars.lo8 x0)), (.int (StrChars.hi8 x0)), (.int (StrChars.lo8 x1)), (.int (StrChars.hi8 x1)), (.int (StrChars.lo8 x2)), (.int (StrChars.hi8 x2))] (.int (0 : Int32))
set_option maxRecDepth 65536 in
set_option maxHeartbeats 40000000 in
theorem own_rm_cp3 (l : Launch) (Z : State) (a0 : Array Value) (hw : ∀ d ∈ tables_1, d.before a0 Z = true) (ws : List Jvm.Cond) (sr : Addr) (ks : ClassId) (x0 : Int32) (x1 : Int32) (x2 : Int32) (h0 : Heap) (n0 : Nat) (Od : Old Z n0 h0) (V_s : Arv Z h0 sr ks .char (3 : Int32) [(.int x0), (.int x1), (.int x2)] (.int (0 : Int32))) (hr0 : ¬ x0 < 0 ∧ ¬ (65535 : Int32) < x0) (hr1 : ¬ x1 < 0 ∧ ¬ (65535 : Int32) < x1) (hr2 : ¬ x2 < 0 ∧ ¬ (65535 : Int32) < x2) (hm : ¬ own_first [x0, x1, x2] 0 = (3 : Int32)) (OA : Sta Z Z.heap "java/lang/StringUTF16" "$assertionsDisabled" "Z" (.int (1 : Int32))) (OH : Sta Z Z.heap "java/lang/StringUTF16" "HI_BYTE_SHIFT" "I" (.int (0 : Int32))) (OL : Sta Z Z.heap "java/lang/StringUTF16" "LO_BYTE_SHIFT" "I" (.int (8 : Int32))) :
    MetFree l (⟨"java/lang/StringUTF16", "compress", "([CII)[B"⟩ : MethodName) (head1 (Jvm.Cond.code (⟨"java/lang/StringUTF16", "compress", "([CII)[B"⟩ : MethodName) jdk_52_method_16_code 6 (some (.array .byte)) :: ws) ({ frames := 3, cells := 2, slots := 9, locals := 40 } : Room)) (fun a9 U => a9 = #[(.ref sr), (.int (0 : Int32)), (.int (3 : Int32))] ∧ Z.Warmed39 U.vm ∧ U.heap = h0) (fun _ _ _ _ _ => True) (fun _ U o U' => ∃ v L, o = .returned v ∧ own_Q_cp3 Z x0 x1 x2 h0 n0 v U'.heap L ∧ FrameEnd U o U' L ({ frames := 3, cells := 2, slots := 9, locals := 40 } : Room).cells ({ frames := 3, cells := 2, slots := 9, locals := 40 } : Room).slots) := by
  refine MetFree.of_bodySF (plainFor_of_name own_pn0) hisR ?_
  intro p e s m args below meth c s₁ Bd hml0 hP hK
  obtain ⟨rfl, hZ, hh⟩ := hP
  have hx := Bd.exec
  have hby := Bd.bytes
  have hml : c.maxLocals = 6 := hml0
  have hown : s.vm.findClass "java/lang/StringUTF16" = some m.cls := findClass_of_methodNamed Bd.named
  have hnm := (name_of_methodNamed Bd.named Bd.method).1
  have hlk : meth.locks = false := Bd.notSynchronized
  have X0 : Stand p l e ({ frames := 3, cells := 2, slots := 9, locals := 40 } : Room) s m #[(.ref sr), (.int (0 : Int32)), (.int (3 : Int32))] below meth c s₁ [] 0 0 := Stand.of_body Bd
  have e0 : s₁.heap = h0 := by rw [← hh, Bd.state]; rfl
  have N0 := Fr.nil n0
  show own_Go p e below s (own_Q_cp3 Z x0 x1 x2 h0 n0) ({ frames := 3, cells := 2, slots := 9, locals := 40 } : Room).cells ({ frames := 3, cells := 2, slots := 9, locals := 40 } : Room).slots (s₁.setTop (entryFrame m #[(.ref sr), (.int (0 : Int32)), (.int (3 : Int32))] 6))
  refine own_st (fun t9 k9 => castTop (own_ef_cp3 m sr (0 : Int32) (3 : Int32)) k9) ?_
  show own_Go p e below s _ _ _ (s₁.setTop (mkF m 0 #[.val (.ref sr), .val (.int (0 : Int32)), .val (.int (3 : Int32)), .unset, .unset, .unset] []))
  have Kp : Keep h0 h0 [] := Keep.refl h0 []
  refine own_st (fun t9 k9 => XS.iloadN X0.here hx rfl (hb hby own_d_jdk_52_method_16_0) rfl  k9) ?_
  show own_Go p e below s _ _ _ (s₁.setTop (mkF m 1 #[.val (.ref sr), .val (.int (0 : Int32)), .val (.int (3 : Int32)), .unset, .unset, .unset] [(.int (3 : Int32))]))
  obtain ⟨T52, h52, k52, X52, e52, E52, A52, st52⟩ := newP X0 hx hZ (hw _ (List.mem_of_getElem? (i := 23) rfl)) e0 (g := (mkF m 1 #[.val (.ref sr), .val (.int (0 : Int32)), .val (.int (3 : Int32)), .unset, .unset, .unset] [(.int (3 : Int32))])) rfl (hb hby own_d_jdk_52_method_16_1) rfl (by decide) (cap := 3) (by decide) (by decide) (by decide) (by decide)
  obtain ⟨ds, g52⟩ : ∃ z, z = h0.size := ⟨_, rfl⟩
  rw [← g52] at A52 st52
  have ne_sr_ds : sr ≠ ds := Nat.ne_of_lt (Nat.lt_of_lt_of_le V_s.lt (Nat.le_of_eq g52.symm))
  have ge_ds : n0 ≤ ds := Nat.le_trans (own_z0 Od) (Nat.le_of_eq g52.symm)
  have gz_ds : h0.size ≤ ds := Nat.le_trans Kp.1 (Nat.le_of_eq g52.symm)
  have V_s := V_s.ext E52
  have Od := Od.ext E52
  have Kp := Kp.ext E52
  refine own_st st52 ?_
  show own_Go p e below s _ _ _ (T52.setTop (mkF m 3 #[.val (.ref sr), .val (.int (0 : Int32)), .val (.int (3 : Int32)), .unset, .unset, .unset] [(.ref ds)]))
  have V_d : Arv Z h52 ds k52 .byte (3 : Int32) [(.int (0 : Int32)), (.int (0 : Int32)), (.int (0 : Int32))] (.int (0 : Int32)) := (Arv.new A52 (by decide)).pad (pad_rep [] (.int (0 : Int32)) 3)
  refine own_st (fun t9 k9 => XS.astoreN X52.here hx rfl (hb hby own_d_jdk_52_method_16_3) rfl rfl (l' := #[.val (.ref sr), .val (.int (0 : Int32)), .val (.int (3 : Int32)), .val (.ref ds), .unset, .unset]) rfl k9) ?_
  show own_Go p e below s _ _ _ (T52.setTop (mkF m 4 #[.val (.ref sr), .val (.int (0 : Int32)), .val (.int (3 : Int32)), .val (.ref ds), .unset, .unset] []))
  refine own_st (fun t9 k9 => XS.aloadN X52.here hx rfl (hb hby own_d_jdk_52_method_16_4) rfl rfl k9) ?_
  show own_Go p e below s _ _ _ (T52.setTop (mkF m 5 #[.val (.ref sr), .val (.int (0 : Int32)), .val (.int (3 : Int32)), .val (.ref ds), .unset, .unset] [(.ref sr)]))
  refine own_st (fun t9 k9 => XS.iloadN X52.here hx rfl (hb hby own_d_jdk_52_method_16_5) rfl  k9) ?_
  show own_Go p e below s _ _ _ (T52.setTop (mkF m 6 #[.val (.ref sr), .val (.int (0 : Int32)), .val (.int (3 : Int32)), .val (.ref ds), .unset, .unset] [(.int (0 : Int32)), (.ref sr)]))
  refine own_st (fun t9 k9 => XS.aloadN X52.here hx rfl (hb hby own_d_jdk_52_method_16_6) rfl rfl k9) ?_
  show own_Go p e below s _ _ _ (T52.setTop (mkF m 7 #[.val (.ref sr), .val (.int (0 : Int32)), .val (.int (3 : Int32)), .val (.ref ds), .unset, .unset] [(.ref ds), (.int (0 : Int32)), (.ref sr)]))
  refine own_st (fun t9 k9 => XS.iconst X52.here hx rfl (hb hby own_d_jdk_52_method_16_7) k9) ?_
  show own_Go p e below s _ _ _ (T52.setTop (mkF m 8 #[.val (.ref sr), .val (.int (0 : Int32)), .val (.int (3 : Int32)), .val (.ref ds), .unset, .unset] [(.int (0 : Int32)), (.ref ds), (.int (0 : Int32)), (.ref sr)]))
  refine own_st (fun t9 k9 => XS.iloadN X52.here hx rfl (hb hby own_d_jdk_52_method_16_8) rfl  k9) ?_
  show own_Go p e below s _ _ _ (T52.setTop (mkF m 9 #[.val (.ref sr), .val (.int (0 : Int32)), .val (.int (3 : Int32)), .val (.ref ds), .unset, .unset] [(.int (3 : Int32)), (.int (0 : Int32)), (.ref ds), (.int (0 : Int32)), (.ref sr)]))
  obtain ⟨_, T53, h53, L53, X53, e53, ⟨rfl, Nc, Kc⟩, st53⟩ := own_callS X52 hx hZ hown (hw _ (List.mem_of_getElem? (i := 24) rfl)) (hw _ (List.mem_of_getElem? (i := 25) rfl)) (hw _ (List.mem_of_getElem? (i := 21) rfl)) (hw _ (List.mem_of_getElem? (i := 26) rfl)) (by decide) (own_rm_cm3 l Z a0 hw [] sr ds ks _ x0 x1 x2 h52 n0 Od V_s V_d ne_sr_ds ge_ds) (by decide) (by decide) e52 (W := 0) (g := (mkF m 9 #[.val (.ref sr), .val (.int (0 : Int32)), .val (.int (3 : Int32)), .val (.ref ds), .unset, .unset] [(.int (3 : Int32)), (.int (0 : Int32)), (.ref ds), (.int (0 : Int32)), (.ref sr)])) rfl (by rw [hml]; rfl) (argsL := [(.ref sr), (.int (0 : Int32)), (.ref ds), (.int (0 : Int32)), (.int (3 : Int32))]) (rest := []) rfl (lenOf own_pd3 rfl) rfl (by show 2 * 0 + _ ≤ _; exact Nat.le_of_eq rfl) (hb hby own_d_jdk_52_method_16_9) (by decide) (by decide)
  have N53 := Fr.app N0 Nc
  have V_s := V_s.keep Kc (ninS ne_sr_ds nin0)
  have Od := Od.keep Kc (allS ge_ds all0)
  have Kp := Kp.trans Kc (allS (Or.inr gz_ds) all0)
  refine own_st st53 ?_
  show own_Go p e below s _ _ _ (T53.setTop (mkF m 12 #[.val (.ref sr), .val (.int (0 : Int32)), .val (.int (3 : Int32)), .val (.ref ds), .unset, .unset] [(.int (own_first [x0, x1, x2] 0))]))
  refine own_st (fun t9 k9 => XS.istore X53.here hx rfl (hb hby own_d_jdk_52_method_16_12) rfl (l' := #[.val (.ref sr), .val (.int (0 : Int32)), .val (.int (3 : Int32)), .val (.ref ds), .val (.int (own_first [x0, x1, x2] 0)), .unset]) rfl k9) ?_
  show own_Go p e below s _ _ _ (T53.setTop (mkF m 14 #[.val (.ref sr), .val (.int (0 : Int32)), .val (.int (3 : Int32)), .val (.ref ds), .val (.int (own_first [x0, x1, x2] 0)), .unset] []))
  refine own_st (fun t9 k9 => XS.iload X53.here hx rfl (hb hby own_d_jdk_52_method_16_14) rfl  k9) ?_
  show own_Go p e below s _ _ _ (T53.setTop (mkF m 16 #[.val (.ref sr), .val (.int (0 : Int32)), .val (.int (3 : Int32)), .val (.ref ds), .val (.int (own_first [x0, x1, x2] 0)), .unset] [(.int (own_first [x0, x1, x2] 0))]))
  refine own_st (fun t9 k9 => XS.iloadN X53.here hx rfl (hb hby own_d_jdk_52_method_16_16) rfl  k9) ?_
  show own_Go p e below s _ _ _ (T53.setTop (mkF m 17 #[.val (.ref sr), .val (.int (0 : Int32)), .val (.int (3 : Int32)), .val (.ref ds), .val (.int (own_first [x0, x1, x2] 0)), .unset] [(.int (3 : Int32)), (.int (own_first [x0, x1, x2] 0))]))
  refine own_st (fun t9 k9 => XS.icmpNo X53.here hx rfl (hb hby own_d_jdk_52_method_16_17) rfl (feq (hm : ¬ ((own_first [x0, x1, x2] 0) = (3 : Int32)))).1 k9) ?_
  show own_Go p e below s _ _ _ (T53.setTop (mkF m 20 #[.val (.ref sr), .val (.int (0 : Int32)), .val (.int (3 : Int32)), .val (.ref ds), .val (.int (own_first [x0, x1, x2] 0)), .unset] []))
  refine own_st (fun t9 k9 => XS.aloadN X53.here hx rfl (hb hby own_d_jdk_52_method_16_20) rfl rfl k9) ?_
  show own_Go p e below s _ _ _ (T53.setTop (mkF m 21 #[.val (.ref sr), .val (.int (0 : Int32)), .val (.int (3 : Int32)), .val (.ref ds), .val (.int (own_first [x0, x1, x2] 0)), .unset] [(.ref sr)]))
  refine own_st (fun t9 k9 => XS.iloadN X53.here hx rfl (hb hby own_d_jdk_52_method_16_21) rfl  k9) ?_
  show own_Go p e below s _ _ _ (T53.setTop (mkF m 22 #[.val (.ref sr), .val (.int (0 : Int32)), .val (.int (3 : Int32)), .val (.ref ds), .val (.int (own_first [x0, x1, x2] 0)), .unset] [(.int (0 : Int32)), (.ref sr)]))
  refine own_st (fun t9 k9 => XS.iloadN X53.here hx rfl (hb hby own_d_jdk_52_method_16_22) rfl  k9) ?_
  show own_Go p e below s _ _ _ (T53.setTop (mkF m 23 #[.val (.ref sr), .val (.int (0 : Int32)), .val (.int (3 : Int32)), .val (.ref ds), .val (.int (own_first [x0, x1, x2] 0)), .unset] [(.int (3 : Int32)), (.int (0 : Int32)), (.ref sr)]))
  obtain ⟨_, T54, h54, L54, X54, e54, ⟨Nd, Kd, a, ka, rfl, gea, V_a⟩, st54⟩ := own_callS X53 hx hZ hown (hw _ (List.mem_of_getElem? (i := 53) rfl)) (hw _ (List.mem_of_getElem? (i := 54) rfl)) (hw _ (List.mem_of_getElem? (i := 21) rfl)) (hw _ (List.mem_of_getElem? (i := 55) rfl)) (by decide) (own_rm_tob3 l Z a0 hw [] sr ks x0 x1 x2 h53 n0 Od V_s OA OH OL) (by decide) (by decide) e53 (W := 0) (g := (mkF m 23 #[.val (.ref sr), .val (.int (0 : Int32)), .val (.int (3 : Int32)), .val (.ref ds), .val (.int (own_first [x0, x1, x2] 0)), .unset] [(.int (3 : Int32)), (.int (0 : Int32)), (.ref sr)])) rfl (by rw [hml]; rfl) (argsL := [(.ref sr), (.int (0 : Int32)), (.int (3 : Int32))]) (rest := []) rfl (lenOf own_pd4 rfl) rfl (by show 2 * 0 + _ ≤ _; exact Nat.le_of_eq rfl) (hb hby own_d_jdk_52_method_16_23) (by decide) (by decide)
  have N54 := Fr.app N53 Nd
  have ne_sr_a : sr ≠ a := Nat.ne_of_lt (Nat.lt_of_lt_of_le V_s.lt gea)
  have ge_a : n0 ≤ a := Nat.le_trans (own_z0 Od) gea
  have gz_a : h0.size ≤ a := Nat.le_trans Kp.1 gea
  have V_s := V_s.keep Kd nin0
  have Od := Od.keep Kd all0
  have Kp := Kp.trans Kd all0
  refine own_st st54 ?_
  show own_Go p e below s _ _ _ (T54.setTop (mkF m 26 #[.val (.ref sr), .val (.int (0 : Int32)), .val (.int (3 : Int32)), .val (.ref ds), .val (.int (own_first [x0, x1, x2] 0)), .unset] [(.ref a)]))
  refine own_st (fun t9 k9 => XS.astore X54.here hx rfl (hb hby own_d_jdk_52_method_16_26) rfl rfl (l' := #[.val (.ref sr), .val (.int (0 : Int32)), .val (.int (3 : Int32)), .val (.ref ds), .val (.int (own_first [x0, x1, x2] 0)), .val (.ref a)]) rfl k9) ?_
  show own_Go p e below s _ _ _ (T54.setTop (mkF m 28 #[.val (.ref sr), .val (.int (0 : Int32)), .val (.int (3 : Int32)), .val (.ref ds), .val (.int (own_first [x0, x1, x2] 0)), .val (.ref a)] []))
  refine own_st (fun t9 k9 => XS.aload X54.here hx rfl (hb hby own_d_jdk_52_method_16_28) rfl rfl k9) ?_
  show own_Go p e below s _ _ _ (T54.setTop (mkF m 30 #[.val (.ref sr), .val (.int (0 : Int32)), .val (.int (3 : Int32)), .val (.ref ds), .val (.int (own_first [x0, x1, x2] 0)), .val (.ref a)] [(.ref a)]))
  refine own_st (fun t9 k9 => XS.iload X54.here hx rfl (hb hby own_d_jdk_52_method_16_30) rfl  k9) ?_
  show own_Go p e below s _ _ _ (T54.setTop (mkF m 32 #[.val (.ref sr), .val (.int (0 : Int32)), .val (.int (3 : Int32)), .val (.ref ds), .val (.int (own_first [x0, x1, x2] 0)), .val (.ref a)] [(.int (own_first [x0, x1, x2] 0)), (.ref a)]))
  obtain ⟨c9, r9, g9, b0, b1, q0, q1⟩ : ∃ c9 : Int32, (¬ c9 < 0 ∧ ¬ (65535 : Int32) < c9) ∧ (255 : Int32) < c9 ∧ (¬ ((own_first [x0, x1, x2] 0) <<< ((1 : Int32) &&& 31)) < 0 ∧ ((own_first [x0, x1, x2] 0) <<< ((1 : Int32) &&& 31)) < (6 : Int32)) ∧ (¬ (((own_first [x0, x1, x2] 0) <<< ((1 : Int32) &&& 31)) + (1 : Int32)) < 0 ∧ (((own_first [x0, x1, x2] 0) <<< ((1 : Int32) &&& 31)) + (1 : Int32)) < (6 : Int32)) ∧ ([(.int (StrChars.lo8 x0)), (.int (StrChars.hi8 x0)), (.int (StrChars.lo8 x1)), (.int (StrChars.hi8 x1)), (.int (StrChars.lo8 x2)), (.int (StrChars.hi8 x2))] : List Value).getD ((own_first [x0, x1, x2] 0) <<< ((1 : Int32) &&& 31)).toNatClampNeg (.int (0 : Int32)) = .int (StrChars.lo8 c9) ∧ ([(.int (StrChars.lo8 x0)), (.int (StrChars.hi8 x0)), (.int (StrChars.lo8 x1)), (.int (StrChars.hi8 x1)), (.int (StrChars.lo8 x2)), (.int (StrChars.hi8 x2))] : List Value).getD (((own_first [x0, x1, x2] 0) <<< ((1 : Int32) &&& 31)) + (1 : Int32)).toNatClampNeg (.int (0 : Int32)) = .int (StrChars.hi8 c9) := by
    by_cases hg0 : (255 : Int32) < x0
    · rw [(show own_first [x0, x1, x2] 0 = (0 : Int32) from (if_pos hg0))]
      exact ⟨x0, hr0, hg0, by decide, by decide, rfl, rfl⟩
    by_cases hg1 : (255 : Int32) < x1
    · rw [(show own_first [x0, x1, x2] 0 = (1 : Int32) from ((if_neg hg0).trans (if_pos hg1)))]
      exact ⟨x1, hr1, hg1, by decide, by decide, rfl, rfl⟩
    by_cases hg2 : (255 : Int32) < x2
    · rw [(show own_first [x0, x1, x2] 0 = (2 : Int32) from ((if_neg hg0).trans ((if_neg hg1).trans (if_pos hg2))))]
      exact ⟨x2, hr2, hg2, by decide, by decide, rfl, rfl⟩
    exact absurd (show own_first [x0, x1, x2] 0 = (3 : Int32) from ((if_neg hg0).trans ((if_neg hg1).trans ((if_neg hg2).trans rfl)))) hm
  obtain ⟨_, T55, h55, L55, X55, e55, ⟨rfl, Nq, hu⟩, st55⟩ := own_callS X54 hx hZ hown (hw _ (List.mem_of_getElem? (i := 69) rfl)) (hw _ (List.mem_of_getElem? (i := 70) rfl)) (hw _ (List.mem_of_getElem? (i := 21) rfl)) (hw _ (List.mem_of_getElem? (i := 71) rfl)) (by decide) (own_rm_getc l Z a0 hw [] a (own_first [x0, x1, x2] 0) (6 : Int32) (StrChars.lo8 c9) (StrChars.hi8 c9) ka [(.int (StrChars.lo8 x0)), (.int (StrChars.hi8 x0)), (.int (StrChars.lo8 x1)), (.int (StrChars.hi8 x1)), (.int (StrChars.lo8 x2)), (.int (StrChars.hi8 x2))] h54 n0 Od V_a b0 b1 q0 q1 OA OH OL) (by decide) (by decide) e54 (W := 0) (g := (mkF m 32 #[.val (.ref sr), .val (.int (0 : Int32)), .val (.int (3 : Int32)), .val (.ref ds), .val (.int (own_first [x0, x1, x2] 0)), .val (.ref a)] [(.int (own_first [x0, x1, x2] 0)), (.ref a)])) rfl (by rw [hml]; rfl) (argsL := [(.ref a), (.int (own_first [x0, x1, x2] 0))]) (rest := []) rfl (lenOf own_pd5 rfl) rfl (by show 2 * 0 + _ ≤ _; exact Nat.le_of_eq rfl) (hb hby own_d_jdk_52_method_16_32) (by decide) (by decide)
  have N55 := Fr.app N54 Nq
  refine own_st st55 ?_
  show own_Go p e below s _ _ _ (T55.setTop (mkF m 35 #[.val (.ref sr), .val (.int (0 : Int32)), .val (.int (3 : Int32)), .val (.ref ds), .val (.int (own_first [x0, x1, x2] 0)), .val (.ref a)] [(.int (nar .char ((((StrChars.lo8 c9 &&& 255) <<< ((0 : Int32) &&& 31)) ||| ((StrChars.hi8 c9 &&& 255) <<< ((8 : Int32) &&& 31))).toUInt32.toUInt16.toUInt32.toInt32)))]))
  rw [own_pair r9.1 r9.2]
  show own_Go p e below s _ _ _ (T55.setTop (mkF m 35 #[.val (.ref sr), .val (.int (0 : Int32)), .val (.int (3 : Int32)), .val (.ref ds), .val (.int (own_first [x0, x1, x2] 0)), .val (.ref a)] [(.int c9)]))
  refine own_st (fun t9 k9 => XS.sipush X55.here hx rfl (hb hby own_d_jdk_52_method_16_35) k9) ?_
  show own_Go p e below s _ _ _ (T55.setTop (mkF m 38 #[.val (.ref sr), .val (.int (0 : Int32)), .val (.int (3 : Int32)), .val (.ref ds), .val (.int (own_first [x0, x1, x2] 0)), .val (.ref a)] [(.int (255 : Int32)), (.int c9)]))
  refine own_st (fun t9 k9 => XS.icmpYes X55.here hx rfl (pc0 := 38) (pc' := 54) rfl (hb hby own_d_jdk_52_method_16_38) rfl (tlt (g9 : (255 : Int32) < c9)).2.2.1 (by decide) (by decide) k9) ?_
  show own_Go p e below s _ _ _ (T55.setTop (mkF m 54 #[.val (.ref sr), .val (.int (0 : Int32)), .val (.int (3 : Int32)), .val (.ref ds), .val (.int (own_first [x0, x1, x2] 0)), .val (.ref a)] []))
  refine own_st (fun t9 k9 => XS.aload X55.here hx rfl (hb hby own_d_jdk_52_method_16_54) rfl rfl k9) ?_
  show own_Go p e below s _ _ _ (T55.setTop (mkF m 56 #[.val (.ref sr), .val (.int (0 : Int32)), .val (.int (3 : Int32)), .val (.ref ds), .val (.int (own_first [x0, x1, x2] 0)), .val (.ref a)] [(.ref a)]))
  exact own_retR X55 hx hlk Bd.returns rfl rfl (hb hby own_d_jdk_52_method_16_56) (by decide) (by decide) (by rw [(e55.trans hu)]; exact ⟨N55, Kp, a, ka, rfl, gz_a, V_a⟩)
theorem own_ef_cfal3 (m : MethodId) (x0 : Addr) (x1 : Int32) : entryFrame m #[(.ref x0), (.int x1)] 2 = mkF m 0 #[.val (.ref x0), .val (.int x1)] [] := by first | (simp [entryFrame, mkF, argsToLocals, Value.category]; done) | rfl
def own_Q_cfal3 (Z : State)  (h0 : Heap) (n0 : Nat) (v : Option Value) (h : Heap) (L : List Loc) : Prop := v = some (.int (1 : Int32)) ∧ Fr n0 L ∧ h = h0
set_option maxRecDepth 65536 in
set_option maxHeartbeats 40000000 in
theorem own_rm_cfal3 (l : Launch) (Z : State) (a0 : Array Value) (hw : ∀ d ∈ tables_1, d.before a0 Z = true) (ws : List Jvm.Cond) (b : Addr) (kb : ClassId) (vs : List Value) (h0 : Heap) (n0 : Nat) (Od : Old Z n0 h0) (A : Arv Z h0 b kb .byte (6 : Int32) vs (.int (0 : Int32))) :
    MetFree l (⟨"java/lang/StringUTF16", "coderFromArrayLen", "([BI)B"⟩ : MethodName) (head1 (Jvm.Cond.code (⟨"java/lang/StringUTF16", "coderFromArrayLen", "([BI)B"⟩ : MethodName) jdk_52_method_15_code 2 (some .byte) :: ws) ({ frames := 0, cells := 0, slots := 0, locals := 0 } : Room)) (fun a9 U => a9 = #[(.ref b), (.int (3 : Int32))] ∧ Z.Warmed39 U.vm ∧ U.heap = h0) (fun _ _ _ _ _ => True) (fun _ U o U' => ∃ v L, o = .returned v ∧ own_Q_cfal3 Z  h0 n0 v U'.heap L ∧ FrameEnd U o U' L ({ frames := 0, cells := 0, slots := 0, locals := 0 } : Room).cells ({ frames := 0, cells := 0, slots := 0, locals := 0 } : Room).slots) := by
  refine MetFree.of_bodySF (plainFor_of_name own_pn0) hisR ?_
  intro p e s m args below meth c s₁ Bd hml0 hP hK
  obtain ⟨rfl, hZ, hh⟩ := hP
  have hx := Bd.exec
  have hby := Bd.bytes
  have hml : c.maxLocals = 2 := hml0
  have hown : s.vm.findClass "java/lang/StringUTF16" = some m.cls := findClass_of_methodNamed Bd.named
  have hnm := (name_of_methodNamed Bd.named Bd.method).1
  have hlk : meth.locks = false := Bd.notSynchronized
  have X0 : Stand p l e ({ frames := 0, cells := 0, slots := 0, locals := 0 } : Room) s m #[(.ref b), (.int (3 : Int32))] below meth c s₁ [] 0 0 := Stand.of_body Bd
  have e0 : s₁.heap = h0 := by rw [← hh, Bd.state]; rfl
  have N0 := Fr.nil n0
  show own_Go p e below s (own_Q_cfal3 Z  h0 n0) ({ frames := 0, cells := 0, slots := 0, locals := 0 } : Room).cells ({ frames := 0, cells := 0, slots := 0, locals := 0 } : Room).slots (s₁.setTop (entryFrame m #[(.ref b), (.int (3 : Int32))] 2))
  refine own_st (fun t9 k9 => castTop (own_ef_cfal3 m b (3 : Int32)) k9) ?_
  show own_Go p e below s _ _ _ (s₁.setTop (mkF m 0 #[.val (.ref b), .val (.int (3 : Int32))] []))
  refine own_st (fun t9 k9 => XS.iloadN X0.here hx rfl (hb hby own_d_jdk_52_method_15_0) rfl  k9) ?_
  show own_Go p e below s _ _ _ (s₁.setTop (mkF m 1 #[.val (.ref b), .val (.int (3 : Int32))] [(.int (3 : Int32))]))
  refine own_st (fun t9 k9 => XS.aloadN X0.here hx rfl (hb hby own_d_jdk_52_method_15_1) rfl rfl k9) ?_
  show own_Go p e below s _ _ _ (s₁.setTop (mkF m 2 #[.val (.ref b), .val (.int (3 : Int32))] [(.ref b), (.int (3 : Int32))]))
  refine own_st (fun t9 k9 => own_alen X0 hx hZ e0 A (g := (mkF m 2 #[.val (.ref b), .val (.int (3 : Int32))] [(.ref b), (.int (3 : Int32))])) rfl rfl (hb hby own_d_jdk_52_method_15_2) t9 k9) ?_
  show own_Go p e below s _ _ _ (s₁.setTop (mkF m 3 #[.val (.ref b), .val (.int (3 : Int32))] [(.int (6 : Int32)), (.int (3 : Int32))]))
  refine own_st (fun t9 k9 => XS.isub X0.here hx rfl (hb hby own_d_jdk_52_method_15_3) rfl k9) ?_
  show own_Go p e below s _ _ _ (s₁.setTop (mkF m 4 #[.val (.ref b), .val (.int (3 : Int32))] [(.int ((3 : Int32) - (6 : Int32)))]))
  refine own_st (fun t9 k9 => XS.bipush X0.here hx rfl (hb hby own_d_jdk_52_method_15_4) k9) ?_
  show own_Go p e below s _ _ _ (s₁.setTop (mkF m 6 #[.val (.ref b), .val (.int (3 : Int32))] [(.int (31 : Int32)), (.int ((3 : Int32) - (6 : Int32)))]))
  refine own_st (fun t9 k9 => XT.iushr X0.here hx rfl (hb hby own_d_jdk_52_method_15_6) rfl k9) ?_
  show own_Go p e below s _ _ _ (s₁.setTop (mkF m 7 #[.val (.ref b), .val (.int (3 : Int32))] [(.int ((((3 : Int32) - (6 : Int32)).toUInt32 >>> ((31 : Int32) &&& 31).toUInt32).toInt32))]))
  refine own_st (fun t9 k9 => XT.i2b X0.here hx rfl (hb hby own_d_jdk_52_method_15_7) rfl k9) ?_
  show own_Go p e below s _ _ _ (s₁.setTop (mkF m 8 #[.val (.ref b), .val (.int (3 : Int32))] [(.int (((((3 : Int32) - (6 : Int32)).toUInt32 >>> ((31 : Int32) &&& 31).toUInt32).toInt32).toInt8.toInt32))]))
  exact own_retN X0 hx hlk (t := .byte) Bd.returns (by simp) (hb hby own_d_jdk_52_method_15_8) (by decide) (by decide) (by rw [e0]; exact ⟨by decide, N0, rfl⟩)
theorem own_ef_si2_3 (m : MethodId) (x0 : Addr) (x1 : Addr) (x2 : Int32) (x3 : Int32) : entryFrame m #[(.ref x0), (.ref x1), (.int x2), (.int x3), .null] 6 = mkF m 0 #[.val (.ref x0), .val (.ref x1), .val (.int x2), .val (.int x3), .val .null, .unset] [] := by first | (simp [entryFrame, mkF, argsToLocals, Value.category]; done) | rfl
def own_Q_si2_3 (Z : State) (x : Addr) (x0 : Int32) (x1 : Int32) (x2 : Int32) (h0 : Heap) (n0 : Nat) (v : Option Value) (h : Heap) (L : List Loc) : Prop := v = none ∧ Fr n0 L ∧ Keep h0 h [x] ∧ Exa Z h x "java/lang/String" ∧ Fld Z h x "java/lang/String" "coder" "B" (.int (1 : Int32)) ∧ ∃ t k, h0.size ≤ t ∧ Fld Z h x "java/lang/String" "value" "[B" (.ref t) ∧ Arv Z h t k .byte (6 : Int32) [(.int (StrChars.lo8 x0)), (.int (StrChars.hi8 x0)), (.int (StrChars.lo8 x1)), (.int (StrChars.hi8 x1)), (.int (StrChars.lo8 x2)), (.int (StrChars.hi8 x2))] (.int (0 : Int32))
set_option maxRecDepth 65536 in
set_option maxHeartbeats 40000000 in
theorem own_rm_si2_3 (l : Launch) (Z : State) (a0 : Array Value) (hw : ∀ d ∈ tables_1, d.before a0 Z = true) (ws : List Jvm.Cond) (x : Addr) (sr : Addr) (ks : ClassId) (v0 c0 : Value) (G : Int32) (x0 : Int32) (x1 : Int32) (x2 : Int32) (h0 : Heap) (n0 : Nat) (Od : Old Z n0 h0) (E_x : Exa Z h0 x "java/lang/String") (F_v : Fld Z h0 x "java/lang/String" "value" "[B" v0) (F_k : Fld Z h0 x "java/lang/String" "coder" "B" c0) (V_s : Arv Z h0 sr ks .char (3 : Int32) [(.int x0), (.int x1), (.int x2)] (.int (0 : Int32))) (ge_x : n0 ≤ x) (ne_s : sr ≠ x) (hr0 : ¬ x0 < 0 ∧ ¬ (65535 : Int32) < x0) (hr1 : ¬ x1 < 0 ∧ ¬ (65535 : Int32) < x1) (hr2 : ¬ x2 < 0 ∧ ¬ (65535 : Int32) < x2) (hm : ¬ own_first [x0, x1, x2] 0 = (3 : Int32)) (OA : Sta Z Z.heap "java/lang/StringUTF16" "$assertionsDisabled" "Z" (.int (1 : Int32))) (OH : Sta Z Z.heap "java/lang/StringUTF16" "HI_BYTE_SHIFT" "I" (.int (0 : Int32))) (OL : Sta Z Z.heap "java/lang/StringUTF16" "LO_BYTE_SHIFT" "I" (.int (8 : Int32))) (O2 : Sta Z Z.heap "java/lang/String" "COMPACT_STRINGS" "Z" (.int G)) (P5 : ¬ (G = (0 : Int32))) :
    MetFree l (⟨"java/lang/String", "<init>", "([CIILjava/lang/Void;)V"⟩ : MethodName) (head1 (Jvm.Cond.code (⟨"java/lang/String", "<init>", "([CIILjava/lang/Void;)V"⟩ : MethodName) jdk_42_method_149_code 6 none :: ws) ({ frames := 4, cells := 2, slots := 9, locals := 57 } : Room)) (fun a9 U => a9 = #[(.ref x), (.ref sr), (.int (0 : Int32)), (.int (3 : Int32)), .null] ∧ Z.Warmed39 U.vm ∧ U.heap = h0) (fun _ _ _ _ _ => True) (fun _ U o U' => ∃ v L, o = .returned v ∧ own_Q_si2_3 Z x x0 x1 x2 h0 n0 v U'.heap L ∧ FrameEnd U o U' L ({ frames := 4, cells := 2, slots := 9, locals := 57 } : Room).cells ({ frames := 4, cells := 2, slots := 9, locals := 57 } : Room).slots) := by
  refine MetFree.of_bodySF (plainFor_of_name own_pn1) hisR ?_
  intro p e s m args below meth c s₁ Bd hml0 hP hK
  obtain ⟨rfl, hZ, hh⟩ := hP
  have hx := Bd.exec
  have hby := Bd.bytes
  have hml : c.maxLocals = 6 := hml0
  have hown : s.vm.findClass "java/lang/String" = some m.cls := findClass_of_methodNamed Bd.named
  have hnm := (name_of_methodNamed Bd.named Bd.method).1
  have hlk : meth.locks = false := Bd.notSynchronized
  have X0 : Stand p l e ({ frames := 4, cells := 2, slots := 9, locals := 57 } : Room) s m #[(.ref x), (.ref sr), (.int (0 : Int32)), (.int (3 : Int32)), .null] below meth c s₁ [] 0 0 := Stand.of_body Bd
  have e0 : s₁.heap = h0 := by rw [← hh, Bd.state]; rfl
  have N0 := Fr.nil n0
  show own_Go p e below s (own_Q_si2_3 Z x x0 x1 x2 h0 n0) ({ frames := 4, cells := 2, slots := 9, locals := 57 } : Room).cells ({ frames := 4, cells := 2, slots := 9, locals := 57 } : Room).slots (s₁.setTop (entryFrame m #[(.ref x), (.ref sr), (.int (0 : Int32)), (.int (3 : Int32)), .null] 6))
  refine own_st (fun t9 k9 => castTop (own_ef_si2_3 m x sr (0 : Int32) (3 : Int32)) k9) ?_
  show own_Go p e below s _ _ _ (s₁.setTop (mkF m 0 #[.val (.ref x), .val (.ref sr), .val (.int (0 : Int32)), .val (.int (3 : Int32)), .val .null, .unset] []))
  have Kp : Keep h0 h0 [x] := Keep.refl h0 [x]
  refine own_st (fun t9 k9 => XS.aloadN X0.here hx rfl (hb hby own_d_jdk_42_method_149_0) rfl rfl k9) ?_
  show own_Go p e below s _ _ _ (s₁.setTop (mkF m 1 #[.val (.ref x), .val (.ref sr), .val (.int (0 : Int32)), .val (.int (3 : Int32)), .val .null, .unset] [(.ref x)]))
  obtain ⟨T56, X56, e56, st56⟩ := initO X0 hx hZ hown (hw _ (List.mem_of_getElem? (i := 15) rfl)) (hw _ (List.mem_of_getElem? (i := 16) rfl)) (hw _ (List.mem_of_getElem? (i := 17) rfl)) e0 (g := (mkF m 1 #[.val (.ref x), .val (.ref sr), .val (.int (0 : Int32)), .val (.int (3 : Int32)), .val .null, .unset] [(.ref x)])) rfl (by rw [hml]; rfl) rfl (hb hby own_d_jdk_42_method_149_1) (by decide) (W := 0) (by show 2 * 0 + _ ≤ _; exact Nat.le_of_eq rfl) (by decide)
  refine own_st st56 ?_
  show own_Go p e below s _ _ _ (T56.setTop (mkF m 4 #[.val (.ref x), .val (.ref sr), .val (.int (0 : Int32)), .val (.int (3 : Int32)), .val .null, .unset] []))
  refine own_st (fun t9 k9 => XS.iloadN X56.here hx rfl (hb hby own_d_jdk_42_method_149_4) rfl  k9) ?_
  show own_Go p e below s _ _ _ (T56.setTop (mkF m 5 #[.val (.ref x), .val (.ref sr), .val (.int (0 : Int32)), .val (.int (3 : Int32)), .val .null, .unset] [(.int (3 : Int32))]))
  refine own_st (fun t9 k9 => XS.ifYes X56.here hx rfl (pc0 := 5) (pc' := 27) rfl (hb hby own_d_jdk_42_method_149_5) rfl (by decide) (by decide) (by decide) k9) ?_
  show own_Go p e below s _ _ _ (T56.setTop (mkF m 27 #[.val (.ref x), .val (.ref sr), .val (.int (0 : Int32)), .val (.int (3 : Int32)), .val .null, .unset] []))
  obtain ⟨T57, X57, e57, st57⟩ := getS (host := "") X56 hx hZ hown (hw _ (List.mem_of_getElem? (i := 18) rfl)) Via.refl e56 (O2.ext Od.2) (g := (mkF m 27 #[.val (.ref x), .val (.ref sr), .val (.int (0 : Int32)), .val (.int (3 : Int32)), .val .null, .unset] [])) rfl (hb hby own_d_jdk_42_method_149_27)
  refine own_st st57 ?_
  show own_Go p e below s _ _ _ (T57.setTop (mkF m 30 #[.val (.ref x), .val (.ref sr), .val (.int (0 : Int32)), .val (.int (3 : Int32)), .val .null, .unset] [(.int G)]))
  refine own_st (fun t9 k9 => XS.ifNo X57.here hx rfl (hb hby own_d_jdk_42_method_149_30) rfl ((if0 _ _).trans (feq (P5 : ¬ (G = (0 : Int32)))).1) k9) ?_
  show own_Go p e below s _ _ _ (T57.setTop (mkF m 33 #[.val (.ref x), .val (.ref sr), .val (.int (0 : Int32)), .val (.int (3 : Int32)), .val .null, .unset] []))
  refine own_st (fun t9 k9 => XS.aloadN X57.here hx rfl (hb hby own_d_jdk_42_method_149_33) rfl rfl k9) ?_
  show own_Go p e below s _ _ _ (T57.setTop (mkF m 34 #[.val (.ref x), .val (.ref sr), .val (.int (0 : Int32)), .val (.int (3 : Int32)), .val .null, .unset] [(.ref sr)]))
  refine own_st (fun t9 k9 => XS.iloadN X57.here hx rfl (hb hby own_d_jdk_42_method_149_34) rfl  k9) ?_
  show own_Go p e below s _ _ _ (T57.setTop (mkF m 35 #[.val (.ref x), .val (.ref sr), .val (.int (0 : Int32)), .val (.int (3 : Int32)), .val .null, .unset] [(.int (0 : Int32)), (.ref sr)]))
  refine own_st (fun t9 k9 => XS.iloadN X57.here hx rfl (hb hby own_d_jdk_42_method_149_35) rfl  k9) ?_
  show own_Go p e below s _ _ _ (T57.setTop (mkF m 36 #[.val (.ref x), .val (.ref sr), .val (.int (0 : Int32)), .val (.int (3 : Int32)), .val .null, .unset] [(.int (3 : Int32)), (.int (0 : Int32)), (.ref sr)]))
  obtain ⟨_, T58, h58, L58, X58, e58, ⟨Nc, Kc, t, kt, rfl, get, V_t⟩, st58⟩ := own_callS X57 hx hZ hown (hw _ (List.mem_of_getElem? (i := 19) rfl)) (hw _ (List.mem_of_getElem? (i := 20) rfl)) (hw _ (List.mem_of_getElem? (i := 21) rfl)) (hw _ (List.mem_of_getElem? (i := 22) rfl)) (by decide) (own_rm_cp3 l Z a0 hw [] sr ks x0 x1 x2 h0 n0 Od V_s hr0 hr1 hr2 hm OA OH OL) (by decide) (by decide) e57 (W := 0) (g := (mkF m 36 #[.val (.ref x), .val (.ref sr), .val (.int (0 : Int32)), .val (.int (3 : Int32)), .val .null, .unset] [(.int (3 : Int32)), (.int (0 : Int32)), (.ref sr)])) rfl (by rw [hml]; rfl) (argsL := [(.ref sr), (.int (0 : Int32)), (.int (3 : Int32))]) (rest := []) rfl (lenOf own_pd4 rfl) rfl (by show 2 * 0 + _ ≤ _; exact Nat.le_of_eq rfl) (hb hby own_d_jdk_42_method_149_36) (by decide) (by decide)
  have N58 := Fr.app N0 Nc
  have ne_x_t : x ≠ t := Nat.ne_of_lt (Nat.lt_of_lt_of_le E_x.lt get)
  have ne_sr_t : sr ≠ t := Nat.ne_of_lt (Nat.lt_of_lt_of_le V_s.lt get)
  have ge_t : n0 ≤ t := Nat.le_trans (own_z0 Od) get
  have gz_t : h0.size ≤ t := Nat.le_trans Kp.1 get
  have E_x := E_x.keep Kc
  have F_v := F_v.keep Kc nin0
  have F_k := F_k.keep Kc nin0
  have V_s := V_s.keep Kc nin0
  have Od := Od.keep Kc all0
  have Kp := Kp.trans Kc all0
  refine own_st st58 ?_
  show own_Go p e below s _ _ _ (T58.setTop (mkF m 39 #[.val (.ref x), .val (.ref sr), .val (.int (0 : Int32)), .val (.int (3 : Int32)), .val .null, .unset] [(.ref t)]))
  refine own_st (fun t9 k9 => XS.astore X58.here hx rfl (hb hby own_d_jdk_42_method_149_39) rfl rfl (l' := #[.val (.ref x), .val (.ref sr), .val (.int (0 : Int32)), .val (.int (3 : Int32)), .val .null, .val (.ref t)]) rfl k9) ?_
  show own_Go p e below s _ _ _ (T58.setTop (mkF m 41 #[.val (.ref x), .val (.ref sr), .val (.int (0 : Int32)), .val (.int (3 : Int32)), .val .null, .val (.ref t)] []))
  refine own_st (fun t9 k9 => XS.aloadN X58.here hx rfl (hb hby own_d_jdk_42_method_149_41) rfl rfl k9) ?_
  show own_Go p e below s _ _ _ (T58.setTop (mkF m 42 #[.val (.ref x), .val (.ref sr), .val (.int (0 : Int32)), .val (.int (3 : Int32)), .val .null, .val (.ref t)] [(.ref x)]))
  refine own_st (fun t9 k9 => XS.aload X58.here hx rfl (hb hby own_d_jdk_42_method_149_42) rfl rfl k9) ?_
  show own_Go p e below s _ _ _ (T58.setTop (mkF m 44 #[.val (.ref x), .val (.ref sr), .val (.int (0 : Int32)), .val (.int (3 : Int32)), .val .null, .val (.ref t)] [(.ref t), (.ref x)]))
  refine own_st (fun t9 k9 => XS.iloadN X58.here hx rfl (hb hby own_d_jdk_42_method_149_44) rfl  k9) ?_
  show own_Go p e below s _ _ _ (T58.setTop (mkF m 45 #[.val (.ref x), .val (.ref sr), .val (.int (0 : Int32)), .val (.int (3 : Int32)), .val .null, .val (.ref t)] [(.int (3 : Int32)), (.ref t), (.ref x)]))
  obtain ⟨_, T59, h59, L59, X59, e59, ⟨rfl, Nd, hu⟩, st59⟩ := own_callS X58 hx hZ hown (hw _ (List.mem_of_getElem? (i := 27) rfl)) (hw _ (List.mem_of_getElem? (i := 28) rfl)) (hw _ (List.mem_of_getElem? (i := 21) rfl)) (hw _ (List.mem_of_getElem? (i := 29) rfl)) (by decide) (own_rm_cfal3 l Z a0 hw [] t kt _ h58 n0 Od V_t) (by decide) (by decide) e58 (W := 1) (g := (mkF m 45 #[.val (.ref x), .val (.ref sr), .val (.int (0 : Int32)), .val (.int (3 : Int32)), .val .null, .val (.ref t)] [(.int (3 : Int32)), (.ref t), (.ref x)])) rfl (by rw [hml]; rfl) (argsL := [(.ref t), (.int (3 : Int32))]) (rest := [(.ref x)]) rfl (lenOf own_pd6 rfl) rfl (by show 2 * 0 + _ ≤ _; exact Nat.le_of_eq rfl) (hb hby own_d_jdk_42_method_149_45) (by decide) (by decide)
  have N59 := Fr.app N58 Nd
  refine own_st st59 ?_
  show own_Go p e below s _ _ _ (T59.setTop (mkF m 48 #[.val (.ref x), .val (.ref sr), .val (.int (0 : Int32)), .val (.int (3 : Int32)), .val .null, .val (.ref t)] [(.int (1 : Int32)), (.ref x)]))
  obtain ⟨T60, h60, X60, e60, W60, st60⟩ := putFN X59 hx hZ hown (hw _ (List.mem_of_getElem? (i := 30) rfl)) Via.refl (e59.trans hu) F_k E_x (Or.inr ⟨(hw _ (List.mem_of_getElem? (i := 31) rfl)), rfl, hnm⟩) (hw _ (List.mem_of_getElem? (i := 5) rfl)) (ty := .byte) (v' := (.int (1 : Int32))) (by decide) rfl rfl (g := (mkF m 48 #[.val (.ref x), .val (.ref sr), .val (.int (0 : Int32)), .val (.int (3 : Int32)), .val .null, .val (.ref t)] [(.int (1 : Int32)), (.ref x)])) rfl rfl (hb hby own_d_jdk_42_method_149_48)
  have N60 := Fr.snoc X60 N59 ge_x
  have E_x := E_x.wr W60
  have F_v := F_v.other W60 (Or.inr (RoadKit.slot_ne (Or.inr (hw _ (List.mem_of_getElem? (i := 33) rfl))) (Or.inr (hw _ (List.mem_of_getElem? (i := 31) rfl))) (by decide) (t := (.array .byte)) (t' := .byte) (by decide) (by decide)))
  have F_k := F_k.same W60
  have V_s := V_s.other W60 ne_s
  have V_t := V_t.other W60 (Ne.symm ne_x_t)
  have Od := Od.wr W60 ge_x
  have Kp := Kp.wr W60 (Or.inl (List.mem_of_getElem? (i := 0) rfl))
  refine own_st st60 ?_
  show own_Go p e below s _ _ _ (T60.setTop (mkF m 51 #[.val (.ref x), .val (.ref sr), .val (.int (0 : Int32)), .val (.int (3 : Int32)), .val .null, .val (.ref t)] []))
  refine own_st (fun t9 k9 => XS.aloadN X60.here hx rfl (hb hby own_d_jdk_42_method_149_51) rfl rfl k9) ?_
  show own_Go p e below s _ _ _ (T60.setTop (mkF m 52 #[.val (.ref x), .val (.ref sr), .val (.int (0 : Int32)), .val (.int (3 : Int32)), .val .null, .val (.ref t)] [(.ref x)]))
  refine own_st (fun t9 k9 => XS.aload X60.here hx rfl (hb hby own_d_jdk_42_method_149_52) rfl rfl k9) ?_
  show own_Go p e below s _ _ _ (T60.setTop (mkF m 54 #[.val (.ref x), .val (.ref sr), .val (.int (0 : Int32)), .val (.int (3 : Int32)), .val .null, .val (.ref t)] [(.ref t), (.ref x)]))
  obtain ⟨T61, h61, X61, e61, W61, st61⟩ := putF X60 hx hZ hown (host := "") (Or.inl (hw _ (List.mem_of_getElem? (i := 32) rfl))) Via.refl e60 F_v E_x (Or.inr ⟨(hw _ (List.mem_of_getElem? (i := 33) rfl)), rfl, hnm⟩) (hw _ (List.mem_of_getElem? (i := 5) rfl)) (ty := (.array .byte)) (by decide) rfl rfl (g := (mkF m 54 #[.val (.ref x), .val (.ref sr), .val (.int (0 : Int32)), .val (.int (3 : Int32)), .val .null, .val (.ref t)] [(.ref t), (.ref x)])) rfl rfl (hb hby own_d_jdk_42_method_149_54)
  have N61 := Fr.snoc X61 N60 ge_x
  have E_x := E_x.wr W61
  have F_v := F_v.same W61
  have F_k := F_k.other W61 (Or.inr (RoadKit.slot_ne (Or.inr (hw _ (List.mem_of_getElem? (i := 31) rfl))) (Or.inr (hw _ (List.mem_of_getElem? (i := 33) rfl))) (by decide) (t := .byte) (t' := (.array .byte)) (by decide) (by decide)))
  have V_s := V_s.other W61 ne_s
  have V_t := V_t.other W61 (Ne.symm ne_x_t)
  have Od := Od.wr W61 ge_x
  have Kp := Kp.wr W61 (Or.inl (List.mem_of_getElem? (i := 0) rfl))
  refine own_st st61 ?_
  show own_Go p e below s _ _ _ (T61.setTop (mkF m 57 #[.val (.ref x), .val (.ref sr), .val (.int (0 : Int32)), .val (.int (3 : Int32)), .val .null, .val (.ref t)] []))
  exact own_retV X61 hx hlk Bd.returns (hb hby own_d_jdk_42_method_149_57) (by decide) (by decide) (by rw [e61]; exact ⟨rfl, N61, Kp, E_x, F_k, t, kt, gz_t, F_v, V_t⟩)
theorem own_ef_si1_3 (m : MethodId) (x0 : Addr) (x1 : Addr) : entryFrame m #[(.ref x0), (.ref x1)] 2 = mkF m 0 #[.val (.ref x0), .val (.ref x1)] [] := by first | (simp [entryFrame, mkF, argsToLocals, Value.category]; done) | rfl
def own_Q_si1_3 (Z : State) (x : Addr) (x0 : Int32) (x1 : Int32) (x2 : Int32) (h0 : Heap) (n0 : Nat) (v : Option Value) (h : Heap) (L : List Loc) : Prop := v = none ∧ Fr n0 L ∧ Keep h0 h [x] ∧ Exa Z h x "java/lang/String" ∧ Fld Z h x "java/lang/String" "coder" "B" (.int (1 : Int32)) ∧ ∃ t k, h0.size ≤ t ∧ Fld Z h x "java/lang/String" "value" "[B" (.ref t) ∧ Arv Z h t k .byte (6 : Int32) [(.int (StrChars.lo8 x0)), (.int (StrChars.hi8 x0)), (.int (StrChars.lo8 x1)), (.int (StrChars.hi8 x1)), (.int (StrChars.lo8 x2)), (.int (StrChars.hi8 x2))] (.int (0 : Int32))
set_option maxRecDepth 65536 in
set_option maxHeartbeats 40000000 in
theorem own_rm_si1_3 (l : Launch) (Z : State) (a0 : Array Value) (hw : ∀ d ∈ tables_1, d.before a0 Z = true) (ws : List Jvm.Cond) (x : Addr) (sr : Addr) (ks : ClassId) (v0 c0 : Value) (G : Int32) (x0 : Int32) (x1 : Int32) (x2 : Int32) (h0 : Heap) (n0 : Nat) (Od : Old Z n0 h0) (E_x : Exa Z h0 x "java/lang/String") (F_v : Fld Z h0 x "java/lang/String" "value" "[B" v0) (F_k : Fld Z h0 x "java/lang/String" "coder" "B" c0) (V_s : Arv Z h0 sr ks .char (3 : Int32) [(.int x0), (.int x1), (.int x2)] (.int (0 : Int32))) (ge_x : n0 ≤ x) (ne_s : sr ≠ x) (hr0 : ¬ x0 < 0 ∧ ¬ (65535 : Int32) < x0) (hr1 : ¬ x1 < 0 ∧ ¬ (65535 : Int32) < x1) (hr2 : ¬ x2 < 0 ∧ ¬ (65535 : Int32) < x2) (hm : ¬ own_first [x0, x1, x2] 0 = (3 : Int32)) (OA : Sta Z Z.heap "java/lang/StringUTF16" "$assertionsDisabled" "Z" (.int (1 : Int32))) (OH : Sta Z Z.heap "java/lang/StringUTF16" "HI_BYTE_SHIFT" "I" (.int (0 : Int32))) (OL : Sta Z Z.heap "java/lang/StringUTF16" "LO_BYTE_SHIFT" "I" (.int (8 : Int32))) (O2 : Sta Z Z.heap "java/lang/String" "COMPACT_STRINGS" "Z" (.int G)) (P5 : ¬ (G = (0 : Int32))) :
    MetFree l (⟨"java/lang/String", "<init>", "([C)V"⟩ : MethodName) (head1 (Jvm.Cond.code (⟨"java/lang/String", "<init>", "([C)V"⟩ : MethodName) jdk_42_method_3_code 2 none :: ws) ({ frames := 5, cells := 2, slots := 9, locals := 74 } : Room)) (fun a9 U => a9 = #[(.ref x), (.ref sr)] ∧ Z.Warmed39 U.vm ∧ U.heap = h0) (fun _ _ _ _ _ => True) (fun _ U o U' => ∃ v L, o = .returned v ∧ own_Q_si1_3 Z x x0 x1 x2 h0 n0 v U'.heap L ∧ FrameEnd U o U' L ({ frames := 5, cells := 2, slots := 9, locals := 74 } : Room).cells ({ frames := 5, cells := 2, slots := 9, locals := 74 } : Room).slots) := by
  refine MetFree.of_bodySF (plainFor_of_name own_pn1) hisR ?_
  intro p e s m args below meth c s₁ Bd hml0 hP hK
  obtain ⟨rfl, hZ, hh⟩ := hP
  have hx := Bd.exec
  have hby := Bd.bytes
  have hml : c.maxLocals = 2 := hml0
  have hown : s.vm.findClass "java/lang/String" = some m.cls := findClass_of_methodNamed Bd.named
  have hnm := (name_of_methodNamed Bd.named Bd.method).1
  have hlk : meth.locks = false := Bd.notSynchronized
  have X0 : Stand p l e ({ frames := 5, cells := 2, slots := 9, locals := 74 } : Room) s m #[(.ref x), (.ref sr)] below meth c s₁ [] 0 0 := Stand.of_body Bd
  have e0 : s₁.heap = h0 := by rw [← hh, Bd.state]; rfl
  have N0 := Fr.nil n0
  show own_Go p e below s (own_Q_si1_3 Z x x0 x1 x2 h0 n0) ({ frames := 5, cells := 2, slots := 9, locals := 74 } : Room).cells ({ frames := 5, cells := 2, slots := 9, locals := 74 } : Room).slots (s₁.setTop (entryFrame m #[(.ref x), (.ref sr)] 2))
  refine own_st (fun t9 k9 => castTop (own_ef_si1_3 m x sr) k9) ?_
  show own_Go p e below s _ _ _ (s₁.setTop (mkF m 0 #[.val (.ref x), .val (.ref sr)] []))
  have Kp : Keep h0 h0 [x] := Keep.refl h0 [x]
  refine own_st (fun t9 k9 => XS.aloadN X0.here hx rfl (hb hby own_d_jdk_42_method_3_0) rfl rfl k9) ?_
  show own_Go p e below s _ _ _ (s₁.setTop (mkF m 1 #[.val (.ref x), .val (.ref sr)] [(.ref x)]))
  refine own_st (fun t9 k9 => XS.aloadN X0.here hx rfl (hb hby own_d_jdk_42_method_3_1) rfl rfl k9) ?_
  show own_Go p e below s _ _ _ (s₁.setTop (mkF m 2 #[.val (.ref x), .val (.ref sr)] [(.ref sr), (.ref x)]))
  refine own_st (fun t9 k9 => XS.iconst X0.here hx rfl (hb hby own_d_jdk_42_method_3_2) k9) ?_
  show own_Go p e below s _ _ _ (s₁.setTop (mkF m 3 #[.val (.ref x), .val (.ref sr)] [(.int (0 : Int32)), (.ref sr), (.ref x)]))
  refine own_st (fun t9 k9 => XS.aloadN X0.here hx rfl (hb hby own_d_jdk_42_method_3_3) rfl rfl k9) ?_
  show own_Go p e below s _ _ _ (s₁.setTop (mkF m 4 #[.val (.ref x), .val (.ref sr)] [(.ref sr), (.int (0 : Int32)), (.ref sr), (.ref x)]))
  refine own_st (fun t9 k9 => own_alen X0 hx hZ e0 V_s (g := (mkF m 4 #[.val (.ref x), .val (.ref sr)] [(.ref sr), (.int (0 : Int32)), (.ref sr), (.ref x)])) rfl rfl (hb hby own_d_jdk_42_method_3_4) t9 k9) ?_
  show own_Go p e below s _ _ _ (s₁.setTop (mkF m 5 #[.val (.ref x), .val (.ref sr)] [(.int (3 : Int32)), (.int (0 : Int32)), (.ref sr), (.ref x)]))
  refine own_st (fun t9 k9 => XS.aconstNull X0.here hx rfl (hb hby own_d_jdk_42_method_3_5) k9) ?_
  show own_Go p e below s _ _ _ (s₁.setTop (mkF m 6 #[.val (.ref x), .val (.ref sr)] [.null, (.int (3 : Int32)), (.int (0 : Int32)), (.ref sr), (.ref x)]))
  obtain ⟨_, T62, h62, L62, X62, e62, ⟨rfl, Nc, Kc, E_y, F_c, t, kt, get, F_u, V_t⟩, st62⟩ := own_callI X0 hx hZ hown rfl (hw _ (List.mem_of_getElem? (i := 11) rfl)) (hw _ (List.mem_of_getElem? (i := 12) rfl)) (hw _ (List.mem_of_getElem? (i := 6) rfl)) (hw _ (List.mem_of_getElem? (i := 14) rfl)) (by decide) (own_rm_si2_3 l Z a0 hw [] x sr ks v0 c0 G x0 x1 x2 h0 n0 Od E_x F_v F_k V_s ge_x ne_s hr0 hr1 hr2 hm OA OH OL O2 P5) (by decide) (by decide) e0 (a := x) (W := 0) (g := (mkF m 6 #[.val (.ref x), .val (.ref sr)] [.null, (.int (3 : Int32)), (.int (0 : Int32)), (.ref sr), (.ref x)])) rfl (by rw [hml]; rfl) (argsL := [(.ref sr), (.int (0 : Int32)), (.int (3 : Int32)), .null]) (rest := []) rfl (lenOf own_pd7 rfl) rfl (by show 2 * 0 + _ ≤ _; exact Nat.le_of_eq rfl) (hb hby own_d_jdk_42_method_3_6) (by decide) (by decide)
  have N62 := Fr.app N0 Nc
  have E_x := E_x.keep Kc
  have V_s := V_s.keep Kc (ninS ne_s nin0)
  have Od := Od.keep Kc (allS ge_x all0)
  have Kp := Kp.trans Kc (allS (Or.inl (List.mem_of_getElem? (i := 0) rfl)) all0)
  refine own_st st62 ?_
  show own_Go p e below s _ _ _ (T62.setTop (mkF m 9 #[.val (.ref x), .val (.ref sr)] []))
  exact own_retV X62 hx hlk Bd.returns (hb hby own_d_jdk_42_method_3_9) (by decide) (by decide) (by rw [e62]; exact ⟨rfl, N62, Kp, E_y, F_c, t, kt, get, F_u, V_t⟩)
theorem own_ef_nbf4 (m : MethodId) (x0 : Int32) : entryFrame m #[(.int x0)] 1 = mkF m 0 #[.val (.int x0)] [] := by first | (simp [entryFrame, mkF, argsToLocals, Value.category]; done) | rfl
def own_Q_nbf4 (Z : State)  (h0 : Heap) (n0 : Nat) (v : Option Value) (h : Heap) (L : List Loc) : Prop := Fr n0 L ∧ Keep h0 h [] ∧ ∃ a k, v = some (.ref a) ∧ h0.size ≤ a ∧ Arv Z h a k .byte (8 : Int32) [(.int (0 : Int32)), (.int (0 : Int32)), (.int (0 : Int32)), (.int (0 : Int32)), (.int (0 : Int32)), (.int (0 : Int32)), (.int (0 : Int32)), (.int (0 : Int32))] (.int (0 : Int32))
set_option maxRecDepth 65536 in
set_option maxHeartbeats 40000000 in
theorem own_rm_nbf4 (l : Launch) (Z : State) (a0 : Array Value) (hw : ∀ d ∈ tables_1, d.before a0 Z = true) (ws : List Jvm.Cond)  (h0 : Heap) (n0 : Nat) (Od : Old Z n0 h0) :
    MetFree l (⟨"java/lang/StringUTF16", "newBytesFor", "(I)[B"⟩ : MethodName) (head1 (Jvm.Cond.code (⟨"java/lang/StringUTF16", "newBytesFor", "(I)[B"⟩ : MethodName) jdk_52_method_2_code 1 (some (.array .byte)) :: ws) ({ frames := 1, cells := 1, slots := 8, locals := 12 } : Room)) (fun a9 U => a9 = #[(.int (4 : Int32))] ∧ Z.Warmed39 U.vm ∧ U.heap = h0) (fun _ _ _ _ _ => True) (fun _ U o U' => ∃ v L, o = .returned v ∧ own_Q_nbf4 Z  h0 n0 v U'.heap L ∧ FrameEnd U o U' L ({ frames := 1, cells := 1, slots := 8, locals := 12 } : Room).cells ({ frames := 1, cells := 1, slots := 8, locals := 12 } : Room).slots) := by
  refine MetFree.of_bodySF (plainFor_of_name own_pn0) hisR ?_
  intro p e s m args below meth c s₁ Bd hml0 hP hK
  obtain ⟨rfl, hZ, hh⟩ := hP
  have hx := Bd.exec
  have hby := Bd.bytes
  have hml : c.maxLocals = 1 := hml0
  have hown : s.vm.findClass "java/lang/StringUTF16" = some m.cls := findClass_of_methodNamed Bd.named
  have hnm := (name_of_methodNamed Bd.named Bd.method).1
  have hlk : meth.locks = false := Bd.notSynchronized
  have X0 : Stand p l e ({ frames := 1, cells := 1, slots := 8, locals := 12 } : Room) s m #[(.int (4 : Int32))] below meth c s₁ [] 0 0 := Stand.of_body Bd
  have e0 : s₁.heap = h0 := by rw [← hh, Bd.state]; rfl
  have N0 := Fr.nil n0
  show own_Go p e below s (own_Q_nbf4 Z  h0 n0) ({ frames := 1, cells := 1, slots := 8, locals := 12 } : Room).cells ({ frames := 1, cells := 1, slots := 8, locals := 12 } : Room).slots (s₁.setTop (entryFrame m #[(.int (4 : Int32))] 1))
  refine own_st (fun t9 k9 => castTop (own_ef_nbf4 m (4 : Int32)) k9) ?_
  show own_Go p e below s _ _ _ (s₁.setTop (mkF m 0 #[.val (.int (4 : Int32))] []))
  have Kp : Keep h0 h0 [] := Keep.refl h0 []
  refine own_st (fun t9 k9 => XS.iloadN X0.here hx rfl (hb hby own_d_jdk_52_method_2_0) rfl  k9) ?_
  show own_Go p e below s _ _ _ (s₁.setTop (mkF m 1 #[.val (.int (4 : Int32))] [(.int (4 : Int32))]))
  obtain ⟨_, T63, h63, L63, X63, e63, ⟨rfl, Nc, hu⟩, st63⟩ := own_callS X0 hx hZ hown (hw _ (List.mem_of_getElem? (i := 59) rfl)) (hw _ (List.mem_of_getElem? (i := 60) rfl)) (hw _ (List.mem_of_getElem? (i := 21) rfl)) (hw _ (List.mem_of_getElem? (i := 61) rfl)) (by decide) (own_rm_nbl l Z a0 hw [] (4 : Int32) h0 n0 Od (by decide) (by decide)) (by decide) (by decide) e0 (W := 0) (g := (mkF m 1 #[.val (.int (4 : Int32))] [(.int (4 : Int32))])) rfl (by rw [hml]; rfl) (argsL := [(.int (4 : Int32))]) (rest := []) rfl (lenOf own_pd0 rfl) rfl (by show 2 * 0 + _ ≤ _; exact Nat.le_of_eq rfl) (hb hby own_d_jdk_52_method_2_1) (by decide) (by decide)
  have N63 := Fr.app N0 Nc
  refine own_st st63 ?_
  show own_Go p e below s _ _ _ (T63.setTop (mkF m 4 #[.val (.int (4 : Int32))] [(.int ((4 : Int32) <<< ((1 : Int32) &&& 31)))]))
  show own_Go p e below s _ _ _ (T63.setTop (mkF m 4 #[.val (.int (4 : Int32))] [(.int (8 : Int32))]))
  obtain ⟨T64, h64, k64, X64, e64, E64, A64, st64⟩ := newP X63 hx hZ (hw _ (List.mem_of_getElem? (i := 23) rfl)) (e63.trans hu) (g := (mkF m 4 #[.val (.int (4 : Int32))] [(.int (8 : Int32))])) rfl (hb hby own_d_jdk_52_method_2_4) rfl (by decide) (cap := 8) (by decide) (by decide) (by decide) (by decide)
  obtain ⟨a, g64⟩ : ∃ z, z = h0.size := ⟨_, rfl⟩
  rw [← g64] at A64 st64
  have ge_a : n0 ≤ a := Nat.le_trans (own_z0 Od) (Nat.le_of_eq g64.symm)
  have gz_a : h0.size ≤ a := Nat.le_trans Kp.1 (Nat.le_of_eq g64.symm)
  have Od := Od.ext E64
  have Kp := Kp.ext E64
  refine own_st st64 ?_
  show own_Go p e below s _ _ _ (T64.setTop (mkF m 6 #[.val (.int (4 : Int32))] [(.ref a)]))
  have V_a : Arv Z h64 a k64 .byte (8 : Int32) [(.int (0 : Int32)), (.int (0 : Int32)), (.int (0 : Int32)), (.int (0 : Int32)), (.int (0 : Int32)), (.int (0 : Int32)), (.int (0 : Int32)), (.int (0 : Int32))] (.int (0 : Int32)) := (Arv.new A64 (by decide)).pad (pad_rep [] (.int (0 : Int32)) 8)
  exact own_retR X64 hx hlk Bd.returns rfl rfl (hb hby own_d_jdk_52_method_2_6) (by decide) (by decide) (by rw [e64]; exact ⟨N63, Kp, a, _, rfl, gz_a, V_a⟩)
theorem own_ef_tob4 (m : MethodId) (x0 : Addr) (x1 : Int32) (x2 : Int32) : entryFrame m #[(.ref x0), (.int x1), (.int x2)] 5 = mkF m 0 #[.val (.ref x0), .val (.int x1), .val (.int x2), .unset, .unset] [] := by first | (simp [entryFrame, mkF, argsToLocals, Value.category]; done) | rfl
def own_Q_tob4 (Z : State) (x0 : Int32) (x1 : Int32) (x2 : Int32) (x3 : Int32) (h0 : Heap) (n0 : Nat) (v : Option Value) (h : Heap) (L : List Loc) : Prop := Fr n0 L ∧ Keep h0 h [] ∧ ∃ a k, v = some (.ref a) ∧ h0.size ≤ a ∧ Arv Z h a k .byte (8 : Int32) [(.int (StrChars.lo8 x0)), (.int (StrChars.hi8 x0)), (.int (StrChars.lo8 x1)), (.int (StrChars.hi8 x1)), (.int (StrChars.lo8 x2)), (.int (StrChars.hi8 x2)), (.int (StrChars.lo8 x3)), (.int (StrChars.hi8 x3))] (.int (0 : Int32))
set_option maxRecDepth 65536 in
set_option maxHeartbeats 40000000 in
theorem own_rm_tob4 (l : Launch) (Z : State) (a0 : Array Value) (hw : ∀ d ∈ tables_1, d.before a0 Z = true) (ws : List Jvm.Cond) (sr : Addr) (ks : ClassId) (x0 : Int32) (x1 : Int32) (x2 : Int32) (x3 : Int32) (h0 : Heap) (n0 : Nat) (Od : Old Z n0 h0) (V_s : Arv Z h0 sr ks .char (4 : Int32) [(.int x0), (.int x1), (.int x2), (.int x3)] (.int (0 : Int32))) (OA : Sta Z Z.heap "java/lang/StringUTF16" "$assertionsDisabled" "Z" (.int (1 : Int32))) (OH : Sta Z Z.heap "java/lang/StringUTF16" "HI_BYTE_SHIFT" "I" (.int (0 : Int32))) (OL : Sta Z Z.heap "java/lang/StringUTF16" "LO_BYTE_SHIFT" "I" (.int (8 : Int32))) :
    MetFree l (⟨"java/lang/StringUTF16", "toBytes", "([CII)[B"⟩ : MethodName) (head1 (Jvm.Cond.code (⟨"java/lang/StringUTF16", "toBytes", "([CII)[B"⟩ : MethodName) jdk_52_method_14_code 5 (some (.array .byte)) :: ws) ({ frames := 2, cells := 1, slots := 8, locals := 24 } : Room)) (fun a9 U => a9 = #[(.ref sr), (.int (0 : Int32)), (.int (4 : Int32))] ∧ Z.Warmed39 U.vm ∧ U.heap = h0) (fun _ _ _ _ _ => True) (fun _ U o U' => ∃ v L, o = .returned v ∧ own_Q_tob4 Z x0 x1 x2 x3 h0 n0 v U'.heap L ∧ FrameEnd U o U' L ({ frames := 2, cells := 1, slots := 8, locals := 24 } : Room).cells ({ frames := 2, cells := 1, slots := 8, locals := 24 } : Room).slots) := by
  refine MetFree.of_bodySF (plainFor_of_name own_pn0) hisR ?_
  intro p e s m args below meth c s₁ Bd hml0 hP hK
  obtain ⟨rfl, hZ, hh⟩ := hP
  have hx := Bd.exec
  have hby := Bd.bytes
  have hml : c.maxLocals = 5 := hml0
  have hown : s.vm.findClass "java/lang/StringUTF16" = some m.cls := findClass_of_methodNamed Bd.named
  have hnm := (name_of_methodNamed Bd.named Bd.method).1
  have hlk : meth.locks = false := Bd.notSynchronized
  have X0 : Stand p l e ({ frames := 2, cells := 1, slots := 8, locals := 24 } : Room) s m #[(.ref sr), (.int (0 : Int32)), (.int (4 : Int32))] below meth c s₁ [] 0 0 := Stand.of_body Bd
  have e0 : s₁.heap = h0 := by rw [← hh, Bd.state]; rfl
  have N0 := Fr.nil n0
  show own_Go p e below s (own_Q_tob4 Z x0 x1 x2 x3 h0 n0) ({ frames := 2, cells := 1, slots := 8, locals := 24 } : Room).cells ({ frames := 2, cells := 1, slots := 8, locals := 24 } : Room).slots (s₁.setTop (entryFrame m #[(.ref sr), (.int (0 : Int32)), (.int (4 : Int32))] 5))
  refine own_st (fun t9 k9 => castTop (own_ef_tob4 m sr (0 : Int32) (4 : Int32)) k9) ?_
  show own_Go p e below s _ _ _ (s₁.setTop (mkF m 0 #[.val (.ref sr), .val (.int (0 : Int32)), .val (.int (4 : Int32)), .unset, .unset] []))
  have Kp : Keep h0 h0 [] := Keep.refl h0 []
  refine own_st (fun t9 k9 => XS.iloadN X0.here hx rfl (hb hby own_d_jdk_52_method_14_0) rfl  k9) ?_
  show own_Go p e below s _ _ _ (s₁.setTop (mkF m 1 #[.val (.ref sr), .val (.int (0 : Int32)), .val (.int (4 : Int32)), .unset, .unset] [(.int (4 : Int32))]))
  obtain ⟨_, T65, h65, L65, X65, e65, ⟨Nc, Kc, a, ka, rfl, gea, V_a⟩, st65⟩ := own_callS X0 hx hZ hown (hw _ (List.mem_of_getElem? (i := 56) rfl)) (hw _ (List.mem_of_getElem? (i := 57) rfl)) (hw _ (List.mem_of_getElem? (i := 21) rfl)) (hw _ (List.mem_of_getElem? (i := 58) rfl)) (by decide) (own_rm_nbf4 l Z a0 hw [] h0 n0 Od) (by decide) (by decide) e0 (W := 0) (g := (mkF m 1 #[.val (.ref sr), .val (.int (0 : Int32)), .val (.int (4 : Int32)), .unset, .unset] [(.int (4 : Int32))])) rfl (by rw [hml]; rfl) (argsL := [(.int (4 : Int32))]) (rest := []) rfl (lenOf own_pd1 rfl) rfl (by show 2 * 0 + _ ≤ _; exact Nat.le_of_eq rfl) (hb hby own_d_jdk_52_method_14_1) (by decide) (by decide)
  have N65 := Fr.app N0 Nc
  have ne_sr_a : sr ≠ a := Nat.ne_of_lt (Nat.lt_of_lt_of_le V_s.lt gea)
  have ge_a : n0 ≤ a := Nat.le_trans (own_z0 Od) gea
  have gz_a : h0.size ≤ a := Nat.le_trans Kp.1 gea
  have V_s := V_s.keep Kc nin0
  have Od := Od.keep Kc all0
  have Kp := Kp.trans Kc all0
  refine own_st st65 ?_
  show own_Go p e below s _ _ _ (T65.setTop (mkF m 4 #[.val (.ref sr), .val (.int (0 : Int32)), .val (.int (4 : Int32)), .unset, .unset] [(.ref a)]))
  refine own_st (fun t9 k9 => XS.astoreN X65.here hx rfl (hb hby own_d_jdk_52_method_14_4) rfl rfl (l' := #[.val (.ref sr), .val (.int (0 : Int32)), .val (.int (4 : Int32)), .val (.ref a), .unset]) rfl k9) ?_
  show own_Go p e below s _ _ _ (T65.setTop (mkF m 5 #[.val (.ref sr), .val (.int (0 : Int32)), .val (.int (4 : Int32)), .val (.ref a), .unset] []))
  refine own_st (fun t9 k9 => XS.iconst X65.here hx rfl (hb hby own_d_jdk_52_method_14_5) k9) ?_
  show own_Go p e below s _ _ _ (T65.setTop (mkF m 6 #[.val (.ref sr), .val (.int (0 : Int32)), .val (.int (4 : Int32)), .val (.ref a), .unset] [(.int (0 : Int32))]))
  refine own_st (fun t9 k9 => XS.istore X65.here hx rfl (hb hby own_d_jdk_52_method_14_6) rfl (l' := #[.val (.ref sr), .val (.int (0 : Int32)), .val (.int (4 : Int32)), .val (.ref a), .val (.int (0 : Int32))]) rfl k9) ?_
  show own_Go p e below s _ _ _ (T65.setTop (mkF m 8 #[.val (.ref sr), .val (.int (0 : Int32)), .val (.int (4 : Int32)), .val (.ref a), .val (.int (0 : Int32))] []))
  refine own_st (fun t9 k9 => XS.iload X65.here hx rfl (hb hby own_d_jdk_52_method_14_8) rfl  k9) ?_
  show own_Go p e below s _ _ _ (T65.setTop (mkF m 10 #[.val (.ref sr), .val (.int (0 : Int32)), .val (.int (4 : Int32)), .val (.ref a), .val (.int (0 : Int32))] [(.int (0 : Int32))]))
  refine own_st (fun t9 k9 => XS.iloadN X65.here hx rfl (hb hby own_d_jdk_52_method_14_10) rfl  k9) ?_
  show own_Go p e below s _ _ _ (T65.setTop (mkF m 11 #[.val (.ref sr), .val (.int (0 : Int32)), .val (.int (4 : Int32)), .val (.ref a), .val (.int (0 : Int32))] [(.int (4 : Int32)), (.int (0 : Int32))]))
  refine own_st (fun t9 k9 => XS.icmpNo X65.here hx rfl (hb hby own_d_jdk_52_method_14_11) rfl (by decide) k9) ?_
  show own_Go p e below s _ _ _ (T65.setTop (mkF m 14 #[.val (.ref sr), .val (.int (0 : Int32)), .val (.int (4 : Int32)), .val (.ref a), .val (.int (0 : Int32))] []))
  refine own_st (fun t9 k9 => XS.aloadN X65.here hx rfl (hb hby own_d_jdk_52_method_14_14) rfl rfl k9) ?_
  show own_Go p e below s _ _ _ (T65.setTop (mkF m 15 #[.val (.ref sr), .val (.int (0 : Int32)), .val (.int (4 : Int32)), .val (.ref a), .val (.int (0 : Int32))] [(.ref a)]))
  refine own_st (fun t9 k9 => XS.iload X65.here hx rfl (hb hby own_d_jdk_52_method_14_15) rfl  k9) ?_
  show own_Go p e below s _ _ _ (T65.setTop (mkF m 17 #[.val (.ref sr), .val (.int (0 : Int32)), .val (.int (4 : Int32)), .val (.ref a), .val (.int (0 : Int32))] [(.int (0 : Int32)), (.ref a)]))
  refine own_st (fun t9 k9 => XS.aloadN X65.here hx rfl (hb hby own_d_jdk_52_method_14_17) rfl rfl k9) ?_
  show own_Go p e below s _ _ _ (T65.setTop (mkF m 18 #[.val (.ref sr), .val (.int (0 : Int32)), .val (.int (4 : Int32)), .val (.ref a), .val (.int (0 : Int32))] [(.ref sr), (.int (0 : Int32)), (.ref a)]))
  refine own_st (fun t9 k9 => XS.iloadN X65.here hx rfl (hb hby own_d_jdk_52_method_14_18) rfl  k9) ?_
  show own_Go p e below s _ _ _ (T65.setTop (mkF m 19 #[.val (.ref sr), .val (.int (0 : Int32)), .val (.int (4 : Int32)), .val (.ref a), .val (.int (0 : Int32))] [(.int (0 : Int32)), (.ref sr), (.int (0 : Int32)), (.ref a)]))
  refine own_st (fun t9 k9 => own_cald X65 hx hZ e65 V_s (j := (0 : Int32)) (v := (.int x0)) ⟨by decide, by decide⟩ rfl (g := (mkF m 19 #[.val (.ref sr), .val (.int (0 : Int32)), .val (.int (4 : Int32)), .val (.ref a), .val (.int (0 : Int32))] [(.int (0 : Int32)), (.ref sr), (.int (0 : Int32)), (.ref a)])) rfl rfl (hb hby own_d_jdk_52_method_14_19) t9 k9) ?_
  show own_Go p e below s _ _ _ (T65.setTop (mkF m 20 #[.val (.ref sr), .val (.int (0 : Int32)), .val (.int (4 : Int32)), .val (.ref a), .val (.int (0 : Int32))] [(.int x0), (.int (0 : Int32)), (.ref a)]))
  obtain ⟨cl, A1, A2, A3, A4, A5, A6⟩ := id V_a
  obtain ⟨_, T66, h66, L66, X66, e66, ⟨rfl, Nc, h1, W1, W2⟩, st66⟩ := own_callS X65 hx hZ hown (hw _ (List.mem_of_getElem? (i := 63) rfl)) (hw _ (List.mem_of_getElem? (i := 64) rfl)) (hw _ (List.mem_of_getElem? (i := 21) rfl)) (hw _ (List.mem_of_getElem? (i := 65) rfl)) (by decide) (own_rm_putc l Z a0 hw [] a (0 : Int32) x0 cl h65 n0 Od A1 ge_a (inb_of A3 ⟨by decide, by decide⟩) (inb_of A3 ⟨by decide, by decide⟩) OA OH OL) (by decide) (by decide) e65 (W := 0) (g := (mkF m 20 #[.val (.ref sr), .val (.int (0 : Int32)), .val (.int (4 : Int32)), .val (.ref a), .val (.int (0 : Int32))] [(.int x0), (.int (0 : Int32)), (.ref a)])) rfl (by rw [hml]; rfl) (argsL := [(.ref a), (.int (0 : Int32)), (.int x0)]) (rest := []) rfl (lenOf own_pd2 rfl) rfl (by show 2 * 0 + _ ≤ _; exact Nat.le_of_eq rfl) (hb hby own_d_jdk_52_method_14_20) (by decide) (by decide)
  have N66 := Fr.app N65 Nc
  have V_s := V_s.keep ((Keep.of_wr W1).trans (Keep.of_wr W2) (fun x hx => Or.inl hx)) (ninS ne_sr_a nin0)
  have Od := Od.keep ((Keep.of_wr W1).trans (Keep.of_wr W2) (fun x hx => Or.inl hx)) (allS ge_a all0)
  have Kp := Kp.trans ((Keep.of_wr W1).trans (Keep.of_wr W2) (fun x hx => Or.inl hx)) (allS (Or.inr gz_a) all0)
  refine own_st st66 ?_
  show own_Go p e below s _ _ _ (T66.setTop (mkF m 23 #[.val (.ref sr), .val (.int (0 : Int32)), .val (.int (4 : Int32)), .val (.ref a), .val (.int (0 : Int32))] []))
  have V_m : Arv Z h1 a ka .byte (8 : Int32) [(.int (StrChars.lo8 x0)), (.int (0 : Int32)), (.int (0 : Int32)), (.int (0 : Int32)), (.int (0 : Int32)), (.int (0 : Int32)), (.int (0 : Int32)), (.int (0 : Int32))] (.int (0 : Int32)) := Arv.set A1 A2 A3 A4 A5 A6 (fits_nar_byte _) W1 0 rfl (Nat.le_of_ble_eq_true rfl)
  obtain ⟨cm, B1, B2, B3, B4, B5, B6⟩ := id V_m
  have V_a : Arv Z h66 a ka .byte (8 : Int32) [(.int (StrChars.lo8 x0)), (.int (StrChars.hi8 x0)), (.int (0 : Int32)), (.int (0 : Int32)), (.int (0 : Int32)), (.int (0 : Int32)), (.int (0 : Int32)), (.int (0 : Int32))] (.int (0 : Int32)) := Arv.set B1 B2 B3 B4 B5 B6 (fits_nar_byte _) W2 1 rfl (Nat.le_of_ble_eq_true rfl)
  refine own_st (fun t9 k9 => XS.iinc X66.here hx rfl (hb hby own_d_jdk_52_method_14_23) rfl (l' := #[.val (.ref sr), .val (.int ((0 : Int32) + (1 : Int32))), .val (.int (4 : Int32)), .val (.ref a), .val (.int (0 : Int32))]) rfl k9) ?_
  show own_Go p e below s _ _ _ (T66.setTop (mkF m 26 #[.val (.ref sr), .val (.int ((0 : Int32) + (1 : Int32))), .val (.int (4 : Int32)), .val (.ref a), .val (.int (0 : Int32))] []))
  show own_Go p e below s _ _ _ (T66.setTop (mkF m 26 #[.val (.ref sr), .val (.int (1 : Int32)), .val (.int (4 : Int32)), .val (.ref a), .val (.int (0 : Int32))] []))
  refine own_st (fun t9 k9 => XS.iinc X66.here hx rfl (hb hby own_d_jdk_52_method_14_26) rfl (l' := #[.val (.ref sr), .val (.int (1 : Int32)), .val (.int (4 : Int32)), .val (.ref a), .val (.int ((0 : Int32) + (1 : Int32)))]) rfl k9) ?_
  show own_Go p e below s _ _ _ (T66.setTop (mkF m 29 #[.val (.ref sr), .val (.int (1 : Int32)), .val (.int (4 : Int32)), .val (.ref a), .val (.int ((0 : Int32) + (1 : Int32)))] []))
  show own_Go p e below s _ _ _ (T66.setTop (mkF m 29 #[.val (.ref sr), .val (.int (1 : Int32)), .val (.int (4 : Int32)), .val (.ref a), .val (.int (1 : Int32))] []))
  refine own_st (fun t9 k9 => XS.goto X66.here hx rfl (pc0 := 29) (pc' := 8) rfl (hb hby own_d_jdk_52_method_14_29) (by decide) (by decide) k9) ?_
  show own_Go p e below s _ _ _ (T66.setTop (mkF m 8 #[.val (.ref sr), .val (.int (1 : Int32)), .val (.int (4 : Int32)), .val (.ref a), .val (.int (1 : Int32))] []))
  refine own_st (fun t9 k9 => XS.iload X66.here hx rfl (hb hby own_d_jdk_52_method_14_8) rfl  k9) ?_
  show own_Go p e below s _ _ _ (T66.setTop (mkF m 10 #[.val (.ref sr), .val (.int (1 : Int32)), .val (.int (4 : Int32)), .val (.ref a), .val (.int (1 : Int32))] [(.int (1 : Int32))]))
  refine own_st (fun t9 k9 => XS.iloadN X66.here hx rfl (hb hby own_d_jdk_52_method_14_10) rfl  k9) ?_
  show own_Go p e below s _ _ _ (T66.setTop (mkF m 11 #[.val (.ref sr), .val (.int (1 : Int32)), .val (.int (4 : Int32)), .val (.ref a), .val (.int (1 : Int32))] [(.int (4 : Int32)), (.int (1 : Int32))]))
  refine own_st (fun t9 k9 => XS.icmpNo X66.here hx rfl (hb hby own_d_jdk_52_method_14_11) rfl (by decide) k9) ?_
  show own_Go p e below s _ _ _ (T66.setTop (mkF m 14 #[.val (.ref sr), .val (.int (1 : Int32)), .val (.int (4 : Int32)), .val (.ref a), .val (.int (1 : Int32))] []))
  refine own_st (fun t9 k9 => XS.aloadN X66.here hx rfl (hb hby own_d_jdk_52_method_14_14) rfl rfl k9) ?_
  show own_Go p e below s _ _ _ (T66.setTop (mkF m 15 #[.val (.ref sr), .val (.int (1 : Int32)), .val (.int (4 : Int32)), .val (.ref a), .val (.int (1 : Int32))] [(.ref a)]))
  refine own_st (fun t9 k9 => XS.iload X66.here hx rfl (hb hby own_d_jdk_52_method_14_15) rfl  k9) ?_
  show own_Go p e below s _ _ _ (T66.setTop (mkF m 17 #[.val (.ref sr), .val (.int (1 : Int32)), .val (.int (4 : Int32)), .val (.ref a), .val (.int (1 : Int32))] [(.int (1 : Int32)), (.ref a)]))
  refine own_st (fun t9 k9 => XS.aloadN X66.here hx rfl (hb hby own_d_jdk_52_method_14_17) rfl rfl k9) ?_
  show own_Go p e below s _ _ _ (T66.setTop (mkF m 18 #[.val (.ref sr), .val (.int (1 : Int32)), .val (.int (4 : Int32)), .val (.ref a), .val (.int (1 : Int32))] [(.ref sr), (.int (1 : Int32)), (.ref a)]))
  refine own_st (fun t9 k9 => XS.iloadN X66.here hx rfl (hb hby own_d_jdk_52_method_14_18) rfl  k9) ?_
  show own_Go p e below s _ _ _ (T66.setTop (mkF m 19 #[.val (.ref sr), .val (.int (1 : Int32)), .val (.int (4 : Int32)), .val (.ref a), .val (.int (1 : Int32))] [(.int (1 : Int32)), (.ref sr), (.int (1 : Int32)), (.ref a)]))
  refine own_st (fun t9 k9 => own_cald X66 hx hZ e66 V_s (j := (1 : Int32)) (v := (.int x1)) ⟨by decide, by decide⟩ rfl (g := (mkF m 19 #[.val (.ref sr), .val (.int (1 : Int32)), .val (.int (4 : Int32)), .val (.ref a), .val (.int (1 : Int32))] [(.int (1 : Int32)), (.ref sr), (.int (1 : Int32)), (.ref a)])) rfl rfl (hb hby own_d_jdk_52_method_14_19) t9 k9) ?_
  show own_Go p e below s _ _ _ (T66.setTop (mkF m 20 #[.val (.ref sr), .val (.int (1 : Int32)), .val (.int (4 : Int32)), .val (.ref a), .val (.int (1 : Int32))] [(.int x1), (.int (1 : Int32)), (.ref a)]))
  obtain ⟨cl, A1, A2, A3, A4, A5, A6⟩ := id V_a
  obtain ⟨_, T67, h67, L67, X67, e67, ⟨rfl, Nc, h1, W1, W2⟩, st67⟩ := own_callS X66 hx hZ hown (hw _ (List.mem_of_getElem? (i := 63) rfl)) (hw _ (List.mem_of_getElem? (i := 64) rfl)) (hw _ (List.mem_of_getElem? (i := 21) rfl)) (hw _ (List.mem_of_getElem? (i := 65) rfl)) (by decide) (own_rm_putc l Z a0 hw [] a (1 : Int32) x1 cl h66 n0 Od A1 ge_a (inb_of A3 ⟨by decide, by decide⟩) (inb_of A3 ⟨by decide, by decide⟩) OA OH OL) (by decide) (by decide) e66 (W := 0) (g := (mkF m 20 #[.val (.ref sr), .val (.int (1 : Int32)), .val (.int (4 : Int32)), .val (.ref a), .val (.int (1 : Int32))] [(.int x1), (.int (1 : Int32)), (.ref a)])) rfl (by rw [hml]; rfl) (argsL := [(.ref a), (.int (1 : Int32)), (.int x1)]) (rest := []) rfl (lenOf own_pd2 rfl) rfl (by show 2 * 0 + _ ≤ _; exact Nat.le_of_eq rfl) (hb hby own_d_jdk_52_method_14_20) (by decide) (by decide)
  have N67 := Fr.app N66 Nc
  have V_s := V_s.keep ((Keep.of_wr W1).trans (Keep.of_wr W2) (fun x hx => Or.inl hx)) (ninS ne_sr_a nin0)
  have Od := Od.keep ((Keep.of_wr W1).trans (Keep.of_wr W2) (fun x hx => Or.inl hx)) (allS ge_a all0)
  have Kp := Kp.trans ((Keep.of_wr W1).trans (Keep.of_wr W2) (fun x hx => Or.inl hx)) (allS (Or.inr gz_a) all0)
  refine own_st st67 ?_
  show own_Go p e below s _ _ _ (T67.setTop (mkF m 23 #[.val (.ref sr), .val (.int (1 : Int32)), .val (.int (4 : Int32)), .val (.ref a), .val (.int (1 : Int32))] []))
  have V_m : Arv Z h1 a ka .byte (8 : Int32) [(.int (StrChars.lo8 x0)), (.int (StrChars.hi8 x0)), (.int (StrChars.lo8 x1)), (.int (0 : Int32)), (.int (0 : Int32)), (.int (0 : Int32)), (.int (0 : Int32)), (.int (0 : Int32))] (.int (0 : Int32)) := Arv.set A1 A2 A3 A4 A5 A6 (fits_nar_byte _) W1 2 rfl (Nat.le_of_ble_eq_true rfl)
  obtain ⟨cm, B1, B2, B3, B4, B5, B6⟩ := id V_m
  have V_a : Arv Z h67 a ka .byte (8 : Int32) [(.int (StrChars.lo8 x0)), (.int (StrChars.hi8 x0)), (.int (StrChars.lo8 x1)), (.int (StrChars.hi8 x1)), (.int (0 : Int32)), (.int (0 : Int32)), (.int (0 : Int32)), (.int (0 : Int32))] (.int (0 : Int32)) := Arv.set B1 B2 B3 B4 B5 B6 (fits_nar_byte _) W2 3 rfl (Nat.le_of_ble_eq_true rfl)
  refine own_st (fun t9 k9 => XS.iinc X67.here hx rfl (hb hby own_d_jdk_52_method_14_23) rfl (l' := #[.val (.ref sr), .val (.int ((1 : Int32) + (1 : Int32))), .val (.int (4 : Int32)), .val (.ref a), .val (.int (1 : Int32))]) rfl k9) ?_
  show own_Go p e below s _ _ _ (T67.setTop (mkF m 26 #[.val (.ref sr), .val (.int ((1 : Int32) + (1 : Int32))), .val (.int (4 : Int32)), .val (.ref a), .val (.int (1 : Int32))] []))
  show own_Go p e below s _ _ _ (T67.setTop (mkF m 26 #[.val (.ref sr), .val (.int (2 : Int32)), .val (.int (4 : Int32)), .val (.ref a), .val (.int (1 : Int32))] []))
  refine own_st (fun t9 k9 => XS.iinc X67.here hx rfl (hb hby own_d_jdk_52_method_14_26) rfl (l' := #[.val (.ref sr), .val (.int (2 : Int32)), .val (.int (4 : Int32)), .val (.ref a), .val (.int ((1 : Int32) + (1 : Int32)))]) rfl k9) ?_
  show own_Go p e below s _ _ _ (T67.setTop (mkF m 29 #[.val (.ref sr), .val (.int (2 : Int32)), .val (.int (4 : Int32)), .val (.ref a), .val (.int ((1 : Int32) + (1 : Int32)))] []))
  show own_Go p e below s _ _ _ (T67.setTop (mkF m 29 #[.val (.ref sr), .val (.int (2 : Int32)), .val (.int (4 : Int32)), .val (.ref a), .val (.int (2 : Int32))] []))
  refine own_st (fun t9 k9 => XS.goto X67.here hx rfl (pc0 := 29) (pc' := 8) rfl (hb hby own_d_jdk_52_method_14_29) (by decide) (by decide) k9) ?_
  show own_Go p e below s _ _ _ (T67.setTop (mkF m 8 #[.val (.ref sr), .val (.int (2 : Int32)), .val (.int (4 : Int32)), .val (.ref a), .val (.int (2 : Int32))] []))
  refine own_st (fun t9 k9 => XS.iload X67.here hx rfl (hb hby own_d_jdk_52_method_14_8) rfl  k9) ?_
  show own_Go p e below s _ _ _ (T67.setTop (mkF m 10 #[.val (.ref sr), .val (.int (2 : Int32)), .val (.int (4 : Int32)), .val (.ref a), .val (.int (2 : Int32))] [(.int (2 : Int32))]))
  refine own_st (fun t9 k9 => XS.iloadN X67.here hx rfl (hb hby own_d_jdk_52_method_14_10) rfl  k9) ?_
  show own_Go p e below s _ _ _ (T67.setTop (mkF m 11 #[.val (.ref sr), .val (.int (2 : Int32)), .val (.int (4 : Int32)), .val (.ref a), .val (.int (2 : Int32))] [(.int (4 : Int32)), (.int (2 : Int32))]))
  refine own_st (fun t9 k9 => XS.icmpNo X67.here hx rfl (hb hby own_d_jdk_52_method_14_11) rfl (by decide) k9) ?_
  show own_Go p e below s _ _ _ (T67.setTop (mkF m 14 #[.val (.ref sr), .val (.int (2 : Int32)), .val (.int (4 : Int32)), .val (.ref a), .val (.int (2 : Int32))] []))
  refine own_st (fun t9 k9 => XS.aloadN X67.here hx rfl (hb hby own_d_jdk_52_method_14_14) rfl rfl k9) ?_
  show own_Go p e below s _ _ _ (T67.setTop (mkF m 15 #[.val (.ref sr), .val (.int (2 : Int32)), .val (.int (4 : Int32)), .val (.ref a), .val (.int (2 : Int32))] [(.ref a)]))
  refine own_st (fun t9 k9 => XS.iload X67.here hx rfl (hb hby own_d_jdk_52_method_14_15) rfl  k9) ?_
  show own_Go p e below s _ _ _ (T67.setTop (mkF m 17 #[.val (.ref sr), .val (.int (2 : Int32)), .val (.int (4 : Int32)), .val (.ref a), .val (.int (2 : Int32))] [(.int (2 : Int32)), (.ref a)]))
  refine own_st (fun t9 k9 => XS.aloadN X67.here hx rfl (hb hby own_d_jdk_52_method_14_17) rfl rfl k9) ?_
  show own_Go p e below s _ _ _ (T67.setTop (mkF m 18 #[.val (.ref sr), .val (.int (2 : Int32)), .val (.int (4 : Int32)), .val (.ref a), .val (.int (2 : Int32))] [(.ref sr), (.int (2 : Int32)), (.ref a)]))
  refine own_st (fun t9 k9 => XS.iloadN X67.here hx rfl (hb hby own_d_jdk_52_method_14_18) rfl  k9) ?_
  show own_Go p e below s _ _ _ (T67.setTop (mkF m 19 #[.val (.ref sr), .val (.int (2 : Int32)), .val (.int (4 : Int32)), .val (.ref a), .val (.int (2 : Int32))] [(.int (2 : Int32)), (.ref sr), (.int (2 : Int32)), (.ref a)]))
  refine own_st (fun t9 k9 => own_cald X67 hx hZ e67 V_s (j := (2 : Int32)) (v := (.int x2)) ⟨by decide, by decide⟩ rfl (g := (mkF m 19 #[.val (.ref sr), .val (.int (2 : Int32)), .val (.int (4 : Int32)), .val (.ref a), .val (.int (2 : Int32))] [(.int (2 : Int32)), (.ref sr), (.int (2 : Int32)), (.ref a)])) rfl rfl (hb hby own_d_jdk_52_method_14_19) t9 k9) ?_
  show own_Go p e below s _ _ _ (T67.setTop (mkF m 20 #[.val (.ref sr), .val (.int (2 : Int32)), .val (.int (4 : Int32)), .val (.ref a), .val (.int (2 : Int32))] [(.int x2), (.int (2 : Int32)), (.ref a)]))
  obtain ⟨cl, A1, A2, A3, A4, A5, A6⟩ := id V_a
  obtain ⟨_, T68, h68, L68, X68, e68, ⟨rfl, Nc, h1, W1, W2⟩, st68⟩ := own_callS X67 hx hZ hown (hw _ (List.mem_of_getElem? (i := 63) rfl)) (hw _ (List.mem_of_getElem? (i := 64) rfl)) (hw _ (List.mem_of_getElem? (i := 21) rfl)) (hw _ (List.mem_of_getElem? (i := 65) rfl)) (by decide) (own_rm_putc l Z a0 hw [] a (2 : Int32) x2 cl h67 n0 Od A1 ge_a (inb_of A3 ⟨by decide, by decide⟩) (inb_of A3 ⟨by decide, by decide⟩) OA OH OL) (by decide) (by decide) e67 (W := 0) (g := (mkF m 20 #[.val (.ref sr), .val (.int (2 : Int32)), .val (.int (4 : Int32)), .val (.ref a), .val (.int (2 : Int32))] [(.int x2), (.int (2 : Int32)), (.ref a)])) rfl (by rw [hml]; rfl) (argsL := [(.ref a), (.int (2 : Int32)), (.int x2)]) (rest := []) rfl (lenOf own_pd2 rfl) rfl (by show 2 * 0 + _ ≤ _; exact Nat.le_of_eq rfl) (hb hby own_d_jdk_52_method_14_20) (by decide) (by decide)
  have N68 := Fr.app N67 Nc
  have V_s := V_s.keep ((Keep.of_wr W1).trans (Keep.of_wr W2) (fun x hx => Or.inl hx)) (ninS ne_sr_a nin0)
  have Od := Od.keep ((Keep.of_wr W1).trans (Keep.of_wr W2) (fun x hx => Or.inl hx)) (allS ge_a all0)
  have Kp := Kp.trans ((Keep.of_wr W1).trans (Keep.of_wr W2) (fun x hx => Or.inl hx)) (allS (Or.inr gz_a) all0)
  refine own_st st68 ?_
  show own_Go p e below s _ _ _ (T68.setTop (mkF m 23 #[.val (.ref sr), .val (.int (2 : Int32)), .val (.int (4 : Int32)), .val (.ref a), .val (.int (2 : Int32))] []))
  have V_m : Arv Z h1 a ka .byte (8 : Int32) [(.int (StrChars.lo8 x0)), (.int (StrChars.hi8 x0)), (.int (StrChars.lo8 x1)), (.int (StrChars.hi8 x1)), (.int (StrChars.lo8 x2)), (.int (0 : Int32)), (.int (0 : Int32)), (.int (0 : Int32))] (.int (0 : Int32)) := Arv.set A1 A2 A3 A4 A5 A6 (fits_nar_byte _) W1 4 rfl (Nat.le_of_ble_eq_true rfl)
  obtain ⟨cm, B1, B2, B3, B4, B5, B6⟩ := id V_m
  have V_a : Arv Z h68 a ka .byte (8 : Int32) [(.int (StrChars.lo8 x0)), (.int (StrChars.hi8 x0)), (.int (StrChars.lo8 x1)), (.int (StrChars.hi8 x1)), (.int (StrChars.lo8 x2)), (.int (StrChars.hi8 x2)), (.int (0 : Int32)), (.int (0 : Int32))] (.int (0 : Int32)) := Arv.set B1 B2 B3 B4 B5 B6 (fits_nar_byte _) W2 5 rfl (Nat.le_of_ble_eq_true rfl)
  refine own_st (fun t9 k9 => XS.iinc X68.here hx rfl (hb hby own_d_jdk_52_method_14_23) rfl (l' := #[.val (.ref sr), .val (.int ((2 : Int32) + (1 : Int32))), .val (.int (4 : Int32)), .val (.ref a), .val (.int (2 : Int32))]) rfl k9) ?_
  show own_Go p e below s _ _ _ (T68.setTop (mkF m 26 #[.val (.ref sr), .val (.int ((2 : Int32) + (1 : Int32))), .val (.int (4 : Int32)), .val (.ref a), .val (.int (2 : Int32))] []))
  show own_Go p e below s _ _ _ (T68.setTop (mkF m 26 #[.val (.ref sr), .val (.int (3 : Int32)), .val (.int (4 : Int32)), .val (.ref a), .val (.int (2 : Int32))] []))
  refine own_st (fun t9 k9 => XS.iinc X68.here hx rfl (hb hby own_d_jdk_52_method_14_26) rfl (l' := #[.val (.ref sr), .val (.int (3 : Int32)), .val (.int (4 : Int32)), .val (.ref a), .val (.int ((2 : Int32) + (1 : Int32)))]) rfl k9) ?_
  show own_Go p e below s _ _ _ (T68.setTop (mkF m 29 #[.val (.ref sr), .val (.int (3 : Int32)), .val (.int (4 : Int32)), .val (.ref a), .val (.int ((2 : Int32) + (1 : Int32)))] []))
  show own_Go p e below s _ _ _ (T68.setTop (mkF m 29 #[.val (.ref sr), .val (.int (3 : Int32)), .val (.int (4 : Int32)), .val (.ref a), .val (.int (3 : Int32))] []))
  refine own_st (fun t9 k9 => XS.goto X68.here hx rfl (pc0 := 29) (pc' := 8) rfl (hb hby own_d_jdk_52_method_14_29) (by decide) (by decide) k9) ?_
  show own_Go p e below s _ _ _ (T68.setTop (mkF m 8 #[.val (.ref sr), .val (.int (3 : Int32)), .val (.int (4 : Int32)), .val (.ref a), .val (.int (3 : Int32))] []))
  refine own_st (fun t9 k9 => XS.iload X68.here hx rfl (hb hby own_d_jdk_52_method_14_8) rfl  k9) ?_
  show own_Go p e below s _ _ _ (T68.setTop (mkF m 10 #[.val (.ref sr), .val (.int (3 : Int32)), .val (.int (4 : Int32)), .val (.ref a), .val (.int (3 : Int32))] [(.int (3 : Int32))]))
  refine own_st (fun t9 k9 => XS.iloadN X68.here hx rfl (hb hby own_d_jdk_52_method_14_10) rfl  k9) ?_
  show own_Go p e below s _ _ _ (T68.setTop (mkF m 11 #[.val (.ref sr), .val (.int (3 : Int32)), .val (.int (4 : Int32)), .val (.ref a), .val (.int (3 : Int32))] [(.int (4 : Int32)), (.int (3 : Int32))]))
  refine own_st (fun t9 k9 => XS.icmpNo X68.here hx rfl (hb hby own_d_jdk_52_method_14_11) rfl (by decide) k9) ?_
  show own_Go p e below s _ _ _ (T68.setTop (mkF m 14 #[.val (.ref sr), .val (.int (3 : Int32)), .val (.int (4 : Int32)), .val (.ref a), .val (.int (3 : Int32))] []))
  refine own_st (fun t9 k9 => XS.aloadN X68.here hx rfl (hb hby own_d_jdk_52_method_14_14) rfl rfl k9) ?_
  show own_Go p e below s _ _ _ (T68.setTop (mkF m 15 #[.val (.ref sr), .val (.int (3 : Int32)), .val (.int (4 : Int32)), .val (.ref a), .val (.int (3 : Int32))] [(.ref a)]))
  refine own_st (fun t9 k9 => XS.iload X68.here hx rfl (hb hby own_d_jdk_52_method_14_15) rfl  k9) ?_
  show own_Go p e below s _ _ _ (T68.setTop (mkF m 17 #[.val (.ref sr), .val (.int (3 : Int32)), .val (.int (4 : Int32)), .val (.ref a), .val (.int (3 : Int32))] [(.int (3 : Int32)), (.ref a)]))
  refine own_st (fun t9 k9 => XS.aloadN X68.here hx rfl (hb hby own_d_jdk_52_method_14_17) rfl rfl k9) ?_
  show own_Go p e below s _ _ _ (T68.setTop (mkF m 18 #[.val (.ref sr), .val (.int (3 : Int32)), .val (.int (4 : Int32)), .val (.ref a), .val (.int (3 : Int32))] [(.ref sr), (.int (3 : Int32)), (.ref a)]))
  refine own_st (fun t9 k9 => XS.iloadN X68.here hx rfl (hb hby own_d_jdk_52_method_14_18) rfl  k9) ?_
  show own_Go p e below s _ _ _ (T68.setTop (mkF m 19 #[.val (.ref sr), .val (.int (3 : Int32)), .val (.int (4 : Int32)), .val (.ref a), .val (.int (3 : Int32))] [(.int (3 : Int32)), (.ref sr), (.int (3 : Int32)), (.ref a)]))
  refine own_st (fun t9 k9 => own_cald X68 hx hZ e68 V_s (j := (3 : Int32)) (v := (.int x3)) ⟨by decide, by decide⟩ rfl (g := (mkF m 19 #[.val (.ref sr), .val (.int (3 : Int32)), .val (.int (4 : Int32)), .val (.ref a), .val (.int (3 : Int32))] [(.int (3 : Int32)), (.ref sr), (.int (3 : Int32)), (.ref a)])) rfl rfl (hb hby own_d_jdk_52_method_14_19) t9 k9) ?_
  show own_Go p e below s _ _ _ (T68.setTop (mkF m 20 #[.val (.ref sr), .val (.int (3 : Int32)), .val (.int (4 : Int32)), .val (.ref a), .val (.int (3 : Int32))] [(.int x3), (.int (3 : Int32)), (.ref a)]))
  obtain ⟨cl, A1, A2, A3, A4, A5, A6⟩ := id V_a
  obtain ⟨_, T69, h69, L69, X69, e69, ⟨rfl, Nc, h1, W1, W2⟩, st69⟩ := own_callS X68 hx hZ hown (hw _ (List.mem_of_getElem? (i := 63) rfl)) (hw _ (List.mem_of_getElem? (i := 64) rfl)) (hw _ (List.mem_of_getElem? (i := 21) rfl)) (hw _ (List.mem_of_getElem? (i := 65) rfl)) (by decide) (own_rm_putc l Z a0 hw [] a (3 : Int32) x3 cl h68 n0 Od A1 ge_a (inb_of A3 ⟨by decide, by decide⟩) (inb_of A3 ⟨by decide, by decide⟩) OA OH OL) (by decide) (by decide) e68 (W := 0) (g := (mkF m 20 #[.val (.ref sr), .val (.int (3 : Int32)), .val (.int (4 : Int32)), .val (.ref a), .val (.int (3 : Int32))] [(.int x3), (.int (3 : Int32)), (.ref a)])) rfl (by rw [hml]; rfl) (argsL := [(.ref a), (.int (3 : Int32)), (.int x3)]) (rest := []) rfl (lenOf own_pd2 rfl) rfl (by show 2 * 0 + _ ≤ _; exact Nat.le_of_eq rfl) (hb hby own_d_jdk_52_method_14_20) (by decide) (by decide)
  have N69 := Fr.app N68 Nc
  have V_s := V_s.keep ((Keep.of_wr W1).trans (Keep.of_wr W2) (fun x hx => Or.inl hx)) (ninS ne_sr_a nin0)
  have Od := Od.keep ((Keep.of_wr W1).trans (Keep.of_wr W2) (fun x hx => Or.inl hx)) (allS ge_a all0)
  have Kp := Kp.trans ((Keep.of_wr W1).trans (Keep.of_wr W2) (fun x hx => Or.inl hx)) (allS (Or.inr gz_a) all0)
  refine own_st st69 ?_
  show own_Go p e below s _ _ _ (T69.setTop (mkF m 23 #[.val (.ref sr), .val (.int (3 : Int32)), .val (.int (4 : Int32)), .val (.ref a), .val (.int (3 : Int32))] []))
  have V_m : Arv Z h1 a ka .byte (8 : Int32) [(.int (StrChars.lo8 x0)), (.int (StrChars.hi8 x0)), (.int (StrChars.lo8 x1)), (.int (StrChars.hi8 x1)), (.int (StrChars.lo8 x2)), (.int (StrChars.hi8 x2)), (.int (StrChars.lo8 x3)), (.int (0 : Int32))] (.int (0 : Int32)) := Arv.set A1 A2 A3 A4 A5 A6 (fits_nar_byte _) W1 6 rfl (Nat.le_of_ble_eq_true rfl)
  obtain ⟨cm, B1, B2, B3, B4, B5, B6⟩ := id V_m
  have V_a : Arv Z h69 a ka .byte (8 : Int32) [(.int (StrChars.lo8 x0)), (.int (StrChars.hi8 x0)), (.int (StrChars.lo8 x1)), (.int (StrChars.hi8 x1)), (.int (StrChars.lo8 x2)), (.int (StrChars.hi8 x2)), (.int (StrChars.lo8 x3)), (.int (StrChars.hi8 x3))] (.int (0 : Int32)) := Arv.set B1 B2 B3 B4 B5 B6 (fits_nar_byte _) W2 7 rfl (Nat.le_of_ble_eq_true rfl)
  refine own_st (fun t9 k9 => XS.iinc X69.here hx rfl (hb hby own_d_jdk_52_method_14_23) rfl (l' := #[.val (.ref sr), .val (.int ((3 : Int32) + (1 : Int32))), .val (.int (4 : Int32)), .val (.ref a), .val (.int (3 : Int32))]) rfl k9) ?_
  show own_Go p e below s _ _ _ (T69.setTop (mkF m 26 #[.val (.ref sr), .val (.int ((3 : Int32) + (1 : Int32))), .val (.int (4 : Int32)), .val (.ref a), .val (.int (3 : Int32))] []))
  show own_Go p e below s _ _ _ (T69.setTop (mkF m 26 #[.val (.ref sr), .val (.int (4 : Int32)), .val (.int (4 : Int32)), .val (.ref a), .val (.int (3 : Int32))] []))
  refine own_st (fun t9 k9 => XS.iinc X69.here hx rfl (hb hby own_d_jdk_52_method_14_26) rfl (l' := #[.val (.ref sr), .val (.int (4 : Int32)), .val (.int (4 : Int32)), .val (.ref a), .val (.int ((3 : Int32) + (1 : Int32)))]) rfl k9) ?_
  show own_Go p e below s _ _ _ (T69.setTop (mkF m 29 #[.val (.ref sr), .val (.int (4 : Int32)), .val (.int (4 : Int32)), .val (.ref a), .val (.int ((3 : Int32) + (1 : Int32)))] []))
  show own_Go p e below s _ _ _ (T69.setTop (mkF m 29 #[.val (.ref sr), .val (.int (4 : Int32)), .val (.int (4 : Int32)), .val (.ref a), .val (.int (4 : Int32))] []))
  refine own_st (fun t9 k9 => XS.goto X69.here hx rfl (pc0 := 29) (pc' := 8) rfl (hb hby own_d_jdk_52_method_14_29) (by decide) (by decide) k9) ?_
  show own_Go p e below s _ _ _ (T69.setTop (mkF m 8 #[.val (.ref sr), .val (.int (4 : Int32)), .val (.int (4 : Int32)), .val (.ref a), .val (.int (4 : Int32))] []))
  refine own_st (fun t9 k9 => XS.iload X69.here hx rfl (hb hby own_d_jdk_52_method_14_8) rfl  k9) ?_
  show own_Go p e below s _ _ _ (T69.setTop (mkF m 10 #[.val (.ref sr), .val (.int (4 : Int32)), .val (.int (4 : Int32)), .val (.ref a), .val (.int (4 : Int32))] [(.int (4 : Int32))]))
  refine own_st (fun t9 k9 => XS.iloadN X69.here hx rfl (hb hby own_d_jdk_52_method_14_10) rfl  k9) ?_
  show own_Go p e below s _ _ _ (T69.setTop (mkF m 11 #[.val (.ref sr), .val (.int (4 : Int32)), .val (.int (4 : Int32)), .val (.ref a), .val (.int (4 : Int32))] [(.int (4 : Int32)), (.int (4 : Int32))]))
  refine own_st (fun t9 k9 => XS.icmpYes X69.here hx rfl (pc0 := 11) (pc' := 32) rfl (hb hby own_d_jdk_52_method_14_11) rfl (by decide) (by decide) (by decide) k9) ?_
  show own_Go p e below s _ _ _ (T69.setTop (mkF m 32 #[.val (.ref sr), .val (.int (4 : Int32)), .val (.int (4 : Int32)), .val (.ref a), .val (.int (4 : Int32))] []))
  refine own_st (fun t9 k9 => XS.aloadN X69.here hx rfl (hb hby own_d_jdk_52_method_14_32) rfl rfl k9) ?_
  show own_Go p e below s _ _ _ (T69.setTop (mkF m 33 #[.val (.ref sr), .val (.int (4 : Int32)), .val (.int (4 : Int32)), .val (.ref a), .val (.int (4 : Int32))] [(.ref a)]))
  exact own_retR X69 hx hlk Bd.returns rfl rfl (hb hby own_d_jdk_52_method_14_33) (by decide) (by decide) (by rw [e69]; exact ⟨N69, Kp, a, ka, rfl, gz_a, V_a⟩)
theorem own_ef_cm4 (m : MethodId) (x0 : Addr) (x1 : Int32) (x2 : Addr) (x3 : Int32) (x4 : Int32) : entryFrame m #[(.ref x0), (.int x1), (.ref x2), (.int x3), (.int x4)] 7 = mkF m 0 #[.val (.ref x0), .val (.int x1), .val (.ref x2), .val (.int x3), .val (.int x4), .unset, .unset] [] := by first | (simp [entryFrame, mkF, argsToLocals, Value.category]; done) | rfl
def own_Q_cm4 (Z : State) (ds : Addr) (x0 : Int32) (x1 : Int32) (x2 : Int32) (x3 : Int32) (h0 : Heap) (n0 : Nat) (v : Option Value) (h : Heap) (L : List Loc) : Prop := v = some (.int (own_first [x0, x1, x2, x3] 0)) ∧ Fr n0 L ∧ Keep h0 h [ds]
set_option maxRecDepth 65536 in
set_option maxHeartbeats 40000000 in
theorem own_rm_cm4 (l : Launch) (Z : State) (a0 : Array Value) (hw : ∀ d ∈ tables_1, d.before a0 Z = true) (ws : List Jvm.Cond) (sr ds : Addr) (ks kd : ClassId) (x0 : Int32) (x1 : Int32) (x2 : Int32) (x3 : Int32) (h0 : Heap) (n0 : Nat) (Od : Old Z n0 h0) (V_s : Arv Z h0 sr ks .char (4 : Int32) [(.int x0), (.int x1), (.int x2), (.int x3)] (.int (0 : Int32))) (V_d : Arv Z h0 ds kd .byte (4 : Int32) [(.int (0 : Int32)), (.int (0 : Int32)), (.int (0 : Int32)), (.int (0 : Int32))] (.int (0 : Int32))) (ne_s : sr ≠ ds) (ge_ds : n0 ≤ ds) :
    MetFree l (⟨"java/lang/StringUTF16", "compress", "([CI[BII)I"⟩ : MethodName) (head1 (Jvm.Cond.code (⟨"java/lang/StringUTF16", "compress", "([CI[BII)I"⟩ : MethodName) jdk_52_method_21_code 7 (some .int) :: ws) ({ frames := 0, cells := 0, slots := 0, locals := 0 } : Room)) (fun a9 U => a9 = #[(.ref sr), (.int (0 : Int32)), (.ref ds), (.int (0 : Int32)), (.int (4 : Int32))] ∧ Z.Warmed39 U.vm ∧ U.heap = h0) (fun _ _ _ _ _ => True) (fun _ U o U' => ∃ v L, o = .returned v ∧ own_Q_cm4 Z ds x0 x1 x2 x3 h0 n0 v U'.heap L ∧ FrameEnd U o U' L ({ frames := 0, cells := 0, slots := 0, locals := 0 } : Room).cells ({ frames := 0, cells := 0, slots := 0, locals := 0 } : Room).slots) := by
  refine MetFree.of_bodySF (plainFor_of_name own_pn0) hisR ?_
  intro p e s m args below meth c s₁ Bd hml0 hP hK
  obtain ⟨rfl, hZ, hh⟩ := hP
  have hx := Bd.exec
  have hby := Bd.bytes
  have hml : c.maxLocals = 7 := hml0
  have hown : s.vm.findClass "java/lang/StringUTF16" = some m.cls := findClass_of_methodNamed Bd.named
  have hnm := (name_of_methodNamed Bd.named Bd.method).1
  have hlk : meth.locks = false := Bd.notSynchronized
  have X0 : Stand p l e ({ frames := 0, cells := 0, slots := 0, locals := 0 } : Room) s m #[(.ref sr), (.int (0 : Int32)), (.ref ds), (.int (0 : Int32)), (.int (4 : Int32))] below meth c s₁ [] 0 0 := Stand.of_body Bd
  have e0 : s₁.heap = h0 := by rw [← hh, Bd.state]; rfl
  have N0 := Fr.nil n0
  show own_Go p e below s (own_Q_cm4 Z ds x0 x1 x2 x3 h0 n0) ({ frames := 0, cells := 0, slots := 0, locals := 0 } : Room).cells ({ frames := 0, cells := 0, slots := 0, locals := 0 } : Room).slots (s₁.setTop (entryFrame m #[(.ref sr), (.int (0 : Int32)), (.ref ds), (.int (0 : Int32)), (.int (4 : Int32))] 7))
  refine own_st (fun t9 k9 => castTop (own_ef_cm4 m sr (0 : Int32) ds (0 : Int32) (4 : Int32)) k9) ?_
  show own_Go p e below s _ _ _ (s₁.setTop (mkF m 0 #[.val (.ref sr), .val (.int (0 : Int32)), .val (.ref ds), .val (.int (0 : Int32)), .val (.int (4 : Int32)), .unset, .unset] []))
  have Kp : Keep h0 h0 [ds] := Keep.refl h0 [ds]
  refine own_st (fun t9 k9 => XS.iconst X0.here hx rfl (hb hby own_d_jdk_52_method_21_0) k9) ?_
  show own_Go p e below s _ _ _ (s₁.setTop (mkF m 1 #[.val (.ref sr), .val (.int (0 : Int32)), .val (.ref ds), .val (.int (0 : Int32)), .val (.int (4 : Int32)), .unset, .unset] [(.int (0 : Int32))]))
  refine own_st (fun t9 k9 => XS.istore X0.here hx rfl (hb hby own_d_jdk_52_method_21_1) rfl (l' := #[.val (.ref sr), .val (.int (0 : Int32)), .val (.ref ds), .val (.int (0 : Int32)), .val (.int (4 : Int32)), .val (.int (0 : Int32)), .unset]) rfl k9) ?_
  show own_Go p e below s _ _ _ (s₁.setTop (mkF m 3 #[.val (.ref sr), .val (.int (0 : Int32)), .val (.ref ds), .val (.int (0 : Int32)), .val (.int (4 : Int32)), .val (.int (0 : Int32)), .unset] []))
  refine own_st (fun t9 k9 => XS.iload X0.here hx rfl (hb hby own_d_jdk_52_method_21_3) rfl  k9) ?_
  show own_Go p e below s _ _ _ (s₁.setTop (mkF m 5 #[.val (.ref sr), .val (.int (0 : Int32)), .val (.ref ds), .val (.int (0 : Int32)), .val (.int (4 : Int32)), .val (.int (0 : Int32)), .unset] [(.int (0 : Int32))]))
  refine own_st (fun t9 k9 => XS.iload X0.here hx rfl (hb hby own_d_jdk_52_method_21_5) rfl  k9) ?_
  show own_Go p e below s _ _ _ (s₁.setTop (mkF m 7 #[.val (.ref sr), .val (.int (0 : Int32)), .val (.ref ds), .val (.int (0 : Int32)), .val (.int (4 : Int32)), .val (.int (0 : Int32)), .unset] [(.int (4 : Int32)), (.int (0 : Int32))]))
  refine own_st (fun t9 k9 => XS.icmpNo X0.here hx rfl (hb hby own_d_jdk_52_method_21_7) rfl (by decide) k9) ?_
  show own_Go p e below s _ _ _ (s₁.setTop (mkF m 10 #[.val (.ref sr), .val (.int (0 : Int32)), .val (.ref ds), .val (.int (0 : Int32)), .val (.int (4 : Int32)), .val (.int (0 : Int32)), .unset] []))
  refine own_st (fun t9 k9 => XS.aloadN X0.here hx rfl (hb hby own_d_jdk_52_method_21_10) rfl rfl k9) ?_
  show own_Go p e below s _ _ _ (s₁.setTop (mkF m 11 #[.val (.ref sr), .val (.int (0 : Int32)), .val (.ref ds), .val (.int (0 : Int32)), .val (.int (4 : Int32)), .val (.int (0 : Int32)), .unset] [(.ref sr)]))
  refine own_st (fun t9 k9 => XS.iloadN X0.here hx rfl (hb hby own_d_jdk_52_method_21_11) rfl  k9) ?_
  show own_Go p e below s _ _ _ (s₁.setTop (mkF m 12 #[.val (.ref sr), .val (.int (0 : Int32)), .val (.ref ds), .val (.int (0 : Int32)), .val (.int (4 : Int32)), .val (.int (0 : Int32)), .unset] [(.int (0 : Int32)), (.ref sr)]))
  refine own_st (fun t9 k9 => own_cald X0 hx hZ e0 V_s (j := (0 : Int32)) (v := (.int x0)) ⟨by decide, by decide⟩ rfl (g := (mkF m 12 #[.val (.ref sr), .val (.int (0 : Int32)), .val (.ref ds), .val (.int (0 : Int32)), .val (.int (4 : Int32)), .val (.int (0 : Int32)), .unset] [(.int (0 : Int32)), (.ref sr)])) rfl rfl (hb hby own_d_jdk_52_method_21_12) t9 k9) ?_
  show own_Go p e below s _ _ _ (s₁.setTop (mkF m 13 #[.val (.ref sr), .val (.int (0 : Int32)), .val (.ref ds), .val (.int (0 : Int32)), .val (.int (4 : Int32)), .val (.int (0 : Int32)), .unset] [(.int x0)]))
  refine own_st (fun t9 k9 => XS.istore X0.here hx rfl (hb hby own_d_jdk_52_method_21_13) rfl (l' := #[.val (.ref sr), .val (.int (0 : Int32)), .val (.ref ds), .val (.int (0 : Int32)), .val (.int (4 : Int32)), .val (.int (0 : Int32)), .val (.int x0)]) rfl k9) ?_
  show own_Go p e below s _ _ _ (s₁.setTop (mkF m 15 #[.val (.ref sr), .val (.int (0 : Int32)), .val (.ref ds), .val (.int (0 : Int32)), .val (.int (4 : Int32)), .val (.int (0 : Int32)), .val (.int x0)] []))
  refine own_st (fun t9 k9 => XS.iload X0.here hx rfl (hb hby own_d_jdk_52_method_21_15) rfl  k9) ?_
  show own_Go p e below s _ _ _ (s₁.setTop (mkF m 17 #[.val (.ref sr), .val (.int (0 : Int32)), .val (.ref ds), .val (.int (0 : Int32)), .val (.int (4 : Int32)), .val (.int (0 : Int32)), .val (.int x0)] [(.int x0)]))
  refine own_st (fun t9 k9 => XS.sipush X0.here hx rfl (hb hby own_d_jdk_52_method_21_17) k9) ?_
  show own_Go p e below s _ _ _ (s₁.setTop (mkF m 20 #[.val (.ref sr), .val (.int (0 : Int32)), .val (.ref ds), .val (.int (0 : Int32)), .val (.int (4 : Int32)), .val (.int (0 : Int32)), .val (.int x0)] [(.int (255 : Int32)), (.int x0)]))
  by_cases hg0 : (255 : Int32) < x0
  · skip
    refine own_st (fun t9 k9 => XS.icmpNo X0.here hx rfl (hb hby own_d_jdk_52_method_21_20) rfl (tlt (hg0 : (255 : Int32) < x0)).2.2.2 k9) ?_
    show own_Go p e below s _ _ _ (s₁.setTop (mkF m 23 #[.val (.ref sr), .val (.int (0 : Int32)), .val (.ref ds), .val (.int (0 : Int32)), .val (.int (4 : Int32)), .val (.int (0 : Int32)), .val (.int x0)] []))
    refine own_st (fun t9 k9 => XS.iload X0.here hx rfl (hb hby own_d_jdk_52_method_21_23) rfl  k9) ?_
    show own_Go p e below s _ _ _ (s₁.setTop (mkF m 25 #[.val (.ref sr), .val (.int (0 : Int32)), .val (.ref ds), .val (.int (0 : Int32)), .val (.int (4 : Int32)), .val (.int (0 : Int32)), .val (.int x0)] [(.int (0 : Int32))]))
    exact own_retI X0 hx hlk Bd.returns (hb hby own_d_jdk_52_method_21_25) (by decide) (by decide) (by rw [e0]; exact ⟨by rw [(show own_first [x0, x1, x2, x3] 0 = (0 : Int32) from (if_pos hg0))], N0, Kp⟩)
  · skip
    refine own_st (fun t9 k9 => XS.icmpYes X0.here hx rfl (pc0 := 20) (pc' := 26) rfl (hb hby own_d_jdk_52_method_21_20) rfl (flt (hg0 : ¬ ((255 : Int32) < x0))).2.2.2 (by decide) (by decide) k9) ?_
    show own_Go p e below s _ _ _ (s₁.setTop (mkF m 26 #[.val (.ref sr), .val (.int (0 : Int32)), .val (.ref ds), .val (.int (0 : Int32)), .val (.int (4 : Int32)), .val (.int (0 : Int32)), .val (.int x0)] []))
    refine own_st (fun t9 k9 => XS.aloadN X0.here hx rfl (hb hby own_d_jdk_52_method_21_26) rfl rfl k9) ?_
    show own_Go p e below s _ _ _ (s₁.setTop (mkF m 27 #[.val (.ref sr), .val (.int (0 : Int32)), .val (.ref ds), .val (.int (0 : Int32)), .val (.int (4 : Int32)), .val (.int (0 : Int32)), .val (.int x0)] [(.ref ds)]))
    refine own_st (fun t9 k9 => XS.iloadN X0.here hx rfl (hb hby own_d_jdk_52_method_21_27) rfl  k9) ?_
    show own_Go p e below s _ _ _ (s₁.setTop (mkF m 28 #[.val (.ref sr), .val (.int (0 : Int32)), .val (.ref ds), .val (.int (0 : Int32)), .val (.int (4 : Int32)), .val (.int (0 : Int32)), .val (.int x0)] [(.int (0 : Int32)), (.ref ds)]))
    refine own_st (fun t9 k9 => XS.iload X0.here hx rfl (hb hby own_d_jdk_52_method_21_28) rfl  k9) ?_
    show own_Go p e below s _ _ _ (s₁.setTop (mkF m 30 #[.val (.ref sr), .val (.int (0 : Int32)), .val (.ref ds), .val (.int (0 : Int32)), .val (.int (4 : Int32)), .val (.int (0 : Int32)), .val (.int x0)] [(.int x0), (.int (0 : Int32)), (.ref ds)]))
    refine own_st (fun t9 k9 => XT.i2b X0.here hx rfl (hb hby own_d_jdk_52_method_21_30) rfl k9) ?_
    show own_Go p e below s _ _ _ (s₁.setTop (mkF m 31 #[.val (.ref sr), .val (.int (0 : Int32)), .val (.ref ds), .val (.int (0 : Int32)), .val (.int (4 : Int32)), .val (.int (0 : Int32)), .val (.int x0)] [(.int (x0.toInt8.toInt32)), (.int (0 : Int32)), (.ref ds)]))
    obtain ⟨cl70, Ar70, q70, S70, M70, H70, G70⟩ := id V_d
    obtain ⟨T70, h70, X70, e70, W70, st70⟩ := stB X0 hx hZ e0 Ar70 (j := (0 : Int32)) (inb_of S70 ⟨by decide, by decide⟩) (g := (mkF m 31 #[.val (.ref sr), .val (.int (0 : Int32)), .val (.ref ds), .val (.int (0 : Int32)), .val (.int (4 : Int32)), .val (.int (0 : Int32)), .val (.int x0)] [(.int (x0.toInt8.toInt32)), (.int (0 : Int32)), (.ref ds)])) rfl rfl (hb hby own_d_jdk_52_method_21_31)
    have N70 := Fr.snoc X70 N0 ge_ds
    have V_s := V_s.other W70 ne_s
    have Od := Od.wr W70 ge_ds
    have Kp := Kp.wr W70 (Or.inl (List.mem_of_getElem? (i := 0) rfl))
    refine own_st st70 ?_
    show own_Go p e below s _ _ _ (T70.setTop (mkF m 32 #[.val (.ref sr), .val (.int (0 : Int32)), .val (.ref ds), .val (.int (0 : Int32)), .val (.int (4 : Int32)), .val (.int (0 : Int32)), .val (.int x0)] []))
    have V_d : Arv Z h70 ds kd .byte (4 : Int32) [(.int (nar .byte (x0.toInt8.toInt32))), (.int (0 : Int32)), (.int (0 : Int32)), (.int (0 : Int32))] (.int (0 : Int32)) := Arv.set Ar70 q70 S70 M70 H70 G70 (fits_nar_byte _) W70 0 rfl (Nat.le_of_ble_eq_true rfl)
    refine own_st (fun t9 k9 => XS.iinc X70.here hx rfl (hb hby own_d_jdk_52_method_21_32) rfl (l' := #[.val (.ref sr), .val (.int ((0 : Int32) + (1 : Int32))), .val (.ref ds), .val (.int (0 : Int32)), .val (.int (4 : Int32)), .val (.int (0 : Int32)), .val (.int x0)]) rfl k9) ?_
    show own_Go p e below s _ _ _ (T70.setTop (mkF m 35 #[.val (.ref sr), .val (.int ((0 : Int32) + (1 : Int32))), .val (.ref ds), .val (.int (0 : Int32)), .val (.int (4 : Int32)), .val (.int (0 : Int32)), .val (.int x0)] []))
    show own_Go p e below s _ _ _ (T70.setTop (mkF m 35 #[.val (.ref sr), .val (.int (1 : Int32)), .val (.ref ds), .val (.int (0 : Int32)), .val (.int (4 : Int32)), .val (.int (0 : Int32)), .val (.int x0)] []))
    refine own_st (fun t9 k9 => XS.iinc X70.here hx rfl (hb hby own_d_jdk_52_method_21_35) rfl (l' := #[.val (.ref sr), .val (.int (1 : Int32)), .val (.ref ds), .val (.int ((0 : Int32) + (1 : Int32))), .val (.int (4 : Int32)), .val (.int (0 : Int32)), .val (.int x0)]) rfl k9) ?_
    show own_Go p e below s _ _ _ (T70.setTop (mkF m 38 #[.val (.ref sr), .val (.int (1 : Int32)), .val (.ref ds), .val (.int ((0 : Int32) + (1 : Int32))), .val (.int (4 : Int32)), .val (.int (0 : Int32)), .val (.int x0)] []))
    show own_Go p e below s _ _ _ (T70.setTop (mkF m 38 #[.val (.ref sr), .val (.int (1 : Int32)), .val (.ref ds), .val (.int (1 : Int32)), .val (.int (4 : Int32)), .val (.int (0 : Int32)), .val (.int x0)] []))
    refine own_st (fun t9 k9 => XS.iinc X70.here hx rfl (hb hby own_d_jdk_52_method_21_38) rfl (l' := #[.val (.ref sr), .val (.int (1 : Int32)), .val (.ref ds), .val (.int (1 : Int32)), .val (.int (4 : Int32)), .val (.int ((0 : Int32) + (1 : Int32))), .val (.int x0)]) rfl k9) ?_
    show own_Go p e below s _ _ _ (T70.setTop (mkF m 41 #[.val (.ref sr), .val (.int (1 : Int32)), .val (.ref ds), .val (.int (1 : Int32)), .val (.int (4 : Int32)), .val (.int ((0 : Int32) + (1 : Int32))), .val (.int x0)] []))
    show own_Go p e below s _ _ _ (T70.setTop (mkF m 41 #[.val (.ref sr), .val (.int (1 : Int32)), .val (.ref ds), .val (.int (1 : Int32)), .val (.int (4 : Int32)), .val (.int (1 : Int32)), .val (.int x0)] []))
    refine own_st (fun t9 k9 => XS.goto X70.here hx rfl (pc0 := 41) (pc' := 3) rfl (hb hby own_d_jdk_52_method_21_41) (by decide) (by decide) k9) ?_
    show own_Go p e below s _ _ _ (T70.setTop (mkF m 3 #[.val (.ref sr), .val (.int (1 : Int32)), .val (.ref ds), .val (.int (1 : Int32)), .val (.int (4 : Int32)), .val (.int (1 : Int32)), .val (.int x0)] []))
    refine own_st (fun t9 k9 => XS.iload X70.here hx rfl (hb hby own_d_jdk_52_method_21_3) rfl  k9) ?_
    show own_Go p e below s _ _ _ (T70.setTop (mkF m 5 #[.val (.ref sr), .val (.int (1 : Int32)), .val (.ref ds), .val (.int (1 : Int32)), .val (.int (4 : Int32)), .val (.int (1 : Int32)), .val (.int x0)] [(.int (1 : Int32))]))
    refine own_st (fun t9 k9 => XS.iload X70.here hx rfl (hb hby own_d_jdk_52_method_21_5) rfl  k9) ?_
    show own_Go p e below s _ _ _ (T70.setTop (mkF m 7 #[.val (.ref sr), .val (.int (1 : Int32)), .val (.ref ds), .val (.int (1 : Int32)), .val (.int (4 : Int32)), .val (.int (1 : Int32)), .val (.int x0)] [(.int (4 : Int32)), (.int (1 : Int32))]))
    refine own_st (fun t9 k9 => XS.icmpNo X70.here hx rfl (hb hby own_d_jdk_52_method_21_7) rfl (by decide) k9) ?_
    show own_Go p e below s _ _ _ (T70.setTop (mkF m 10 #[.val (.ref sr), .val (.int (1 : Int32)), .val (.ref ds), .val (.int (1 : Int32)), .val (.int (4 : Int32)), .val (.int (1 : Int32)), .val (.int x0)] []))
    refine own_st (fun t9 k9 => XS.aloadN X70.here hx rfl (hb hby own_d_jdk_52_method_21_10) rfl rfl k9) ?_
    show own_Go p e below s _ _ _ (T70.setTop (mkF m 11 #[.val (.ref sr), .val (.int (1 : Int32)), .val (.ref ds), .val (.int (1 : Int32)), .val (.int (4 : Int32)), .val (.int (1 : Int32)), .val (.int x0)] [(.ref sr)]))
    refine own_st (fun t9 k9 => XS.iloadN X70.here hx rfl (hb hby own_d_jdk_52_method_21_11) rfl  k9) ?_
    show own_Go p e below s _ _ _ (T70.setTop (mkF m 12 #[.val (.ref sr), .val (.int (1 : Int32)), .val (.ref ds), .val (.int (1 : Int32)), .val (.int (4 : Int32)), .val (.int (1 : Int32)), .val (.int x0)] [(.int (1 : Int32)), (.ref sr)]))
    refine own_st (fun t9 k9 => own_cald X70 hx hZ e70 V_s (j := (1 : Int32)) (v := (.int x1)) ⟨by decide, by decide⟩ rfl (g := (mkF m 12 #[.val (.ref sr), .val (.int (1 : Int32)), .val (.ref ds), .val (.int (1 : Int32)), .val (.int (4 : Int32)), .val (.int (1 : Int32)), .val (.int x0)] [(.int (1 : Int32)), (.ref sr)])) rfl rfl (hb hby own_d_jdk_52_method_21_12) t9 k9) ?_
    show own_Go p e below s _ _ _ (T70.setTop (mkF m 13 #[.val (.ref sr), .val (.int (1 : Int32)), .val (.ref ds), .val (.int (1 : Int32)), .val (.int (4 : Int32)), .val (.int (1 : Int32)), .val (.int x0)] [(.int x1)]))
    refine own_st (fun t9 k9 => XS.istore X70.here hx rfl (hb hby own_d_jdk_52_method_21_13) rfl (l' := #[.val (.ref sr), .val (.int (1 : Int32)), .val (.ref ds), .val (.int (1 : Int32)), .val (.int (4 : Int32)), .val (.int (1 : Int32)), .val (.int x1)]) rfl k9) ?_
    show own_Go p e below s _ _ _ (T70.setTop (mkF m 15 #[.val (.ref sr), .val (.int (1 : Int32)), .val (.ref ds), .val (.int (1 : Int32)), .val (.int (4 : Int32)), .val (.int (1 : Int32)), .val (.int x1)] []))
    refine own_st (fun t9 k9 => XS.iload X70.here hx rfl (hb hby own_d_jdk_52_method_21_15) rfl  k9) ?_
    show own_Go p e below s _ _ _ (T70.setTop (mkF m 17 #[.val (.ref sr), .val (.int (1 : Int32)), .val (.ref ds), .val (.int (1 : Int32)), .val (.int (4 : Int32)), .val (.int (1 : Int32)), .val (.int x1)] [(.int x1)]))
    refine own_st (fun t9 k9 => XS.sipush X70.here hx rfl (hb hby own_d_jdk_52_method_21_17) k9) ?_
    show own_Go p e below s _ _ _ (T70.setTop (mkF m 20 #[.val (.ref sr), .val (.int (1 : Int32)), .val (.ref ds), .val (.int (1 : Int32)), .val (.int (4 : Int32)), .val (.int (1 : Int32)), .val (.int x1)] [(.int (255 : Int32)), (.int x1)]))
    by_cases hg1 : (255 : Int32) < x1
    · skip
      refine own_st (fun t9 k9 => XS.icmpNo X70.here hx rfl (hb hby own_d_jdk_52_method_21_20) rfl (tlt (hg1 : (255 : Int32) < x1)).2.2.2 k9) ?_
      show own_Go p e below s _ _ _ (T70.setTop (mkF m 23 #[.val (.ref sr), .val (.int (1 : Int32)), .val (.ref ds), .val (.int (1 : Int32)), .val (.int (4 : Int32)), .val (.int (1 : Int32)), .val (.int x1)] []))
      refine own_st (fun t9 k9 => XS.iload X70.here hx rfl (hb hby own_d_jdk_52_method_21_23) rfl  k9) ?_
      show own_Go p e below s _ _ _ (T70.setTop (mkF m 25 #[.val (.ref sr), .val (.int (1 : Int32)), .val (.ref ds), .val (.int (1 : Int32)), .val (.int (4 : Int32)), .val (.int (1 : Int32)), .val (.int x1)] [(.int (1 : Int32))]))
      exact own_retI X70 hx hlk Bd.returns (hb hby own_d_jdk_52_method_21_25) (by decide) (by decide) (by rw [e70]; exact ⟨by rw [(show own_first [x0, x1, x2, x3] 0 = (1 : Int32) from ((if_neg hg0).trans (if_pos hg1)))], N70, Kp⟩)
    · skip
      refine own_st (fun t9 k9 => XS.icmpYes X70.here hx rfl (pc0 := 20) (pc' := 26) rfl (hb hby own_d_jdk_52_method_21_20) rfl (flt (hg1 : ¬ ((255 : Int32) < x1))).2.2.2 (by decide) (by decide) k9) ?_
      show own_Go p e below s _ _ _ (T70.setTop (mkF m 26 #[.val (.ref sr), .val (.int (1 : Int32)), .val (.ref ds), .val (.int (1 : Int32)), .val (.int (4 : Int32)), .val (.int (1 : Int32)), .val (.int x1)] []))
      refine own_st (fun t9 k9 => XS.aloadN X70.here hx rfl (hb hby own_d_jdk_52_method_21_26) rfl rfl k9) ?_
      show own_Go p e below s _ _ _ (T70.setTop (mkF m 27 #[.val (.ref sr), .val (.int (1 : Int32)), .val (.ref ds), .val (.int (1 : Int32)), .val (.int (4 : Int32)), .val (.int (1 : Int32)), .val (.int x1)] [(.ref ds)]))
      refine own_st (fun t9 k9 => XS.iloadN X70.here hx rfl (hb hby own_d_jdk_52_method_21_27) rfl  k9) ?_
      show own_Go p e below s _ _ _ (T70.setTop (mkF m 28 #[.val (.ref sr), .val (.int (1 : Int32)), .val (.ref ds), .val (.int (1 : Int32)), .val (.int (4 : Int32)), .val (.int (1 : Int32)), .val (.int x1)] [(.int (1 : Int32)), (.ref ds)]))
      refine own_st (fun t9 k9 => XS.iload X70.here hx rfl (hb hby own_d_jdk_52_method_21_28) rfl  k9) ?_
      show own_Go p e below s _ _ _ (T70.setTop (mkF m 30 #[.val (.ref sr), .val (.int (1 : Int32)), .val (.ref ds), .val (.int (1 : Int32)), .val (.int (4 : Int32)), .val (.int (1 : Int32)), .val (.int x1)] [(.int x1), (.int (1 : Int32)), (.ref ds)]))
      refine own_st (fun t9 k9 => XT.i2b X70.here hx rfl (hb hby own_d_jdk_52_method_21_30) rfl k9) ?_
      show own_Go p e below s _ _ _ (T70.setTop (mkF m 31 #[.val (.ref sr), .val (.int (1 : Int32)), .val (.ref ds), .val (.int (1 : Int32)), .val (.int (4 : Int32)), .val (.int (1 : Int32)), .val (.int x1)] [(.int (x1.toInt8.toInt32)), (.int (1 : Int32)), (.ref ds)]))
      obtain ⟨cl71, Ar71, q71, S71, M71, H71, G71⟩ := id V_d
      obtain ⟨T71, h71, X71, e71, W71, st71⟩ := stB X70 hx hZ e70 Ar71 (j := (1 : Int32)) (inb_of S71 ⟨by decide, by decide⟩) (g := (mkF m 31 #[.val (.ref sr), .val (.int (1 : Int32)), .val (.ref ds), .val (.int (1 : Int32)), .val (.int (4 : Int32)), .val (.int (1 : Int32)), .val (.int x1)] [(.int (x1.toInt8.toInt32)), (.int (1 : Int32)), (.ref ds)])) rfl rfl (hb hby own_d_jdk_52_method_21_31)
      have N71 := Fr.snoc X71 N70 ge_ds
      have V_s := V_s.other W71 ne_s
      have Od := Od.wr W71 ge_ds
      have Kp := Kp.wr W71 (Or.inl (List.mem_of_getElem? (i := 0) rfl))
      refine own_st st71 ?_
      show own_Go p e below s _ _ _ (T71.setTop (mkF m 32 #[.val (.ref sr), .val (.int (1 : Int32)), .val (.ref ds), .val (.int (1 : Int32)), .val (.int (4 : Int32)), .val (.int (1 : Int32)), .val (.int x1)] []))
      have V_d : Arv Z h71 ds kd .byte (4 : Int32) [(.int (nar .byte (x0.toInt8.toInt32))), (.int (nar .byte (x1.toInt8.toInt32))), (.int (0 : Int32)), (.int (0 : Int32))] (.int (0 : Int32)) := Arv.set Ar71 q71 S71 M71 H71 G71 (fits_nar_byte _) W71 1 rfl (Nat.le_of_ble_eq_true rfl)
      refine own_st (fun t9 k9 => XS.iinc X71.here hx rfl (hb hby own_d_jdk_52_method_21_32) rfl (l' := #[.val (.ref sr), .val (.int ((1 : Int32) + (1 : Int32))), .val (.ref ds), .val (.int (1 : Int32)), .val (.int (4 : Int32)), .val (.int (1 : Int32)), .val (.int x1)]) rfl k9) ?_
      show own_Go p e below s _ _ _ (T71.setTop (mkF m 35 #[.val (.ref sr), .val (.int ((1 : Int32) + (1 : Int32))), .val (.ref ds), .val (.int (1 : Int32)), .val (.int (4 : Int32)), .val (.int (1 : Int32)), .val (.int x1)] []))
      show own_Go p e below s _ _ _ (T71.setTop (mkF m 35 #[.val (.ref sr), .val (.int (2 : Int32)), .val (.ref ds), .val (.int (1 : Int32)), .val (.int (4 : Int32)), .val (.int (1 : Int32)), .val (.int x1)] []))
      refine own_st (fun t9 k9 => XS.iinc X71.here hx rfl (hb hby own_d_jdk_52_method_21_35) rfl (l' := #[.val (.ref sr), .val (.int (2 : Int32)), .val (.ref ds), .val (.int ((1 : Int32) + (1 : Int32))), .val (.int (4 : Int32)), .val (.int (1 : Int32)), .val (.int x1)]) rfl k9) ?_
      show own_Go p e below s _ _ _ (T71.setTop (mkF m 38 #[.val (.ref sr), .val (.int (2 : Int32)), .val (.ref ds), .val (.int ((1 : Int32) + (1 : Int32))), .val (.int (4 : Int32)), .val (.int (1 : Int32)), .val (.int x1)] []))
      show own_Go p e below s _ _ _ (T71.setTop (mkF m 38 #[.val (.ref sr), .val (.int (2 : Int32)), .val (.ref ds), .val (.int (2 : Int32)), .val (.int (4 : Int32)), .val (.int (1 : Int32)), .val (.int x1)] []))
      refine own_st (fun t9 k9 => XS.iinc X71.here hx rfl (hb hby own_d_jdk_52_method_21_38) rfl (l' := #[.val (.ref sr), .val (.int (2 : Int32)), .val (.ref ds), .val (.int (2 : Int32)), .val (.int (4 : Int32)), .val (.int ((1 : Int32) + (1 : Int32))), .val (.int x1)]) rfl k9) ?_
      show own_Go p e below s _ _ _ (T71.setTop (mkF m 41 #[.val (.ref sr), .val (.int (2 : Int32)), .val (.ref ds), .val (.int (2 : Int32)), .val (.int (4 : Int32)), .val (.int ((1 : Int32) + (1 : Int32))), .val (.int x1)] []))
      show own_Go p e below s _ _ _ (T71.setTop (mkF m 41 #[.val (.ref sr), .val (.int (2 : Int32)), .val (.ref ds), .val (.int (2 : Int32)), .val (.int (4 : Int32)), .val (.int (2 : Int32)), .val (.int x1)] []))
      refine own_st (fun t9 k9 => XS.goto X71.here hx rfl (pc0 := 41) (pc' := 3) rfl (hb hby own_d_jdk_52_method_21_41) (by decide) (by decide) k9) ?_
      show own_Go p e below s _ _ _ (T71.setTop (mkF m 3 #[.val (.ref sr), .val (.int (2 : Int32)), .val (.ref ds), .val (.int (2 : Int32)), .val (.int (4 : Int32)), .val (.int (2 : Int32)), .val (.int x1)] []))
      refine own_st (fun t9 k9 => XS.iload X71.here hx rfl (hb hby own_d_jdk_52_method_21_3) rfl  k9) ?_
      show own_Go p e below s _ _ _ (T71.setTop (mkF m 5 #[.val (.ref sr), .val (.int (2 : Int32)), .val (.ref ds), .val (.int (2 : Int32)), .val (.int (4 : Int32)), .val (.int (2 : Int32)), .val (.int x1)] [(.int (2 : Int32))]))
      refine own_st (fun t9 k9 => XS.iload X71.here hx rfl (hb hby own_d_jdk_52_method_21_5) rfl  k9) ?_
      show own_Go p e below s _ _ _ (T71.setTop (mkF m 7 #[.val (.ref sr), .val (.int (2 : Int32)), .val (.ref ds), .val (.int (2 : Int32)), .val (.int (4 : Int32)), .val (.int (2 : Int32)), .val (.int x1)] [(.int (4 : Int32)), (.int (2 : Int32))]))
      refine own_st (fun t9 k9 => XS.icmpNo X71.here hx rfl (hb hby own_d_jdk_52_method_21_7) rfl (by decide) k9) ?_
      show own_Go p e below s _ _ _ (T71.setTop (mkF m 10 #[.val (.ref sr), .val (.int (2 : Int32)), .val (.ref ds), .val (.int (2 : Int32)), .val (.int (4 : Int32)), .val (.int (2 : Int32)), .val (.int x1)] []))
      refine own_st (fun t9 k9 => XS.aloadN X71.here hx rfl (hb hby own_d_jdk_52_method_21_10) rfl rfl k9) ?_
      show own_Go p e below s _ _ _ (T71.setTop (mkF m 11 #[.val (.ref sr), .val (.int (2 : Int32)), .val (.ref ds), .val (.int (2 : Int32)), .val (.int (4 : Int32)), .val (.int (2 : Int32)), .val (.int x1)] [(.ref sr)]))
      refine own_st (fun t9 k9 => XS.iloadN X71.here hx rfl (hb hby own_d_jdk_52_method_21_11) rfl  k9) ?_
      show own_Go p e below s _ _ _ (T71.setTop (mkF m 12 #[.val (.ref sr), .val (.int (2 : Int32)), .val (.ref ds), .val (.int (2 : Int32)), .val (.int (4 : Int32)), .val (.int (2 : Int32)), .val (.int x1)] [(.int (2 : Int32)), (.ref sr)]))
      refine own_st (fun t9 k9 => own_cald X71 hx hZ e71 V_s (j := (2 : Int32)) (v := (.int x2)) ⟨by decide, by decide⟩ rfl (g := (mkF m 12 #[.val (.ref sr), .val (.int (2 : Int32)), .val (.ref ds), .val (.int (2 : Int32)), .val (.int (4 : Int32)), .val (.int (2 : Int32)), .val (.int x1)] [(.int (2 : Int32)), (.ref sr)])) rfl rfl (hb hby own_d_jdk_52_method_21_12) t9 k9) ?_
      show own_Go p e below s _ _ _ (T71.setTop (mkF m 13 #[.val (.ref sr), .val (.int (2 : Int32)), .val (.ref ds), .val (.int (2 : Int32)), .val (.int (4 : Int32)), .val (.int (2 : Int32)), .val (.int x1)] [(.int x2)]))
      refine own_st (fun t9 k9 => XS.istore X71.here hx rfl (hb hby own_d_jdk_52_method_21_13) rfl (l' := #[.val (.ref sr), .val (.int (2 : Int32)), .val (.ref ds), .val (.int (2 : Int32)), .val (.int (4 : Int32)), .val (.int (2 : Int32)), .val (.int x2)]) rfl k9) ?_
      show own_Go p e below s _ _ _ (T71.setTop (mkF m 15 #[.val (.ref sr), .val (.int (2 : Int32)), .val (.ref ds), .val (.int (2 : Int32)), .val (.int (4 : Int32)), .val (.int (2 : Int32)), .val (.int x2)] []))
      refine own_st (fun t9 k9 => XS.iload X71.here hx rfl (hb hby own_d_jdk_52_method_21_15) rfl  k9) ?_
      show own_Go p e below s _ _ _ (T71.setTop (mkF m 17 #[.val (.ref sr), .val (.int (2 : Int32)), .val (.ref ds), .val (.int (2 : Int32)), .val (.int (4 : Int32)), .val (.int (2 : Int32)), .val (.int x2)] [(.int x2)]))
      refine own_st (fun t9 k9 => XS.sipush X71.here hx rfl (hb hby own_d_jdk_52_method_21_17) k9) ?_
      show own_Go p e below s _ _ _ (T71.setTop (mkF m 20 #[.val (.ref sr), .val (.int (2 : Int32)), .val (.ref ds), .val (.int (2 : Int32)), .val (.int (4 : Int32)), .val (.int (2 : Int32)), .val (.int x2)] [(.int (255 : Int32)), (.int x2)]))
      by_cases hg2 : (255 : Int32) < x2
      · skip
        refine own_st (fun t9 k9 => XS.icmpNo X71.here hx rfl (hb hby own_d_jdk_52_method_21_20) rfl (tlt (hg2 : (255 : Int32) < x2)).2.2.2 k9) ?_
        show own_Go p e below s _ _ _ (T71.setTop (mkF m 23 #[.val (.ref sr), .val (.int (2 : Int32)), .val (.ref ds), .val (.int (2 : Int32)), .val (.int (4 : Int32)), .val (.int (2 : Int32)), .val (.int x2)] []))
        refine own_st (fun t9 k9 => XS.iload X71.here hx rfl (hb hby own_d_jdk_52_method_21_23) rfl  k9) ?_
        show own_Go p e below s _ _ _ (T71.setTop (mkF m 25 #[.val (.ref sr), .val (.int (2 : Int32)), .val (.ref ds), .val (.int (2 : Int32)), .val (.int (4 : Int32)), .val (.int (2 : Int32)), .val (.int x2)] [(.int (2 : Int32))]))
        exact own_retI X71 hx hlk Bd.returns (hb hby own_d_jdk_52_method_21_25) (by decide) (by decide) (by rw [e71]; exact ⟨by rw [(show own_first [x0, x1, x2, x3] 0 = (2 : Int32) from ((if_neg hg0).trans ((if_neg hg1).trans (if_pos hg2))))], N71, Kp⟩)
      · skip
        refine own_st (fun t9 k9 => XS.icmpYes X71.here hx rfl (pc0 := 20) (pc' := 26) rfl (hb hby own_d_jdk_52_method_21_20) rfl (flt (hg2 : ¬ ((255 : Int32) < x2))).2.2.2 (by decide) (by decide) k9) ?_
        show own_Go p e below s _ _ _ (T71.setTop (mkF m 26 #[.val (.ref sr), .val (.int (2 : Int32)), .val (.ref ds), .val (.int (2 : Int32)), .val (.int (4 : Int32)), .val (.int (2 : Int32)), .val (.int x2)] []))
        refine own_st (fun t9 k9 => XS.aloadN X71.here hx rfl (hb hby own_d_jdk_52_method_21_26) rfl rfl k9) ?_
        show own_Go p e below s _ _ _ (T71.setTop (mkF m 27 #[.val (.ref sr), .val (.int (2 : Int32)), .val (.ref ds), .val (.int (2 : Int32)), .val (.int (4 : Int32)), .val (.int (2 : Int32)), .val (.int x2)] [(.ref ds)]))
        refine own_st (fun t9 k9 => XS.iloadN X71.here hx rfl (hb hby own_d_jdk_52_method_21_27) rfl  k9) ?_
        show own_Go p e below s _ _ _ (T71.setTop (mkF m 28 #[.val (.ref sr), .val (.int (2 : Int32)), .val (.ref ds), .val (.int (2 : Int32)), .val (.int (4 : Int32)), .val (.int (2 : Int32)), .val (.int x2)] [(.int (2 : Int32)), (.ref ds)]))
        refine own_st (fun t9 k9 => XS.iload X71.here hx rfl (hb hby own_d_jdk_52_method_21_28) rfl  k9) ?_
        show own_Go p e below s _ _ _ (T71.setTop (mkF m 30 #[.val (.ref sr), .val (.int (2 : Int32)), .val (.ref ds), .val (.int (2 : Int32)), .val (.int (4 : Int32)), .val (.int (2 : Int32)), .val (.int x2)] [(.int x2), (.int (2 : Int32)), (.ref ds)]))
        refine own_st (fun t9 k9 => XT.i2b X71.here hx rfl (hb hby own_d_jdk_52_method_21_30) rfl k9) ?_
        show own_Go p e below s _ _ _ (T71.setTop (mkF m 31 #[.val (.ref sr), .val (.int (2 : Int32)), .val (.ref ds), .val (.int (2 : Int32)), .val (.int (4 : Int32)), .val (.int (2 : Int32)), .val (.int x2)] [(.int (x2.toInt8.toInt32)), (.int (2 : Int32)), (.ref ds)]))
        obtain ⟨cl72, Ar72, q72, S72, M72, H72, G72⟩ := id V_d
        obtain ⟨T72, h72, X72, e72, W72, st72⟩ := stB X71 hx hZ e71 Ar72 (j := (2 : Int32)) (inb_of S72 ⟨by decide, by decide⟩) (g := (mkF m 31 #[.val (.ref sr), .val (.int (2 : Int32)), .val (.ref ds), .val (.int (2 : Int32)), .val (.int (4 : Int32)), .val (.int (2 : Int32)), .val (.int x2)] [(.int (x2.toInt8.toInt32)), (.int (2 : Int32)), (.ref ds)])) rfl rfl (hb hby own_d_jdk_52_method_21_31)
        have N72 := Fr.snoc X72 N71 ge_ds
        have V_s := V_s.other W72 ne_s
        have Od := Od.wr W72 ge_ds
        have Kp := Kp.wr W72 (Or.inl (List.mem_of_getElem? (i := 0) rfl))
        refine own_st st72 ?_
        show own_Go p e below s _ _ _ (T72.setTop (mkF m 32 #[.val (.ref sr), .val (.int (2 : Int32)), .val (.ref ds), .val (.int (2 : Int32)), .val (.int (4 : Int32)), .val (.int (2 : Int32)), .val (.int x2)] []))
        have V_d : Arv Z h72 ds kd .byte (4 : Int32) [(.int (nar .byte (x0.toInt8.toInt32))), (.int (nar .byte (x1.toInt8.toInt32))), (.int (nar .byte (x2.toInt8.toInt32))), (.int (0 : Int32))] (.int (0 : Int32)) := Arv.set Ar72 q72 S72 M72 H72 G72 (fits_nar_byte _) W72 2 rfl (Nat.le_of_ble_eq_true rfl)
        refine own_st (fun t9 k9 => XS.iinc X72.here hx rfl (hb hby own_d_jdk_52_method_21_32) rfl (l' := #[.val (.ref sr), .val (.int ((2 : Int32) + (1 : Int32))), .val (.ref ds), .val (.int (2 : Int32)), .val (.int (4 : Int32)), .val (.int (2 : Int32)), .val (.int x2)]) rfl k9) ?_
        show own_Go p e below s _ _ _ (T72.setTop (mkF m 35 #[.val (.ref sr), .val (.int ((2 : Int32) + (1 : Int32))), .val (.ref ds), .val (.int (2 : Int32)), .val (.int (4 : Int32)), .val (.int (2 : Int32)), .val (.int x2)] []))
        show own_Go p e below s _ _ _ (T72.setTop (mkF m 35 #[.val (.ref sr), .val (.int (3 : Int32)), .val (.ref ds), .val (.int (2 : Int32)), .val (.int (4 : Int32)), .val (.int (2 : Int32)), .val (.int x2)] []))
        refine own_st (fun t9 k9 => XS.iinc X72.here hx rfl (hb hby own_d_jdk_52_method_21_35) rfl (l' := #[.val (.ref sr), .val (.int (3 : Int32)), .val (.ref ds), .val (.int ((2 : Int32) + (1 : Int32))), .val (.int (4 : Int32)), .val (.int (2 : Int32)), .val (.int x2)]) rfl k9) ?_
        show own_Go p e below s _ _ _ (T72.setTop (mkF m 38 #[.val (.ref sr), .val (.int (3 : Int32)), .val (.ref ds), .val (.int ((2 : Int32) + (1 : Int32))), .val (.int (4 : Int32)), .val (.int (2 : Int32)), .val (.int x2)] []))
        show own_Go p e below s _ _ _ (T72.setTop (mkF m 38 #[.val (.ref sr), .val (.int (3 : Int32)), .val (.ref ds), .val (.int (3 : Int32)), .val (.int (4 : Int32)), .val (.int (2 : Int32)), .val (.int x2)] []))
        refine own_st (fun t9 k9 => XS.iinc X72.here hx rfl (hb hby own_d_jdk_52_method_21_38) rfl (l' := #[.val (.ref sr), .val (.int (3 : Int32)), .val (.ref ds), .val (.int (3 : Int32)), .val (.int (4 : Int32)), .val (.int ((2 : Int32) + (1 : Int32))), .val (.int x2)]) rfl k9) ?_
        show own_Go p e below s _ _ _ (T72.setTop (mkF m 41 #[.val (.ref sr), .val (.int (3 : Int32)), .val (.ref ds), .val (.int (3 : Int32)), .val (.int (4 : Int32)), .val (.int ((2 : Int32) + (1 : Int32))), .val (.int x2)] []))
        show own_Go p e below s _ _ _ (T72.setTop (mkF m 41 #[.val (.ref sr), .val (.int (3 : Int32)), .val (.ref ds), .val (.int (3 : Int32)), .val (.int (4 : Int32)), .val (.int (3 : Int32)), .val (.int x2)] []))
        refine own_st (fun t9 k9 => XS.goto X72.here hx rfl (pc0 := 41) (pc' := 3) rfl (hb hby own_d_jdk_52_method_21_41) (by decide) (by decide) k9) ?_
        show own_Go p e below s _ _ _ (T72.setTop (mkF m 3 #[.val (.ref sr), .val (.int (3 : Int32)), .val (.ref ds), .val (.int (3 : Int32)), .val (.int (4 : Int32)), .val (.int (3 : Int32)), .val (.int x2)] []))
        refine own_st (fun t9 k9 => XS.iload X72.here hx rfl (hb hby own_d_jdk_52_method_21_3) rfl  k9) ?_
        show own_Go p e below s _ _ _ (T72.setTop (mkF m 5 #[.val (.ref sr), .val (.int (3 : Int32)), .val (.ref ds), .val (.int (3 : Int32)), .val (.int (4 : Int32)), .val (.int (3 : Int32)), .val (.int x2)] [(.int (3 : Int32))]))
        refine own_st (fun t9 k9 => XS.iload X72.here hx rfl (hb hby own_d_jdk_52_method_21_5) rfl  k9) ?_
        show own_Go p e below s _ _ _ (T72.setTop (mkF m 7 #[.val (.ref sr), .val (.int (3 : Int32)), .val (.ref ds), .val (.int (3 : Int32)), .val (.int (4 : Int32)), .val (.int (3 : Int32)), .val (.int x2)] [(.int (4 : Int32)), (.int (3 : Int32))]))
        refine own_st (fun t9 k9 => XS.icmpNo X72.here hx rfl (hb hby own_d_jdk_52_method_21_7) rfl (by decide) k9) ?_
        show own_Go p e below s _ _ _ (T72.setTop (mkF m 10 #[.val (.ref sr), .val (.int (3 : Int32)), .val (.ref ds), .val (.int (3 : Int32)), .val (.int (4 : Int32)), .val (.int (3 : Int32)), .val (.int x2)] []))
        refine own_st (fun t9 k9 => XS.aloadN X72.here hx rfl (hb hby own_d_jdk_52_method_21_10) rfl rfl k9) ?_
        show own_Go p e below s _ _ _ (T72.setTop (mkF m 11 #[.val (.ref sr), .val (.int (3 : Int32)), .val (.ref ds), .val (.int (3 : Int32)), .val (.int (4 : Int32)), .val (.int (3 : Int32)), .val (.int x2)] [(.ref sr)]))
        refine own_st (fun t9 k9 => XS.iloadN X72.here hx rfl (hb hby own_d_jdk_52_method_21_11) rfl  k9) ?_
        show own_Go p e below s _ _ _ (T72.setTop (mkF m 12 #[.val (.ref sr), .val (.int (3 : Int32)), .val (.ref ds), .val (.int (3 : Int32)), .val (.int (4 : Int32)), .val (.int (3 : Int32)), .val (.int x2)] [(.int (3 : Int32)), (.ref sr)]))
        refine own_st (fun t9 k9 => own_cald X72 hx hZ e72 V_s (j := (3 : Int32)) (v := (.int x3)) ⟨by decide, by decide⟩ rfl (g := (mkF m 12 #[.val (.ref sr), .val (.int (3 : Int32)), .val (.ref ds), .val (.int (3 : Int32)), .val (.int (4 : Int32)), .val (.int (3 : Int32)), .val (.int x2)] [(.int (3 : Int32)), (.ref sr)])) rfl rfl (hb hby own_d_jdk_52_method_21_12) t9 k9) ?_
        show own_Go p e below s _ _ _ (T72.setTop (mkF m 13 #[.val (.ref sr), .val (.int (3 : Int32)), .val (.ref ds), .val (.int (3 : Int32)), .val (.int (4 : Int32)), .val (.int (3 : Int32)), .val (.int x2)] [(.int x3)]))
        refine own_st (fun t9 k9 => XS.istore X72.here hx rfl (hb hby own_d_jdk_52_method_21_13) rfl (l' := #[.val (.ref sr), .val (.int (3 : Int32)), .val (.ref ds), .val (.int (3 : Int32)), .val (.int (4 : Int32)), .val (.int (3 : Int32)), .val (.int x3)]) rfl k9) ?_
        show own_Go p e below s _ _ _ (T72.setTop (mkF m 15 #[.val (.ref sr), .val (.int (3 : Int32)), .val (.ref ds), .val (.int (3 : Int32)), .val (.int (4 : Int32)), .val (.int (3 : Int32)), .val (.int x3)] []))
        refine own_st (fun t9 k9 => XS.iload X72.here hx rfl (hb hby own_d_jdk_52_method_21_15) rfl  k9) ?_
        show own_Go p e below s _ _ _ (T72.setTop (mkF m 17 #[.val (.ref sr), .val (.int (3 : Int32)), .val (.ref ds), .val (.int (3 : Int32)), .val (.int (4 : Int32)), .val (.int (3 : Int32)), .val (.int x3)] [(.int x3)]))
        refine own_st (fun t9 k9 => XS.sipush X72.here hx rfl (hb hby own_d_jdk_52_method_21_17) k9) ?_
        show own_Go p e below s _ _ _ (T72.setTop (mkF m 20 #[.val (.ref sr), .val (.int (3 : Int32)), .val (.ref ds), .val (.int (3 : Int32)), .val (.int (4 : Int32)), .val (.int (3 : Int32)), .val (.int x3)] [(.int (255 : Int32)), (.int x3)]))
        by_cases hg3 : (255 : Int32) < x3
        · skip
          refine own_st (fun t9 k9 => XS.icmpNo X72.here hx rfl (hb hby own_d_jdk_52_method_21_20) rfl (tlt (hg3 : (255 : Int32) < x3)).2.2.2 k9) ?_
          show own_Go p e below s _ _ _ (T72.setTop (mkF m 23 #[.val (.ref sr), .val (.int (3 : Int32)), .val (.ref ds), .val (.int (3 : Int32)), .val (.int (4 : Int32)), .val (.int (3 : Int32)), .val (.int x3)] []))
          refine own_st (fun t9 k9 => XS.iload X72.here hx rfl (hb hby own_d_jdk_52_method_21_23) rfl  k9) ?_
          show own_Go p e below s _ _ _ (T72.setTop (mkF m 25 #[.val (.ref sr), .val (.int (3 : Int32)), .val (.ref ds), .val (.int (3 : Int32)), .val (.int (4 : Int32)), .val (.int (3 : Int32)), .val (.int x3)] [(.int (3 : Int32))]))
          exact own_retI X72 hx hlk Bd.returns (hb hby own_d_jdk_52_method_21_25) (by decide) (by decide) (by rw [e72]; exact ⟨by rw [(show own_first [x0, x1, x2, x3] 0 = (3 : Int32) from ((if_neg hg0).trans ((if_neg hg1).trans ((if_neg hg2).trans (if_pos hg3)))))], N72, Kp⟩)
        · skip
          refine own_st (fun t9 k9 => XS.icmpYes X72.here hx rfl (pc0 := 20) (pc' := 26) rfl (hb hby own_d_jdk_52_method_21_20) rfl (flt (hg3 : ¬ ((255 : Int32) < x3))).2.2.2 (by decide) (by decide) k9) ?_
          show own_Go p e below s _ _ _ (T72.setTop (mkF m 26 #[.val (.ref sr), .val (.int (3 : Int32)), .val (.ref ds), .val (.int (3 : Int32)), .val (.int (4 : Int32)), .val (.int (3 : Int32)), .val (.int x3)] []))
          refine own_st (fun t9 k9 => XS.aloadN X72.here hx rfl (hb hby own_d_jdk_52_method_21_26) rfl rfl k9) ?_
          show own_Go p e below s _ _ _ (T72.setTop (mkF m 27 #[.val (.ref sr), .val (.int (3 : Int32)), .val (.ref ds), .val (.int (3 : Int32)), .val (.int (4 : Int32)), .val (.int (3 : Int32)), .val (.int x3)] [(.ref ds)]))
          refine own_st (fun t9 k9 => XS.iloadN X72.here hx rfl (hb hby own_d_jdk_52_method_21_27) rfl  k9) ?_
          show own_Go p e below s _ _ _ (T72.setTop (mkF m 28 #[.val (.ref sr), .val (.int (3 : Int32)), .val (.ref ds), .val (.int (3 : Int32)), .val (.int (4 : Int32)), .val (.int (3 : Int32)), .val (.int x3)] [(.int (3 : Int32)), (.ref ds)]))
          refine own_st (fun t9 k9 => XS.iload X72.here hx rfl (hb hby own_d_jdk_52_method_21_28) rfl  k9) ?_
          show own_Go p e below s _ _ _ (T72.setTop (mkF m 30 #[.val (.ref sr), .val (.int (3 : Int32)), .val (.ref ds), .val (.int (3 : Int32)), .val (.int (4 : Int32)), .val (.int (3 : Int32)), .val (.int x3)] [(.int x3), (.int (3 : Int32)), (.ref ds)]))
          refine own_st (fun t9 k9 => XT.i2b X72.here hx rfl (hb hby own_d_jdk_52_method_21_30) rfl k9) ?_
          show own_Go p e below s _ _ _ (T72.setTop (mkF m 31 #[.val (.ref sr), .val (.int (3 : Int32)), .val (.ref ds), .val (.int (3 : Int32)), .val (.int (4 : Int32)), .val (.int (3 : Int32)), .val (.int x3)] [(.int (x3.toInt8.toInt32)), (.int (3 : Int32)), (.ref ds)]))
          obtain ⟨cl73, Ar73, q73, S73, M73, H73, G73⟩ := id V_d
          obtain ⟨T73, h73, X73, e73, W73, st73⟩ := stB X72 hx hZ e72 Ar73 (j := (3 : Int32)) (inb_of S73 ⟨by decide, by decide⟩) (g := (mkF m 31 #[.val (.ref sr), .val (.int (3 : Int32)), .val (.ref ds), .val (.int (3 : Int32)), .val (.int (4 : Int32)), .val (.int (3 : Int32)), .val (.int x3)] [(.int (x3.toInt8.toInt32)), (.int (3 : Int32)), (.ref ds)])) rfl rfl (hb hby own_d_jdk_52_method_21_31)
          have N73 := Fr.snoc X73 N72 ge_ds
          have V_s := V_s.other W73 ne_s
          have Od := Od.wr W73 ge_ds
          have Kp := Kp.wr W73 (Or.inl (List.mem_of_getElem? (i := 0) rfl))
          refine own_st st73 ?_
          show own_Go p e below s _ _ _ (T73.setTop (mkF m 32 #[.val (.ref sr), .val (.int (3 : Int32)), .val (.ref ds), .val (.int (3 : Int32)), .val (.int (4 : Int32)), .val (.int (3 : Int32)), .val (.int x3)] []))
          have V_d : Arv Z h73 ds kd .byte (4 : Int32) [(.int (nar .byte (x0.toInt8.toInt32))), (.int (nar .byte (x1.toInt8.toInt32))), (.int (nar .byte (x2.toInt8.toInt32))), (.int (nar .byte (x3.toInt8.toInt32)))] (.int (0 : Int32)) := Arv.set Ar73 q73 S73 M73 H73 G73 (fits_nar_byte _) W73 3 rfl (Nat.le_of_ble_eq_true rfl)
          refine own_st (fun t9 k9 => XS.iinc X73.here hx rfl (hb hby own_d_jdk_52_method_21_32) rfl (l' := #[.val (.ref sr), .val (.int ((3 : Int32) + (1 : Int32))), .val (.ref ds), .val (.int (3 : Int32)), .val (.int (4 : Int32)), .val (.int (3 : Int32)), .val (.int x3)]) rfl k9) ?_
          show own_Go p e below s _ _ _ (T73.setTop (mkF m 35 #[.val (.ref sr), .val (.int ((3 : Int32) + (1 : Int32))), .val (.ref ds), .val (.int (3 : Int32)), .val (.int (4 : Int32)), .val (.int (3 : Int32)), .val (.int x3)] []))
          show own_Go p e below s _ _ _ (T73.setTop (mkF m 35 #[.val (.ref sr), .val (.int (4 : Int32)), .val (.ref ds), .val (.int (3 : Int32)), .val (.int (4 : Int32)), .val (.int (3 : Int32)), .val (.int x3)] []))
          refine own_st (fun t9 k9 => XS.iinc X73.here hx rfl (hb hby own_d_jdk_52_method_21_35) rfl (l' := #[.val (.ref sr), .val (.int (4 : Int32)), .val (.ref ds), .val (.int ((3 : Int32) + (1 : Int32))), .val (.int (4 : Int32)), .val (.int (3 : Int32)), .val (.int x3)]) rfl k9) ?_
          show own_Go p e below s _ _ _ (T73.setTop (mkF m 38 #[.val (.ref sr), .val (.int (4 : Int32)), .val (.ref ds), .val (.int ((3 : Int32) + (1 : Int32))), .val (.int (4 : Int32)), .val (.int (3 : Int32)), .val (.int x3)] []))
          show own_Go p e below s _ _ _ (T73.setTop (mkF m 38 #[.val (.ref sr), .val (.int (4 : Int32)), .val (.ref ds), .val (.int (4 : Int32)), .val (.int (4 : Int32)), .val (.int (3 : Int32)), .val (.int x3)] []))
          refine own_st (fun t9 k9 => XS.iinc X73.here hx rfl (hb hby own_d_jdk_52_method_21_38) rfl (l' := #[.val (.ref sr), .val (.int (4 : Int32)), .val (.ref ds), .val (.int (4 : Int32)), .val (.int (4 : Int32)), .val (.int ((3 : Int32) + (1 : Int32))), .val (.int x3)]) rfl k9) ?_
          show own_Go p e below s _ _ _ (T73.setTop (mkF m 41 #[.val (.ref sr), .val (.int (4 : Int32)), .val (.ref ds), .val (.int (4 : Int32)), .val (.int (4 : Int32)), .val (.int ((3 : Int32) + (1 : Int32))), .val (.int x3)] []))
          show own_Go p e below s _ _ _ (T73.setTop (mkF m 41 #[.val (.ref sr), .val (.int (4 : Int32)), .val (.ref ds), .val (.int (4 : Int32)), .val (.int (4 : Int32)), .val (.int (4 : Int32)), .val (.int x3)] []))
          refine own_st (fun t9 k9 => XS.goto X73.here hx rfl (pc0 := 41) (pc' := 3) rfl (hb hby own_d_jdk_52_method_21_41) (by decide) (by decide) k9) ?_
          show own_Go p e below s _ _ _ (T73.setTop (mkF m 3 #[.val (.ref sr), .val (.int (4 : Int32)), .val (.ref ds), .val (.int (4 : Int32)), .val (.int (4 : Int32)), .val (.int (4 : Int32)), .val (.int x3)] []))
          refine own_st (fun t9 k9 => XS.iload X73.here hx rfl (hb hby own_d_jdk_52_method_21_3) rfl  k9) ?_
          show own_Go p e below s _ _ _ (T73.setTop (mkF m 5 #[.val (.ref sr), .val (.int (4 : Int32)), .val (.ref ds), .val (.int (4 : Int32)), .val (.int (4 : Int32)), .val (.int (4 : Int32)), .val (.int x3)] [(.int (4 : Int32))]))
          refine own_st (fun t9 k9 => XS.iload X73.here hx rfl (hb hby own_d_jdk_52_method_21_5) rfl  k9) ?_
          show own_Go p e below s _ _ _ (T73.setTop (mkF m 7 #[.val (.ref sr), .val (.int (4 : Int32)), .val (.ref ds), .val (.int (4 : Int32)), .val (.int (4 : Int32)), .val (.int (4 : Int32)), .val (.int x3)] [(.int (4 : Int32)), (.int (4 : Int32))]))
          refine own_st (fun t9 k9 => XS.icmpYes X73.here hx rfl (pc0 := 7) (pc' := 44) rfl (hb hby own_d_jdk_52_method_21_7) rfl (by decide) (by decide) (by decide) k9) ?_
          show own_Go p e below s _ _ _ (T73.setTop (mkF m 44 #[.val (.ref sr), .val (.int (4 : Int32)), .val (.ref ds), .val (.int (4 : Int32)), .val (.int (4 : Int32)), .val (.int (4 : Int32)), .val (.int x3)] []))
          refine own_st (fun t9 k9 => XS.iload X73.here hx rfl (hb hby own_d_jdk_52_method_21_44) rfl  k9) ?_
          show own_Go p e below s _ _ _ (T73.setTop (mkF m 46 #[.val (.ref sr), .val (.int (4 : Int32)), .val (.ref ds), .val (.int (4 : Int32)), .val (.int (4 : Int32)), .val (.int (4 : Int32)), .val (.int x3)] [(.int (4 : Int32))]))
          exact own_retI X73 hx hlk Bd.returns (hb hby own_d_jdk_52_method_21_46) (by decide) (by decide) (by rw [e73]; exact ⟨by rw [(show own_first [x0, x1, x2, x3] 0 = (4 : Int32) from ((if_neg hg0).trans ((if_neg hg1).trans ((if_neg hg2).trans ((if_neg hg3).trans rfl)))))], N73, Kp⟩)
theorem own_ef_cp4 (m : MethodId) (x0 : Addr) (x1 : Int32) (x2 : Int32) : entryFrame m #[(.ref x0), (.int x1), (.int x2)] 6 = mkF m 0 #[.val (.ref x0), .val (.int x1), .val (.int x2), .unset, .unset, .unset] [] := by first | (simp [entryFrame, mkF, argsToLocals, Value.category]; done) | rfl
def own_Q_cp4 (Z : State) (x0 : Int32) (x1 : Int32) (x2 : Int32) (x3 : Int32) (h0 : Heap) (n0 : Nat) (v : Option Value) (h : Heap) (L : List Loc) : Prop := Fr n0 L ∧ Keep h0 h [] ∧ ∃ a k, v = some (.ref a) ∧ h0.size ≤ a ∧ Arv Z h a k .byte (8 : Int32) [(.int (StrChars.lo8 x0)), (.int (StrChars.hi8 x0)), (.int (StrChars.lo8 x1)), (.int (StrChars.hi8 x1)), (.int (StrChars.lo8 x2)), (.int (StrChars.hi8 x2)), (.int (StrChars.lo8 x3)), (.int (StrChars.hi8 x3))] (.int (0 : Int32))
set_option maxRecDepth 65536 in
set_option maxHeartbeats 40000000 in
theorem own_rm_cp4 (l : Launch) (Z : State) (a0 : Array Value) (hw : ∀ d ∈ tables_1, d.before a0 Z = true) (ws : List Jvm.Cond) (sr : Addr) (ks : ClassId) (x0 : Int32) (x1 : Int32) (x2 : Int32) (x3 : Int32) (h0 : Heap) (n0 : Nat) (Od : Old Z n0 h0) (V_s : Arv Z h0 sr ks .char (4 : Int32) [(.int x0), (.int x1), (.int x2), (.int x3)] (.int (0 : Int32))) (hr0 : ¬ x0 < 0 ∧ ¬ (65535 : Int32) < x0) (hr1 : ¬ x1 < 0 ∧ ¬ (65535 : Int32) < x1) (hr2 : ¬ x2 < 0 ∧ ¬ (65535 : Int32) < x2) (hr3 : ¬ x3 < 0 ∧ ¬ (65535 : Int32) < x3) (hm : ¬ own_first [x0, x1, x2, x3] 0 = (4 : Int32)) (OA : Sta Z Z.heap "java/lang/StringUTF16" "$assertionsDisabled" "Z" (.int (1 : Int32))) (OH : Sta Z Z.heap "java/lang/StringUTF16" "HI_BYTE_SHIFT" "I" (.int (0 : Int32))) (OL : Sta Z Z.heap "java/lang/StringUTF16" "LO_BYTE_SHIFT" "I" (.int (8 : Int32))) :
    MetFree l (⟨"java/lang/StringUTF16", "compress", "([CII)[B"⟩ : MethodName) (head1 (Jvm.Cond.code (⟨"java/lang/StringUTF16", "compress", "([CII)[B"⟩ : MethodName) jdk_52_method_16_code 6 (some (.array .byte)) :: ws) ({ frames := 3, cells := 2, slots := 12, locals := 40 } : Room)) (fun a9 U => a9 = #[(.ref sr), (.int (0 : Int32)), (.int (4 : Int32))] ∧ Z.Warmed39 U.vm ∧ U.heap = h0) (fun _ _ _ _ _ => True) (fun _ U o U' => ∃ v L, o = .returned v ∧ own_Q_cp4 Z x0 x1 x2 x3 h0 n0 v U'.heap L ∧ FrameEnd U o U' L ({ frames := 3, cells := 2, slots := 12, locals := 40 } : Room).cells ({ frames := 3, cells := 2, slots := 12, locals := 40 } : Room).slots) := by
  refine MetFree.of_bodySF (plainFor_of_name own_pn0) hisR ?_
  intro p e s m args below meth c s₁ Bd hml0 hP hK
  obtain ⟨rfl, hZ, hh⟩ := hP
  have hx := Bd.exec
  have hby := Bd.bytes
  have hml : c.maxLocals = 6 := hml0
  have hown : s.vm.findClass "java/lang/StringUTF16" = some m.cls := findClass_of_methodNamed Bd.named
  have hnm := (name_of_methodNamed Bd.named Bd.method).1
  have hlk : meth.locks = false := Bd.notSynchronized
  have X0 : Stand p l e ({ frames := 3, cells := 2, slots := 12, locals := 40 } : Room) s m #[(.ref sr), (.int (0 : Int32)), (.int (4 : Int32))] below meth c s₁ [] 0 0 := Stand.of_body Bd
  have e0 : s₁.heap = h0 := by rw [← hh, Bd.state]; rfl
  have N0 := Fr.nil n0
  show own_Go p e below s (own_Q_cp4 Z x0 x1 x2 x3 h0 n0) ({ frames := 3, cells := 2, slots := 12, locals := 40 } : Room).cells ({ frames := 3, cells := 2, slots := 12, locals := 40 } : Room).slots (s₁.setTop (entryFrame m #[(.ref sr), (.int (0 : Int32)), (.int (4 : Int32))] 6))
  refine own_st (fun t9 k9 => castTop (own_ef_cp4 m sr (0 : Int32) (4 : Int32)) k9) ?_
  show own_Go p e below s _ _ _ (s₁.setTop (mkF m 0 #[.val (.ref sr), .val (.int (0 : Int32)), .val (.int (4 : Int32)), .unset, .unset, .unset] []))
  have Kp : Keep h0 h0 [] := Keep.refl h0 []
  refine own_st (fun t9 k9 => XS.iloadN X0.here hx rfl (hb hby own_d_jdk_52_method_16_0) rfl  k9) ?_
  show own_Go p e below s _ _ _ (s₁.setTop (mkF m 1 #[.val (.ref sr), .val (.int (0 : Int32)), .val (.int (4 : Int32)), .unset, .unset, .unset] [(.int (4 : Int32))]))
  obtain ⟨T74, h74, k74, X74, e74, E74, A74, st74⟩ := newP X0 hx hZ (hw _ (List.mem_of_getElem? (i := 23) rfl)) e0 (g := (mkF m 1 #[.val (.ref sr), .val (.int (0 : Int32)), .val (.int (4 : Int32)), .unset, .unset, .unset] [(.int (4 : Int32))])) rfl (hb hby own_d_jdk_52_method_16_1) rfl (by decide) (cap := 4) (by decide) (by decide) (by decide) (by decide)
  obtain ⟨ds, g74⟩ : ∃ z, z = h0.size := ⟨_, rfl⟩
  rw [← g74] at A74 st74
  have ne_sr_ds : sr ≠ ds := Nat.ne_of_lt (Nat.lt_of_lt_of_le V_s.lt (Nat.le_of_eq g74.symm))
  have ge_ds : n0 ≤ ds := Nat.le_trans (own_z0 Od) (Nat.le_of_eq g74.symm)
  have gz_ds : h0.size ≤ ds := Nat.le_trans Kp.1 (Nat.le_of_eq g74.symm)
  have V_s := V_s.ext E74
  have Od := Od.ext E74
  have Kp := Kp.ext E74
  refine own_st st74 ?_
  show own_Go p e below s _ _ _ (T74.setTop (mkF m 3 #[.val (.ref sr), .val (.int (0 : Int32)), .val (.int (4 : Int32)), .unset, .unset, .unset] [(.ref ds)]))
  have V_d : Arv Z h74 ds k74 .byte (4 : Int32) [(.int (0 : Int32)), (.int (0 : Int32)), (.int (0 : Int32)), (.int (0 : Int32))] (.int (0 : Int32)) := (Arv.new A74 (by decide)).pad (pad_rep [] (.int (0 : Int32)) 4)
  refine own_st (fun t9 k9 => XS.astoreN X74.here hx rfl (hb hby own_d_jdk_52_method_16_3) rfl rfl (l' := #[.val (.ref sr), .val (.int (0 : Int32)), .val (.int (4 : Int32)), .val (.ref ds), .unset, .unset]) rfl k9) ?_
  show own_Go p e below s _ _ _ (T74.setTop (mkF m 4 #[.val (.ref sr), .val (.int (0 : Int32)), .val (.int (4 : Int32)), .val (.ref ds), .unset, .unset] []))
  refine own_st (fun t9 k9 => XS.aloadN X74.here hx rfl (hb hby own_d_jdk_52_method_16_4) rfl rfl k9) ?_
  show own_Go p e below s _ _ _ (T74.setTop (mkF m 5 #[.val (.ref sr), .val (.int (0 : Int32)), .val (.int (4 : Int32)), .val (.ref ds), .unset, .unset] [(.ref sr)]))
  refine own_st (fun t9 k9 => XS.iloadN X74.here hx rfl (hb hby own_d_jdk_52_method_16_5) rfl  k9) ?_
  show own_Go p e below s _ _ _ (T74.setTop (mkF m 6 #[.val (.ref sr), .val (.int (0 : Int32)), .val (.int (4 : Int32)), .val (.ref ds), .unset, .unset] [(.int (0 : Int32)), (.ref sr)]))
  refine own_st (fun t9 k9 => XS.aloadN X74.here hx rfl (hb hby own_d_jdk_52_method_16_6) rfl rfl k9) ?_
  show own_Go p e below s _ _ _ (T74.setTop (mkF m 7 #[.val (.ref sr), .val (.int (0 : Int32)), .val (.int (4 : Int32)), .val (.ref ds), .unset, .unset] [(.ref ds), (.int (0 : Int32)), (.ref sr)]))
  refine own_st (fun t9 k9 => XS.iconst X74.here hx rfl (hb hby own_d_jdk_52_method_16_7) k9) ?_
  show own_Go p e below s _ _ _ (T74.setTop (mkF m 8 #[.val (.ref sr), .val (.int (0 : Int32)), .val (.int (4 : Int32)), .val (.ref ds), .unset, .unset] [(.int (0 : Int32)), (.ref ds), (.int (0 : Int32)), (.ref sr)]))
  refine own_st (fun t9 k9 => XS.iloadN X74.here hx rfl (hb hby own_d_jdk_52_method_16_8) rfl  k9) ?_
  show own_Go p e below s _ _ _ (T74.setTop (mkF m 9 #[.val (.ref sr), .val (.int (0 : Int32)), .val (.int (4 : Int32)), .val (.ref ds), .unset, .unset] [(.int (4 : Int32)), (.int (0 : Int32)), (.ref ds), (.int (0 : Int32)), (.ref sr)]))
  obtain ⟨_, T75, h75, L75, X75, e75, ⟨rfl, Nc, Kc⟩, st75⟩ := own_callS X74 hx hZ hown (hw _ (List.mem_of_getElem? (i := 24) rfl)) (hw _ (List.mem_of_getElem? (i := 25) rfl)) (hw _ (List.mem_of_getElem? (i := 21) rfl)) (hw _ (List.mem_of_getElem? (i := 26) rfl)) (by decide) (own_rm_cm4 l Z a0 hw [] sr ds ks _ x0 x1 x2 x3 h74 n0 Od V_s V_d ne_sr_ds ge_ds) (by decide) (by decide) e74 (W := 0) (g := (mkF m 9 #[.val (.ref sr), .val (.int (0 : Int32)), .val (.int (4 : Int32)), .val (.ref ds), .unset, .unset] [(.int (4 : Int32)), (.int (0 : Int32)), (.ref ds), (.int (0 : Int32)), (.ref sr)])) rfl (by rw [hml]; rfl) (argsL := [(.ref sr), (.int (0 : Int32)), (.ref ds), (.int (0 : Int32)), (.int (4 : Int32))]) (rest := []) rfl (lenOf own_pd3 rfl) rfl (by show 2 * 0 + _ ≤ _; exact Nat.le_of_eq rfl) (hb hby own_d_jdk_52_method_16_9) (by decide) (by decide)
  have N75 := Fr.app N0 Nc
  have V_s := V_s.keep Kc (ninS ne_sr_ds nin0)
  have Od := Od.keep Kc (allS ge_ds all0)
  have Kp := Kp.trans Kc (allS (Or.inr gz_ds) all0)
  refine own_st st75 ?_
  show own_Go p e below s _ _ _ (T75.setTop (mkF m 12 #[.val (.ref sr), .val (.int (0 : Int32)), .val (.int (4 : Int32)), .val (.ref ds), .unset, .unset] [(.int (own_first [x0, x1, x2, x3] 0))]))
  refine own_st (fun t9 k9 => XS.istore X75.here hx rfl (hb hby own_d_jdk_52_method_16_12) rfl (l' := #[.val (.ref sr), .val (.int (0 : Int32)), .val (.int (4 : Int32)), .val (.ref ds), .val (.int (own_first [x0, x1, x2, x3] 0)), .unset]) rfl k9) ?_
  show own_Go p e below s _ _ _ (T75.setTop (mkF m 14 #[.val (.ref sr), .val (.int (0 : Int32)), .val (.int (4 : Int32)), .val (.ref ds), .val (.int (own_first [x0, x1, x2, x3] 0)), .unset] []))
  refine own_st (fun t9 k9 => XS.iload X75.here hx rfl (hb hby own_d_jdk_52_method_16_14) rfl  k9) ?_
  show own_Go p e below s _ _ _ (T75.setTop (mkF m 16 #[.val (.ref sr), .val (.int (0 : Int32)), .val (.int (4 : Int32)), .val (.ref ds), .val (.int (own_first [x0, x1, x2, x3] 0)), .unset] [(.int (own_first [x0, x1, x2, x3] 0))]))
  refine own_st (fun t9 k9 => XS.iloadN X75.here hx rfl (hb hby own_d_jdk_52_method_16_16) rfl  k9) ?_
  show own_Go p e below s _ _ _ (T75.setTop (mkF m 17 #[.val (.ref sr), .val (.int (0 : Int32)), .val (.int (4 : Int32)), .val (.ref ds), .val (.int (own_first [x0, x1, x2, x3] 0)), .unset] [(.int (4 : Int32)), (.int (own_first [x0, x1, x2, x3] 0))]))
  refine own_st (fun t9 k9 => XS.icmpNo X75.here hx rfl (hb hby own_d_jdk_52_method_16_17) rfl (feq (hm : ¬ ((own_first [x0, x1, x2, x3] 0) = (4 : Int32)))).1 k9) ?_
  show own_Go p e below s _ _ _ (T75.setTop (mkF m 20 #[.val (.ref sr), .val (.int (0 : Int32)), .val (.int (4 : Int32)), .val (.ref ds), .val (.int (own_first [x0, x1, x2, x3] 0)), .unset] []))
  refine own_st (fun t9 k9 => XS.aloadN X75.here hx rfl (hb hby own_d_jdk_52_method_16_20) rfl rfl k9) ?_
  show own_Go p e below s _ _ _ (T75.setTop (mkF m 21 #[.val (.ref sr), .val (.int (0 : Int32)), .val (.int (4 : Int32)), .val (.ref ds), .val (.int (own_first [x0, x1, x2, x3] 0)), .unset] [(.ref sr)]))
  refine own_st (fun t9 k9 => XS.iloadN X75.here hx rfl (hb hby own_d_jdk_52_method_16_21) rfl  k9) ?_
  show own_Go p e below s _ _ _ (T75.setTop (mkF m 22 #[.val (.ref sr), .val (.int (0 : Int32)), .val (.int (4 : Int32)), .val (.ref ds), .val (.int (own_first [x0, x1, x2, x3] 0)), .unset] [(.int (0 : Int32)), (.ref sr)]))
  refine own_st (fun t9 k9 => XS.iloadN X75.here hx rfl (hb hby own_d_jdk_52_method_16_22) rfl  k9) ?_
  show own_Go p e below s _ _ _ (T75.setTop (mkF m 23 #[.val (.ref sr), .val (.int (0 : Int32)), .val (.int (4 : Int32)), .val (.ref ds), .val (.int (own_first [x0, x1, x2, x3] 0)), .unset] [(.int (4 : Int32)), (.int (0 : Int32)), (.ref sr)]))
  obtain ⟨_, T76, h76, L76, X76, e76, ⟨Nd, Kd, a, ka, rfl, gea, V_a⟩, st76⟩ := own_callS X75 hx hZ hown (hw _ (List.mem_of_getElem? (i := 53) rfl)) (hw _ (List.mem_of_getElem? (i := 54) rfl)) (hw _ (List.mem_of_getElem? (i := 21) rfl)) (hw _ (List.mem_of_getElem? (i := 55) rfl)) (by decide) (own_rm_tob4 l Z a0 hw [] sr ks x0 x1 x2 x3 h75 n0 Od V_s OA OH OL) (by decide) (by decide) e75 (W := 0) (g := (mkF m 23 #[.val (.ref sr), .val (.int (0 : Int32)), .val (.int (4 : Int32)), .val (.ref ds), .val (.int (own_first [x0, x1, x2, x3] 0)), .unset] [(.int (4 : Int32)), (.int (0 : Int32)), (.ref sr)])) rfl (by rw [hml]; rfl) (argsL := [(.ref sr), (.int (0 : Int32)), (.int (4 : Int32))]) (rest := []) rfl (lenOf own_pd4 rfl) rfl (by show 2 * 0 + _ ≤ _; exact Nat.le_of_eq rfl) (hb hby own_d_jdk_52_method_16_23) (by decide) (by decide)
  have N76 := Fr.app N75 Nd
  have ne_sr_a : sr ≠ a := Nat.ne_of_lt (Nat.lt_of_lt_of_le V_s.lt gea)
  have ge_a : n0 ≤ a := Nat.le_trans (own_z0 Od) gea
  have gz_a : h0.size ≤ a := Nat.le_trans Kp.1 gea
  have V_s := V_s.keep Kd nin0
  have Od := Od.keep Kd all0
  have Kp := Kp.trans Kd all0
  refine own_st st76 ?_
  show own_Go p e below s _ _ _ (T76.setTop (mkF m 26 #[.val (.ref sr), .val (.int (0 : Int32)), .val (.int (4 : Int32)), .val (.ref ds), .val (.int (own_first [x0, x1, x2, x3] 0)), .unset] [(.ref a)]))
  refine own_st (fun t9 k9 => XS.astore X76.here hx rfl (hb hby own_d_jdk_52_method_16_26) rfl rfl (l' := #[.val (.ref sr), .val (.int (0 : Int32)), .val (.int (4 : Int32)), .val (.ref ds), .val (.int (own_first [x0, x1, x2, x3] 0)), .val (.ref a)]) rfl k9) ?_
  show own_Go p e below s _ _ _ (T76.setTop (mkF m 28 #[.val (.ref sr), .val (.int (0 : Int32)), .val (.int (4 : Int32)), .val (.ref ds), .val (.int (own_first [x0, x1, x2, x3] 0)), .val (.ref a)] []))
  refine own_st (fun t9 k9 => XS.aload X76.here hx rfl (hb hby own_d_jdk_52_method_16_28) rfl rfl k9) ?_
  show own_Go p e below s _ _ _ (T76.setTop (mkF m 30 #[.val (.ref sr), .val (.int (0 : Int32)), .val (.int (4 : Int32)), .val (.ref ds), .val (.int (own_first [x0, x1, x2, x3] 0)), .val (.ref a)] [(.ref a)]))
  refine own_st (fun t9 k9 => XS.iload X76.here hx rfl (hb hby own_d_jdk_52_method_16_30) rfl  k9) ?_
  show own_Go p e below s _ _ _ (T76.setTop (mkF m 32 #[.val (.ref sr), .val (.int (0 : Int32)), .val (.int (4 : Int32)), .val (.ref ds), .val (.int (own_first [x0, x1, x2, x3] 0)), .val (.ref a)] [(.int (own_first [x0, x1, x2, x3] 0)), (.ref a)]))
  obtain ⟨c9, r9, g9, b0, b1, q0, q1⟩ : ∃ c9 : Int32, (¬ c9 < 0 ∧ ¬ (65535 : Int32) < c9) ∧ (255 : Int32) < c9 ∧ (¬ ((own_first [x0, x1, x2, x3] 0) <<< ((1 : Int32) &&& 31)) < 0 ∧ ((own_first [x0, x1, x2, x3] 0) <<< ((1 : Int32) &&& 31)) < (8 : Int32)) ∧ (¬ (((own_first [x0, x1, x2, x3] 0) <<< ((1 : Int32) &&& 31)) + (1 : Int32)) < 0 ∧ (((own_first [x0, x1, x2, x3] 0) <<< ((1 : Int32) &&& 31)) + (1 : Int32)) < (8 : Int32)) ∧ ([(.int (StrChars.lo8 x0)), (.int (StrChars.hi8 x0)), (.int (StrChars.lo8 x1)), (.int (StrChars.hi8 x1)), (.int (StrChars.lo8 x2)), (.int (StrChars.hi8 x2)), (.int (StrChars.lo8 x3)), (.int (StrChars.hi8 x3))] : List Value).getD ((own_first [x0, x1, x2, x3] 0) <<< ((1 : Int32) &&& 31)).toNatClampNeg (.int (0 : Int32)) = .int (StrChars.lo8 c9) ∧ ([(.int (StrChars.lo8 x0)), (.int (StrChars.hi8 x0)), (.int (StrChars.lo8 x1)), (.int (StrChars.hi8 x1)), (.int (StrChars.lo8 x2)), (.int (StrChars.hi8 x2)), (.int (StrChars.lo8 x3)), (.int (StrChars.hi8 x3))] : List Value).getD (((own_first [x0, x1, x2, x3] 0) <<< ((1 : Int32) &&& 31)) + (1 : Int32)).toNatClampNeg (.int (0 : Int32)) = .int (StrChars.hi8 c9) := by
    by_cases hg0 : (255 : Int32) < x0
    · rw [(show own_first [x0, x1, x2, x3] 0 = (0 : Int32) from (if_pos hg0))]
      exact ⟨x0, hr0, hg0, by decide, by decide, rfl, rfl⟩
    by_cases hg1 : (255 : Int32) < x1
    · rw [(show own_first [x0, x1, x2, x3] 0 = (1 : Int32) from ((if_neg hg0).trans (if_pos hg1)))]
      exact ⟨x1, hr1, hg1, by decide, by decide, rfl, rfl⟩
    by_cases hg2 : (255 : Int32) < x2
    · rw [(show own_first [x0, x1, x2, x3] 0 = (2 : Int32) from ((if_neg hg0).trans ((if_neg hg1).trans (if_pos hg2))))]
      exact ⟨x2, hr2, hg2, by decide, by decide, rfl, rfl⟩
    by_cases hg3 : (255 : Int32) < x3
    · rw [(show own_first [x0, x1, x2, x3] 0 = (3 : Int32) from ((if_neg hg0).trans ((if_neg hg1).trans ((if_neg hg2).trans (if_pos hg3)))))]
      exact ⟨x3, hr3, hg3, by decide, by decide, rfl, rfl⟩
    exact absurd (show own_first [x0, x1, x2, x3] 0 = (4 : Int32) from ((if_neg hg0).trans ((if_neg hg1).trans ((if_neg hg2).trans ((if_neg hg3).trans rfl))))) hm
  obtain ⟨_, T77, h77, L77, X77, e77, ⟨rfl, Nq, hu⟩, st77⟩ := own_callS X76 hx hZ hown (hw _ (List.mem_of_getElem? (i := 69) rfl)) (hw _ (List.mem_of_getElem? (i := 70) rfl)) (hw _ (List.mem_of_getElem? (i := 21) rfl)) (hw _ (List.mem_of_getElem? (i := 71) rfl)) (by decide) (own_rm_getc l Z a0 hw [] a (own_first [x0, x1, x2, x3] 0) (8 : Int32) (StrChars.lo8 c9) (StrChars.hi8 c9) ka [(.int (StrChars.lo8 x0)), (.int (StrChars.hi8 x0)), (.int (StrChars.lo8 x1)), (.int (StrChars.hi8 x1)), (.int (StrChars.lo8 x2)), (.int (StrChars.hi8 x2)), (.int (StrChars.lo8 x3)), (.int (StrChars.hi8 x3))] h76 n0 Od V_a b0 b1 q0 q1 OA OH OL) (by decide) (by decide) e76 (W := 0) (g := (mkF m 32 #[.val (.ref sr), .val (.int (0 : Int32)), .val (.int (4 : Int32)), .val (.ref ds), .val (.int (own_first [x0, x1, x2, x3] 0)), .val (.ref a)] [(.int (own_first [x0, x1, x2, x3] 0)), (.ref a)])) rfl (by rw [hml]; rfl) (argsL := [(.ref a), (.int (own_first [x0, x1, x2, x3] 0))]) (rest := []) rfl (lenOf own_pd5 rfl) rfl (by show 2 * 0 + _ ≤ _; exact Nat.le_of_eq rfl) (hb hby own_d_jdk_52_method_16_32) (by decide) (by decide)
  have N77 := Fr.app N76 Nq
  refine own_st st77 ?_
  show own_Go p e below s _ _ _ (T77.setTop (mkF m 35 #[.val (.ref sr), .val (.int (0 : Int32)), .val (.int (4 : Int32)), .val (.ref ds), .val (.int (own_first [x0, x1, x2, x3] 0)), .val (.ref a)] [(.int (nar .char ((((StrChars.lo8 c9 &&& 255) <<< ((0 : Int32) &&& 31)) ||| ((StrChars.hi8 c9 &&& 255) <<< ((8 : Int32) &&& 31))).toUInt32.toUInt16.toUInt32.toInt32)))]))
  rw [own_pair r9.1 r9.2]
  show own_Go p e below s _ _ _ (T77.setTop (mkF m 35 #[.val (.ref sr), .val (.int (0 : Int32)), .val (.int (4 : Int32)), .val (.ref ds), .val (.int (own_first [x0, x1, x2, x3] 0)), .val (.ref a)] [(.int c9)]))
  refine own_st (fun t9 k9 => XS.sipush X77.here hx rfl (hb hby own_d_jdk_52_method_16_35) k9) ?_
  show own_Go p e below s _ _ _ (T77.setTop (mkF m 38 #[.val (.ref sr), .val (.int (0 : Int32)), .val (.int (4 : Int32)), .val (.ref ds), .val (.int (own_first [x0, x1, x2, x3] 0)), .val (.ref a)] [(.int (255 : Int32)), (.int c9)]))
  refine own_st (fun t9 k9 => XS.icmpYes X77.here hx rfl (pc0 := 38) (pc' := 54) rfl (hb hby own_d_jdk_52_method_16_38) rfl (tlt (g9 : (255 : Int32) < c9)).2.2.1 (by decide) (by decide) k9) ?_
  show own_Go p e below s _ _ _ (T77.setTop (mkF m 54 #[.val (.ref sr), .val (.int (0 : Int32)), .val (.int (4 : Int32)), .val (.ref ds), .val (.int (own_first [x0, x1, x2, x3] 0)), .val (.ref a)] []))
  refine own_st (fun t9 k9 => XS.aload X77.here hx rfl (hb hby own_d_jdk_52_method_16_54) rfl rfl k9) ?_
  show own_Go p e below s _ _ _ (T77.setTop (mkF m 56 #[.val (.ref sr), .val (.int (0 : Int32)), .val (.int (4 : Int32)), .val (.ref ds), .val (.int (own_first [x0, x1, x2, x3] 0)), .val (.ref a)] [(.ref a)]))
  exact own_retR X77 hx hlk Bd.returns rfl rfl (hb hby own_d_jdk_52_method_16_56) (by decide) (by decide) (by rw [(e77.trans hu)]; exact ⟨N77, Kp, a, ka, rfl, gz_a, V_a⟩)
theorem own_ef_cfal4 (m : MethodId) (x0 : Addr) (x1 : Int32) : entryFrame m #[(.ref x0), (.int x1)] 2 = mkF m 0 #[.val (.ref x0), .val (.int x1)] [] := by first | (simp [entryFrame, mkF, argsToLocals, Value.category]; done) | rfl
def own_Q_cfal4 (Z : State)  (h0 : Heap) (n0 : Nat) (v : Option Value) (h : Heap) (L : List Loc) : Prop := v = some (.int (1 : Int32)) ∧ Fr n0 L ∧ h = h0
set_option maxRecDepth 65536 in
set_option maxHeartbeats 40000000 in
theorem own_rm_cfal4 (l : Launch) (Z : State) (a0 : Array Value) (hw : ∀ d ∈ tables_1, d.before a0 Z = true) (ws : List Jvm.Cond) (b : Addr) (kb : ClassId) (vs : List Value) (h0 : Heap) (n0 : Nat) (Od : Old Z n0 h0) (A : Arv Z h0 b kb .byte (8 : Int32) vs (.int (0 : Int32))) :
    MetFree l (⟨"java/lang/StringUTF16", "coderFromArrayLen", "([BI)B"⟩ : MethodName) (head1 (Jvm.Cond.code (⟨"java/lang/StringUTF16", "coderFromArrayLen", "([BI)B"⟩ : MethodName) jdk_52_method_15_code 2 (some .byte) :: ws) ({ frames := 0, cells := 0, slots := 0, locals := 0 } : Room)) (fun a9 U => a9 = #[(.ref b), (.int (4 : Int32))] ∧ Z.Warmed39 U.vm ∧ U.heap = h0) (fun _ _ _ _ _ => True) (fun _ U o U' => ∃ v L, o = .returned v ∧ own_Q_cfal4 Z  h0 n0 v U'.heap L ∧ FrameEnd U o U' L ({ frames := 0, cells := 0, slots := 0, locals := 0 } : Room).cells ({ frames := 0, cells := 0, slots := 0, locals := 0 } : Room).slots) := by
  refine MetFree.of_bodySF (plainFor_of_name own_pn0) hisR ?_
  intro p e s m args below meth c s₁ Bd hml0 hP hK
  obtain ⟨rfl, hZ, hh⟩ := hP
  have hx := Bd.exec
  have hby := Bd.bytes
  have hml : c.maxLocals = 2 := hml0
  have hown : s.vm.findClass "java/lang/StringUTF16" = some m.cls := findClass_of_methodNamed Bd.named
  have hnm := (name_of_methodNamed Bd.named Bd.method).1
  have hlk : meth.locks = false := Bd.notSynchronized
  have X0 : Stand p l e ({ frames := 0, cells := 0, slots := 0, locals := 0 } : Room) s m #[(.ref b), (.int (4 : Int32))] below meth c s₁ [] 0 0 := Stand.of_body Bd
  have e0 : s₁.heap = h0 := by rw [← hh, Bd.state]; rfl
  have N0 := Fr.nil n0
  show own_Go p e below s (own_Q_cfal4 Z  h0 n0) ({ frames := 0, cells := 0, slots := 0, locals := 0 } : Room).cells ({ frames := 0, cells := 0, slots := 0, locals := 0 } : Room).slots (s₁.setTop (entryFrame m #[(.ref b), (.int (4 : Int32))] 2))
  refine own_st (fun t9 k9 => castTop (own_ef_cfal4 m b (4 : Int32)) k9) ?_
  show own_Go p e below s _ _ _ (s₁.setTop (mkF m 0 #[.val (.ref b), .val (.int (4 : Int32))] []))
  refine own_st (fun t9 k9 => XS.iloadN X0.here hx rfl (hb hby own_d_jdk_52_method_15_0) rfl  k9) ?_
  show own_Go p e below s _ _ _ (s₁.setTop (mkF m 1 #[.val (.ref b), .val (.int (4 : Int32))] [(.int (4 : Int32))]))
  refine own_st (fun t9 k9 => XS.aloadN X0.here hx rfl (hb hby own_d_jdk_52_method_15_1) rfl rfl k9) ?_
  show own_Go p e below s _ _ _ (s₁.setTop (mkF m 2 #[.val (.ref b), .val (.int (4 : Int32))] [(.ref b), (.int (4 : Int32))]))
  refine own_st (fun t9 k9 => own_alen X0 hx hZ e0 A (g := (mkF m 2 #[.val (.ref b), .val (.int (4 : Int32))] [(.ref b), (.int (4 : Int32))])) rfl rfl (hb hby own_d_jdk_52_method_15_2) t9 k9) ?_
  show own_Go p e below s _ _ _ (s₁.setTop (mkF m 3 #[.val (.ref b), .val (.int (4 : Int32))] [(.int (8 : Int32)), (.int (4 : Int32))]))
  refine own_st (fun t9 k9 => XS.isub X0.here hx rfl (hb hby own_d_jdk_52_method_15_3) rfl k9) ?_
  show own_Go p e below s _ _ _ (s₁.setTop (mkF m 4 #[.val (.ref b), .val (.int (4 : Int32))] [(.int ((4 : Int32) - (8 : Int32)))]))
  refine own_st (fun t9 k9 => XS.bipush X0.here hx rfl (hb hby own_d_jdk_52_method_15_4) k9) ?_
  show own_Go p e below s _ _ _ (s₁.setTop (mkF m 6 #[.val (.ref b), .val (.int (4 : Int32))] [(.int (31 : Int32)), (.int ((4 : Int32) - (8 : Int32)))]))
  refine own_st (fun t9 k9 => XT.iushr X0.here hx rfl (hb hby own_d_jdk_52_method_15_6) rfl k9) ?_
  show own_Go p e below s _ _ _ (s₁.setTop (mkF m 7 #[.val (.ref b), .val (.int (4 : Int32))] [(.int ((((4 : Int32) - (8 : Int32)).toUInt32 >>> ((31 : Int32) &&& 31).toUInt32).toInt32))]))
  refine own_st (fun t9 k9 => XT.i2b X0.here hx rfl (hb hby own_d_jdk_52_method_15_7) rfl k9) ?_
  show own_Go p e below s _ _ _ (s₁.setTop (mkF m 8 #[.val (.ref b), .val (.int (4 : Int32))] [(.int (((((4 : Int32) - (8 : Int32)).toUInt32 >>> ((31 : Int32) &&& 31).toUInt32).toInt32).toInt8.toInt32))]))
  exact own_retN X0 hx hlk (t := .byte) Bd.returns (by simp) (hb hby own_d_jdk_52_method_15_8) (by decide) (by decide) (by rw [e0]; exact ⟨by decide, N0, rfl⟩)
theorem own_ef_si2_4 (m : MethodId) (x0 : Addr) (x1 : Addr) (x2 : Int32) (x3 : Int32) : entryFrame m #[(.ref x0), (.ref x1), (.int x2), (.int x3), .null] 6 = mkF m 0 #[.val (.ref x0), .val (.ref x1), .val (.int x2), .val (.int x3), .val .null, .unset] [] := by first | (simp [entryFrame, mkF, argsToLocals, Value.category]; done) | rfl
def own_Q_si2_4 (Z : State) (x : Addr) (x0 : Int32) (x1 : Int32) (x2 : Int32) (x3 : Int32) (h0 : Heap) (n0 : Nat) (v : Option Value) (h : Heap) (L : List Loc) : Prop := v = none ∧ Fr n0 L ∧ Keep h0 h [x] ∧ Exa Z h x "java/lang/String" ∧ Fld Z h x "java/lang/String" "coder" "B" (.int (1 : Int32)) ∧ ∃ t k, h0.size ≤ t ∧ Fld Z h x "java/lang/String" "value" "[B" (.ref t) ∧ Arv Z h t k .byte (8 : Int32) [(.int (StrChars.lo8 x0)), (.int (StrChars.hi8 x0)), (.int (StrChars.lo8 x1)), (.int (StrChars.hi8 x1)), (.int (StrChars.lo8 x2)), (.int (StrChars.hi8 x2)), (.int (StrChars.lo8 x3)), (.int (StrChars.hi8 x3))] (.int (0 : Int32))
set_option maxRecDepth 65536 in
set_option maxHeartbeats 40000000 in
theorem own_rm_si2_4 (l : Launch) (Z : State) (a0 : Array Value) (hw : ∀ d ∈ tables_1, d.before a0 Z = true) (ws : List Jvm.Cond) (x : Addr) (sr : Addr) (ks : ClassId) (v0 c0 : Value) (G : Int32) (x0 : Int32) (x1 : Int32) (x2 : Int32) (x3 : Int32) (h0 : Heap) (n0 : Nat) (Od : Old Z n0 h0) (E_x : Exa Z h0 x "java/lang/String") (F_v : Fld Z h0 x "java/lang/String" "value" "[B" v0) (F_k : Fld Z h0 x "java/lang/String" "coder" "B" c0) (V_s : Arv Z h0 sr ks .char (4 : Int32) [(.int x0), (.int x1), (.int x2), (.int x3)] (.int (0 : Int32))) (ge_x : n0 ≤ x) (ne_s : sr ≠ x) (hr0 : ¬ x0 < 0 ∧ ¬ (65535 : Int32) < x0) (hr1 : ¬ x1 < 0 ∧ ¬ (65535 : Int32) < x1) (hr2 : ¬ x2 < 0 ∧ ¬ (65535 : Int32) < x2) (hr3 : ¬ x3 < 0 ∧ ¬ (65535 : Int32) < x3) (hm : ¬ own_first [x0, x1, x2, x3] 0 = (4 : Int32)) (OA : Sta Z Z.heap "java/lang/StringUTF16" "$assertionsDisabled" "Z" (.int (1 : Int32))) (OH : Sta Z Z.heap "java/lang/StringUTF16" "HI_BYTE_SHIFT" "I" (.int (0 : Int32))) (OL : Sta Z Z.heap "java/lang/StringUTF16" "LO_BYTE_SHIFT" "I" (.int (8 : Int32))) (O2 : Sta Z Z.heap "java/lang/String" "COMPACT_STRINGS" "Z" (.int G)) (P5 : ¬ (G = (0 : Int32))) :
    MetFree l (⟨"java/lang/String", "<init>", "([CIILjava/lang/Void;)V"⟩ : MethodName) (head1 (Jvm.Cond.code (⟨"java/lang/String", "<init>", "([CIILjava/lang/Void;)V"⟩ : MethodName) jdk_42_method_149_code 6 none :: ws) ({ frames := 4, cells := 2, slots := 12, locals := 57 } : Room)) (fun a9 U => a9 = #[(.ref x), (.ref sr), (.int (0 : Int32)), (.int (4 : Int32)), .null] ∧ Z.Warmed39 U.vm ∧ U.heap = h0) (fun _ _ _ _ _ => True) (fun _ U o U' => ∃ v L, o = .returned v ∧ own_Q_si2_4 Z x x0 x1 x2 x3 h0 n0 v U'.heap L ∧ FrameEnd U o U' L ({ frames := 4, cells := 2, slots := 12, locals := 57 } : Room).cells ({ frames := 4, cells := 2, slots := 12, locals := 57 } : Room).slots) := by
  refine MetFree.of_bodySF (plainFor_of_name own_pn1) hisR ?_
  intro p e s m args below meth c s₁ Bd hml0 hP hK
  obtain ⟨rfl, hZ, hh⟩ := hP
  have hx := Bd.exec
  have hby := Bd.bytes
  have hml : c.maxLocals = 6 := hml0
  have hown : s.vm.findClass "java/lang/String" = some m.cls := findClass_of_methodNamed Bd.named
  have hnm := (name_of_methodNamed Bd.named Bd.method).1
  have hlk : meth.locks = false := Bd.notSynchronized
  have X0 : Stand p l e ({ frames := 4, cells := 2, slots := 12, locals := 57 } : Room) s m #[(.ref x), (.ref sr), (.int (0 : Int32)), (.int (4 : Int32)), .null] below meth c s₁ [] 0 0 := Stand.of_body Bd
  have e0 : s₁.heap = h0 := by rw [← hh, Bd.state]; rfl
  have N0 := Fr.nil n0
  show own_Go p e below s (own_Q_si2_4 Z x x0 x1 x2 x3 h0 n0) ({ frames := 4, cells := 2, slots := 12, locals := 57 } : Room).cells ({ frames := 4, cells := 2, slots := 12, locals := 57 } : Room).slots (s₁.setTop (entryFrame m #[(.ref x), (.ref sr), (.int (0 : Int32)), (.int (4 : Int32)), .null] 6))
  refine own_st (fun t9 k9 => castTop (own_ef_si2_4 m x sr (0 : Int32) (4 : Int32)) k9) ?_
  show own_Go p e below s _ _ _ (s₁.setTop (mkF m 0 #[.val (.ref x), .val (.ref sr), .val (.int (0 : Int32)), .val (.int (4 : Int32)), .val .null, .unset] []))
  have Kp : Keep h0 h0 [x] := Keep.refl h0 [x]
  refine own_st (fun t9 k9 => XS.aloadN X0.here hx rfl (hb hby own_d_jdk_42_method_149_0) rfl rfl k9) ?_
  show own_Go p e below s _ _ _ (s₁.setTop (mkF m 1 #[.val (.ref x), .val (.ref sr), .val (.int (0 : Int32)), .val (.int (4 : Int32)), .val .null, .unset] [(.ref x)]))
  obtain ⟨T78, X78, e78, st78⟩ := initO X0 hx hZ hown (hw _ (List.mem_of_getElem? (i := 15) rfl)) (hw _ (List.mem_of_getElem? (i := 16) rfl)) (hw _ (List.mem_of_getElem? (i := 17) rfl)) e0 (g := (mkF m 1 #[.val (.ref x), .val (.ref sr), .val (.int (0 : Int32)), .val (.int (4 : Int32)), .val .null, .unset] [(.ref x)])) rfl (by rw [hml]; rfl) rfl (hb hby own_d_jdk_42_method_149_1) (by decide) (W := 0) (by show 2 * 0 + _ ≤ _; exact Nat.le_of_eq rfl) (by decide)
  refine own_st st78 ?_
  show own_Go p e below s _ _ _ (T78.setTop (mkF m 4 #[.val (.ref x), .val (.ref sr), .val (.int (0 : Int32)), .val (.int (4 : Int32)), .val .null, .unset] []))
  refine own_st (fun t9 k9 => XS.iloadN X78.here hx rfl (hb hby own_d_jdk_42_method_149_4) rfl  k9) ?_
  show own_Go p e below s _ _ _ (T78.setTop (mkF m 5 #[.val (.ref x), .val (.ref sr), .val (.int (0 : Int32)), .val (.int (4 : Int32)), .val .null, .unset] [(.int (4 : Int32))]))
  refine own_st (fun t9 k9 => XS.ifYes X78.here hx rfl (pc0 := 5) (pc' := 27) rfl (hb hby own_d_jdk_42_method_149_5) rfl (by decide) (by decide) (by decide) k9) ?_
  show own_Go p e below s _ _ _ (T78.setTop (mkF m 27 #[.val (.ref x), .val (.ref sr), .val (.int (0 : Int32)), .val (.int (4 : Int32)), .val .null, .unset] []))
  obtain ⟨T79, X79, e79, st79⟩ := getS (host := "") X78 hx hZ hown (hw _ (List.mem_of_getElem? (i := 18) rfl)) Via.refl e78 (O2.ext Od.2) (g := (mkF m 27 #[.val (.ref x), .val (.ref sr), .val (.int (0 : Int32)), .val (.int (4 : Int32)), .val .null, .unset] [])) rfl (hb hby own_d_jdk_42_method_149_27)
  refine own_st st79 ?_
  show own_Go p e below s _ _ _ (T79.setTop (mkF m 30 #[.val (.ref x), .val (.ref sr), .val (.int (0 : Int32)), .val (.int (4 : Int32)), .val .null, .unset] [(.int G)]))
  refine own_st (fun t9 k9 => XS.ifNo X79.here hx rfl (hb hby own_d_jdk_42_method_149_30) rfl ((if0 _ _).trans (feq (P5 : ¬ (G = (0 : Int32)))).1) k9) ?_
  show own_Go p e below s _ _ _ (T79.setTop (mkF m 33 #[.val (.ref x), .val (.ref sr), .val (.int (0 : Int32)), .val (.int (4 : Int32)), .val .null, .unset] []))
  refine own_st (fun t9 k9 => XS.aloadN X79.here hx rfl (hb hby own_d_jdk_42_method_149_33) rfl rfl k9) ?_
  show own_Go p e below s _ _ _ (T79.setTop (mkF m 34 #[.val (.ref x), .val (.ref sr), .val (.int (0 : Int32)), .val (.int (4 : Int32)), .val .null, .unset] [(.ref sr)]))
  refine own_st (fun t9 k9 => XS.iloadN X79.here hx rfl (hb hby own_d_jdk_42_method_149_34) rfl  k9) ?_
  show own_Go p e below s _ _ _ (T79.setTop (mkF m 35 #[.val (.ref x), .val (.ref sr), .val (.int (0 : Int32)), .val (.int (4 : Int32)), .val .null, .unset] [(.int (0 : Int32)), (.ref sr)]))
  refine own_st (fun t9 k9 => XS.iloadN X79.here hx rfl (hb hby own_d_jdk_42_method_149_35) rfl  k9) ?_
  show own_Go p e below s _ _ _ (T79.setTop (mkF m 36 #[.val (.ref x), .val (.ref sr), .val (.int (0 : Int32)), .val (.int (4 : Int32)), .val .null, .unset] [(.int (4 : Int32)), (.int (0 : Int32)), (.ref sr)]))
  obtain ⟨_, T80, h80, L80, X80, e80, ⟨Nc, Kc, t, kt, rfl, get, V_t⟩, st80⟩ := own_callS X79 hx hZ hown (hw _ (List.mem_of_getElem? (i := 19) rfl)) (hw _ (List.mem_of_getElem? (i := 20) rfl)) (hw _ (List.mem_of_getElem? (i := 21) rfl)) (hw _ (List.mem_of_getElem? (i := 22) rfl)) (by decide) (own_rm_cp4 l Z a0 hw [] sr ks x0 x1 x2 x3 h0 n0 Od V_s hr0 hr1 hr2 hr3 hm OA OH OL) (by decide) (by decide) e79 (W := 0) (g := (mkF m 36 #[.val (.ref x), .val (.ref sr), .val (.int (0 : Int32)), .val (.int (4 : Int32)), .val .null, .unset] [(.int (4 : Int32)), (.int (0 : Int32)), (.ref sr)])) rfl (by rw [hml]; rfl) (argsL := [(.ref sr), (.int (0 : Int32)), (.int (4 : Int32))]) (rest := []) rfl (lenOf own_pd4 rfl) rfl (by show 2 * 0 + _ ≤ _; exact Nat.le_of_eq rfl) (hb hby own_d_jdk_42_method_149_36) (by decide) (by decide)
  have N80 := Fr.app N0 Nc
  have ne_x_t : x ≠ t := Nat.ne_of_lt (Nat.lt_of_lt_of_le E_x.lt get)
  have ne_sr_t : sr ≠ t := Nat.ne_of_lt (Nat.lt_of_lt_of_le V_s.lt get)
  have ge_t : n0 ≤ t := Nat.le_trans (own_z0 Od) get
  have gz_t : h0.size ≤ t := Nat.le_trans Kp.1 get
  have E_x := E_x.keep Kc
  have F_v := F_v.keep Kc nin0
  have F_k := F_k.keep Kc nin0
  have V_s := V_s.keep Kc nin0
  have Od := Od.keep Kc all0
  have Kp := Kp.trans Kc all0
  refine own_st st80 ?_
  show own_Go p e below s _ _ _ (T80.setTop (mkF m 39 #[.val (.ref x), .val (.ref sr), .val (.int (0 : Int32)), .val (.int (4 : Int32)), .val .null, .unset] [(.ref t)]))
  refine own_st (fun t9 k9 => XS.astore X80.here hx rfl (hb hby own_d_jdk_42_method_149_39) rfl rfl (l' := #[.val (.ref x), .val (.ref sr), .val (.int (0 : Int32)), .val (.int (4 : Int32)), .val .null, .val (.ref t)]) rfl k9) ?_
  show own_Go p e below s _ _ _ (T80.setTop (mkF m 41 #[.val (.ref x), .val (.ref sr), .val (.int (0 : Int32)), .val (.int (4 : Int32)), .val .null, .val (.ref t)] []))
  refine own_st (fun t9 k9 => XS.aloadN X80.here hx rfl (hb hby own_d_jdk_42_method_149_41) rfl rfl k9) ?_
  show own_Go p e below s _ _ _ (T80.setTop (mkF m 42 #[.val (.ref x), .val (.ref sr), .val (.int (0 : Int32)), .val (.int (4 : Int32)), .val .null, .val (.ref t)] [(.ref x)]))
  refine own_st (fun t9 k9 => XS.aload X80.here hx rfl (hb hby own_d_jdk_42_method_149_42) rfl rfl k9) ?_
  show own_Go p e below s _ _ _ (T80.setTop (mkF m 44 #[.val (.ref x), .val (.ref sr), .val (.int (0 : Int32)), .val (.int (4 : Int32)), .val .null, .val (.ref t)] [(.ref t), (.ref x)]))
  refine own_st (fun t9 k9 => XS.iloadN X80.here hx rfl (hb hby own_d_jdk_42_method_149_44) rfl  k9) ?_
  show own_Go p e below s _ _ _ (T80.setTop (mkF m 45 #[.val (.ref x), .val (.ref sr), .val (.int (0 : Int32)), .val (.int (4 : Int32)), .val .null, .val (.ref t)] [(.int (4 : Int32)), (.ref t), (.ref x)]))
  obtain ⟨_, T81, h81, L81, X81, e81, ⟨rfl, Nd, hu⟩, st81⟩ := own_callS X80 hx hZ hown (hw _ (List.mem_of_getElem? (i := 27) rfl)) (hw _ (List.mem_of_getElem? (i := 28) rfl)) (hw _ (List.mem_of_getElem? (i := 21) rfl)) (hw _ (List.mem_of_getElem? (i := 29) rfl)) (by decide) (own_rm_cfal4 l Z a0 hw [] t kt _ h80 n0 Od V_t) (by decide) (by decide) e80 (W := 1) (g := (mkF m 45 #[.val (.ref x), .val (.ref sr), .val (.int (0 : Int32)), .val (.int (4 : Int32)), .val .null, .val (.ref t)] [(.int (4 : Int32)), (.ref t), (.ref x)])) rfl (by rw [hml]; rfl) (argsL := [(.ref t), (.int (4 : Int32))]) (rest := [(.ref x)]) rfl (lenOf own_pd6 rfl) rfl (by show 2 * 0 + _ ≤ _; exact Nat.le_of_eq rfl) (hb hby own_d_jdk_42_method_149_45) (by decide) (by decide)
  have N81 := Fr.app N80 Nd
  refine own_st st81 ?_
  show own_Go p e below s _ _ _ (T81.setTop (mkF m 48 #[.val (.ref x), .val (.ref sr), .val (.int (0 : Int32)), .val (.int (4 : Int32)), .val .null, .val (.ref t)] [(.int (1 : Int32)), (.ref x)]))
  obtain ⟨T82, h82, X82, e82, W82, st82⟩ := putFN X81 hx hZ hown (hw _ (List.mem_of_getElem? (i := 30) rfl)) Via.refl (e81.trans hu) F_k E_x (Or.inr ⟨(hw _ (List.mem_of_getElem? (i := 31) rfl)), rfl, hnm⟩) (hw _ (List.mem_of_getElem? (i := 5) rfl)) (ty := .byte) (v' := (.int (1 : Int32))) (by decide) rfl rfl (g := (mkF m 48 #[.val (.ref x), .val (.ref sr), .val (.int (0 : Int32)), .val (.int (4 : Int32)), .val .null, .val (.ref t)] [(.int (1 : Int32)), (.ref x)])) rfl rfl (hb hby own_d_jdk_42_method_149_48)
  have N82 := Fr.snoc X82 N81 ge_x
  have E_x := E_x.wr W82
  have F_v := F_v.other W82 (Or.inr (RoadKit.slot_ne (Or.inr (hw _ (List.mem_of_getElem? (i := 33) rfl))) (Or.inr (hw _ (List.mem_of_getElem? (i := 31) rfl))) (by decide) (t := (.array .byte)) (t' := .byte) (by decide) (by decide)))
  have F_k := F_k.same W82
  have V_s := V_s.other W82 ne_s
  have V_t := V_t.other W82 (Ne.symm ne_x_t)
  have Od := Od.wr W82 ge_x
  have Kp := Kp.wr W82 (Or.inl (List.mem_of_getElem? (i := 0) rfl))
  refine own_st st82 ?_
  show own_Go p e below s _ _ _ (T82.setTop (mkF m 51 #[.val (.ref x), .val (.ref sr), .val (.int (0 : Int32)), .val (.int (4 : Int32)), .val .null, .val (.ref t)] []))
  refine own_st (fun t9 k9 => XS.aloadN X82.here hx rfl (hb hby own_d_jdk_42_method_149_51) rfl rfl k9) ?_
  show own_Go p e below s _ _ _ (T82.setTop (mkF m 52 #[.val (.ref x), .val (.ref sr), .val (.int (0 : Int32)), .val (.int (4 : Int32)), .val .null, .val (.ref t)] [(.ref x)]))
  refine own_st (fun t9 k9 => XS.aload X82.here hx rfl (hb hby own_d_jdk_42_method_149_52) rfl rfl k9) ?_
  show own_Go p e below s _ _ _ (T82.setTop (mkF m 54 #[.val (.ref x), .val (.ref sr), .val (.int (0 : Int32)), .val (.int (4 : Int32)), .val .null, .val (.ref t)] [(.ref t), (.ref x)]))
  obtain ⟨T83, h83, X83, e83, W83, st83⟩ := putF X82 hx hZ hown (host := "") (Or.inl (hw _ (List.mem_of_getElem? (i := 32) rfl))) Via.refl e82 F_v E_x (Or.inr ⟨(hw _ (List.mem_of_getElem? (i := 33) rfl)), rfl, hnm⟩) (hw _ (List.mem_of_getElem? (i := 5) rfl)) (ty := (.array .byte)) (by decide) rfl rfl (g := (mkF m 54 #[.val (.ref x), .val (.ref sr), .val (.int (0 : Int32)), .val (.int (4 : Int32)), .val .null, .val (.ref t)] [(.ref t), (.ref x)])) rfl rfl (hb hby own_d_jdk_42_method_149_54)
  have N83 := Fr.snoc X83 N82 ge_x
  have E_x := E_x.wr W83
  have F_v := F_v.same W83
  have F_k := F_k.other W83 (Or.inr (RoadKit.slot_ne (Or.inr (hw _ (List.mem_of_getElem? (i := 31) rfl))) (Or.inr (hw _ (List.mem_of_getElem? (i := 33) rfl))) (by decide) (t := .byte) (t' := (.array .byte)) (by decide) (by decide)))
  have V_s := V_s.other W83 ne_s
  have V_t := V_t.other W83 (Ne.symm ne_x_t)
  have Od := Od.wr W83 ge_x
  have Kp := Kp.wr W83 (Or.inl (List.mem_of_getElem? (i := 0) rfl))
  refine own_st st83 ?_
  show own_Go p e below s _ _ _ (T83.setTop (mkF m 57 #[.val (.ref x), .val (.ref sr), .val (.int (0 : Int32)), .val (.int (4 : Int32)), .val .null, .val (.ref t)] []))
  exact own_retV X83 hx hlk Bd.returns (hb hby own_d_jdk_42_method_149_57) (by decide) (by decide) (by rw [e83]; exact ⟨rfl, N83, Kp, E_x, F_k, t, kt, gz_t, F_v, V_t⟩)
theorem own_ef_si1_4 (m : MethodId) (x0 : Addr) (x1 : Addr) : entryFrame m #[(.ref x0), (.ref x1)] 2 = mkF m 0 #[.val (.ref x0), .val (.ref x1)] [] := by first | (simp [entryFrame, mkF, argsToLocals, Value.category]; done) | rfl
def own_Q_si1_4 (Z : State) (x : Addr) (x0 : Int32) (x1 : Int32) (x2 : Int32) (x3 : Int32) (h0 : Heap) (n0 : Nat) (v : Option Value) (h : Heap) (L : List Loc) : Prop := v = none ∧ Fr n0 L ∧ Keep h0 h [x] ∧ Exa Z h x "java/lang/String" ∧ Fld Z h x "java/lang/String" "coder" "B" (.int (1 : Int32)) ∧ ∃ t k, h0.size ≤ t ∧ Fld Z h x "java/lang/String" "value" "[B" (.ref t) ∧ Arv Z h t k .byte (8 : Int32) [(.int (StrChars.lo8 x0)), (.int (StrChars.hi8 x0)), (.int (StrChars.lo8 x1)), (.int (StrChars.hi8 x1)), (.int (StrChars.lo8 x2)), (.int (StrChars.hi8 x2)), (.int (StrChars.lo8 x3)), (.int (StrChars.hi8 x3))] (.int (0 : Int32))
set_option maxRecDepth 65536 in
set_option maxHeartbeats 40000000 in
theorem own_rm_si1_4 (l : Launch) (Z : State) (a0 : Array Value) (hw : ∀ d ∈ tables_1, d.before a0 Z = true) (ws : List Jvm.Cond) (x : Addr) (sr : Addr) (ks : ClassId) (v0 c0 : Value) (G : Int32) (x0 : Int32) (x1 : Int32) (x2 : Int32) (x3 : Int32) (h0 : Heap) (n0 : Nat) (Od : Old Z n0 h0) (E_x : Exa Z h0 x "java/lang/String") (F_v : Fld Z h0 x "java/lang/String" "value" "[B" v0) (F_k : Fld Z h0 x "java/lang/String" "coder" "B" c0) (V_s : Arv Z h0 sr ks .char (4 : Int32) [(.int x0), (.int x1), (.int x2), (.int x3)] (.int (0 : Int32))) (ge_x : n0 ≤ x) (ne_s : sr ≠ x) (hr0 : ¬ x0 < 0 ∧ ¬ (65535 : Int32) < x0) (hr1 : ¬ x1 < 0 ∧ ¬ (65535 : Int32) < x1) (hr2 : ¬ x2 < 0 ∧ ¬ (65535 : Int32) < x2) (hr3 : ¬ x3 < 0 ∧ ¬ (65535 : Int32) < x3) (hm : ¬ own_first [x0, x1, x2, x3] 0 = (4 : Int32)) (OA : Sta Z Z.heap "java/lang/StringUTF16" "$assertionsDisabled" "Z" (.int (1 : Int32))) (OH : Sta Z Z.heap "java/lang/StringUTF16" "HI_BYTE_SHIFT" "I" (.int (0 : Int32))) (OL : Sta Z Z.heap "java/lang/StringUTF16" "LO_BYTE_SHIFT" "I" (.int (8 : Int32))) (O2 : Sta Z Z.heap "java/lang/String" "COMPACT_STRINGS" "Z" (.int G)) (P5 : ¬ (G = (0 : Int32))) :
    MetFree l (⟨"java/lang/String", "<init>", "([C)V"⟩ : MethodName) (head1 (Jvm.Cond.code (⟨"java/lang/String", "<init>", "([C)V"⟩ : MethodName) jdk_42_method_3_code 2 none :: ws) ({ frames := 5, cells := 2, slots := 12, locals := 74 } : Room)) (fun a9 U => a9 = #[(.ref x), (.ref sr)] ∧ Z.Warmed39 U.vm ∧ U.heap = h0) (fun _ _ _ _ _ => True) (fun _ U o U' => ∃ v L, o = .returned v ∧ own_Q_si1_4 Z x x0 x1 x2 x3 h0 n0 v U'.heap L ∧ FrameEnd U o U' L ({ frames := 5, cells := 2, slots := 12, locals := 74 } : Room).cells ({ frames := 5, cells := 2, slots := 12, locals := 74 } : Room).slots) := by
  refine MetFree.of_bodySF (plainFor_of_name own_pn1) hisR ?_
  intro p e s m args below meth c s₁ Bd hml0 hP hK
  obtain ⟨rfl, hZ, hh⟩ := hP
  have hx := Bd.exec
  have hby := Bd.bytes
  have hml : c.maxLocals = 2 := hml0
  have hown : s.vm.findClass "java/lang/String" = some m.cls := findClass_of_methodNamed Bd.named
  have hnm := (name_of_methodNamed Bd.named Bd.method).1
  have hlk : meth.locks = false := Bd.notSynchronized
  have X0 : Stand p l e ({ frames := 5, cells := 2, slots := 12, locals := 74 } : Room) s m #[(.ref x), (.ref sr)] below meth c s₁ [] 0 0 := Stand.of_body Bd
  have e0 : s₁.heap = h0 := by rw [← hh, Bd.state]; rfl
  have N0 := Fr.nil n0
  show own_Go p e below s (own_Q_si1_4 Z x x0 x1 x2 x3 h0 n0) ({ frames := 5, cells := 2, slots := 12, locals := 74 } : Room).cells ({ frames := 5, cells := 2, slots := 12, locals := 74 } : Room).slots (s₁.setTop (entryFrame m #[(.ref x), (.ref sr)] 2))
  refine own_st (fun t9 k9 => castTop (own_ef_si1_4 m x sr) k9) ?_
  show own_Go p e below s _ _ _ (s₁.setTop (mkF m 0 #[.val (.ref x), .val (.ref sr)] []))
  have Kp : Keep h0 h0 [x] := Keep.refl h0 [x]
  refine own_st (fun t9 k9 => XS.aloadN X0.here hx rfl (hb hby own_d_jdk_42_method_3_0) rfl rfl k9) ?_
  show own_Go p e below s _ _ _ (s₁.setTop (mkF m 1 #[.val (.ref x), .val (.ref sr)] [(.ref x)]))
  refine own_st (fun t9 k9 => XS.aloadN X0.here hx rfl (hb hby own_d_jdk_42_method_3_1) rfl rfl k9) ?_
  show own_Go p e below s _ _ _ (s₁.setTop (mkF m 2 #[.val (.ref x), .val (.ref sr)] [(.ref sr), (.ref x)]))
  refine own_st (fun t9 k9 => XS.iconst X0.here hx rfl (hb hby own_d_jdk_42_method_3_2) k9) ?_
  show own_Go p e below s _ _ _ (s₁.setTop (mkF m 3 #[.val (.ref x), .val (.ref sr)] [(.int (0 : Int32)), (.ref sr), (.ref x)]))
  refine own_st (fun t9 k9 => XS.aloadN X0.here hx rfl (hb hby own_d_jdk_42_method_3_3) rfl rfl k9) ?_
  show own_Go p e below s _ _ _ (s₁.setTop (mkF m 4 #[.val (.ref x), .val (.ref sr)] [(.ref sr), (.int (0 : Int32)), (.ref sr), (.ref x)]))
  refine own_st (fun t9 k9 => own_alen X0 hx hZ e0 V_s (g := (mkF m 4 #[.val (.ref x), .val (.ref sr)] [(.ref sr), (.int (0 : Int32)), (.ref sr), (.ref x)])) rfl rfl (hb hby own_d_jdk_42_method_3_4) t9 k9) ?_
  show own_Go p e below s _ _ _ (s₁.setTop (mkF m 5 #[.val (.ref x), .val (.ref sr)] [(.int (4 : Int32)), (.int (0 : Int32)), (.ref sr), (.ref x)]))
  refine own_st (fun t9 k9 => XS.aconstNull X0.here hx rfl (hb hby own_d_jdk_42_method_3_5) k9) ?_
  show own_Go p e below s _ _ _ (s₁.setTop (mkF m 6 #[.val (.ref x), .val (.ref sr)] [.null, (.int (4 : Int32)), (.int (0 : Int32)), (.ref sr), (.ref x)]))
  obtain ⟨_, T84, h84, L84, X84, e84, ⟨rfl, Nc, Kc, E_y, F_c, t, kt, get, F_u, V_t⟩, st84⟩ := own_callI X0 hx hZ hown rfl (hw _ (List.mem_of_getElem? (i := 11) rfl)) (hw _ (List.mem_of_getElem? (i := 12) rfl)) (hw _ (List.mem_of_getElem? (i := 6) rfl)) (hw _ (List.mem_of_getElem? (i := 14) rfl)) (by decide) (own_rm_si2_4 l Z a0 hw [] x sr ks v0 c0 G x0 x1 x2 x3 h0 n0 Od E_x F_v F_k V_s ge_x ne_s hr0 hr1 hr2 hr3 hm OA OH OL O2 P5) (by decide) (by decide) e0 (a := x) (W := 0) (g := (mkF m 6 #[.val (.ref x), .val (.ref sr)] [.null, (.int (4 : Int32)), (.int (0 : Int32)), (.ref sr), (.ref x)])) rfl (by rw [hml]; rfl) (argsL := [(.ref sr), (.int (0 : Int32)), (.int (4 : Int32)), .null]) (rest := []) rfl (lenOf own_pd7 rfl) rfl (by show 2 * 0 + _ ≤ _; exact Nat.le_of_eq rfl) (hb hby own_d_jdk_42_method_3_6) (by decide) (by decide)
  have N84 := Fr.app N0 Nc
  have E_x := E_x.keep Kc
  have V_s := V_s.keep Kc (ninS ne_s nin0)
  have Od := Od.keep Kc (allS ge_x all0)
  have Kp := Kp.trans Kc (allS (Or.inl (List.mem_of_getElem? (i := 0) rfl)) all0)
  refine own_st st84 ?_
  show own_Go p e below s _ _ _ (T84.setTop (mkF m 9 #[.val (.ref x), .val (.ref sr)] []))
  exact own_retV X84 hx hlk Bd.returns (hb hby own_d_jdk_42_method_3_9) (by decide) (by decide) (by rw [e84]; exact ⟨rfl, N84, Kp, E_y, F_c, t, kt, get, F_u, V_t⟩)
def own_Str (Z : State) (h : Heap) (x : Addr) (k : Nat) : Prop := Exa Z h x "java/lang/String" ∧ ∃ (cs : List Int32) (cd N : Int32) (vs : List Value) (t : Addr) (kb : ClassId), Fld Z h x "java/lang/String" "value" "[B" (.ref t) ∧ Fld Z h x "java/lang/String" "coder" "B" (.int cd) ∧ Arv Z h t kb .byte N vs (.int (0 : Int32)) ∧ StrChars.Road.CodA cs cd N vs ∧ (∀ c ∈ cs, ¬ c < 0 ∧ ¬ (65535 : Int32) < c) ∧ cs.length = k
def own_len (n : Int32) : Nat := if n = 0 then 1 else if n = 1 then 2 else if n = 2 then 3 else 4
theorem own_all1 {x0 : Int32} (h : own_first [x0] 0 = (1 : Int32)) : ∀ c ∈ ([x0] : List Int32), ¬ (255 : Int32) < c := by
  intro c hc q
  simp only [List.mem_cons, List.not_mem_nil, or_false] at hc
  by_cases hg0 : (255 : Int32) < x0
  · exact absurd (((show own_first [x0] 0 = (0 : Int32) from (if_pos hg0))).symm.trans h) (by decide)
  rcases hc with rfl
  · exact hg0 q
theorem own_ex1 {x0 : Int32} (h : ¬ own_first [x0] 0 = (1 : Int32)) : ∃ c ∈ ([x0] : List Int32), (255 : Int32) < c := by
  by_cases hg0 : (255 : Int32) < x0
  · exact ⟨x0, by simp, hg0⟩
  exact absurd (show own_first [x0] 0 = (1 : Int32) from ((if_neg hg0).trans rfl)) h
theorem own_all2 {x0 x1 : Int32} (h : own_first [x0, x1] 0 = (2 : Int32)) : ∀ c ∈ ([x0, x1] : List Int32), ¬ (255 : Int32) < c := by
  intro c hc q
  simp only [List.mem_cons, List.not_mem_nil, or_false] at hc
  by_cases hg0 : (255 : Int32) < x0
  · exact absurd (((show own_first [x0, x1] 0 = (0 : Int32) from (if_pos hg0))).symm.trans h) (by decide)
  by_cases hg1 : (255 : Int32) < x1
  · exact absurd (((show own_first [x0, x1] 0 = (1 : Int32) from ((if_neg hg0).trans (if_pos hg1)))).symm.trans h) (by decide)
  rcases hc with rfl | rfl
  · exact hg0 q
  · exact hg1 q
theorem own_ex2 {x0 x1 : Int32} (h : ¬ own_first [x0, x1] 0 = (2 : Int32)) : ∃ c ∈ ([x0, x1] : List Int32), (255 : Int32) < c := by
  by_cases hg0 : (255 : Int32) < x0
  · exact ⟨x0, by simp, hg0⟩
  by_cases hg1 : (255 : Int32) < x1
  · exact ⟨x1, by simp, hg1⟩
  exact absurd (show own_first [x0, x1] 0 = (2 : Int32) from ((if_neg hg0).trans ((if_neg hg1).trans rfl))) h
theorem own_all3 {x0 x1 x2 : Int32} (h : own_first [x0, x1, x2] 0 = (3 : Int32)) : ∀ c ∈ ([x0, x1, x2] : List Int32), ¬ (255 : Int32) < c := by
  intro c hc q
  simp only [List.mem_cons, List.not_mem_nil, or_false] at hc
  by_cases hg0 : (255 : Int32) < x0
  · exact absurd (((show own_first [x0, x1, x2] 0 = (0 : Int32) from (if_pos hg0))).symm.trans h) (by decide)
  by_cases hg1 : (255 : Int32) < x1
  · exact absurd (((show own_first [x0, x1, x2] 0 = (1 : Int32) from ((if_neg hg0).trans (if_pos hg1)))).symm.trans h) (by decide)
  by_cases hg2 : (255 : Int32) < x2
  · exact absurd (((show own_first [x0, x1, x2] 0 = (2 : Int32) from ((if_neg hg0).trans ((if_neg hg1).trans (if_pos hg2))))).symm.trans h) (by decide)
  rcases hc with rfl | rfl | rfl
  · exact hg0 q
  · exact hg1 q
  · exact hg2 q
theorem own_ex3 {x0 x1 x2 : Int32} (h : ¬ own_first [x0, x1, x2] 0 = (3 : Int32)) : ∃ c ∈ ([x0, x1, x2] : List Int32), (255 : Int32) < c := by
  by_cases hg0 : (255 : Int32) < x0
  · exact ⟨x0, by simp, hg0⟩
  by_cases hg1 : (255 : Int32) < x1
  · exact ⟨x1, by simp, hg1⟩
  by_cases hg2 : (255 : Int32) < x2
  · exact ⟨x2, by simp, hg2⟩
  exact absurd (show own_first [x0, x1, x2] 0 = (3 : Int32) from ((if_neg hg0).trans ((if_neg hg1).trans ((if_neg hg2).trans rfl)))) h
theorem own_all4 {x0 x1 x2 x3 : Int32} (h : own_first [x0, x1, x2, x3] 0 = (4 : Int32)) : ∀ c ∈ ([x0, x1, x2, x3] : List Int32), ¬ (255 : Int32) < c := by
  intro c hc q
  simp only [List.mem_cons, List.not_mem_nil, or_false] at hc
  by_cases hg0 : (255 : Int32) < x0
  · exact absurd (((show own_first [x0, x1, x2, x3] 0 = (0 : Int32) from (if_pos hg0))).symm.trans h) (by decide)
  by_cases hg1 : (255 : Int32) < x1
  · exact absurd (((show own_first [x0, x1, x2, x3] 0 = (1 : Int32) from ((if_neg hg0).trans (if_pos hg1)))).symm.trans h) (by decide)
  by_cases hg2 : (255 : Int32) < x2
  · exact absurd (((show own_first [x0, x1, x2, x3] 0 = (2 : Int32) from ((if_neg hg0).trans ((if_neg hg1).trans (if_pos hg2))))).symm.trans h) (by decide)
  by_cases hg3 : (255 : Int32) < x3
  · exact absurd (((show own_first [x0, x1, x2, x3] 0 = (3 : Int32) from ((if_neg hg0).trans ((if_neg hg1).trans ((if_neg hg2).trans (if_pos hg3)))))).symm.trans h) (by decide)
  rcases hc with rfl | rfl | rfl | rfl
  · exact hg0 q
  · exact hg1 q
  · exact hg2 q
  · exact hg3 q
theorem own_ex4 {x0 x1 x2 x3 : Int32} (h : ¬ own_first [x0, x1, x2, x3] 0 = (4 : Int32)) : ∃ c ∈ ([x0, x1, x2, x3] : List Int32), (255 : Int32) < c := by
  by_cases hg0 : (255 : Int32) < x0
  · exact ⟨x0, by simp, hg0⟩
  by_cases hg1 : (255 : Int32) < x1
  · exact ⟨x1, by simp, hg1⟩
  by_cases hg2 : (255 : Int32) < x2
  · exact ⟨x2, by simp, hg2⟩
  by_cases hg3 : (255 : Int32) < x3
  · exact ⟨x3, by simp, hg3⟩
  exact absurd (show own_first [x0, x1, x2, x3] 0 = (4 : Int32) from ((if_neg hg0).trans ((if_neg hg1).trans ((if_neg hg2).trans ((if_neg hg3).trans rfl))))) h
theorem own_pn2 : plainName "com/example/items_by_tag/itemsbytag/ItemCheckIdPinLaw" = true := by first | (simp [plainName, overriddenIn]; done) | decide +kernel
theorem own_d_method_2_0 : decode method_2_code 0 = .ok (.iload_n 0, 1) := by decide +kernel
theorem own_d_method_2_1 : decode method_2_code 1 = .ok (.ifCond .ne 18, 3) := by decide +kernel
theorem own_d_method_2_4 : decode method_2_code 4 = .ok (.new 7, 3) := by decide +kernel
theorem own_d_method_2_7 : decode method_2_code 7 = .ok (.dup, 1) := by decide +kernel
theorem own_d_method_2_8 : decode method_2_code 8 = .ok (.iconst 1, 1) := by decide +kernel
theorem own_d_method_2_9 : decode method_2_code 9 = .ok (.newarray .char, 2) := by decide +kernel
theorem own_d_method_2_11 : decode method_2_code 11 = .ok (.dup, 1) := by decide +kernel
theorem own_d_method_2_12 : decode method_2_code 12 = .ok (.iconst 0, 1) := by decide +kernel
theorem own_d_method_2_13 : decode method_2_code 13 = .ok (.iload_n 1, 1) := by decide +kernel
theorem own_d_method_2_14 : decode method_2_code 14 = .ok (.castore, 1) := by decide +kernel
theorem own_pd8 : parseMethodDescriptor "([C)V" = some ⟨[(.array .char)], none⟩ := by decide +kernel
theorem own_d_method_2_15 : decode method_2_code 15 = .ok (.invokespecial 9, 3) := by decide +kernel
theorem own_d_method_2_18 : decode method_2_code 18 = .ok (.areturn, 1) := by decide +kernel
theorem own_d_method_2_19 : decode method_2_code 19 = .ok (.iload_n 0, 1) := by decide +kernel
theorem own_d_method_2_20 : decode method_2_code 20 = .ok (.iconst 1, 1) := by decide +kernel
theorem own_d_method_2_21 : decode method_2_code 21 = .ok (.if_icmp .ne 22, 3) := by decide +kernel
theorem own_d_method_2_24 : decode method_2_code 24 = .ok (.new 7, 3) := by decide +kernel
theorem own_d_method_2_27 : decode method_2_code 27 = .ok (.dup, 1) := by decide +kernel
theorem own_d_method_2_28 : decode method_2_code 28 = .ok (.iconst 2, 1) := by decide +kernel
theorem own_d_method_2_29 : decode method_2_code 29 = .ok (.newarray .char, 2) := by decide +kernel
theorem own_d_method_2_31 : decode method_2_code 31 = .ok (.dup, 1) := by decide +kernel
theorem own_d_method_2_32 : decode method_2_code 32 = .ok (.iconst 0, 1) := by decide +kernel
theorem own_d_method_2_33 : decode method_2_code 33 = .ok (.iload_n 1, 1) := by decide +kernel
theorem own_d_method_2_34 : decode method_2_code 34 = .ok (.castore, 1) := by decide +kernel
theorem own_d_method_2_35 : decode method_2_code 35 = .ok (.dup, 1) := by decide +kernel
theorem own_d_method_2_36 : decode method_2_code 36 = .ok (.iconst 1, 1) := by decide +kernel
theorem own_d_method_2_37 : decode method_2_code 37 = .ok (.iload_n 2, 1) := by decide +kernel
theorem own_d_method_2_38 : decode method_2_code 38 = .ok (.castore, 1) := by decide +kernel
theorem own_d_method_2_39 : decode method_2_code 39 = .ok (.invokespecial 9, 3) := by decide +kernel
theorem own_d_method_2_42 : decode method_2_code 42 = .ok (.areturn, 1) := by decide +kernel
theorem own_d_method_2_43 : decode method_2_code 43 = .ok (.iload_n 0, 1) := by decide +kernel
theorem own_d_method_2_44 : decode method_2_code 44 = .ok (.iconst 2, 1) := by decide +kernel
theorem own_d_method_2_45 : decode method_2_code 45 = .ok (.if_icmp .ne 26, 3) := by decide +kernel
theorem own_d_method_2_48 : decode method_2_code 48 = .ok (.new 7, 3) := by decide +kernel
theorem own_d_method_2_51 : decode method_2_code 51 = .ok (.dup, 1) := by decide +kernel
theorem own_d_method_2_52 : decode method_2_code 52 = .ok (.iconst 3, 1) := by decide +kernel
theorem own_d_method_2_53 : decode method_2_code 53 = .ok (.newarray .char, 2) := by decide +kernel
theorem own_d_method_2_55 : decode method_2_code 55 = .ok (.dup, 1) := by decide +kernel
theorem own_d_method_2_56 : decode method_2_code 56 = .ok (.iconst 0, 1) := by decide +kernel
theorem own_d_method_2_57 : decode method_2_code 57 = .ok (.iload_n 1, 1) := by decide +kernel
theorem own_d_method_2_58 : decode method_2_code 58 = .ok (.castore, 1) := by decide +kernel
theorem own_d_method_2_59 : decode method_2_code 59 = .ok (.dup, 1) := by decide +kernel
theorem own_d_method_2_60 : decode method_2_code 60 = .ok (.iconst 1, 1) := by decide +kernel
theorem own_d_method_2_61 : decode method_2_code 61 = .ok (.iload_n 2, 1) := by decide +kernel
theorem own_d_method_2_62 : decode method_2_code 62 = .ok (.castore, 1) := by decide +kernel
theorem own_d_method_2_63 : decode method_2_code 63 = .ok (.dup, 1) := by decide +kernel
theorem own_d_method_2_64 : decode method_2_code 64 = .ok (.iconst 2, 1) := by decide +kernel
theorem own_d_method_2_65 : decode method_2_code 65 = .ok (.iload_n 3, 1) := by decide +kernel
theorem own_d_method_2_66 : decode method_2_code 66 = .ok (.castore, 1) := by decide +kernel
theorem own_d_method_2_67 : decode method_2_code 67 = .ok (.invokespecial 9, 3) := by decide +kernel
theorem own_d_method_2_70 : decode method_2_code 70 = .ok (.areturn, 1) := by decide +kernel
theorem own_d_method_2_71 : decode method_2_code 71 = .ok (.new 7, 3) := by decide +kernel
theorem own_d_method_2_74 : decode method_2_code 74 = .ok (.dup, 1) := by decide +kernel
theorem own_d_method_2_75 : decode method_2_code 75 = .ok (.iconst 4, 1) := by decide +kernel
theorem own_d_method_2_76 : decode method_2_code 76 = .ok (.newarray .char, 2) := by decide +kernel
theorem own_d_method_2_78 : decode method_2_code 78 = .ok (.dup, 1) := by decide +kernel
theorem own_d_method_2_79 : decode method_2_code 79 = .ok (.iconst 0, 1) := by decide +kernel
theorem own_d_method_2_80 : decode method_2_code 80 = .ok (.iload_n 1, 1) := by decide +kernel
theorem own_d_method_2_81 : decode method_2_code 81 = .ok (.castore, 1) := by decide +kernel
theorem own_d_method_2_82 : decode method_2_code 82 = .ok (.dup, 1) := by decide +kernel
theorem own_d_method_2_83 : decode method_2_code 83 = .ok (.iconst 1, 1) := by decide +kernel
theorem own_d_method_2_84 : decode method_2_code 84 = .ok (.iload_n 2, 1) := by decide +kernel
theorem own_d_method_2_85 : decode method_2_code 85 = .ok (.castore, 1) := by decide +kernel
theorem own_d_method_2_86 : decode method_2_code 86 = .ok (.dup, 1) := by decide +kernel
theorem own_d_method_2_87 : decode method_2_code 87 = .ok (.iconst 2, 1) := by decide +kernel
theorem own_d_method_2_88 : decode method_2_code 88 = .ok (.iload_n 3, 1) := by decide +kernel
theorem own_d_method_2_89 : decode method_2_code 89 = .ok (.castore, 1) := by decide +kernel
theorem own_d_method_2_90 : decode method_2_code 90 = .ok (.dup, 1) := by decide +kernel
theorem own_d_method_2_91 : decode method_2_code 91 = .ok (.iconst 3, 1) := by decide +kernel
theorem own_d_method_2_92 : decode method_2_code 92 = .ok (.iload 4, 2) := by decide +kernel
theorem own_d_method_2_94 : decode method_2_code 94 = .ok (.castore, 1) := by decide +kernel
theorem own_d_method_2_95 : decode method_2_code 95 = .ok (.invokespecial 9, 3) := by decide +kernel
theorem own_d_method_2_98 : decode method_2_code 98 = .ok (.areturn, 1) := by decide +kernel

theorem own_ef_make (m : MethodId) (x0 : Int32) (x1 : Int32) (x2 : Int32) (x3 : Int32) (x4 : Int32) : entryFrame m #[(.int x0), (.int x1), (.int x2), (.int x3), (.int x4)] 5 = mkF m 0 #[.val (.int x0), .val (.int x1), .val (.int x2), .val (.int x3), .val (.int x4)] [] := by first | (simp [entryFrame, mkF, argsToLocals, Value.category]; done) | rfl
def own_Q_make (Z : State) (n : Int32) (h0 : Heap) (n0 : Nat) (v : Option Value) (h : Heap) (L : List Loc) : Prop := Fr n0 L ∧ Keep h0 h [] ∧ ∃ x, v = some (.ref x) ∧ h0.size ≤ x ∧ own_Str Z h x (own_len n)
set_option maxRecDepth 65536 in
set_option maxHeartbeats 40000000 in
theorem own_rm_make (l : Launch) (Z : State) (a0 : Array Value) (hw : ∀ d ∈ tables_1, d.before a0 Z = true) (ws : List Jvm.Cond) (n c0 c1 c2 c3 G : Int32) (h0 : Heap) (n0 : Nat) (Od : Old Z n0 h0) (OA : Sta Z Z.heap "java/lang/StringUTF16" "$assertionsDisabled" "Z" (.int (1 : Int32))) (OH : Sta Z Z.heap "java/lang/StringUTF16" "HI_BYTE_SHIFT" "I" (.int (0 : Int32))) (OL : Sta Z Z.heap "java/lang/StringUTF16" "LO_BYTE_SHIFT" "I" (.int (8 : Int32))) (O2 : Sta Z Z.heap "java/lang/String" "COMPACT_STRINGS" "Z" (.int G)) (P5 : ¬ (G = (0 : Int32))) :
    MetFree l (⟨"com/example/items_by_tag/itemsbytag/ItemCheckIdPinLaw", "make", "(ICCCC)Ljava/lang/String;"⟩ : MethodName) (head1 (Jvm.Cond.code (⟨"com/example/items_by_tag/itemsbytag/ItemCheckIdPinLaw", "make", "(ICCCC)Ljava/lang/String;"⟩ : MethodName) method_2_code 5 (some (.object "java/lang/String")) :: ws) ({ frames := 6, cells := 4, slots := 20, locals := 88 } : Room)) (fun a9 U => a9 = #[(.int n), (.int c0), (.int c1), (.int c2), (.int c3)] ∧ Z.Warmed39 U.vm ∧ U.heap = h0) (fun _ _ _ _ _ => True) (fun _ U o U' => ∃ v L, o = .returned v ∧ own_Q_make Z n h0 n0 v U'.heap L ∧ FrameEnd U o U' L ({ frames := 6, cells := 4, slots := 20, locals := 88 } : Room).cells ({ frames := 6, cells := 4, slots := 20, locals := 88 } : Room).slots) := by
  refine MetFree.of_bodySF (plainFor_of_name own_pn2) hisR ?_
  intro p e s m args below meth c s₁ Bd hml0 hP hK
  obtain ⟨rfl, hZ, hh⟩ := hP
  have hx := Bd.exec
  have hby := Bd.bytes
  have hml : c.maxLocals = 5 := hml0
  have hown : s.vm.findClass "com/example/items_by_tag/itemsbytag/ItemCheckIdPinLaw" = some m.cls := findClass_of_methodNamed Bd.named
  have hnm := (name_of_methodNamed Bd.named Bd.method).1
  have hlk : meth.locks = false := Bd.notSynchronized
  have X0 : Stand p l e ({ frames := 6, cells := 4, slots := 20, locals := 88 } : Room) s m #[(.int n), (.int c0), (.int c1), (.int c2), (.int c3)] below meth c s₁ [] 0 0 := Stand.of_body Bd
  have e0 : s₁.heap = h0 := by rw [← hh, Bd.state]; rfl
  have N0 := Fr.nil n0
  show own_Go p e below s (own_Q_make Z n h0 n0) ({ frames := 6, cells := 4, slots := 20, locals := 88 } : Room).cells ({ frames := 6, cells := 4, slots := 20, locals := 88 } : Room).slots (s₁.setTop (entryFrame m #[(.int n), (.int c0), (.int c1), (.int c2), (.int c3)] 5))
  refine own_st (fun t9 k9 => castTop (own_ef_make m n c0 c1 c2 c3) k9) ?_
  show own_Go p e below s _ _ _ (s₁.setTop (mkF m 0 #[.val (.int n), .val (.int c0), .val (.int c1), .val (.int c2), .val (.int c3)] []))
  have Kp : Keep h0 h0 [] := Keep.refl h0 []
  have hws : ∀ d ∈ StrChars.Road.words, d.before a0 Z = true := fun d hd => hw d ((by decide +kernel : ∀ d ∈ StrChars.Road.words, d ∈ tables_1) d hd)
  refine own_st (fun t9 k9 => XS.iloadN X0.here hx rfl (hb hby own_d_method_2_0) rfl  k9) ?_
  show own_Go p e below s _ _ _ (s₁.setTop (mkF m 1 #[.val (.int n), .val (.int c0), .val (.int c1), .val (.int c2), .val (.int c3)] [(.int n)]))
  by_cases h0n : n = (0 : Int32)
  · skip
    refine own_st (fun t9 k9 => XS.ifNo X0.here hx rfl (hb hby own_d_method_2_1) rfl ((if0 _ _).trans (teq (h0n : n = (0 : Int32))).2) k9) ?_
    show own_Go p e below s _ _ _ (s₁.setTop (mkF m 4 #[.val (.int n), .val (.int c0), .val (.int c1), .val (.int c2), .val (.int c3)] []))
    obtain ⟨T85, h85, X85, e85, E85, A85, D85, U85, st85⟩ := newO X0 hx hZ hown (hw _ (List.mem_of_getElem? (i := 4) rfl)) (hw _ (List.mem_of_getElem? (i := 5) rfl)) (hw _ (List.mem_of_getElem? (i := 6) rfl)) e0 (g := (mkF m 4 #[.val (.int n), .val (.int c0), .val (.int c1), .val (.int c2), .val (.int c3)] [])) rfl (hb hby own_d_method_2_4) (by decide) (by decide)
    obtain ⟨x, g85⟩ : ∃ z, z = h0.size := ⟨_, rfl⟩
    rw [← g85] at A85 D85 st85 U85
    have ge_x : n0 ≤ x := Nat.le_trans (own_z0 Od) (Nat.le_of_eq g85.symm)
    have gz_x : h0.size ≤ x := Nat.le_trans Kp.1 (Nat.le_of_eq g85.symm)
    have Od := Od.ext E85
    have Kp := Kp.ext E85
    refine own_st st85 ?_
    show own_Go p e below s _ _ _ (T85.setTop (mkF m 7 #[.val (.int n), .val (.int c0), .val (.int c1), .val (.int c2), .val (.int c3)] [(.ref x)]))
    have E_x : Exa Z h85 x "java/lang/String" := A85
    have F_v : Fld Z h85 x "java/lang/String" "value" "[B" .null := D85 (Or.inr (hw _ (List.mem_of_getElem? (i := 33) rfl))) (ty := (.array .byte)) (by decide)
    have F_k : Fld Z h85 x "java/lang/String" "coder" "B" (.int (0 : Int32)) := D85 (Or.inr (hw _ (List.mem_of_getElem? (i := 31) rfl))) (ty := .byte) (by decide)
    refine own_st (fun t9 k9 => XS.dup X85.here hx rfl (hb hby own_d_method_2_7) rfl rfl k9) ?_
    show own_Go p e below s _ _ _ (T85.setTop (mkF m 8 #[.val (.int n), .val (.int c0), .val (.int c1), .val (.int c2), .val (.int c3)] [(.ref x), (.ref x)]))
    refine own_st (fun t9 k9 => XS.iconst X85.here hx rfl (hb hby own_d_method_2_8) k9) ?_
    show own_Go p e below s _ _ _ (T85.setTop (mkF m 9 #[.val (.int n), .val (.int c0), .val (.int c1), .val (.int c2), .val (.int c3)] [(.int (1 : Int32)), (.ref x), (.ref x)]))
    obtain ⟨T86, h86, k86, X86, e86, E86, A86, st86⟩ := newP X85 hx hZ (hw _ (List.mem_of_getElem? (i := 7) rfl)) e85 (g := (mkF m 9 #[.val (.int n), .val (.int c0), .val (.int c1), .val (.int c2), .val (.int c3)] [(.int (1 : Int32)), (.ref x), (.ref x)])) rfl (hb hby own_d_method_2_9) rfl (by decide) (cap := 1) (by decide) (by decide) (by decide) (by decide)
    obtain ⟨b, g86⟩ : ∃ z, z = h85.size := ⟨_, rfl⟩
    rw [← g86] at A86 st86
    have ne_x_b : x ≠ b := Nat.ne_of_lt (Nat.lt_of_lt_of_le E_x.lt (Nat.le_of_eq g86.symm))
    have ge_b : n0 ≤ b := Nat.le_trans (own_z0 Od) (Nat.le_of_eq g86.symm)
    have gz_b : h0.size ≤ b := Nat.le_trans Kp.1 (Nat.le_of_eq g86.symm)
    have E_x := E_x.ext E86
    have F_v := F_v.ext E86
    have F_k := F_k.ext E86
    have Od := Od.ext E86
    have Kp := Kp.ext E86
    refine own_st st86 ?_
    show own_Go p e below s _ _ _ (T86.setTop (mkF m 11 #[.val (.int n), .val (.int c0), .val (.int c1), .val (.int c2), .val (.int c3)] [(.ref b), (.ref x), (.ref x)]))
    have V_b : Arv Z h86 b k86 .char (1 : Int32) [(.int (0 : Int32))] (.int (0 : Int32)) := (Arv.new A86 (by decide)).pad (pad_rep [] (.int (0 : Int32)) 1)
    refine own_st (fun t9 k9 => XS.dup X86.here hx rfl (hb hby own_d_method_2_11) rfl rfl k9) ?_
    show own_Go p e below s _ _ _ (T86.setTop (mkF m 12 #[.val (.int n), .val (.int c0), .val (.int c1), .val (.int c2), .val (.int c3)] [(.ref b), (.ref b), (.ref x), (.ref x)]))
    refine own_st (fun t9 k9 => XS.iconst X86.here hx rfl (hb hby own_d_method_2_12) k9) ?_
    show own_Go p e below s _ _ _ (T86.setTop (mkF m 13 #[.val (.int n), .val (.int c0), .val (.int c1), .val (.int c2), .val (.int c3)] [(.int (0 : Int32)), (.ref b), (.ref b), (.ref x), (.ref x)]))
    refine own_st (fun t9 k9 => XS.iloadN X86.here hx rfl (hb hby own_d_method_2_13) rfl  k9) ?_
    show own_Go p e below s _ _ _ (T86.setTop (mkF m 14 #[.val (.int n), .val (.int c0), .val (.int c1), .val (.int c2), .val (.int c3)] [(.int c0), (.int (0 : Int32)), (.ref b), (.ref b), (.ref x), (.ref x)]))
    obtain ⟨cl87, Ar87, q87, S87, M87, H87, G87⟩ := id V_b
    obtain ⟨T87, h87, X87, e87, W87, st87⟩ := stC X86 hx hZ e86 Ar87 (j := (0 : Int32)) (inb_of S87 ⟨by decide, by decide⟩) (g := (mkF m 14 #[.val (.int n), .val (.int c0), .val (.int c1), .val (.int c2), .val (.int c3)] [(.int c0), (.int (0 : Int32)), (.ref b), (.ref b), (.ref x), (.ref x)])) rfl rfl (hb hby own_d_method_2_14)
    have N87 := Fr.snoc X87 N0 ge_b
    have E_x := E_x.wr W87
    have F_v := F_v.other W87 (Or.inl ne_x_b)
    have F_k := F_k.other W87 (Or.inl ne_x_b)
    have Od := Od.wr W87 ge_b
    have Kp := Kp.wr W87 (Or.inr gz_b)
    refine own_st st87 ?_
    show own_Go p e below s _ _ _ (T87.setTop (mkF m 15 #[.val (.int n), .val (.int c0), .val (.int c1), .val (.int c2), .val (.int c3)] [(.ref b), (.ref x), (.ref x)]))
    have V_b : Arv Z h87 b k86 .char (1 : Int32) [(.int (nar .char c0))] (.int (0 : Int32)) := Arv.set Ar87 q87 S87 M87 H87 G87 (fits_nar_char _) W87 0 rfl (Nat.le_of_ble_eq_true rfl)
    have hr : ∀ c ∈ ([nar .char c0] : List Int32), ¬ c < 0 ∧ ¬ (65535 : Int32) < c := by
      intro c hc
      simp only [List.mem_cons, List.not_mem_nil, or_false] at hc
      rcases hc with rfl <;> exact own_charR _
    by_cases hm : own_first [nar .char c0] 0 = (1 : Int32)
    · skip
      have hp : ∀ c ∈ ([nar .char c0] : List Int32), ¬ c < 0 ∧ ¬ (255 : Int32) < c := fun c hc => ⟨(hr c hc).1, own_all1 hm c hc⟩
      obtain ⟨_, T88, h88, L88, X88, e88, ⟨rfl, Nb, Kb, Eb, Fk, tt, kb, gt, gt2, ntb, Fv, Vb⟩, st88⟩ := own_backI X87 hx hZ hown rfl (hw _ (List.mem_of_getElem? (i := 8) rfl)) (hw _ (List.mem_of_getElem? (i := 9) rfl)) (hw _ (List.mem_of_getElem? (i := 10) rfl)) (by decide) (StrChars.Road.backV (W := 1) hZ hws (kI := 4) (hw _ (List.mem_of_getElem? (i := 5) rfl)) (cs := [nar .char c0]) (bs := ([nar .char c0] : List Int32).map (fun c => c.toInt8.toInt32)) (n := 1) ge_x (own_z0 Od) E_x F_v F_k V_b (O2.ext Od.2) P5 rfl rfl (by decide) (by decide) hp rfl (by decide) (by decide)) e87 (a := x) (W := 1) (g := (mkF m 15 #[.val (.int n), .val (.int c0), .val (.int c1), .val (.int c2), .val (.int c3)] [(.ref b), (.ref x), (.ref x)])) rfl (by rw [hml]; rfl) (argsL := [(.ref b)]) (rest := [(.ref x)]) rfl (lenOf own_pd8 rfl) rfl (by show 2 * 0 + _ ≤ _; exact Nat.le_of_eq rfl) (hb hby own_d_method_2_15) (by decide) (by decide)
      have N88 := Fr.app N87 Nb
      have E_x := E_x.keep Kb
      have V_b := V_b.keep Kb (ninS (Ne.symm ne_x_b) nin0)
      have Od := Od.keep Kb (allS ge_x all0)
      have Kp := Kp.trans Kb (allS (Or.inr gz_x) all0)
      refine own_st st88 ?_
      show own_Go p e below s _ _ _ (T88.setTop (mkF m 18 #[.val (.int n), .val (.int c0), .val (.int c1), .val (.int c2), .val (.int c3)] [(.ref x)]))
      exact own_retR X88 hx hlk Bd.returns rfl rfl (hb hby own_d_method_2_18) (by decide) (by decide) (by rw [e88]; exact ⟨N88, Kp, x, rfl, gz_x, Eb, [nar .char c0], 0, _, _, tt, kb, Fv, Fk, Vb, StrChars.Road.codOf (n := 1) rfl (fun c hc => (hp c hc).2), hr, (by rw [own_len, if_pos h0n]; rfl)⟩)
    · skip
      obtain ⟨_, T89, h89, L89, X89, e89, ⟨rfl, Nc, Kc, E_y, F_c, t, kt, get, F_u, V_t⟩, st89⟩ := own_callI X87 hx hZ hown rfl (hw _ (List.mem_of_getElem? (i := 8) rfl)) (hw _ (List.mem_of_getElem? (i := 9) rfl)) (hw _ (List.mem_of_getElem? (i := 6) rfl)) (hw _ (List.mem_of_getElem? (i := 10) rfl)) (by decide) (own_rm_si1_1 l Z a0 hw [] x b _ .null (.int (0 : Int32)) G (nar .char c0) h87 n0 Od E_x F_v F_k V_b ge_x (Ne.symm ne_x_b) (own_charR _) hm OA OH OL O2 P5) (by decide) (by decide) e87 (a := x) (W := 1) (g := (mkF m 15 #[.val (.int n), .val (.int c0), .val (.int c1), .val (.int c2), .val (.int c3)] [(.ref b), (.ref x), (.ref x)])) rfl (by rw [hml]; rfl) (argsL := [(.ref b)]) (rest := [(.ref x)]) rfl (lenOf own_pd8 rfl) rfl (by show 2 * 0 + _ ≤ _; exact Nat.le_of_eq rfl) (hb hby own_d_method_2_15) (by decide) (by decide)
      have N89 := Fr.app N87 Nc
      have E_x := E_x.keep Kc
      have V_b := V_b.keep Kc (ninS (Ne.symm ne_x_b) nin0)
      have Od := Od.keep Kc (allS ge_x all0)
      have Kp := Kp.trans Kc (allS (Or.inr gz_x) all0)
      refine own_st st89 ?_
      show own_Go p e below s _ _ _ (T89.setTop (mkF m 18 #[.val (.int n), .val (.int c0), .val (.int c1), .val (.int c2), .val (.int c3)] [(.ref x)]))
      exact own_retR X89 hx hlk Bd.returns rfl rfl (hb hby own_d_method_2_18) (by decide) (by decide) (by rw [e89]; exact ⟨N89, Kp, x, rfl, gz_x, E_y, [nar .char c0], 1, _, _, t, kt, F_u, F_c, V_t, Or.inr ⟨rfl, rfl, rfl, own_ex1 hm⟩, hr, (by rw [own_len, if_pos h0n]; rfl)⟩)
  · skip
    refine own_st (fun t9 k9 => XS.ifYes X0.here hx rfl (pc0 := 1) (pc' := 19) rfl (hb hby own_d_method_2_1) rfl ((if0 _ _).trans (feq (h0n : ¬ (n = (0 : Int32)))).2) (by decide) (by decide) k9) ?_
    show own_Go p e below s _ _ _ (s₁.setTop (mkF m 19 #[.val (.int n), .val (.int c0), .val (.int c1), .val (.int c2), .val (.int c3)] []))
    refine own_st (fun t9 k9 => XS.iloadN X0.here hx rfl (hb hby own_d_method_2_19) rfl  k9) ?_
    show own_Go p e below s _ _ _ (s₁.setTop (mkF m 20 #[.val (.int n), .val (.int c0), .val (.int c1), .val (.int c2), .val (.int c3)] [(.int n)]))
    refine own_st (fun t9 k9 => XS.iconst X0.here hx rfl (hb hby own_d_method_2_20) k9) ?_
    show own_Go p e below s _ _ _ (s₁.setTop (mkF m 21 #[.val (.int n), .val (.int c0), .val (.int c1), .val (.int c2), .val (.int c3)] [(.int (1 : Int32)), (.int n)]))
    by_cases h1n : n = (1 : Int32)
    · skip
      refine own_st (fun t9 k9 => XS.icmpNo X0.here hx rfl (hb hby own_d_method_2_21) rfl (teq (h1n : n = (1 : Int32))).2 k9) ?_
      show own_Go p e below s _ _ _ (s₁.setTop (mkF m 24 #[.val (.int n), .val (.int c0), .val (.int c1), .val (.int c2), .val (.int c3)] []))
      obtain ⟨T90, h90, X90, e90, E90, A90, D90, U90, st90⟩ := newO X0 hx hZ hown (hw _ (List.mem_of_getElem? (i := 4) rfl)) (hw _ (List.mem_of_getElem? (i := 5) rfl)) (hw _ (List.mem_of_getElem? (i := 6) rfl)) e0 (g := (mkF m 24 #[.val (.int n), .val (.int c0), .val (.int c1), .val (.int c2), .val (.int c3)] [])) rfl (hb hby own_d_method_2_24) (by decide) (by decide)
      obtain ⟨x, g90⟩ : ∃ z, z = h0.size := ⟨_, rfl⟩
      rw [← g90] at A90 D90 st90 U90
      have ge_x : n0 ≤ x := Nat.le_trans (own_z0 Od) (Nat.le_of_eq g90.symm)
      have gz_x : h0.size ≤ x := Nat.le_trans Kp.1 (Nat.le_of_eq g90.symm)
      have Od := Od.ext E90
      have Kp := Kp.ext E90
      refine own_st st90 ?_
      show own_Go p e below s _ _ _ (T90.setTop (mkF m 27 #[.val (.int n), .val (.int c0), .val (.int c1), .val (.int c2), .val (.int c3)] [(.ref x)]))
      have E_x : Exa Z h90 x "java/lang/String" := A90
      have F_v : Fld Z h90 x "java/lang/String" "value" "[B" .null := D90 (Or.inr (hw _ (List.mem_of_getElem? (i := 33) rfl))) (ty := (.array .byte)) (by decide)
      have F_k : Fld Z h90 x "java/lang/String" "coder" "B" (.int (0 : Int32)) := D90 (Or.inr (hw _ (List.mem_of_getElem? (i := 31) rfl))) (ty := .byte) (by decide)
      refine own_st (fun t9 k9 => XS.dup X90.here hx rfl (hb hby own_d_method_2_27) rfl rfl k9) ?_
      show own_Go p e below s _ _ _ (T90.setTop (mkF m 28 #[.val (.int n), .val (.int c0), .val (.int c1), .val (.int c2), .val (.int c3)] [(.ref x), (.ref x)]))
      refine own_st (fun t9 k9 => XS.iconst X90.here hx rfl (hb hby own_d_method_2_28) k9) ?_
      show own_Go p e below s _ _ _ (T90.setTop (mkF m 29 #[.val (.int n), .val (.int c0), .val (.int c1), .val (.int c2), .val (.int c3)] [(.int (2 : Int32)), (.ref x), (.ref x)]))
      obtain ⟨T91, h91, k91, X91, e91, E91, A91, st91⟩ := newP X90 hx hZ (hw _ (List.mem_of_getElem? (i := 7) rfl)) e90 (g := (mkF m 29 #[.val (.int n), .val (.int c0), .val (.int c1), .val (.int c2), .val (.int c3)] [(.int (2 : Int32)), (.ref x), (.ref x)])) rfl (hb hby own_d_method_2_29) rfl (by decide) (cap := 2) (by decide) (by decide) (by decide) (by decide)
      obtain ⟨b, g91⟩ : ∃ z, z = h90.size := ⟨_, rfl⟩
      rw [← g91] at A91 st91
      have ne_x_b : x ≠ b := Nat.ne_of_lt (Nat.lt_of_lt_of_le E_x.lt (Nat.le_of_eq g91.symm))
      have ge_b : n0 ≤ b := Nat.le_trans (own_z0 Od) (Nat.le_of_eq g91.symm)
      have gz_b : h0.size ≤ b := Nat.le_trans Kp.1 (Nat.le_of_eq g91.symm)
      have E_x := E_x.ext E91
      have F_v := F_v.ext E91
      have F_k := F_k.ext E91
      have Od := Od.ext E91
      have Kp := Kp.ext E91
      refine own_st st91 ?_
      show own_Go p e below s _ _ _ (T91.setTop (mkF m 31 #[.val (.int n), .val (.int c0), .val (.int c1), .val (.int c2), .val (.int c3)] [(.ref b), (.ref x), (.ref x)]))
      have V_b : Arv Z h91 b k91 .char (2 : Int32) [(.int (0 : Int32)), (.int (0 : Int32))] (.int (0 : Int32)) := (Arv.new A91 (by decide)).pad (pad_rep [] (.int (0 : Int32)) 2)
      refine own_st (fun t9 k9 => XS.dup X91.here hx rfl (hb hby own_d_method_2_31) rfl rfl k9) ?_
      show own_Go p e below s _ _ _ (T91.setTop (mkF m 32 #[.val (.int n), .val (.int c0), .val (.int c1), .val (.int c2), .val (.int c3)] [(.ref b), (.ref b), (.ref x), (.ref x)]))
      refine own_st (fun t9 k9 => XS.iconst X91.here hx rfl (hb hby own_d_method_2_32) k9) ?_
      show own_Go p e below s _ _ _ (T91.setTop (mkF m 33 #[.val (.int n), .val (.int c0), .val (.int c1), .val (.int c2), .val (.int c3)] [(.int (0 : Int32)), (.ref b), (.ref b), (.ref x), (.ref x)]))
      refine own_st (fun t9 k9 => XS.iloadN X91.here hx rfl (hb hby own_d_method_2_33) rfl  k9) ?_
      show own_Go p e below s _ _ _ (T91.setTop (mkF m 34 #[.val (.int n), .val (.int c0), .val (.int c1), .val (.int c2), .val (.int c3)] [(.int c0), (.int (0 : Int32)), (.ref b), (.ref b), (.ref x), (.ref x)]))
      obtain ⟨cl92, Ar92, q92, S92, M92, H92, G92⟩ := id V_b
      obtain ⟨T92, h92, X92, e92, W92, st92⟩ := stC X91 hx hZ e91 Ar92 (j := (0 : Int32)) (inb_of S92 ⟨by decide, by decide⟩) (g := (mkF m 34 #[.val (.int n), .val (.int c0), .val (.int c1), .val (.int c2), .val (.int c3)] [(.int c0), (.int (0 : Int32)), (.ref b), (.ref b), (.ref x), (.ref x)])) rfl rfl (hb hby own_d_method_2_34)
      have N92 := Fr.snoc X92 N0 ge_b
      have E_x := E_x.wr W92
      have F_v := F_v.other W92 (Or.inl ne_x_b)
      have F_k := F_k.other W92 (Or.inl ne_x_b)
      have Od := Od.wr W92 ge_b
      have Kp := Kp.wr W92 (Or.inr gz_b)
      refine own_st st92 ?_
      show own_Go p e below s _ _ _ (T92.setTop (mkF m 35 #[.val (.int n), .val (.int c0), .val (.int c1), .val (.int c2), .val (.int c3)] [(.ref b), (.ref x), (.ref x)]))
      have V_b : Arv Z h92 b k91 .char (2 : Int32) [(.int (nar .char c0)), (.int (0 : Int32))] (.int (0 : Int32)) := Arv.set Ar92 q92 S92 M92 H92 G92 (fits_nar_char _) W92 0 rfl (Nat.le_of_ble_eq_true rfl)
      refine own_st (fun t9 k9 => XS.dup X92.here hx rfl (hb hby own_d_method_2_35) rfl rfl k9) ?_
      show own_Go p e below s _ _ _ (T92.setTop (mkF m 36 #[.val (.int n), .val (.int c0), .val (.int c1), .val (.int c2), .val (.int c3)] [(.ref b), (.ref b), (.ref x), (.ref x)]))
      refine own_st (fun t9 k9 => XS.iconst X92.here hx rfl (hb hby own_d_method_2_36) k9) ?_
      show own_Go p e below s _ _ _ (T92.setTop (mkF m 37 #[.val (.int n), .val (.int c0), .val (.int c1), .val (.int c2), .val (.int c3)] [(.int (1 : Int32)), (.ref b), (.ref b), (.ref x), (.ref x)]))
      refine own_st (fun t9 k9 => XS.iloadN X92.here hx rfl (hb hby own_d_method_2_37) rfl  k9) ?_
      show own_Go p e below s _ _ _ (T92.setTop (mkF m 38 #[.val (.int n), .val (.int c0), .val (.int c1), .val (.int c2), .val (.int c3)] [(.int c1), (.int (1 : Int32)), (.ref b), (.ref b), (.ref x), (.ref x)]))
      obtain ⟨cl93, Ar93, q93, S93, M93, H93, G93⟩ := id V_b
      obtain ⟨T93, h93, X93, e93, W93, st93⟩ := stC X92 hx hZ e92 Ar93 (j := (1 : Int32)) (inb_of S93 ⟨by decide, by decide⟩) (g := (mkF m 38 #[.val (.int n), .val (.int c0), .val (.int c1), .val (.int c2), .val (.int c3)] [(.int c1), (.int (1 : Int32)), (.ref b), (.ref b), (.ref x), (.ref x)])) rfl rfl (hb hby own_d_method_2_38)
      have N93 := Fr.snoc X93 N92 ge_b
      have E_x := E_x.wr W93
      have F_v := F_v.other W93 (Or.inl ne_x_b)
      have F_k := F_k.other W93 (Or.inl ne_x_b)
      have Od := Od.wr W93 ge_b
      have Kp := Kp.wr W93 (Or.inr gz_b)
      refine own_st st93 ?_
      show own_Go p e below s _ _ _ (T93.setTop (mkF m 39 #[.val (.int n), .val (.int c0), .val (.int c1), .val (.int c2), .val (.int c3)] [(.ref b), (.ref x), (.ref x)]))
      have V_b : Arv Z h93 b k91 .char (2 : Int32) [(.int (nar .char c0)), (.int (nar .char c1))] (.int (0 : Int32)) := Arv.set Ar93 q93 S93 M93 H93 G93 (fits_nar_char _) W93 1 rfl (Nat.le_of_ble_eq_true rfl)
      have hr : ∀ c ∈ ([nar .char c0, nar .char c1] : List Int32), ¬ c < 0 ∧ ¬ (65535 : Int32) < c := by
        intro c hc
        simp only [List.mem_cons, List.not_mem_nil, or_false] at hc
        rcases hc with rfl | rfl <;> exact own_charR _
      by_cases hm : own_first [nar .char c0, nar .char c1] 0 = (2 : Int32)
      · skip
        have hp : ∀ c ∈ ([nar .char c0, nar .char c1] : List Int32), ¬ c < 0 ∧ ¬ (255 : Int32) < c := fun c hc => ⟨(hr c hc).1, own_all2 hm c hc⟩
        obtain ⟨_, T94, h94, L94, X94, e94, ⟨rfl, Nb, Kb, Eb, Fk, tt, kb, gt, gt2, ntb, Fv, Vb⟩, st94⟩ := own_backI X93 hx hZ hown rfl (hw _ (List.mem_of_getElem? (i := 8) rfl)) (hw _ (List.mem_of_getElem? (i := 9) rfl)) (hw _ (List.mem_of_getElem? (i := 10) rfl)) (by decide) (StrChars.Road.backV (W := 1) hZ hws (kI := 4) (hw _ (List.mem_of_getElem? (i := 5) rfl)) (cs := [nar .char c0, nar .char c1]) (bs := ([nar .char c0, nar .char c1] : List Int32).map (fun c => c.toInt8.toInt32)) (n := 2) ge_x (own_z0 Od) E_x F_v F_k V_b (O2.ext Od.2) P5 rfl rfl (by decide) (by decide) hp rfl (by decide) (by decide)) e93 (a := x) (W := 1) (g := (mkF m 39 #[.val (.int n), .val (.int c0), .val (.int c1), .val (.int c2), .val (.int c3)] [(.ref b), (.ref x), (.ref x)])) rfl (by rw [hml]; rfl) (argsL := [(.ref b)]) (rest := [(.ref x)]) rfl (lenOf own_pd8 rfl) rfl (by show 2 * 0 + _ ≤ _; exact Nat.le_of_eq rfl) (hb hby own_d_method_2_39) (by decide) (by decide)
        have N94 := Fr.app N93 Nb
        have E_x := E_x.keep Kb
        have V_b := V_b.keep Kb (ninS (Ne.symm ne_x_b) nin0)
        have Od := Od.keep Kb (allS ge_x all0)
        have Kp := Kp.trans Kb (allS (Or.inr gz_x) all0)
        refine own_st st94 ?_
        show own_Go p e below s _ _ _ (T94.setTop (mkF m 42 #[.val (.int n), .val (.int c0), .val (.int c1), .val (.int c2), .val (.int c3)] [(.ref x)]))
        exact own_retR X94 hx hlk Bd.returns rfl rfl (hb hby own_d_method_2_42) (by decide) (by decide) (by rw [e94]; exact ⟨N94, Kp, x, rfl, gz_x, Eb, [nar .char c0, nar .char c1], 0, _, _, tt, kb, Fv, Fk, Vb, StrChars.Road.codOf (n := 2) rfl (fun c hc => (hp c hc).2), hr, (by rw [own_len, if_neg h0n, if_pos h1n]; rfl)⟩)
      · skip
        obtain ⟨_, T95, h95, L95, X95, e95, ⟨rfl, Nc, Kc, E_y, F_c, t, kt, get, F_u, V_t⟩, st95⟩ := own_callI X93 hx hZ hown rfl (hw _ (List.mem_of_getElem? (i := 8) rfl)) (hw _ (List.mem_of_getElem? (i := 9) rfl)) (hw _ (List.mem_of_getElem? (i := 6) rfl)) (hw _ (List.mem_of_getElem? (i := 10) rfl)) (by decide) (own_rm_si1_2 l Z a0 hw [] x b _ .null (.int (0 : Int32)) G (nar .char c0) (nar .char c1) h93 n0 Od E_x F_v F_k V_b ge_x (Ne.symm ne_x_b) (own_charR _) (own_charR _) hm OA OH OL O2 P5) (by decide) (by decide) e93 (a := x) (W := 1) (g := (mkF m 39 #[.val (.int n), .val (.int c0), .val (.int c1), .val (.int c2), .val (.int c3)] [(.ref b), (.ref x), (.ref x)])) rfl (by rw [hml]; rfl) (argsL := [(.ref b)]) (rest := [(.ref x)]) rfl (lenOf own_pd8 rfl) rfl (by show 2 * 0 + _ ≤ _; exact Nat.le_of_eq rfl) (hb hby own_d_method_2_39) (by decide) (by decide)
        have N95 := Fr.app N93 Nc
        have E_x := E_x.keep Kc
        have V_b := V_b.keep Kc (ninS (Ne.symm ne_x_b) nin0)
        have Od := Od.keep Kc (allS ge_x all0)
        have Kp := Kp.trans Kc (allS (Or.inr gz_x) all0)
        refine own_st st95 ?_
        show own_Go p e below s _ _ _ (T95.setTop (mkF m 42 #[.val (.int n), .val (.int c0), .val (.int c1), .val (.int c2), .val (.int c3)] [(.ref x)]))
        exact own_retR X95 hx hlk Bd.returns rfl rfl (hb hby own_d_method_2_42) (by decide) (by decide) (by rw [e95]; exact ⟨N95, Kp, x, rfl, gz_x, E_y, [nar .char c0, nar .char c1], 1, _, _, t, kt, F_u, F_c, V_t, Or.inr ⟨rfl, rfl, rfl, own_ex2 hm⟩, hr, (by rw [own_len, if_neg h0n, if_pos h1n]; rfl)⟩)
    · skip
      refine own_st (fun t9 k9 => XS.icmpYes X0.here hx rfl (pc0 := 21) (pc' := 43) rfl (hb hby own_d_method_2_21) rfl (feq (h1n : ¬ (n = (1 : Int32)))).2 (by decide) (by decide) k9) ?_
      show own_Go p e below s _ _ _ (s₁.setTop (mkF m 43 #[.val (.int n), .val (.int c0), .val (.int c1), .val (.int c2), .val (.int c3)] []))
      refine own_st (fun t9 k9 => XS.iloadN X0.here hx rfl (hb hby own_d_method_2_43) rfl  k9) ?_
      show own_Go p e below s _ _ _ (s₁.setTop (mkF m 44 #[.val (.int n), .val (.int c0), .val (.int c1), .val (.int c2), .val (.int c3)] [(.int n)]))
      refine own_st (fun t9 k9 => XS.iconst X0.here hx rfl (hb hby own_d_method_2_44) k9) ?_
      show own_Go p e below s _ _ _ (s₁.setTop (mkF m 45 #[.val (.int n), .val (.int c0), .val (.int c1), .val (.int c2), .val (.int c3)] [(.int (2 : Int32)), (.int n)]))
      by_cases h2n : n = (2 : Int32)
      · skip
        refine own_st (fun t9 k9 => XS.icmpNo X0.here hx rfl (hb hby own_d_method_2_45) rfl (teq (h2n : n = (2 : Int32))).2 k9) ?_
        show own_Go p e below s _ _ _ (s₁.setTop (mkF m 48 #[.val (.int n), .val (.int c0), .val (.int c1), .val (.int c2), .val (.int c3)] []))
        obtain ⟨T96, h96, X96, e96, E96, A96, D96, U96, st96⟩ := newO X0 hx hZ hown (hw _ (List.mem_of_getElem? (i := 4) rfl)) (hw _ (List.mem_of_getElem? (i := 5) rfl)) (hw _ (List.mem_of_getElem? (i := 6) rfl)) e0 (g := (mkF m 48 #[.val (.int n), .val (.int c0), .val (.int c1), .val (.int c2), .val (.int c3)] [])) rfl (hb hby own_d_method_2_48) (by decide) (by decide)
        obtain ⟨x, g96⟩ : ∃ z, z = h0.size := ⟨_, rfl⟩
        rw [← g96] at A96 D96 st96 U96
        have ge_x : n0 ≤ x := Nat.le_trans (own_z0 Od) (Nat.le_of_eq g96.symm)
        have gz_x : h0.size ≤ x := Nat.le_trans Kp.1 (Nat.le_of_eq g96.symm)
        have Od := Od.ext E96
        have Kp := Kp.ext E96
        refine own_st st96 ?_
        show own_Go p e below s _ _ _ (T96.setTop (mkF m 51 #[.val (.int n), .val (.int c0), .val (.int c1), .val (.int c2), .val (.int c3)] [(.ref x)]))
        have E_x : Exa Z h96 x "java/lang/String" := A96
        have F_v : Fld Z h96 x "java/lang/String" "value" "[B" .null := D96 (Or.inr (hw _ (List.mem_of_getElem? (i := 33) rfl))) (ty := (.array .byte)) (by decide)
        have F_k : Fld Z h96 x "java/lang/String" "coder" "B" (.int (0 : Int32)) := D96 (Or.inr (hw _ (List.mem_of_getElem? (i := 31) rfl))) (ty := .byte) (by decide)
        refine own_st (fun t9 k9 => XS.dup X96.here hx rfl (hb hby own_d_method_2_51) rfl rfl k9) ?_
        show own_Go p e below s _ _ _ (T96.setTop (mkF m 52 #[.val (.int n), .val (.int c0), .val (.int c1), .val (.int c2), .val (.int c3)] [(.ref x), (.ref x)]))
        refine own_st (fun t9 k9 => XS.iconst X96.here hx rfl (hb hby own_d_method_2_52) k9) ?_
        show own_Go p e below s _ _ _ (T96.setTop (mkF m 53 #[.val (.int n), .val (.int c0), .val (.int c1), .val (.int c2), .val (.int c3)] [(.int (3 : Int32)), (.ref x), (.ref x)]))
        obtain ⟨T97, h97, k97, X97, e97, E97, A97, st97⟩ := newP X96 hx hZ (hw _ (List.mem_of_getElem? (i := 7) rfl)) e96 (g := (mkF m 53 #[.val (.int n), .val (.int c0), .val (.int c1), .val (.int c2), .val (.int c3)] [(.int (3 : Int32)), (.ref x), (.ref x)])) rfl (hb hby own_d_method_2_53) rfl (by decide) (cap := 3) (by decide) (by decide) (by decide) (by decide)
        obtain ⟨b, g97⟩ : ∃ z, z = h96.size := ⟨_, rfl⟩
        rw [← g97] at A97 st97
        have ne_x_b : x ≠ b := Nat.ne_of_lt (Nat.lt_of_lt_of_le E_x.lt (Nat.le_of_eq g97.symm))
        have ge_b : n0 ≤ b := Nat.le_trans (own_z0 Od) (Nat.le_of_eq g97.symm)
        have gz_b : h0.size ≤ b := Nat.le_trans Kp.1 (Nat.le_of_eq g97.symm)
        have E_x := E_x.ext E97
        have F_v := F_v.ext E97
        have F_k := F_k.ext E97
        have Od := Od.ext E97
        have Kp := Kp.ext E97
        refine own_st st97 ?_
        show own_Go p e below s _ _ _ (T97.setTop (mkF m 55 #[.val (.int n), .val (.int c0), .val (.int c1), .val (.int c2), .val (.int c3)] [(.ref b), (.ref x), (.ref x)]))
        have V_b : Arv Z h97 b k97 .char (3 : Int32) [(.int (0 : Int32)), (.int (0 : Int32)), (.int (0 : Int32))] (.int (0 : Int32)) := (Arv.new A97 (by decide)).pad (pad_rep [] (.int (0 : Int32)) 3)
        refine own_st (fun t9 k9 => XS.dup X97.here hx rfl (hb hby own_d_method_2_55) rfl rfl k9) ?_
        show own_Go p e below s _ _ _ (T97.setTop (mkF m 56 #[.val (.int n), .val (.int c0), .val (.int c1), .val (.int c2), .val (.int c3)] [(.ref b), (.ref b), (.ref x), (.ref x)]))
        refine own_st (fun t9 k9 => XS.iconst X97.here hx rfl (hb hby own_d_method_2_56) k9) ?_
        show own_Go p e below s _ _ _ (T97.setTop (mkF m 57 #[.val (.int n), .val (.int c0), .val (.int c1), .val (.int c2), .val (.int c3)] [(.int (0 : Int32)), (.ref b), (.ref b), (.ref x), (.ref x)]))
        refine own_st (fun t9 k9 => XS.iloadN X97.here hx rfl (hb hby own_d_method_2_57) rfl  k9) ?_
        show own_Go p e below s _ _ _ (T97.setTop (mkF m 58 #[.val (.int n), .val (.int c0), .val (.int c1), .val (.int c2), .val (.int c3)] [(.int c0), (.int (0 : Int32)), (.ref b), (.ref b), (.ref x), (.ref x)]))
        obtain ⟨cl98, Ar98, q98, S98, M98, H98, G98⟩ := id V_b
        obtain ⟨T98, h98, X98, e98, W98, st98⟩ := stC X97 hx hZ e97 Ar98 (j := (0 : Int32)) (inb_of S98 ⟨by decide, by decide⟩) (g := (mkF m 58 #[.val (.int n), .val (.int c0), .val (.int c1), .val (.int c2), .val (.int c3)] [(.int c0), (.int (0 : Int32)), (.ref b), (.ref b), (.ref x), (.ref x)])) rfl rfl (hb hby own_d_method_2_58)
        have N98 := Fr.snoc X98 N0 ge_b
        have E_x := E_x.wr W98
        have F_v := F_v.other W98 (Or.inl ne_x_b)
        have F_k := F_k.other W98 (Or.inl ne_x_b)
        have Od := Od.wr W98 ge_b
        have Kp := Kp.wr W98 (Or.inr gz_b)
        refine own_st st98 ?_
        show own_Go p e below s _ _ _ (T98.setTop (mkF m 59 #[.val (.int n), .val (.int c0), .val (.int c1), .val (.int c2), .val (.int c3)] [(.ref b), (.ref x), (.ref x)]))
        have V_b : Arv Z h98 b k97 .char (3 : Int32) [(.int (nar .char c0)), (.int (0 : Int32)), (.int (0 : Int32))] (.int (0 : Int32)) := Arv.set Ar98 q98 S98 M98 H98 G98 (fits_nar_char _) W98 0 rfl (Nat.le_of_ble_eq_true rfl)
        refine own_st (fun t9 k9 => XS.dup X98.here hx rfl (hb hby own_d_method_2_59) rfl rfl k9) ?_
        show own_Go p e below s _ _ _ (T98.setTop (mkF m 60 #[.val (.int n), .val (.int c0), .val (.int c1), .val (.int c2), .val (.int c3)] [(.ref b), (.ref b), (.ref x), (.ref x)]))
        refine own_st (fun t9 k9 => XS.iconst X98.here hx rfl (hb hby own_d_method_2_60) k9) ?_
        show own_Go p e below s _ _ _ (T98.setTop (mkF m 61 #[.val (.int n), .val (.int c0), .val (.int c1), .val (.int c2), .val (.int c3)] [(.int (1 : Int32)), (.ref b), (.ref b), (.ref x), (.ref x)]))
        refine own_st (fun t9 k9 => XS.iloadN X98.here hx rfl (hb hby own_d_method_2_61) rfl  k9) ?_
        show own_Go p e below s _ _ _ (T98.setTop (mkF m 62 #[.val (.int n), .val (.int c0), .val (.int c1), .val (.int c2), .val (.int c3)] [(.int c1), (.int (1 : Int32)), (.ref b), (.ref b), (.ref x), (.ref x)]))
        obtain ⟨cl99, Ar99, q99, S99, M99, H99, G99⟩ := id V_b
        obtain ⟨T99, h99, X99, e99, W99, st99⟩ := stC X98 hx hZ e98 Ar99 (j := (1 : Int32)) (inb_of S99 ⟨by decide, by decide⟩) (g := (mkF m 62 #[.val (.int n), .val (.int c0), .val (.int c1), .val (.int c2), .val (.int c3)] [(.int c1), (.int (1 : Int32)), (.ref b), (.ref b), (.ref x), (.ref x)])) rfl rfl (hb hby own_d_method_2_62)
        have N99 := Fr.snoc X99 N98 ge_b
        have E_x := E_x.wr W99
        have F_v := F_v.other W99 (Or.inl ne_x_b)
        have F_k := F_k.other W99 (Or.inl ne_x_b)
        have Od := Od.wr W99 ge_b
        have Kp := Kp.wr W99 (Or.inr gz_b)
        refine own_st st99 ?_
        show own_Go p e below s _ _ _ (T99.setTop (mkF m 63 #[.val (.int n), .val (.int c0), .val (.int c1), .val (.int c2), .val (.int c3)] [(.ref b), (.ref x), (.ref x)]))
        have V_b : Arv Z h99 b k97 .char (3 : Int32) [(.int (nar .char c0)), (.int (nar .char c1)), (.int (0 : Int32))] (.int (0 : Int32)) := Arv.set Ar99 q99 S99 M99 H99 G99 (fits_nar_char _) W99 1 rfl (Nat.le_of_ble_eq_true rfl)
        refine own_st (fun t9 k9 => XS.dup X99.here hx rfl (hb hby own_d_method_2_63) rfl rfl k9) ?_
        show own_Go p e below s _ _ _ (T99.setTop (mkF m 64 #[.val (.int n), .val (.int c0), .val (.int c1), .val (.int c2), .val (.int c3)] [(.ref b), (.ref b), (.ref x), (.ref x)]))
        refine own_st (fun t9 k9 => XS.iconst X99.here hx rfl (hb hby own_d_method_2_64) k9) ?_
        show own_Go p e below s _ _ _ (T99.setTop (mkF m 65 #[.val (.int n), .val (.int c0), .val (.int c1), .val (.int c2), .val (.int c3)] [(.int (2 : Int32)), (.ref b), (.ref b), (.ref x), (.ref x)]))
        refine own_st (fun t9 k9 => XS.iloadN X99.here hx rfl (hb hby own_d_method_2_65) rfl  k9) ?_
        show own_Go p e below s _ _ _ (T99.setTop (mkF m 66 #[.val (.int n), .val (.int c0), .val (.int c1), .val (.int c2), .val (.int c3)] [(.int c2), (.int (2 : Int32)), (.ref b), (.ref b), (.ref x), (.ref x)]))
        obtain ⟨cl100, Ar100, q100, S100, M100, H100, G100⟩ := id V_b
        obtain ⟨T100, h100, X100, e100, W100, st100⟩ := stC X99 hx hZ e99 Ar100 (j := (2 : Int32)) (inb_of S100 ⟨by decide, by decide⟩) (g := (mkF m 66 #[.val (.int n), .val (.int c0), .val (.int c1), .val (.int c2), .val (.int c3)] [(.int c2), (.int (2 : Int32)), (.ref b), (.ref b), (.ref x), (.ref x)])) rfl rfl (hb hby own_d_method_2_66)
        have N100 := Fr.snoc X100 N99 ge_b
        have E_x := E_x.wr W100
        have F_v := F_v.other W100 (Or.inl ne_x_b)
        have F_k := F_k.other W100 (Or.inl ne_x_b)
        have Od := Od.wr W100 ge_b
        have Kp := Kp.wr W100 (Or.inr gz_b)
        refine own_st st100 ?_
        show own_Go p e below s _ _ _ (T100.setTop (mkF m 67 #[.val (.int n), .val (.int c0), .val (.int c1), .val (.int c2), .val (.int c3)] [(.ref b), (.ref x), (.ref x)]))
        have V_b : Arv Z h100 b k97 .char (3 : Int32) [(.int (nar .char c0)), (.int (nar .char c1)), (.int (nar .char c2))] (.int (0 : Int32)) := Arv.set Ar100 q100 S100 M100 H100 G100 (fits_nar_char _) W100 2 rfl (Nat.le_of_ble_eq_true rfl)
        have hr : ∀ c ∈ ([nar .char c0, nar .char c1, nar .char c2] : List Int32), ¬ c < 0 ∧ ¬ (65535 : Int32) < c := by
          intro c hc
          simp only [List.mem_cons, List.not_mem_nil, or_false] at hc
          rcases hc with rfl | rfl | rfl <;> exact own_charR _
        by_cases hm : own_first [nar .char c0, nar .char c1, nar .char c2] 0 = (3 : Int32)
        · skip
          have hp : ∀ c ∈ ([nar .char c0, nar .char c1, nar .char c2] : List Int32), ¬ c < 0 ∧ ¬ (255 : Int32) < c := fun c hc => ⟨(hr c hc).1, own_all3 hm c hc⟩
          obtain ⟨_, T101, h101, L101, X101, e101, ⟨rfl, Nb, Kb, Eb, Fk, tt, kb, gt, gt2, ntb, Fv, Vb⟩, st101⟩ := own_backI X100 hx hZ hown rfl (hw _ (List.mem_of_getElem? (i := 8) rfl)) (hw _ (List.mem_of_getElem? (i := 9) rfl)) (hw _ (List.mem_of_getElem? (i := 10) rfl)) (by decide) (StrChars.Road.backV (W := 1) hZ hws (kI := 4) (hw _ (List.mem_of_getElem? (i := 5) rfl)) (cs := [nar .char c0, nar .char c1, nar .char c2]) (bs := ([nar .char c0, nar .char c1, nar .char c2] : List Int32).map (fun c => c.toInt8.toInt32)) (n := 3) ge_x (own_z0 Od) E_x F_v F_k V_b (O2.ext Od.2) P5 rfl rfl (by decide) (by decide) hp rfl (by decide) (by decide)) e100 (a := x) (W := 1) (g := (mkF m 67 #[.val (.int n), .val (.int c0), .val (.int c1), .val (.int c2), .val (.int c3)] [(.ref b), (.ref x), (.ref x)])) rfl (by rw [hml]; rfl) (argsL := [(.ref b)]) (rest := [(.ref x)]) rfl (lenOf own_pd8 rfl) rfl (by show 2 * 0 + _ ≤ _; exact Nat.le_of_eq rfl) (hb hby own_d_method_2_67) (by decide) (by decide)
          have N101 := Fr.app N100 Nb
          have E_x := E_x.keep Kb
          have V_b := V_b.keep Kb (ninS (Ne.symm ne_x_b) nin0)
          have Od := Od.keep Kb (allS ge_x all0)
          have Kp := Kp.trans Kb (allS (Or.inr gz_x) all0)
          refine own_st st101 ?_
          show own_Go p e below s _ _ _ (T101.setTop (mkF m 70 #[.val (.int n), .val (.int c0), .val (.int c1), .val (.int c2), .val (.int c3)] [(.ref x)]))
          exact own_retR X101 hx hlk Bd.returns rfl rfl (hb hby own_d_method_2_70) (by decide) (by decide) (by rw [e101]; exact ⟨N101, Kp, x, rfl, gz_x, Eb, [nar .char c0, nar .char c1, nar .char c2], 0, _, _, tt, kb, Fv, Fk, Vb, StrChars.Road.codOf (n := 3) rfl (fun c hc => (hp c hc).2), hr, (by rw [own_len, if_neg h0n, if_neg h1n, if_pos h2n]; rfl)⟩)
        · skip
          obtain ⟨_, T102, h102, L102, X102, e102, ⟨rfl, Nc, Kc, E_y, F_c, t, kt, get, F_u, V_t⟩, st102⟩ := own_callI X100 hx hZ hown rfl (hw _ (List.mem_of_getElem? (i := 8) rfl)) (hw _ (List.mem_of_getElem? (i := 9) rfl)) (hw _ (List.mem_of_getElem? (i := 6) rfl)) (hw _ (List.mem_of_getElem? (i := 10) rfl)) (by decide) (own_rm_si1_3 l Z a0 hw [] x b _ .null (.int (0 : Int32)) G (nar .char c0) (nar .char c1) (nar .char c2) h100 n0 Od E_x F_v F_k V_b ge_x (Ne.symm ne_x_b) (own_charR _) (own_charR _) (own_charR _) hm OA OH OL O2 P5) (by decide) (by decide) e100 (a := x) (W := 1) (g := (mkF m 67 #[.val (.int n), .val (.int c0), .val (.int c1), .val (.int c2), .val (.int c3)] [(.ref b), (.ref x), (.ref x)])) rfl (by rw [hml]; rfl) (argsL := [(.ref b)]) (rest := [(.ref x)]) rfl (lenOf own_pd8 rfl) rfl (by show 2 * 0 + _ ≤ _; exact Nat.le_of_eq rfl) (hb hby own_d_method_2_67) (by decide) (by decide)
          have N102 := Fr.app N100 Nc
          have E_x := E_x.keep Kc
          have V_b := V_b.keep Kc (ninS (Ne.symm ne_x_b) nin0)
          have Od := Od.keep Kc (allS ge_x all0)
          have Kp := Kp.trans Kc (allS (Or.inr gz_x) all0)
          refine own_st st102 ?_
          show own_Go p e below s _ _ _ (T102.setTop (mkF m 70 #[.val (.int n), .val (.int c0), .val (.int c1), .val (.int c2), .val (.int c3)] [(.ref x)]))
          exact own_retR X102 hx hlk Bd.returns rfl rfl (hb hby own_d_method_2_70) (by decide) (by decide) (by rw [e102]; exact ⟨N102, Kp, x, rfl, gz_x, E_y, [nar .char c0, nar .char c1, nar .char c2], 1, _, _, t, kt, F_u, F_c, V_t, Or.inr ⟨rfl, rfl, rfl, own_ex3 hm⟩, hr, (by rw [own_len, if_neg h0n, if_neg h1n, if_pos h2n]; rfl)⟩)
      · skip
        refine own_st (fun t9 k9 => XS.icmpYes X0.here hx rfl (pc0 := 45) (pc' := 71) rfl (hb hby own_d_method_2_45) rfl (feq (h2n : ¬ (n = (2 : Int32)))).2 (by decide) (by decide) k9) ?_
        show own_Go p e below s _ _ _ (s₁.setTop (mkF m 71 #[.val (.int n), .val (.int c0), .val (.int c1), .val (.int c2), .val (.int c3)] []))
        obtain ⟨T103, h103, X103, e103, E103, A103, D103, U103, st103⟩ := newO X0 hx hZ hown (hw _ (List.mem_of_getElem? (i := 4) rfl)) (hw _ (List.mem_of_getElem? (i := 5) rfl)) (hw _ (List.mem_of_getElem? (i := 6) rfl)) e0 (g := (mkF m 71 #[.val (.int n), .val (.int c0), .val (.int c1), .val (.int c2), .val (.int c3)] [])) rfl (hb hby own_d_method_2_71) (by decide) (by decide)
        obtain ⟨x, g103⟩ : ∃ z, z = h0.size := ⟨_, rfl⟩
        rw [← g103] at A103 D103 st103 U103
        have ge_x : n0 ≤ x := Nat.le_trans (own_z0 Od) (Nat.le_of_eq g103.symm)
        have gz_x : h0.size ≤ x := Nat.le_trans Kp.1 (Nat.le_of_eq g103.symm)
        have Od := Od.ext E103
        have Kp := Kp.ext E103
        refine own_st st103 ?_
        show own_Go p e below s _ _ _ (T103.setTop (mkF m 74 #[.val (.int n), .val (.int c0), .val (.int c1), .val (.int c2), .val (.int c3)] [(.ref x)]))
        have E_x : Exa Z h103 x "java/lang/String" := A103
        have F_v : Fld Z h103 x "java/lang/String" "value" "[B" .null := D103 (Or.inr (hw _ (List.mem_of_getElem? (i := 33) rfl))) (ty := (.array .byte)) (by decide)
        have F_k : Fld Z h103 x "java/lang/String" "coder" "B" (.int (0 : Int32)) := D103 (Or.inr (hw _ (List.mem_of_getElem? (i := 31) rfl))) (ty := .byte) (by decide)
        refine own_st (fun t9 k9 => XS.dup X103.here hx rfl (hb hby own_d_method_2_74) rfl rfl k9) ?_
        show own_Go p e below s _ _ _ (T103.setTop (mkF m 75 #[.val (.int n), .val (.int c0), .val (.int c1), .val (.int c2), .val (.int c3)] [(.ref x), (.ref x)]))
        refine own_st (fun t9 k9 => XS.iconst X103.here hx rfl (hb hby own_d_method_2_75) k9) ?_
        show own_Go p e below s _ _ _ (T103.setTop (mkF m 76 #[.val (.int n), .val (.int c0), .val (.int c1), .val (.int c2), .val (.int c3)] [(.int (4 : Int32)), (.ref x), (.ref x)]))
        obtain ⟨T104, h104, k104, X104, e104, E104, A104, st104⟩ := newP X103 hx hZ (hw _ (List.mem_of_getElem? (i := 7) rfl)) e103 (g := (mkF m 76 #[.val (.int n), .val (.int c0), .val (.int c1), .val (.int c2), .val (.int c3)] [(.int (4 : Int32)), (.ref x), (.ref x)])) rfl (hb hby own_d_method_2_76) rfl (by decide) (cap := 4) (by decide) (by decide) (by decide) (by decide)
        obtain ⟨b, g104⟩ : ∃ z, z = h103.size := ⟨_, rfl⟩
        rw [← g104] at A104 st104
        have ne_x_b : x ≠ b := Nat.ne_of_lt (Nat.lt_of_lt_of_le E_x.lt (Nat.le_of_eq g104.symm))
        have ge_b : n0 ≤ b := Nat.le_trans (own_z0 Od) (Nat.le_of_eq g104.symm)
        have gz_b : h0.size ≤ b := Nat.le_trans Kp.1 (Nat.le_of_eq g104.symm)
        have E_x := E_x.ext E104
        have F_v := F_v.ext E104
        have F_k := F_k.ext E104
        have Od := Od.ext E104
        have Kp := Kp.ext E104
        refine own_st st104 ?_
        show own_Go p e below s _ _ _ (T104.setTop (mkF m 78 #[.val (.int n), .val (.int c0), .val (.int c1), .val (.int c2), .val (.int c3)] [(.ref b), (.ref x), (.ref x)]))
        have V_b : Arv Z h104 b k104 .char (4 : Int32) [(.int (0 : Int32)), (.int (0 : Int32)), (.int (0 : Int32)), (.int (0 : Int32))] (.int (0 : Int32)) := (Arv.new A104 (by decide)).pad (pad_rep [] (.int (0 : Int32)) 4)
        refine own_st (fun t9 k9 => XS.dup X104.here hx rfl (hb hby own_d_method_2_78) rfl rfl k9) ?_
        show own_Go p e below s _ _ _ (T104.setTop (mkF m 79 #[.val (.int n), .val (.int c0), .val (.int c1), .val (.int c2), .val (.int c3)] [(.ref b), (.ref b), (.ref x), (.ref x)]))
        refine own_st (fun t9 k9 => XS.iconst X104.here hx rfl (hb hby own_d_method_2_79) k9) ?_
        show own_Go p e below s _ _ _ (T104.setTop (mkF m 80 #[.val (.int n), .val (.int c0), .val (.int c1), .val (.int c2), .val (.int c3)] [(.int (0 : Int32)), (.ref b), (.ref b), (.ref x), (.ref x)]))
        refine own_st (fun t9 k9 => XS.iloadN X104.here hx rfl (hb hby own_d_method_2_80) rfl  k9) ?_
        show own_Go p e below s _ _ _ (T104.setTop (mkF m 81 #[.val (.int n), .val (.int c0), .val (.int c1), .val (.int c2), .val (.int c3)] [(.int c0), (.int (0 : Int32)), (.ref b), (.ref b), (.ref x), (.ref x)]))
        obtain ⟨cl105, Ar105, q105, S105, M105, H105, G105⟩ := id V_b
        obtain ⟨T105, h105, X105, e105, W105, st105⟩ := stC X104 hx hZ e104 Ar105 (j := (0 : Int32)) (inb_of S105 ⟨by decide, by decide⟩) (g := (mkF m 81 #[.val (.int n), .val (.int c0), .val (.int c1), .val (.int c2), .val (.int c3)] [(.int c0), (.int (0 : Int32)), (.ref b), (.ref b), (.ref x), (.ref x)])) rfl rfl (hb hby own_d_method_2_81)
        have N105 := Fr.snoc X105 N0 ge_b
        have E_x := E_x.wr W105
        have F_v := F_v.other W105 (Or.inl ne_x_b)
        have F_k := F_k.other W105 (Or.inl ne_x_b)
        have Od := Od.wr W105 ge_b
        have Kp := Kp.wr W105 (Or.inr gz_b)
        refine own_st st105 ?_
        show own_Go p e below s _ _ _ (T105.setTop (mkF m 82 #[.val (.int n), .val (.int c0), .val (.int c1), .val (.int c2), .val (.int c3)] [(.ref b), (.ref x), (.ref x)]))
        have V_b : Arv Z h105 b k104 .char (4 : Int32) [(.int (nar .char c0)), (.int (0 : Int32)), (.int (0 : Int32)), (.int (0 : Int32))] (.int (0 : Int32)) := Arv.set Ar105 q105 S105 M105 H105 G105 (fits_nar_char _) W105 0 rfl (Nat.le_of_ble_eq_true rfl)
        refine own_st (fun t9 k9 => XS.dup X105.here hx rfl (hb hby own_d_method_2_82) rfl rfl k9) ?_
        show own_Go p e below s _ _ _ (T105.setTop (mkF m 83 #[.val (.int n), .val (.int c0), .val (.int c1), .val (.int c2), .val (.int c3)] [(.ref b), (.ref b), (.ref x), (.ref x)]))
        refine own_st (fun t9 k9 => XS.iconst X105.here hx rfl (hb hby own_d_method_2_83) k9) ?_
        show own_Go p e below s _ _ _ (T105.setTop (mkF m 84 #[.val (.int n), .val (.int c0), .val (.int c1), .val (.int c2), .val (.int c3)] [(.int (1 : Int32)), (.ref b), (.ref b), (.ref x), (.ref x)]))
        refine own_st (fun t9 k9 => XS.iloadN X105.here hx rfl (hb hby own_d_method_2_84) rfl  k9) ?_
        show own_Go p e below s _ _ _ (T105.setTop (mkF m 85 #[.val (.int n), .val (.int c0), .val (.int c1), .val (.int c2), .val (.int c3)] [(.int c1), (.int (1 : Int32)), (.ref b), (.ref b), (.ref x), (.ref x)]))
        obtain ⟨cl106, Ar106, q106, S106, M106, H106, G106⟩ := id V_b
        obtain ⟨T106, h106, X106, e106, W106, st106⟩ := stC X105 hx hZ e105 Ar106 (j := (1 : Int32)) (inb_of S106 ⟨by decide, by decide⟩) (g := (mkF m 85 #[.val (.int n), .val (.int c0), .val (.int c1), .val (.int c2), .val (.int c3)] [(.int c1), (.int (1 : Int32)), (.ref b), (.ref b), (.ref x), (.ref x)])) rfl rfl (hb hby own_d_method_2_85)
        have N106 := Fr.snoc X106 N105 ge_b
        have E_x := E_x.wr W106
        have F_v := F_v.other W106 (Or.inl ne_x_b)
        have F_k := F_k.other W106 (Or.inl ne_x_b)
        have Od := Od.wr W106 ge_b
        have Kp := Kp.wr W106 (Or.inr gz_b)
        refine own_st st106 ?_
        show own_Go p e below s _ _ _ (T106.setTop (mkF m 86 #[.val (.int n), .val (.int c0), .val (.int c1), .val (.int c2), .val (.int c3)] [(.ref b), (.ref x), (.ref x)]))
        have V_b : Arv Z h106 b k104 .char (4 : Int32) [(.int (nar .char c0)), (.int (nar .char c1)), (.int (0 : Int32)), (.int (0 : Int32))] (.int (0 : Int32)) := Arv.set Ar106 q106 S106 M106 H106 G106 (fits_nar_char _) W106 1 rfl (Nat.le_of_ble_eq_true rfl)
        refine own_st (fun t9 k9 => XS.dup X106.here hx rfl (hb hby own_d_method_2_86) rfl rfl k9) ?_
        show own_Go p e below s _ _ _ (T106.setTop (mkF m 87 #[.val (.int n), .val (.int c0), .val (.int c1), .val (.int c2), .val (.int c3)] [(.ref b), (.ref b), (.ref x), (.ref x)]))
        refine own_st (fun t9 k9 => XS.iconst X106.here hx rfl (hb hby own_d_method_2_87) k9) ?_
        show own_Go p e below s _ _ _ (T106.setTop (mkF m 88 #[.val (.int n), .val (.int c0), .val (.int c1), .val (.int c2), .val (.int c3)] [(.int (2 : Int32)), (.ref b), (.ref b), (.ref x), (.ref x)]))
        refine own_st (fun t9 k9 => XS.iloadN X106.here hx rfl (hb hby own_d_method_2_88) rfl  k9) ?_
        show own_Go p e below s _ _ _ (T106.setTop (mkF m 89 #[.val (.int n), .val (.int c0), .val (.int c1), .val (.int c2), .val (.int c3)] [(.int c2), (.int (2 : Int32)), (.ref b), (.ref b), (.ref x), (.ref x)]))
        obtain ⟨cl107, Ar107, q107, S107, M107, H107, G107⟩ := id V_b
        obtain ⟨T107, h107, X107, e107, W107, st107⟩ := stC X106 hx hZ e106 Ar107 (j := (2 : Int32)) (inb_of S107 ⟨by decide, by decide⟩) (g := (mkF m 89 #[.val (.int n), .val (.int c0), .val (.int c1), .val (.int c2), .val (.int c3)] [(.int c2), (.int (2 : Int32)), (.ref b), (.ref b), (.ref x), (.ref x)])) rfl rfl (hb hby own_d_method_2_89)
        have N107 := Fr.snoc X107 N106 ge_b
        have E_x := E_x.wr W107
        have F_v := F_v.other W107 (Or.inl ne_x_b)
        have F_k := F_k.other W107 (Or.inl ne_x_b)
        have Od := Od.wr W107 ge_b
        have Kp := Kp.wr W107 (Or.inr gz_b)
        refine own_st st107 ?_
        show own_Go p e below s _ _ _ (T107.setTop (mkF m 90 #[.val (.int n), .val (.int c0), .val (.int c1), .val (.int c2), .val (.int c3)] [(.ref b), (.ref x), (.ref x)]))
        have V_b : Arv Z h107 b k104 .char (4 : Int32) [(.int (nar .char c0)), (.int (nar .char c1)), (.int (nar .char c2)), (.int (0 : Int32))] (.int (0 : Int32)) := Arv.set Ar107 q107 S107 M107 H107 G107 (fits_nar_char _) W107 2 rfl (Nat.le_of_ble_eq_true rfl)
        refine own_st (fun t9 k9 => XS.dup X107.here hx rfl (hb hby own_d_method_2_90) rfl rfl k9) ?_
        show own_Go p e below s _ _ _ (T107.setTop (mkF m 91 #[.val (.int n), .val (.int c0), .val (.int c1), .val (.int c2), .val (.int c3)] [(.ref b), (.ref b), (.ref x), (.ref x)]))
        refine own_st (fun t9 k9 => XS.iconst X107.here hx rfl (hb hby own_d_method_2_91) k9) ?_
        show own_Go p e below s _ _ _ (T107.setTop (mkF m 92 #[.val (.int n), .val (.int c0), .val (.int c1), .val (.int c2), .val (.int c3)] [(.int (3 : Int32)), (.ref b), (.ref b), (.ref x), (.ref x)]))
        refine own_st (fun t9 k9 => XS.iload X107.here hx rfl (hb hby own_d_method_2_92) rfl  k9) ?_
        show own_Go p e below s _ _ _ (T107.setTop (mkF m 94 #[.val (.int n), .val (.int c0), .val (.int c1), .val (.int c2), .val (.int c3)] [(.int c3), (.int (3 : Int32)), (.ref b), (.ref b), (.ref x), (.ref x)]))
        obtain ⟨cl108, Ar108, q108, S108, M108, H108, G108⟩ := id V_b
        obtain ⟨T108, h108, X108, e108, W108, st108⟩ := stC X107 hx hZ e107 Ar108 (j := (3 : Int32)) (inb_of S108 ⟨by decide, by decide⟩) (g := (mkF m 94 #[.val (.int n), .val (.int c0), .val (.int c1), .val (.int c2), .val (.int c3)] [(.int c3), (.int (3 : Int32)), (.ref b), (.ref b), (.ref x), (.ref x)])) rfl rfl (hb hby own_d_method_2_94)
        have N108 := Fr.snoc X108 N107 ge_b
        have E_x := E_x.wr W108
        have F_v := F_v.other W108 (Or.inl ne_x_b)
        have F_k := F_k.other W108 (Or.inl ne_x_b)
        have Od := Od.wr W108 ge_b
        have Kp := Kp.wr W108 (Or.inr gz_b)
        refine own_st st108 ?_
        show own_Go p e below s _ _ _ (T108.setTop (mkF m 95 #[.val (.int n), .val (.int c0), .val (.int c1), .val (.int c2), .val (.int c3)] [(.ref b), (.ref x), (.ref x)]))
        have V_b : Arv Z h108 b k104 .char (4 : Int32) [(.int (nar .char c0)), (.int (nar .char c1)), (.int (nar .char c2)), (.int (nar .char c3))] (.int (0 : Int32)) := Arv.set Ar108 q108 S108 M108 H108 G108 (fits_nar_char _) W108 3 rfl (Nat.le_of_ble_eq_true rfl)
        have hr : ∀ c ∈ ([nar .char c0, nar .char c1, nar .char c2, nar .char c3] : List Int32), ¬ c < 0 ∧ ¬ (65535 : Int32) < c := by
          intro c hc
          simp only [List.mem_cons, List.not_mem_nil, or_false] at hc
          rcases hc with rfl | rfl | rfl | rfl <;> exact own_charR _
        by_cases hm : own_first [nar .char c0, nar .char c1, nar .char c2, nar .char c3] 0 = (4 : Int32)
        · skip
          have hp : ∀ c ∈ ([nar .char c0, nar .char c1, nar .char c2, nar .char c3] : List Int32), ¬ c < 0 ∧ ¬ (255 : Int32) < c := fun c hc => ⟨(hr c hc).1, own_all4 hm c hc⟩
          obtain ⟨_, T109, h109, L109, X109, e109, ⟨rfl, Nb, Kb, Eb, Fk, tt, kb, gt, gt2, ntb, Fv, Vb⟩, st109⟩ := own_backI X108 hx hZ hown rfl (hw _ (List.mem_of_getElem? (i := 8) rfl)) (hw _ (List.mem_of_getElem? (i := 9) rfl)) (hw _ (List.mem_of_getElem? (i := 10) rfl)) (by decide) (StrChars.Road.backV (W := 1) hZ hws (kI := 4) (hw _ (List.mem_of_getElem? (i := 5) rfl)) (cs := [nar .char c0, nar .char c1, nar .char c2, nar .char c3]) (bs := ([nar .char c0, nar .char c1, nar .char c2, nar .char c3] : List Int32).map (fun c => c.toInt8.toInt32)) (n := 4) ge_x (own_z0 Od) E_x F_v F_k V_b (O2.ext Od.2) P5 rfl rfl (by decide) (by decide) hp rfl (by decide) (by decide)) e108 (a := x) (W := 1) (g := (mkF m 95 #[.val (.int n), .val (.int c0), .val (.int c1), .val (.int c2), .val (.int c3)] [(.ref b), (.ref x), (.ref x)])) rfl (by rw [hml]; rfl) (argsL := [(.ref b)]) (rest := [(.ref x)]) rfl (lenOf own_pd8 rfl) rfl (by show 2 * 0 + _ ≤ _; exact Nat.le_of_eq rfl) (hb hby own_d_method_2_95) (by decide) (by decide)
          have N109 := Fr.app N108 Nb
          have E_x := E_x.keep Kb
          have V_b := V_b.keep Kb (ninS (Ne.symm ne_x_b) nin0)
          have Od := Od.keep Kb (allS ge_x all0)
          have Kp := Kp.trans Kb (allS (Or.inr gz_x) all0)
          refine own_st st109 ?_
          show own_Go p e below s _ _ _ (T109.setTop (mkF m 98 #[.val (.int n), .val (.int c0), .val (.int c1), .val (.int c2), .val (.int c3)] [(.ref x)]))
          exact own_retR X109 hx hlk Bd.returns rfl rfl (hb hby own_d_method_2_98) (by decide) (by decide) (by rw [e109]; exact ⟨N109, Kp, x, rfl, gz_x, Eb, [nar .char c0, nar .char c1, nar .char c2, nar .char c3], 0, _, _, tt, kb, Fv, Fk, Vb, StrChars.Road.codOf (n := 4) rfl (fun c hc => (hp c hc).2), hr, (by rw [own_len, if_neg h0n, if_neg h1n, if_neg h2n]; rfl)⟩)
        · skip
          obtain ⟨_, T110, h110, L110, X110, e110, ⟨rfl, Nc, Kc, E_y, F_c, t, kt, get, F_u, V_t⟩, st110⟩ := own_callI X108 hx hZ hown rfl (hw _ (List.mem_of_getElem? (i := 8) rfl)) (hw _ (List.mem_of_getElem? (i := 9) rfl)) (hw _ (List.mem_of_getElem? (i := 6) rfl)) (hw _ (List.mem_of_getElem? (i := 10) rfl)) (by decide) (own_rm_si1_4 l Z a0 hw [] x b _ .null (.int (0 : Int32)) G (nar .char c0) (nar .char c1) (nar .char c2) (nar .char c3) h108 n0 Od E_x F_v F_k V_b ge_x (Ne.symm ne_x_b) (own_charR _) (own_charR _) (own_charR _) (own_charR _) hm OA OH OL O2 P5) (by decide) (by decide) e108 (a := x) (W := 1) (g := (mkF m 95 #[.val (.int n), .val (.int c0), .val (.int c1), .val (.int c2), .val (.int c3)] [(.ref b), (.ref x), (.ref x)])) rfl (by rw [hml]; rfl) (argsL := [(.ref b)]) (rest := [(.ref x)]) rfl (lenOf own_pd8 rfl) rfl (by show 2 * 0 + _ ≤ _; exact Nat.le_of_eq rfl) (hb hby own_d_method_2_95) (by decide) (by decide)
          have N110 := Fr.app N108 Nc
          have E_x := E_x.keep Kc
          have V_b := V_b.keep Kc (ninS (Ne.symm ne_x_b) nin0)
          have Od := Od.keep Kc (allS ge_x all0)
          have Kp := Kp.trans Kc (allS (Or.inr gz_x) all0)
          refine own_st st110 ?_
          show own_Go p e below s _ _ _ (T110.setTop (mkF m 98 #[.val (.int n), .val (.int c0), .val (.int c1), .val (.int c2), .val (.int c3)] [(.ref x)]))
          exact own_retR X110 hx hlk Bd.returns rfl rfl (hb hby own_d_method_2_98) (by decide) (by decide) (by rw [e110]; exact ⟨N110, Kp, x, rfl, gz_x, E_y, [nar .char c0, nar .char c1, nar .char c2, nar .char c3], 1, _, _, t, kt, F_u, F_c, V_t, Or.inr ⟨rfl, rfl, rfl, own_ex4 hm⟩, hr, (by rw [own_len, if_neg h0n, if_neg h1n, if_neg h2n]; rfl)⟩)
theorem own_pn3 : plainName "com/example/items_by_tag/itemsbytag/Item" = true := by first | (simp [plainName, overriddenIn]; done) | decide +kernel
theorem own_d_prog_5_method_2_0 : decode prog_5_method_2_code 0 = .ok (.aload_n 0, 1) := by decide +kernel
theorem own_pd9 : parseMethodDescriptor "()Z" = some ⟨[], some .boolean⟩ := by decide +kernel
theorem own_d_prog_5_method_2_1 : decode prog_5_method_2_code 1 = .ok (.invokevirtual 7, 3) := by decide +kernel
theorem own_d_prog_5_method_2_4 : decode prog_5_method_2_code 4 = .ok (.ifCond .eq 16, 3) := by decide +kernel
theorem own_d_prog_5_method_2_20 : decode prog_5_method_2_code 20 = .ok (.return_, 1) := by decide +kernel
theorem own_ef_chk (m : MethodId) (x0 : Addr) : entryFrame m #[(.ref x0)] 1 = mkF m 0 #[.val (.ref x0)] [] := by first | (simp [entryFrame, mkF, argsToLocals, Value.category]; done) | rfl
def own_Q_chk (Z : State)  (h0 : Heap) (n0 : Nat) (v : Option Value) (h : Heap) (L : List Loc) : Prop := v = none ∧ Fr n0 L ∧ h = h0
set_option maxRecDepth 65536 in
set_option maxHeartbeats 40000000 in
theorem own_rm_chk (l : Launch) (Z : State) (a0 : Array Value) (hw : ∀ d ∈ tables_1, d.before a0 Z = true) (ws : List Jvm.Cond) (x : Addr) (k : Nat) (h0 : Heap) (n0 : Nat) (Od : Old Z n0 h0) (B : own_Str Z h0 x k) (hk0 : 0 < k) (hk1 : k ≤ 4) :
    MetFree l (⟨"com/example/items_by_tag/itemsbytag/Item", "checkId", "(Ljava/lang/String;)V"⟩ : MethodName) (head1 (Jvm.Cond.code (⟨"com/example/items_by_tag/itemsbytag/Item", "checkId", "(Ljava/lang/String;)V"⟩ : MethodName) prog_5_method_2_code 1 none :: ws) ({ frames := 1, cells := 0, slots := 0, locals := 12 } : Room)) (fun a9 U => a9 = #[(.ref x)] ∧ Z.Warmed39 U.vm ∧ U.heap = h0) (fun _ _ _ _ _ => True) (fun _ U o U' => ∃ v L, o = .returned v ∧ own_Q_chk Z  h0 n0 v U'.heap L ∧ FrameEnd U o U' L ({ frames := 1, cells := 0, slots := 0, locals := 12 } : Room).cells ({ frames := 1, cells := 0, slots := 0, locals := 12 } : Room).slots) := by
  refine MetFree.of_bodySF (plainFor_of_name own_pn3) hisR ?_
  intro p e s m args below meth c s₁ Bd hml0 hP hK
  obtain ⟨rfl, hZ, hh⟩ := hP
  have hx := Bd.exec
  have hby := Bd.bytes
  have hml : c.maxLocals = 1 := hml0
  have hown : s.vm.findClass "com/example/items_by_tag/itemsbytag/Item" = some m.cls := findClass_of_methodNamed Bd.named
  have hnm := (name_of_methodNamed Bd.named Bd.method).1
  have hlk : meth.locks = false := Bd.notSynchronized
  have X0 : Stand p l e ({ frames := 1, cells := 0, slots := 0, locals := 12 } : Room) s m #[(.ref x)] below meth c s₁ [] 0 0 := Stand.of_body Bd
  have e0 : s₁.heap = h0 := by rw [← hh, Bd.state]; rfl
  have N0 := Fr.nil n0
  show own_Go p e below s (own_Q_chk Z  h0 n0) ({ frames := 1, cells := 0, slots := 0, locals := 12 } : Room).cells ({ frames := 1, cells := 0, slots := 0, locals := 12 } : Room).slots (s₁.setTop (entryFrame m #[(.ref x)] 1))
  refine own_st (fun t9 k9 => castTop (own_ef_chk m x) k9) ?_
  show own_Go p e below s _ _ _ (s₁.setTop (mkF m 0 #[.val (.ref x)] []))
  obtain ⟨E_x, cs, cd, N, vs, t, kb, F_v, F_k, V_t, hc, hr, hl⟩ := B
  have hem : ∀ d ∈ StrChars.Road.wordsEmp, d.before a0 Z = true := fun d hd => hw d ((by decide +kernel : ∀ d ∈ StrChars.Road.wordsEmp, d ∈ tables_1) d hd)
  refine own_st (fun t9 k9 => XS.aloadN X0.here hx rfl (hb hby own_d_prog_5_method_2_0) rfl rfl k9) ?_
  show own_Go p e below s _ _ _ (s₁.setTop (mkF m 1 #[.val (.ref x)] [(.ref x)]))
  obtain ⟨_, T111, h111, L111, X111, e111, ⟨rfl, rfl, hu⟩, st111⟩ := own_backV X0 hx hZ hown (hw _ (List.mem_of_getElem? (i := 38) rfl)) (hw _ (List.mem_of_getElem? (i := 39) rfl)) (notFace_of_selects (args := #[]) (mvT hZ (hw _ (List.mem_of_getElem? (i := 41) rfl)))) (hw _ (List.mem_of_getElem? (i := 41) rfl)) (hw _ (List.mem_of_getElem? (i := 40) rfl)) (by decide) (StrChars.Road.empW (W := 0) hZ hem (kI := 4) (hw _ (List.mem_of_getElem? (i := 5) rfl)) E_x F_v F_k V_t hc hr (by omega) (by decide) (by decide)) e0 (b := x) E_x (Qy := (fun v h' L => v = some (.int (if cs.length = 0 then 1 else 0)) ∧ L = [] ∧ h' = h0)) (W := 0) (g := (mkF m 1 #[.val (.ref x)] [(.ref x)])) rfl (by rw [hml]; rfl) (argsL := []) (rest := []) rfl (lenOf own_pd9 rfl) rfl (by show 2 * 0 + _ ≤ _; exact Nat.le_of_eq rfl) (hb hby own_d_prog_5_method_2_1) (by decide) (by decide)
  have N111 := Fr.app N0 (Fr.nil n0)
  refine own_st st111 ?_
  show own_Go p e below s _ _ _ (T111.setTop (mkF m 4 #[.val (.ref x)] [(.int (if cs.length = 0 then 1 else 0))]))
  rw [if_neg (show ¬ cs.length = 0 by omega)]
  show own_Go p e below s _ _ _ (T111.setTop (mkF m 4 #[.val (.ref x)] [(.int (0 : Int32))]))
  refine own_st (fun t9 k9 => XS.ifYes X111.here hx rfl (pc0 := 4) (pc' := 20) rfl (hb hby own_d_prog_5_method_2_4) rfl (by decide) (by decide) (by decide) k9) ?_
  show own_Go p e below s _ _ _ (T111.setTop (mkF m 20 #[.val (.ref x)] []))
  exact own_retV X111 hx hlk Bd.returns (hb hby own_d_prog_5_method_2_20) (by decide) (by decide) (by rw [(e111.trans hu)]; exact ⟨rfl, N111, rfl⟩)
theorem own_len_r (n : Int32) : 0 < own_len n ∧ own_len n ≤ 4 := by
  unfold own_len
  split
  · decide
  · split
    · decide
    · split <;> decide
theorem own_and3 (x : Int32) : x &&& 3 = 0 ∨ x &&& 3 = 1 ∨ x &&& 3 = 2 ∨ x &&& 3 = 3 := by
  have t : ∀ k : Fin 4, Int32.ofNat k.val = 0 ∨ Int32.ofNat k.val = 1 ∨ Int32.ofNat k.val = 2 ∨ Int32.ofNat k.val = 3 := by decide +kernel
  have h : (x &&& 3).toBitVec.toNat < 4 := by
    simp only [Int32.toBitVec_and, BitVec.toNat_and]
    exact Nat.lt_succ_of_le Nat.and_le_right
  have e : (x &&& 3) = Int32.ofNat (x &&& 3).toBitVec.toNat := by
    apply Int32.toBitVec_inj.mp
    show _ = BitVec.ofNat 32 _
    rw [BitVec.ofNat_toNat]; simp
  rw [e]
  exact t ⟨_, h⟩
theorem own_len_3 (x : Int32) : Int32.ofNat (own_len (x &&& 3)) = (x &&& 3) + 1 := by
  rcases own_and3 x with h | h | h | h <;> rw [h] <;> decide
theorem own_pd10 : parseMethodDescriptor "(ICCCC)Ljava/lang/String;" = some ⟨[.int, .char, .char, .char, .char], some (.object "java/lang/String")⟩ := by decide +kernel
theorem own_pd11 : parseMethodDescriptor "(Ljava/lang/String;)V" = some ⟨[(.object "java/lang/String")], none⟩ := by decide +kernel
theorem own_pd12 : parseMethodDescriptor "()I" = some ⟨[], some .int⟩ := by decide +kernel
theorem own_ef_law (m : MethodId) (x0 : Int32) (x1 : Int32) (x2 : Int32) (x3 : Int32) (x4 : Int32) : entryFrame m #[(.int x0), (.int x1), (.int x2), (.int x3), (.int x4)] maxLocals = mkF m 0 #[.val (.int x0), .val (.int x1), .val (.int x2), .val (.int x3), .val (.int x4), .unset, .unset] [] := by first | (simp [entryFrame, mkF, argsToLocals, Value.category, maxLocals]; done) | rfl
def own_Q_law (Z : State)  (h0 : Heap) (n0 : Nat) (v : Option Value) (h : Heap) (L : List Loc) : Prop := v = some (.int 1) ∧ Fr n0 L
set_option maxRecDepth 65536 in
set_option maxHeartbeats 40000000 in
theorem own_rm_law (l : Launch) (Z : State) (a0 : Array Value) (hw : ∀ d ∈ tables_1, d.before a0 Z = true) (ws : List Jvm.Cond) (p0 p1 p2 p3 p4 G : Int32) (h0 : Heap) (n0 : Nat) (Od : Old Z n0 h0) (OA : Sta Z Z.heap "java/lang/StringUTF16" "$assertionsDisabled" "Z" (.int (1 : Int32))) (OH : Sta Z Z.heap "java/lang/StringUTF16" "HI_BYTE_SHIFT" "I" (.int (0 : Int32))) (OL : Sta Z Z.heap "java/lang/StringUTF16" "LO_BYTE_SHIFT" "I" (.int (8 : Int32))) (O2 : Sta Z Z.heap "java/lang/String" "COMPACT_STRINGS" "Z" (.int G)) (P5 : ¬ (G = (0 : Int32))) :
    MetFree l x (head1 (Jvm.Cond.code x code maxLocals ret :: ws) room_1) (fun a9 U => a9 = #[(.int p0), (.int p1), (.int p2), (.int p3), (.int p4)] ∧ Z.Warmed39 U.vm ∧ U.heap = h0) (fun _ _ _ _ _ => True) (fun _ U o U' => ∃ v L, o = .returned v ∧ own_Q_law Z  h0 n0 v U'.heap L ∧ FrameEnd U o U' L 16 128) := by
  refine MetFree.of_bodySF (plainFor_of_name own_pn2) hisR ?_
  intro p e s m args below meth c s₁ Bd hml0 hP hK
  obtain ⟨rfl, hZ, hh⟩ := hP
  have hx := Bd.exec
  have hby := Bd.bytes
  have hml : c.maxLocals = 7 := hml0
  have hown : s.vm.findClass "com/example/items_by_tag/itemsbytag/ItemCheckIdPinLaw" = some m.cls := findClass_of_methodNamed Bd.named
  have hnm := (name_of_methodNamed Bd.named Bd.method).1
  have hlk : meth.locks = false := Bd.notSynchronized
  have X0 : Stand p l e room_1 s m #[(.int p0), (.int p1), (.int p2), (.int p3), (.int p4)] below meth c s₁ [] 0 0 := Stand.of_body Bd
  have e0 : s₁.heap = h0 := by rw [← hh, Bd.state]; rfl
  have N0 := Fr.nil n0
  show own_Go p e below s (own_Q_law Z  h0 n0) 16 128 (s₁.setTop (entryFrame m #[(.int p0), (.int p1), (.int p2), (.int p3), (.int p4)] maxLocals))
  refine own_st (fun t9 k9 => castTop (own_ef_law m p0 p1 p2 p3 p4) k9) ?_
  show own_Go p e below s _ _ _ (s₁.setTop (mkF m 0 #[.val (.int p0), .val (.int p1), .val (.int p2), .val (.int p3), .val (.int p4), .unset, .unset] []))
  have hln : ∀ d ∈ StrChars.Road.wordsLen, d.before a0 Z = true := fun d hd => hw d ((by decide +kernel : ∀ d ∈ StrChars.Road.wordsLen, d ∈ tables_1) d hd)
  refine own_st (fun t9 k9 => XS.iloadN X0.here hx rfl (hb hby at_0) rfl  k9) ?_
  show own_Go p e below s _ _ _ (s₁.setTop (mkF m 1 #[.val (.int p0), .val (.int p1), .val (.int p2), .val (.int p3), .val (.int p4), .unset, .unset] [(.int p0)]))
  refine own_st (fun t9 k9 => XS.iconst X0.here hx rfl (hb hby at_1) k9) ?_
  show own_Go p e below s _ _ _ (s₁.setTop (mkF m 2 #[.val (.int p0), .val (.int p1), .val (.int p2), .val (.int p3), .val (.int p4), .unset, .unset] [(.int (3 : Int32)), (.int p0)]))
  refine own_st (fun t9 k9 => XS.iand X0.here hx rfl (hb hby at_2) rfl k9) ?_
  show own_Go p e below s _ _ _ (s₁.setTop (mkF m 3 #[.val (.int p0), .val (.int p1), .val (.int p2), .val (.int p3), .val (.int p4), .unset, .unset] [(.int (p0 &&& (3 : Int32)))]))
  refine own_st (fun t9 k9 => XS.istore X0.here hx rfl (hb hby at_3) rfl (l' := #[.val (.int p0), .val (.int p1), .val (.int p2), .val (.int p3), .val (.int p4), .val (.int (p0 &&& (3 : Int32))), .unset]) rfl k9) ?_
  show own_Go p e below s _ _ _ (s₁.setTop (mkF m 5 #[.val (.int p0), .val (.int p1), .val (.int p2), .val (.int p3), .val (.int p4), .val (.int (p0 &&& (3 : Int32))), .unset] []))
  refine own_st (fun t9 k9 => XS.iload X0.here hx rfl (hb hby at_5) rfl  k9) ?_
  show own_Go p e below s _ _ _ (s₁.setTop (mkF m 7 #[.val (.int p0), .val (.int p1), .val (.int p2), .val (.int p3), .val (.int p4), .val (.int (p0 &&& (3 : Int32))), .unset] [(.int (p0 &&& (3 : Int32)))]))
  refine own_st (fun t9 k9 => XS.iloadN X0.here hx rfl (hb hby at_7) rfl  k9) ?_
  show own_Go p e below s _ _ _ (s₁.setTop (mkF m 8 #[.val (.int p0), .val (.int p1), .val (.int p2), .val (.int p3), .val (.int p4), .val (.int (p0 &&& (3 : Int32))), .unset] [(.int p1), (.int (p0 &&& (3 : Int32)))]))
  refine own_st (fun t9 k9 => XT.i2c X0.here hx rfl (hb hby at_8) rfl k9) ?_
  show own_Go p e below s _ _ _ (s₁.setTop (mkF m 9 #[.val (.int p0), .val (.int p1), .val (.int p2), .val (.int p3), .val (.int p4), .val (.int (p0 &&& (3 : Int32))), .unset] [(.int (p1.toUInt32.toUInt16.toUInt32.toInt32)), (.int (p0 &&& (3 : Int32)))]))
  refine own_st (fun t9 k9 => XS.iloadN X0.here hx rfl (hb hby at_9) rfl  k9) ?_
  show own_Go p e below s _ _ _ (s₁.setTop (mkF m 10 #[.val (.int p0), .val (.int p1), .val (.int p2), .val (.int p3), .val (.int p4), .val (.int (p0 &&& (3 : Int32))), .unset] [(.int p2), (.int (p1.toUInt32.toUInt16.toUInt32.toInt32)), (.int (p0 &&& (3 : Int32)))]))
  refine own_st (fun t9 k9 => XT.i2c X0.here hx rfl (hb hby at_10) rfl k9) ?_
  show own_Go p e below s _ _ _ (s₁.setTop (mkF m 11 #[.val (.int p0), .val (.int p1), .val (.int p2), .val (.int p3), .val (.int p4), .val (.int (p0 &&& (3 : Int32))), .unset] [(.int (p2.toUInt32.toUInt16.toUInt32.toInt32)), (.int (p1.toUInt32.toUInt16.toUInt32.toInt32)), (.int (p0 &&& (3 : Int32)))]))
  refine own_st (fun t9 k9 => XS.iloadN X0.here hx rfl (hb hby at_11) rfl  k9) ?_
  show own_Go p e below s _ _ _ (s₁.setTop (mkF m 12 #[.val (.int p0), .val (.int p1), .val (.int p2), .val (.int p3), .val (.int p4), .val (.int (p0 &&& (3 : Int32))), .unset] [(.int p3), (.int (p2.toUInt32.toUInt16.toUInt32.toInt32)), (.int (p1.toUInt32.toUInt16.toUInt32.toInt32)), (.int (p0 &&& (3 : Int32)))]))
  refine own_st (fun t9 k9 => XT.i2c X0.here hx rfl (hb hby at_12) rfl k9) ?_
  show own_Go p e below s _ _ _ (s₁.setTop (mkF m 13 #[.val (.int p0), .val (.int p1), .val (.int p2), .val (.int p3), .val (.int p4), .val (.int (p0 &&& (3 : Int32))), .unset] [(.int (p3.toUInt32.toUInt16.toUInt32.toInt32)), (.int (p2.toUInt32.toUInt16.toUInt32.toInt32)), (.int (p1.toUInt32.toUInt16.toUInt32.toInt32)), (.int (p0 &&& (3 : Int32)))]))
  refine own_st (fun t9 k9 => XS.iload X0.here hx rfl (hb hby at_13) rfl  k9) ?_
  show own_Go p e below s _ _ _ (s₁.setTop (mkF m 15 #[.val (.int p0), .val (.int p1), .val (.int p2), .val (.int p3), .val (.int p4), .val (.int (p0 &&& (3 : Int32))), .unset] [(.int p4), (.int (p3.toUInt32.toUInt16.toUInt32.toInt32)), (.int (p2.toUInt32.toUInt16.toUInt32.toInt32)), (.int (p1.toUInt32.toUInt16.toUInt32.toInt32)), (.int (p0 &&& (3 : Int32)))]))
  refine own_st (fun t9 k9 => XT.i2c X0.here hx rfl (hb hby at_15) rfl k9) ?_
  show own_Go p e below s _ _ _ (s₁.setTop (mkF m 16 #[.val (.int p0), .val (.int p1), .val (.int p2), .val (.int p3), .val (.int p4), .val (.int (p0 &&& (3 : Int32))), .unset] [(.int (p4.toUInt32.toUInt16.toUInt32.toInt32)), (.int (p3.toUInt32.toUInt16.toUInt32.toInt32)), (.int (p2.toUInt32.toUInt16.toUInt32.toInt32)), (.int (p1.toUInt32.toUInt16.toUInt32.toInt32)), (.int (p0 &&& (3 : Int32)))]))
  obtain ⟨_, T112, h112, L112, X112, e112, ⟨Nc, Kc, x, rfl, gx, B⟩, st112⟩ := own_callS X0 hx hZ hown (hw _ (List.mem_of_getElem? (i := 0) rfl)) (hw _ (List.mem_of_getElem? (i := 1) rfl)) (hw _ (List.mem_of_getElem? (i := 2) rfl)) (hw _ (List.mem_of_getElem? (i := 3) rfl)) (by decide) (own_rm_make l Z a0 hw [] (p0 &&& (3 : Int32)) (p1.toUInt32.toUInt16.toUInt32.toInt32) (p2.toUInt32.toUInt16.toUInt32.toInt32) (p3.toUInt32.toUInt16.toUInt32.toInt32) (p4.toUInt32.toUInt16.toUInt32.toInt32) G h0 n0 Od OA OH OL O2 P5) (by decide) (by decide) e0 (W := 0) (g := (mkF m 16 #[.val (.int p0), .val (.int p1), .val (.int p2), .val (.int p3), .val (.int p4), .val (.int (p0 &&& (3 : Int32))), .unset] [(.int (p4.toUInt32.toUInt16.toUInt32.toInt32)), (.int (p3.toUInt32.toUInt16.toUInt32.toInt32)), (.int (p2.toUInt32.toUInt16.toUInt32.toInt32)), (.int (p1.toUInt32.toUInt16.toUInt32.toInt32)), (.int (p0 &&& (3 : Int32)))])) rfl (by rw [hml]; rfl) (argsL := [(.int (p0 &&& (3 : Int32))), (.int (p1.toUInt32.toUInt16.toUInt32.toInt32)), (.int (p2.toUInt32.toUInt16.toUInt32.toInt32)), (.int (p3.toUInt32.toUInt16.toUInt32.toInt32)), (.int (p4.toUInt32.toUInt16.toUInt32.toInt32))]) (rest := []) rfl (lenOf own_pd10 rfl) rfl (by show 2 * 0 + _ ≤ _; exact Nat.le_of_eq rfl) (hb hby at_16) (by decide) (by decide)
  have N112 := Fr.app N0 Nc
  have ge_x : n0 ≤ x := Nat.le_trans (own_z0 Od) gx
  have Od := Od.keep Kc all0
  refine own_st st112 ?_
  show own_Go p e below s _ _ _ (T112.setTop (mkF m 19 #[.val (.int p0), .val (.int p1), .val (.int p2), .val (.int p3), .val (.int p4), .val (.int (p0 &&& (3 : Int32))), .unset] [(.ref x)]))
  refine own_st (fun t9 k9 => XS.astore X112.here hx rfl (hb hby at_19) rfl rfl (l' := #[.val (.int p0), .val (.int p1), .val (.int p2), .val (.int p3), .val (.int p4), .val (.int (p0 &&& (3 : Int32))), .val (.ref x)]) rfl k9) ?_
  show own_Go p e below s _ _ _ (T112.setTop (mkF m 21 #[.val (.int p0), .val (.int p1), .val (.int p2), .val (.int p3), .val (.int p4), .val (.int (p0 &&& (3 : Int32))), .val (.ref x)] []))
  refine own_st (fun t9 k9 => XS.aload X112.here hx rfl (hb hby at_21) rfl rfl k9) ?_
  show own_Go p e below s _ _ _ (T112.setTop (mkF m 23 #[.val (.int p0), .val (.int p1), .val (.int p2), .val (.int p3), .val (.int p4), .val (.int (p0 &&& (3 : Int32))), .val (.ref x)] [(.ref x)]))
  have hk := own_len_r (p0 &&& (3 : Int32))
  obtain ⟨_, T113, h113, L113, X113, e113, ⟨rfl, Nd, hu⟩, st113⟩ := own_callS X112 hx hZ hown (hw _ (List.mem_of_getElem? (i := 34) rfl)) (hw _ (List.mem_of_getElem? (i := 35) rfl)) (hw _ (List.mem_of_getElem? (i := 36) rfl)) (hw _ (List.mem_of_getElem? (i := 37) rfl)) (by decide) (own_rm_chk l Z a0 hw [] x _ h112 n0 Od B hk.1 hk.2) (by decide) (by decide) e112 (W := 0) (g := (mkF m 23 #[.val (.int p0), .val (.int p1), .val (.int p2), .val (.int p3), .val (.int p4), .val (.int (p0 &&& (3 : Int32))), .val (.ref x)] [(.ref x)])) rfl (by rw [hml]; rfl) (argsL := [(.ref x)]) (rest := []) rfl (lenOf own_pd11 rfl) rfl (by show 2 * 0 + _ ≤ _; exact Nat.le_of_eq rfl) (hb hby at_23) (by decide) (by decide)
  have N113 := Fr.app N112 Nd
  refine own_st st113 ?_
  show own_Go p e below s _ _ _ (T113.setTop (mkF m 26 #[.val (.int p0), .val (.int p1), .val (.int p2), .val (.int p3), .val (.int p4), .val (.int (p0 &&& (3 : Int32))), .val (.ref x)] []))
  refine own_st (fun t9 k9 => XS.aload X113.here hx rfl (hb hby at_26) rfl rfl k9) ?_
  show own_Go p e below s _ _ _ (T113.setTop (mkF m 28 #[.val (.int p0), .val (.int p1), .val (.int p2), .val (.int p3), .val (.int p4), .val (.int (p0 &&& (3 : Int32))), .val (.ref x)] [(.ref x)]))
  obtain ⟨E_x, cs, cd, N, vs, t, kb, F_v, F_k, V_t, hc, hr, hl⟩ := B
  obtain ⟨_, T114, h114, L114, X114, e114, ⟨rfl, rfl, hu2⟩, st114⟩ := own_backV X113 hx hZ hown (hw _ (List.mem_of_getElem? (i := 43) rfl)) (hw _ (List.mem_of_getElem? (i := 44) rfl)) (notFace_of_selects (args := #[]) (mvT hZ (hw _ (List.mem_of_getElem? (i := 46) rfl)))) (hw _ (List.mem_of_getElem? (i := 46) rfl)) (hw _ (List.mem_of_getElem? (i := 45) rfl)) (by decide) (StrChars.Road.lenW (W := 0) hZ hln (kI := 4) (hw _ (List.mem_of_getElem? (i := 5) rfl)) E_x F_v F_k V_t hc hr (O2.ext Od.2) P5 (by omega) (by decide) (by decide)) (e113.trans hu) (b := x) E_x (Qy := (fun v h' L => v = some (.int (Int32.ofNat cs.length)) ∧ L = [] ∧ h' = h112)) (W := 0) (g := (mkF m 28 #[.val (.int p0), .val (.int p1), .val (.int p2), .val (.int p3), .val (.int p4), .val (.int (p0 &&& (3 : Int32))), .val (.ref x)] [(.ref x)])) rfl (by rw [hml]; rfl) (argsL := []) (rest := []) rfl (lenOf own_pd12 rfl) rfl (by show 2 * 0 + _ ≤ _; exact Nat.le_of_eq rfl) (hb hby at_28) (by decide) (by decide)
  have N114 := Fr.app N113 (Fr.nil n0)
  refine own_st st114 ?_
  show own_Go p e below s _ _ _ (T114.setTop (mkF m 31 #[.val (.int p0), .val (.int p1), .val (.int p2), .val (.int p3), .val (.int p4), .val (.int (p0 &&& (3 : Int32))), .val (.ref x)] [(.int (Int32.ofNat cs.length))]))
  refine own_st (fun t9 k9 => XS.iload X114.here hx rfl (hb hby at_31) rfl  k9) ?_
  show own_Go p e below s _ _ _ (T114.setTop (mkF m 33 #[.val (.int p0), .val (.int p1), .val (.int p2), .val (.int p3), .val (.int p4), .val (.int (p0 &&& (3 : Int32))), .val (.ref x)] [(.int (p0 &&& (3 : Int32))), (.int (Int32.ofNat cs.length))]))
  refine own_st (fun t9 k9 => XS.iconst X114.here hx rfl (hb hby at_33) k9) ?_
  show own_Go p e below s _ _ _ (T114.setTop (mkF m 34 #[.val (.int p0), .val (.int p1), .val (.int p2), .val (.int p3), .val (.int p4), .val (.int (p0 &&& (3 : Int32))), .val (.ref x)] [(.int (1 : Int32)), (.int (p0 &&& (3 : Int32))), (.int (Int32.ofNat cs.length))]))
  refine own_st (fun t9 k9 => XS.iadd X114.here hx rfl (hb hby at_34) rfl k9) ?_
  show own_Go p e below s _ _ _ (T114.setTop (mkF m 35 #[.val (.int p0), .val (.int p1), .val (.int p2), .val (.int p3), .val (.int p4), .val (.int (p0 &&& (3 : Int32))), .val (.ref x)] [(.int ((p0 &&& (3 : Int32)) + (1 : Int32))), (.int (Int32.ofNat cs.length))]))
  refine own_st (fun t9 k9 => XS.icmpNo X114.here hx rfl (hb hby at_35) rfl (teq ((by rw [hl]; exact own_len_3 p0) : (Int32.ofNat cs.length) = ((p0 &&& (3 : Int32)) + (1 : Int32)))).2 k9) ?_
  show own_Go p e below s _ _ _ (T114.setTop (mkF m 38 #[.val (.int p0), .val (.int p1), .val (.int p2), .val (.int p3), .val (.int p4), .val (.int (p0 &&& (3 : Int32))), .val (.ref x)] []))
  refine own_st (fun t9 k9 => XS.iconst X114.here hx rfl (hb hby at_38) k9) ?_
  show own_Go p e below s _ _ _ (T114.setTop (mkF m 39 #[.val (.int p0), .val (.int p1), .val (.int p2), .val (.int p3), .val (.int p4), .val (.int (p0 &&& (3 : Int32))), .val (.ref x)] [(.int (1 : Int32))]))
  refine own_st (fun t9 k9 => XS.goto X114.here hx rfl (pc0 := 39) (pc' := 43) rfl (hb hby at_39) (by decide) (by decide) k9) ?_
  show own_Go p e below s _ _ _ (T114.setTop (mkF m 43 #[.val (.int p0), .val (.int p1), .val (.int p2), .val (.int p3), .val (.int p4), .val (.int (p0 &&& (3 : Int32))), .val (.ref x)] [(.int (1 : Int32))]))
  exact own_retN X114 hx hlk (t := .boolean) Bd.returns (by simp) (hb hby at_43) (by decide) (by decide) (by rw [(e114.trans hu2)]; exact ⟨rfl, N114⟩)
set_option maxRecDepth 65536 in
set_option maxHeartbeats 40000000 in
theorem comes_1 {Post : Tables → Env → Array Value → State → Outcome → State → Prop} (hpost : ∀ tb e args s v u, (limb_1_1.after args s (.returned v) u = true ∧ limb_1_2.after args s (.returned v) u = true ∧ True) → FrameEnd s (.returned v) u (Jvm.fieldLocs frame_1_writes args s ++ Jvm.arrayLocs frame_1_arrays args s ++ Jvm.staticLocs frame_1_statics s) 16 128 → Post tb e args s (.returned v) u) :
    ArmFor flags0 classFile x code maxLocals ret World_1 tables_1 room_1 Calls_1 rest_1 Pre_1 Post := by
  intro l hfl _ _ p e ha hc hk s m args below hf hA hF happ hP
  obtain ⟨hcalls, hrest, hpre⟩ := hP
  obtain ⟨-, -, -, hnamed, -, -, -, hat⟩ := (Spec.applies_iff hf).mp happ
  obtain ⟨hg, hn⟩ := and_e (Cond.before_iff.mp (show (Jvm.Cond.and given_1 narrow_1).before args s = true from hpre))
  obtain ⟨g1, g2⟩ := and_e hg
  obtain ⟨g3, g4⟩ := and_e g2
  obtain ⟨g5, g6⟩ := and_e g4
  obtain ⟨g7, g8⟩ := and_e g6
  obtain ⟨g9, g10⟩ := and_e g8
  obtain ⟨w0, w1, w2, w3, w4, rfl⟩ : ∃ w0 w1 w2 w3 w4 : Value, args = #[w0, w1, w2, w3, w4] := by
    have hs : args.size = 5 := by simpa [Cond.value, given_1] using g1
    obtain ⟨L⟩ := args
    match L, hs with
    | [w0, w1, w2, w3, w4], _ => exact ⟨w0, w1, w2, w3, w4, rfl⟩
  have hw := fun d (hd : d ∈ tables_1) => atoms_spec (ws := Jvm.Cond.code x code maxLocals ret :: tables_1) hat d (List.mem_cons_of_mem _ hd)
  obtain ⟨hsets, hown0⟩ := atoms_of _ (rest_1_c_eq ▸ (show rest_1_c.before _ s = true from hrest))
  have s0 := hsets _ (List.mem_of_getElem? (i := 0) rfl)
  obtain ⟨G, eG⟩ := is_v (Cond.before_iff.mp (hsets _ (List.mem_of_getElem? (i := 1) rfl)))
  have hG := not_v (Cond.before_iff.mp (hsets _ (List.mem_of_getElem? (i := 2) rfl)))
  have O2 := Sta.start eG (Or.inl s0)
  have P5 : ¬ (G = (0 : Int32)) := fun q => by
    subst q
    rw [eq_i eG (Term.int_eval (0)) rfl] at hG
    cases hG
  have OA := own_sta (hsets _ (List.mem_of_getElem? (i := 12) rfl)) (hsets _ (List.mem_of_getElem? (i := 11) rfl))
  have OH := own_sta (hsets _ (List.mem_of_getElem? (i := 15) rfl)) (hsets _ (List.mem_of_getElem? (i := 14) rfl))
  have OL := own_sta (hsets _ (List.mem_of_getElem? (i := 18) rfl)) (hsets _ (List.mem_of_getElem? (i := 17) rfl))
  obtain ⟨i0, ei0⟩ := is_v g3
  obtain rfl : w0 = (.int i0) := Option.some.inj ei0
  obtain ⟨i1, ei1⟩ := is_v g5
  obtain rfl : w1 = (.int i1) := Option.some.inj ei1
  obtain ⟨i2, ei2⟩ := is_v g7
  obtain rfl : w2 = (.int i2) := Option.some.inj ei2
  obtain ⟨i3, ei3⟩ := is_v g9
  obtain rfl : w3 = (.int i3) := Option.some.inj ei3
  obtain ⟨i4, ei4⟩ := is_v g10
  obtain rfl : w4 = (.int i4) := Option.some.inj ei4
  obtain ⟨n, o, h1, h2, h3, _, L, rfl, ⟨rfl, N⟩, hq⟩ := own_rm_law l s _ hw tables_1 i0 i1 i2 i3 i4 G s.heap s.heap.size (Old.start s) OA OH OL O2 P5 p e ha hc hk s m _ below hf ((Spec.applies_iff_loose hf).mp happ).1 ⟨rfl, State.Warmed39.refl s, rfl⟩ trivial
  refine ⟨n, _, h1, h2, h3, hpost _ _ _ _ _ _ ⟨Cond.after_iff.mpr rfl, Cond.after_iff.mpr (eq_i res_at (Term.int_eval (1)) rfl), trivial⟩ ⟨hq.1, hq.2.1, (hq.2.2.sift fun y hy => Or.inr (N y hy)).mono (by decide) (by decide)⟩⟩
theorem main_1_1 : Claimed_1_1 := comes_1 fun _ _ _ _ _ _ h hF => ⟨h.1, hF⟩
theorem main_1_2 : Claimed_1_2 := comes_1 fun _ _ _ _ _ _ h hF => ⟨h.2.1, hF⟩
end Jvm.Pilot.@@N@@
namespace Jvm.Pilot.@@N@@
open Jvm Jvm.ClassFile Sem Op Lib Jvm.Free Jvm.Stand Jvm.Pilot.@@N@@.Jvm.D
/-! MADE BY PROGRAM (witnessworld.py) out of the Statement's table words and the real class files: 20 classes; the members and pool entries that the words name. The judged class is class 1, her method 2. -/
namespace start1
open Jvm.ClassFile
def u (s : String) : CpInfo := .utf8 (stringToUtf16 s)
/-- a pool by its gaps: so many unusable entries, then the entry; so many at the end -/
def gap : Nat → List CpInfo → List CpInfo
  | 0, r => r
  | n + 1, r => .unusable :: gap n r
def poolList (es : List (Nat × CpInfo)) (last : Nat) : List CpInfo := es.foldr (fun e r => gap e.1 (e.2 :: r)) (gap last [])
def pool (es : List (Nat × CpInfo)) (last : Nat) : Array CpInfo := ⟨poolList es last⟩
def fileOf (pool : Array CpInfo) (this : Nat) (attrs : Array Attribute := #[]) (ms : Array MethodInfo := #[]) (fl : Nat := 33) (sup : Nat := 0) (ifs : Array Nat := #[]) (fds : Array FieldInfo := #[]) : ClassFile where
  minorVersion := 0
  majorVersion := 65
  constantPool := pool
  accessFlags := fl
  thisClass := this
  superClass := sup
  interfaces := ifs
  fields := fds
  methods := ms
  attributes := attrs
def plain (name : String) (sup : Option ClassId) : Class where
  name := name
  kind := .ordinary
  loader := none
  accessFlags := 33
  super := sup
  interfaces := #[]
  cf := none
  fields := #[]
  methods := #[]
  instanceTypes := #[]
  staticTypes := #[]
  resolved := #[]
  callSites := []
  init := .initialized
  statics := none
  mirror := none

def pool0 : Array CpInfo := pool [(5, u "<init>"), (0, u "()V"), (1, .class_ 10), (1, u "java/lang/Object")] 113

def k0c0 : Code := { maxStack := 0, maxLocals := 1, code := object_method_1_code, exceptionTable := #[], attributes := #[] }
def k0m0 : Method := { name := "<init>", desc := "()V", sig := { parameters := [], returnType := none }, accessFlags := 1, code := some k0c0 }
/-- java/lang/Object -/
def k0 : Class := { plain "java/lang/Object" none with
  accessFlags := 33
  interfaces := #[]
  cf := some (fileOf pool0 8 #[] #[{ accessFlags := 1, nameIndex := 5, descriptorIndex := 6, attributes := #[] }] 33 0 #[] #[])
  fields := #[]
  methods := #[k0m0]
  instanceTypes := #[]
  staticTypes := #[]
  resolved := Array.replicate 124 none
  statics := none }

def pool1 : Array CpInfo := pool [(2, .class_ 4), (1, u "java/lang/Object"), (0, u "<init>"), (0, u "()V"), (0, .class_ 8), (0, u "java/lang/String"), (0, .methodref 7 10), (0, .nameAndType 5 11), (0, u "([C)V"), (0, .methodref 13 14), (0, .class_ 15), (0, .nameAndType 16 17), (0, u "com/example/items_by_tag/itemsbytag/ItemCheckIdPinLaw"), (0, u "make"), (0, u "(ICCCC)Ljava/lang/String;"), (0, .methodref 19 20), (0, .class_ 21), (0, .nameAndType 22 23), (0, u "com/example/items_by_tag/itemsbytag/Item"), (0, u "checkId"), (0, u "(Ljava/lang/String;)V"), (0, .methodref 7 25), (0, .nameAndType 26 27), (0, u "length"), (0, u "()I"), (3, u "law"), (0, u "(IIIII)Z")] 5

def k1m0 : Method := { name := "<init>", desc := "()V", sig := { parameters := [], returnType := none }, accessFlags := 2, code := none }
def k1c1 : Code := { maxStack := 6, maxLocals := 5, code := method_2_code, exceptionTable := #[], attributes := #[] }
def k1m1 : Method := { name := "make", desc := "(ICCCC)Ljava/lang/String;", sig := { parameters := [.int, .char, .char, .char, .char], returnType := some (.object "java/lang/String") }, accessFlags := 10, code := some k1c1 }
def k1c2 : Code := { maxStack := 5, maxLocals := 7, code := code, exceptionTable := #[], attributes := #[] }
def k1m2 : Method := { name := "law", desc := "(IIIII)Z", sig := { parameters := [.int, .int, .int, .int, .int], returnType := some .boolean }, accessFlags := 9, code := some k1c2 }
/-- com/example/items_by_tag/itemsbytag/ItemCheckIdPinLaw -/
def k1 : Class := { plain "com/example/items_by_tag/itemsbytag/ItemCheckIdPinLaw" (some 0) with
  accessFlags := 49
  interfaces := #[]
  cf := some (fileOf pool1 13 #[] #[{ accessFlags := 2, nameIndex := 5, descriptorIndex := 6, attributes := #[] }, { accessFlags := 10, nameIndex := 16, descriptorIndex := 17, attributes := #[] }, { accessFlags := 9, nameIndex := 31, descriptorIndex := 32, attributes := #[] }] 49 2 #[] #[])
  fields := #[]
  methods := #[k1m0, k1m1, k1m2]
  instanceTypes := #[]
  staticTypes := #[]
  resolved := Array.replicate 38 none
  statics := none }

def pool2 : Array CpInfo := pool [(1, .class_ 2), (0, u "java/io/Serializable"), (0, .class_ 4), (0, u "java/lang/Object")] 2

/-- java/io/Serializable -/
def k2 : Class := { plain "java/io/Serializable" (some 0) with
  accessFlags := 1537
  interfaces := #[]
  cf := some (fileOf pool2 1 #[] #[] 1537 3 #[] #[])
  fields := #[]
  methods := #[]
  instanceTypes := #[]
  staticTypes := #[]
  resolved := Array.replicate 7 none
  statics := none }

def pool3 : Array CpInfo := pool [(1, .class_ 2), (0, u "java/lang/Comparable"), (0, .class_ 4), (0, u "java/lang/Object")] 7

/-- java/lang/Comparable -/
def k3 : Class := { plain "java/lang/Comparable" (some 0) with
  accessFlags := 1537
  interfaces := #[]
  cf := some (fileOf pool3 1 #[] #[] 1537 3 #[] #[])
  fields := #[]
  methods := #[]
  instanceTypes := #[]
  staticTypes := #[]
  resolved := Array.replicate 12 none
  statics := none }

def pool4 : Array CpInfo := pool [(2, .class_ 4), (1, u "java/lang/CharSequence"), (42, .class_ 48), (0, u "java/lang/CharSequence$1CodePointIterator"), (10, .class_ 60), (0, u "java/lang/CharSequence$1CharIterator"), (5, .class_ 67), (0, u "java/lang/Object")] 63

/-- java/lang/CharSequence -/
def k4 : Class := { plain "java/lang/CharSequence" (some 0) with
  accessFlags := 1537
  interfaces := #[]
  cf := some (fileOf pool4 2 #[.nestMembers #[47, 59]] #[] 1537 66 #[] #[])
  fields := #[]
  methods := #[]
  instanceTypes := #[]
  staticTypes := #[]
  resolved := Array.replicate 131 none
  statics := none }

def pool5 : Array CpInfo := pool [(1, .class_ 2), (0, u "java/lang/constant/Constable"), (0, .class_ 4), (0, u "java/lang/Object")] 6

/-- java/lang/constant/Constable -/
def k5 : Class := { plain "java/lang/constant/Constable" (some 0) with
  accessFlags := 1537
  interfaces := #[]
  cf := some (fileOf pool5 1 #[] #[] 1537 3 #[] #[])
  fields := #[]
  methods := #[]
  instanceTypes := #[]
  staticTypes := #[]
  resolved := Array.replicate 11 none
  statics := none }

def pool6 : Array CpInfo := pool [(1, .class_ 2), (0, u "java/lang/constant/ConstantDesc"), (0, .class_ 4), (0, u "java/lang/Object")] 32

/-- java/lang/constant/ConstantDesc -/
def k6 : Class := { plain "java/lang/constant/ConstantDesc" (some 0) with
  accessFlags := 1537
  interfaces := #[]
  cf := some (fileOf pool6 1 #[] #[] 1537 3 #[] #[])
  fields := #[]
  methods := #[]
  instanceTypes := #[]
  staticTypes := #[]
  resolved := Array.replicate 37 none
  statics := none }

def pool7 : Array CpInfo := pool [(1, .methodref 2 3), (0, .class_ 4), (0, .nameAndType 5 6), (0, u "java/lang/Object"), (0, u "<init>"), (0, u "()V"), (2, .fieldref 10 11), (0, .class_ 12), (0, .nameAndType 13 14), (0, u "java/lang/String"), (0, u "value"), (0, u "[B"), (0, .fieldref 10 16), (0, .nameAndType 17 18), (0, u "coder"), (0, u "B"), (2, u "hash"), (0, u "I"), (2, u "hashIsZero"), (0, u "Z"), (0, .methodref 10 28), (0, .nameAndType 5 29), (0, u "([CIILjava/lang/Void;)V"), (8, .fieldref 10 39), (0, .nameAndType 40 26), (0, u "COMPACT_STRINGS"), (1, .class_ 44), (1, u "java/lang/StringUTF16"), (0, u "compress"), (1, .methodref 42 48), (0, .nameAndType 49 50), (0, u "coderFromArrayLen"), (0, u "([BI)B"), (91, u "()Z"), (34, .methodref 42 178), (0, .nameAndType 45 179), (0, u "([CII)[B"), (154, u "()I"), (0, .methodref 10 336), (0, .nameAndType 17 337), (0, u "()B"), (169, u "length"), (67, .class_ 576), (0, u "java/lang/CharSequence"), (22, u "CASE_INSENSITIVE_ORDER"), (0, u "Ljava/util/Comparator;"), (91, u "isEmpty"), (317, u "([C)V"), (90, u "serialPersistentFields"), (0, u "[Ljava/io/ObjectStreamField;"), (0, .class_ 1104), (0, u "java/lang/String$CaseInsensitiveComparator"), (1, .class_ 1107), (0, u "java/io/Serializable"), (0, .class_ 1109), (0, u "java/lang/Comparable"), (0, .class_ 1111), (0, u "java/lang/constant/Constable"), (0, .class_ 1113), (0, u "java/lang/constant/ConstantDesc"), (2, u "serialVersionUID"), (0, u "J"), (3, u "REPL"), (0, u "C"), (2, u "LATIN1"), (1, u "UTF16")] 323

def k7m0 : Method := { name := "<init>", desc := "()V", sig := { parameters := [], returnType := none }, accessFlags := 1, code := none }
def k7c1 : Code := { maxStack := 5, maxLocals := 2, code := jdk_42_method_3_code, exceptionTable := #[], attributes := #[] }
def k7m1 : Method := { name := "<init>", desc := "([C)V", sig := { parameters := [(.array .char)], returnType := none }, accessFlags := 1, code := some k7c1 }
def k7c2 : Code := { maxStack := 2, maxLocals := 1, code := jdk_42_method_54_code, exceptionTable := #[], attributes := #[] }
def k7m2 : Method := { name := "length", desc := "()I", sig := { parameters := [], returnType := some .int }, accessFlags := 1, code := some k7c2 }
def k7c3 : Code := { maxStack := 1, maxLocals := 1, code := jdk_42_method_55_code, exceptionTable := #[], attributes := #[] }
def k7m3 : Method := { name := "isEmpty", desc := "()Z", sig := { parameters := [], returnType := some .boolean }, accessFlags := 1, code := some k7c3 }
def k7c4 : Code := { maxStack := 4, maxLocals := 6, code := jdk_42_method_149_code, exceptionTable := #[], attributes := #[] }
def k7m4 : Method := { name := "<init>", desc := "([CIILjava/lang/Void;)V", sig := { parameters := [(.array .char), .int, .int, (.object "java/lang/Void")], returnType := none }, accessFlags := 2, code := some k7c4 }
def k7c5 : Code := { maxStack := 1, maxLocals := 1, code := jdk_42_method_152_code, exceptionTable := #[], attributes := #[] }
def k7m5 : Method := { name := "coder", desc := "()B", sig := { parameters := [], returnType := some .byte }, accessFlags := 0, code := some k7c5 }
/-- java/lang/String -/
def k7 : Class := { plain "java/lang/String" (some 0) with
  accessFlags := 49
  interfaces := #[2, 3, 4, 5, 6]
  cf := some (fileOf pool7 10 #[.nestMembers #[1103]] #[{ accessFlags := 1, nameIndex := 5, descriptorIndex := 6, attributes := #[] }, { accessFlags := 1, nameIndex := 5, descriptorIndex := 1010, attributes := #[] }, { accessFlags := 1, nameIndex := 507, descriptorIndex := 334, attributes := #[] }, { accessFlags := 1, nameIndex := 692, descriptorIndex := 142, attributes := #[] }, { accessFlags := 2, nameIndex := 5, descriptorIndex := 29, attributes := #[] }, { accessFlags := 0, nameIndex := 17, descriptorIndex := 337, attributes := #[] }] 49 2 #[1106, 1108, 575, 1110, 1112] #[{ accessFlags := 18, nameIndex := 13, descriptorIndex := 14, attributes := #[] }, { accessFlags := 18, nameIndex := 17, descriptorIndex := 18, attributes := #[] }, { accessFlags := 2, nameIndex := 21, descriptorIndex := 22, attributes := #[] }, { accessFlags := 2, nameIndex := 25, descriptorIndex := 26, attributes := #[] }, { accessFlags := 26, nameIndex := 1116, descriptorIndex := 1117, attributes := #[] }, { accessFlags := 24, nameIndex := 40, descriptorIndex := 26, attributes := #[] }, { accessFlags := 26, nameIndex := 1101, descriptorIndex := 1102, attributes := #[] }, { accessFlags := 26, nameIndex := 1121, descriptorIndex := 1122, attributes := #[] }, { accessFlags := 25, nameIndex := 599, descriptorIndex := 600, attributes := #[] }, { accessFlags := 24, nameIndex := 1125, descriptorIndex := 18, attributes := #[] }, { accessFlags := 24, nameIndex := 1127, descriptorIndex := 18, attributes := #[] }])
  fields := #[{ name := "value", type := (.array .byte), accessFlags := 18, slot := 0, constantValue := 0 }, { name := "coder", type := .byte, accessFlags := 18, slot := 1, constantValue := 0 }, { name := "hash", type := .int, accessFlags := 2, slot := 2, constantValue := 0 }, { name := "hashIsZero", type := .boolean, accessFlags := 2, slot := 3, constantValue := 0 }, { name := "serialVersionUID", type := .long, accessFlags := 26, slot := 0, constantValue := 0 }, { name := "COMPACT_STRINGS", type := .boolean, accessFlags := 24, slot := 1, constantValue := 0 }, { name := "serialPersistentFields", type := (.array (.object "java/io/ObjectStreamField")), accessFlags := 26, slot := 2, constantValue := 0 }, { name := "REPL", type := .char, accessFlags := 26, slot := 3, constantValue := 0 }, { name := "CASE_INSENSITIVE_ORDER", type := (.object "java/util/Comparator"), accessFlags := 25, slot := 4, constantValue := 0 }, { name := "LATIN1", type := .byte, accessFlags := 24, slot := 5, constantValue := 0 }, { name := "UTF16", type := .byte, accessFlags := 24, slot := 6, constantValue := 0 }]
  methods := #[k7m0, k7m1, k7m2, k7m3, k7m4, k7m5]
  instanceTypes := #[(.array .byte), .byte, .int, .boolean]
  staticTypes := #[.long, .boolean, (.array (.object "java/io/ObjectStreamField")), .char, (.object "java/util/Comparator"), .byte, .byte]
  resolved := Array.replicate 1451 none
  statics := some 0 }

def pool8 : Array CpInfo := pool [(6, .class_ 8), (1, u "java/lang/Object"), (0, u "<init>"), (0, u "()V"), (0, .methodref 12 13), (0, .class_ 14), (0, .nameAndType 15 16), (0, u "java/lang/StringUTF16"), (0, u "newBytesLength"), (0, u "(I)I"), (3, .integer 1073741823), (23, .fieldref 12 45), (0, .nameAndType 46 47), (0, u "$assertionsDisabled"), (0, u "Z"), (11, .fieldref 12 60), (0, .nameAndType 61 62), (0, u "HI_BYTE_SHIFT"), (0, u "I"), (0, .fieldref 12 64), (0, .nameAndType 65 62), (0, u "LO_BYTE_SHIFT"), (5, .methodref 12 72), (0, .nameAndType 73 74), (0, u "getChar"), (0, u "([BI)C"), (32, .methodref 12 108), (0, .nameAndType 109 110), (0, u "newBytesFor"), (0, u "(I)[B"), (0, .methodref 12 112), (0, .nameAndType 113 114), (0, u "putChar"), (0, u "([BII)V"), (0, .methodref 12 116), (0, .nameAndType 117 118), (0, u "compress"), (0, u "([CI[BII)I"), (0, .methodref 12 120), (0, .nameAndType 121 122), (0, u "toBytes"), (0, u "([CII)[B"), (138, u "coderFromArrayLen"), (0, u "([BI)B"), (106, .class_ 371), (1, u "java/lang/StringUTF16$LinesSpliterator"), (58, u "MAX_LENGTH"), (196, .class_ 628), (0, u "java/lang/StringUTF16$CodePointsSpliterator"), (0, .class_ 630), (0, u "java/lang/StringUTF16$CharsSpliterator")] 4

def k8m0 : Method := { name := "<init>", desc := "()V", sig := { parameters := [], returnType := none }, accessFlags := 0, code := none }
def k8c1 : Code := { maxStack := 1, maxLocals := 1, code := jdk_52_method_2_code, exceptionTable := #[], attributes := #[] }
def k8m1 : Method := { name := "newBytesFor", desc := "(I)[B", sig := { parameters := [.int], returnType := some (.array .byte) }, accessFlags := 9, code := some k8c1 }
def k8c2 : Code := { maxStack := 4, maxLocals := 1, code := jdk_52_method_3_code, exceptionTable := #[], attributes := #[] }
def k8m2 : Method := { name := "newBytesLength", desc := "(I)I", sig := { parameters := [.int], returnType := some .int }, accessFlags := 9, code := some k8c2 }
def k8c3 : Code := { maxStack := 4, maxLocals := 3, code := jdk_52_method_4_code, exceptionTable := #[], attributes := #[] }
def k8m3 : Method := { name := "putChar", desc := "([BII)V", sig := { parameters := [(.array .byte), .int, .int], returnType := none }, accessFlags := 8, code := some k8c3 }
def k8c4 : Code := { maxStack := 3, maxLocals := 2, code := jdk_52_method_5_code, exceptionTable := #[], attributes := #[] }
def k8m4 : Method := { name := "getChar", desc := "([BI)C", sig := { parameters := [(.array .byte), .int], returnType := some .char }, accessFlags := 8, code := some k8c4 }
def k8c5 : Code := { maxStack := 4, maxLocals := 5, code := jdk_52_method_14_code, exceptionTable := #[], attributes := #[] }
def k8m5 : Method := { name := "toBytes", desc := "([CII)[B", sig := { parameters := [(.array .char), .int, .int], returnType := some (.array .byte) }, accessFlags := 9, code := some k8c5 }
def k8c6 : Code := { maxStack := 2, maxLocals := 2, code := jdk_52_method_15_code, exceptionTable := #[], attributes := #[] }
def k8m6 : Method := { name := "coderFromArrayLen", desc := "([BI)B", sig := { parameters := [(.array .byte), .int], returnType := some .byte }, accessFlags := 8, code := some k8c6 }
def k8c7 : Code := { maxStack := 5, maxLocals := 6, code := jdk_52_method_16_code, exceptionTable := #[], attributes := #[] }
def k8m7 : Method := { name := "compress", desc := "([CII)[B", sig := { parameters := [(.array .char), .int, .int], returnType := some (.array .byte) }, accessFlags := 9, code := some k8c7 }
def k8c8 : Code := { maxStack := 3, maxLocals := 7, code := jdk_52_method_21_code, exceptionTable := #[], attributes := #[] }
def k8m8 : Method := { name := "compress", desc := "([CI[BII)I", sig := { parameters := [(.array .char), .int, (.array .byte), .int, .int], returnType := some .int }, accessFlags := 9, code := some k8c8 }
/-- java/lang/StringUTF16 -/
def k8 : Class := { plain "java/lang/StringUTF16" (some 0) with
  accessFlags := 48
  interfaces := #[]
  cf := some (fileOf pool8 12 #[.nestMembers #[627, 629, 369]] #[{ accessFlags := 0, nameIndex := 9, descriptorIndex := 10, attributes := #[] }, { accessFlags := 9, nameIndex := 109, descriptorIndex := 110, attributes := #[] }, { accessFlags := 9, nameIndex := 15, descriptorIndex := 16, attributes := #[] }, { accessFlags := 8, nameIndex := 113, descriptorIndex := 114, attributes := #[] }, { accessFlags := 8, nameIndex := 73, descriptorIndex := 74, attributes := #[] }, { accessFlags := 9, nameIndex := 121, descriptorIndex := 122, attributes := #[] }, { accessFlags := 8, nameIndex := 261, descriptorIndex := 262, attributes := #[] }, { accessFlags := 9, nameIndex := 117, descriptorIndex := 122, attributes := #[] }, { accessFlags := 9, nameIndex := 117, descriptorIndex := 118, attributes := #[] }] 48 6 #[] #[{ accessFlags := 26, nameIndex := 61, descriptorIndex := 62, attributes := #[] }, { accessFlags := 26, nameIndex := 65, descriptorIndex := 62, attributes := #[] }, { accessFlags := 24, nameIndex := 430, descriptorIndex := 62, attributes := #[] }, { accessFlags := 4120, nameIndex := 46, descriptorIndex := 47, attributes := #[] }])
  fields := #[{ name := "HI_BYTE_SHIFT", type := .int, accessFlags := 26, slot := 0, constantValue := 0 }, { name := "LO_BYTE_SHIFT", type := .int, accessFlags := 26, slot := 1, constantValue := 0 }, { name := "MAX_LENGTH", type := .int, accessFlags := 24, slot := 2, constantValue := 0 }, { name := "$assertionsDisabled", type := .boolean, accessFlags := 4120, slot := 3, constantValue := 0 }]
  methods := #[k8m0, k8m1, k8m2, k8m3, k8m4, k8m5, k8m6, k8m7, k8m8]
  instanceTypes := #[]
  staticTypes := #[.int, .int, .int, .boolean]
  resolved := Array.replicate 635 none
  statics := some 1 }

def pool9 : Array CpInfo := pool [(2, .class_ 4), (1, u "java/lang/Object"), (0, u "<init>"), (0, u "()V"), (0, .methodref 8 9), (0, .class_ 10), (0, .nameAndType 11 12), (0, u "java/lang/String"), (0, u "isEmpty"), (0, u "()Z"), (13, .class_ 27), (0, u "com/example/items_by_tag/itemsbytag/Item"), (2, u "checkId"), (0, u "(Ljava/lang/String;)V")] 4

def k9m0 : Method := { name := "<init>", desc := "()V", sig := { parameters := [], returnType := none }, accessFlags := 2, code := none }
def k9c1 : Code := { maxStack := 4, maxLocals := 1, code := prog_5_method_2_code, exceptionTable := #[], attributes := #[] }
def k9m1 : Method := { name := "checkId", desc := "(Ljava/lang/String;)V", sig := { parameters := [(.object "java/lang/String")], returnType := none }, accessFlags := 9, code := some k9c1 }
/-- com/example/items_by_tag/itemsbytag/Item -/
def k9 : Class := { plain "com/example/items_by_tag/itemsbytag/Item" (some 0) with
  accessFlags := 33
  interfaces := #[]
  cf := some (fileOf pool9 26 #[] #[{ accessFlags := 2, nameIndex := 5, descriptorIndex := 6, attributes := #[] }, { accessFlags := 9, nameIndex := 30, descriptorIndex := 31, attributes := #[] }] 33 2 #[] #[])
  fields := #[]
  methods := #[k9m0, k9m1]
  instanceTypes := #[]
  staticTypes := #[]
  resolved := Array.replicate 36 none
  statics := none }

def pool10 : Array CpInfo := pool [(4, .class_ 6), (1, u "java/lang/Object"), (0, u "<init>"), (0, u "()V"), (5, .class_ 16), (1, u "java/lang/StringLatin1"), (104, u "$assertionsDisabled"), (0, u "Z"), (98, .class_ 223), (1, u "java/lang/StringLatin1$LinesSpliterator"), (166, .class_ 391), (0, u "java/lang/StringLatin1$CharsSpliterator")] 3

def k10m0 : Method := { name := "<init>", desc := "()V", sig := { parameters := [], returnType := none }, accessFlags := 0, code := none }
/-- java/lang/StringLatin1 -/
def k10 : Class := { plain "java/lang/StringLatin1" (some 0) with
  accessFlags := 48
  interfaces := #[]
  cf := some (fileOf pool10 14 #[.nestMembers #[390, 221]] #[{ accessFlags := 0, nameIndex := 7, descriptorIndex := 8, attributes := #[] }] 48 4 #[] #[{ accessFlags := 4120, nameIndex := 121, descriptorIndex := 122, attributes := #[] }])
  fields := #[{ name := "$assertionsDisabled", type := .boolean, accessFlags := 4120, slot := 0, constantValue := 0 }]
  methods := #[k10m0]
  instanceTypes := #[]
  staticTypes := #[.boolean]
  resolved := Array.replicate 395 none
  statics := none }

def pool11 : Array CpInfo := pool [(2, .class_ 4), (1, u "java/lang/Object"), (0, u "<init>"), (0, u "()V"), (17, .class_ 26), (1, u "jdk/internal/util/Preconditions"), (28, .class_ 56), (0, u "jdk/internal/util/Preconditions$4"), (57, .class_ 115), (0, u "jdk/internal/util/Preconditions$1"), (7, u "SIOOBE_FORMATTER"), (0, u "Ljava/util/function/BiFunction;"), (0, .class_ 126), (0, u "jdk/internal/util/Preconditions$2"), (3, u "AIOOBE_FORMATTER"), (0, .class_ 132), (0, u "jdk/internal/util/Preconditions$3"), (3, u "IOOBE_FORMATTER")] 57

def k11m0 : Method := { name := "<init>", desc := "()V", sig := { parameters := [], returnType := none }, accessFlags := 1, code := none }
/-- jdk/internal/util/Preconditions -/
def k11 : Class := { plain "jdk/internal/util/Preconditions" (some 0) with
  accessFlags := 33
  interfaces := #[]
  cf := some (fileOf pool11 24 #[.nestMembers #[55, 131, 125, 114]] #[{ accessFlags := 1, nameIndex := 5, descriptorIndex := 6, attributes := #[] }] 33 2 #[] #[{ accessFlags := 25, nameIndex := 123, descriptorIndex := 124, attributes := #[] }, { accessFlags := 25, nameIndex := 130, descriptorIndex := 124, attributes := #[] }, { accessFlags := 25, nameIndex := 136, descriptorIndex := 124, attributes := #[] }])
  fields := #[{ name := "SIOOBE_FORMATTER", type := (.object "java/util/function/BiFunction"), accessFlags := 25, slot := 0, constantValue := 0 }, { name := "AIOOBE_FORMATTER", type := (.object "java/util/function/BiFunction"), accessFlags := 25, slot := 1, constantValue := 0 }, { name := "IOOBE_FORMATTER", type := (.object "java/util/function/BiFunction"), accessFlags := 25, slot := 2, constantValue := 0 }]
  methods := #[k11m0]
  instanceTypes := #[]
  staticTypes := #[(.object "java/util/function/BiFunction"), (.object "java/util/function/BiFunction"), (.object "java/util/function/BiFunction")]
  resolved := Array.replicate 194 none
  statics := some 2 }

def pool12 : Array CpInfo := pool [(9, u "<init>"), (6, .class_ 18), (1, u "java/lang/Object"), (0, u "()V"), (1, .class_ 23), (1, u "jdk/internal/util/ArraysSupport"), (0, u "LOG2_ARRAY_LONG_INDEX_SCALE"), (0, u "I"), (2, u "U"), (0, u "Ljdk/internal/misc/Unsafe;"), (8, u "BIG_ENDIAN"), (0, u "Z"), (8, u "LOG2_BYTE_BIT_SIZE"), (4, u "LOG2_ARRAY_INT_INDEX_SCALE"), (54, u "JLA"), (0, u "Ljdk/internal/access/JavaLangAccess;"), (11, u "LOG2_ARRAY_BOOLEAN_INDEX_SCALE"), (9, u "LOG2_ARRAY_BYTE_INDEX_SCALE"), (5, u "LOG2_ARRAY_CHAR_INDEX_SCALE"), (5, u "LOG2_ARRAY_SHORT_INDEX_SCALE"), (18, u "LOG2_ARRAY_FLOAT_INDEX_SCALE"), (24, u "LOG2_ARRAY_DOUBLE_INDEX_SCALE"), (89, u "T_BOOLEAN"), (2, u "T_CHAR"), (1, u "T_FLOAT"), (1, u "T_DOUBLE"), (1, u "T_BYTE"), (1, u "T_SHORT"), (1, u "T_INT"), (1, u "T_LONG"), (1, u "SOFT_MAX_ARRAY_LENGTH")] 83

def k12m0 : Method := { name := "<init>", desc := "()V", sig := { parameters := [], returnType := none }, accessFlags := 2, code := none }
/-- jdk/internal/util/ArraysSupport -/
def k12 : Class := { plain "jdk/internal/util/ArraysSupport" (some 0) with
  accessFlags := 33
  interfaces := #[]
  cf := some (fileOf pool12 21 #[] #[{ accessFlags := 2, nameIndex := 9, descriptorIndex := 19, attributes := #[] }] 33 16 #[] #[{ accessFlags := 24, nameIndex := 28, descriptorIndex := 29, attributes := #[] }, { accessFlags := 26, nameIndex := 38, descriptorIndex := 39, attributes := #[] }, { accessFlags := 25, nameIndex := 121, descriptorIndex := 25, attributes := #[] }, { accessFlags := 25, nameIndex := 131, descriptorIndex := 25, attributes := #[] }, { accessFlags := 25, nameIndex := 137, descriptorIndex := 25, attributes := #[] }, { accessFlags := 25, nameIndex := 143, descriptorIndex := 25, attributes := #[] }, { accessFlags := 25, nameIndex := 53, descriptorIndex := 25, attributes := #[] }, { accessFlags := 25, nameIndex := 24, descriptorIndex := 25, attributes := #[] }, { accessFlags := 25, nameIndex := 162, descriptorIndex := 25, attributes := #[] }, { accessFlags := 25, nameIndex := 187, descriptorIndex := 25, attributes := #[] }, { accessFlags := 26, nameIndex := 48, descriptorIndex := 25, attributes := #[] }, { accessFlags := 25, nameIndex := 277, descriptorIndex := 25, attributes := #[] }, { accessFlags := 25, nameIndex := 280, descriptorIndex := 25, attributes := #[] }, { accessFlags := 25, nameIndex := 282, descriptorIndex := 25, attributes := #[] }, { accessFlags := 25, nameIndex := 284, descriptorIndex := 25, attributes := #[] }, { accessFlags := 25, nameIndex := 286, descriptorIndex := 25, attributes := #[] }, { accessFlags := 25, nameIndex := 288, descriptorIndex := 25, attributes := #[] }, { accessFlags := 25, nameIndex := 290, descriptorIndex := 25, attributes := #[] }, { accessFlags := 25, nameIndex := 292, descriptorIndex := 25, attributes := #[] }, { accessFlags := 26, nameIndex := 108, descriptorIndex := 109, attributes := #[] }, { accessFlags := 25, nameIndex := 294, descriptorIndex := 25, attributes := #[] }])
  fields := #[{ name := "U", type := (.object "jdk/internal/misc/Unsafe"), accessFlags := 24, slot := 0, constantValue := 0 }, { name := "BIG_ENDIAN", type := .boolean, accessFlags := 26, slot := 1, constantValue := 0 }, { name := "LOG2_ARRAY_BOOLEAN_INDEX_SCALE", type := .int, accessFlags := 25, slot := 2, constantValue := 0 }, { name := "LOG2_ARRAY_BYTE_INDEX_SCALE", type := .int, accessFlags := 25, slot := 3, constantValue := 0 }, { name := "LOG2_ARRAY_CHAR_INDEX_SCALE", type := .int, accessFlags := 25, slot := 4, constantValue := 0 }, { name := "LOG2_ARRAY_SHORT_INDEX_SCALE", type := .int, accessFlags := 25, slot := 5, constantValue := 0 }, { name := "LOG2_ARRAY_INT_INDEX_SCALE", type := .int, accessFlags := 25, slot := 6, constantValue := 0 }, { name := "LOG2_ARRAY_LONG_INDEX_SCALE", type := .int, accessFlags := 25, slot := 7, constantValue := 0 }, { name := "LOG2_ARRAY_FLOAT_INDEX_SCALE", type := .int, accessFlags := 25, slot := 8, constantValue := 0 }, { name := "LOG2_ARRAY_DOUBLE_INDEX_SCALE", type := .int, accessFlags := 25, slot := 9, constantValue := 0 }, { name := "LOG2_BYTE_BIT_SIZE", type := .int, accessFlags := 26, slot := 10, constantValue := 0 }, { name := "T_BOOLEAN", type := .int, accessFlags := 25, slot := 11, constantValue := 0 }, { name := "T_CHAR", type := .int, accessFlags := 25, slot := 12, constantValue := 0 }, { name := "T_FLOAT", type := .int, accessFlags := 25, slot := 13, constantValue := 0 }, { name := "T_DOUBLE", type := .int, accessFlags := 25, slot := 14, constantValue := 0 }, { name := "T_BYTE", type := .int, accessFlags := 25, slot := 15, constantValue := 0 }, { name := "T_SHORT", type := .int, accessFlags := 25, slot := 16, constantValue := 0 }, { name := "T_INT", type := .int, accessFlags := 25, slot := 17, constantValue := 0 }, { name := "T_LONG", type := .int, accessFlags := 25, slot := 18, constantValue := 0 }, { name := "JLA", type := (.object "jdk/internal/access/JavaLangAccess"), accessFlags := 26, slot := 19, constantValue := 0 }, { name := "SOFT_MAX_ARRAY_LENGTH", type := .int, accessFlags := 25, slot := 20, constantValue := 0 }]
  methods := #[k12m0]
  instanceTypes := #[]
  staticTypes := #[(.object "jdk/internal/misc/Unsafe"), .boolean, .int, .int, .int, .int, .int, .int, .int, .int, .int, .int, .int, .int, .int, .int, .int, .int, .int, (.object "jdk/internal/access/JavaLangAccess"), .int]
  resolved := Array.replicate 378 none
  statics := none }

def pool13 : Array CpInfo := pool [(1, u "java/lang/Cloneable"), (0, .class_ 1), (0, u "java/lang/Object"), (0, .class_ 3)] 3

/-- java/lang/Cloneable -/
def k13 : Class := { plain "java/lang/Cloneable" (some 0) with
  accessFlags := 1537
  interfaces := #[]
  cf := some (fileOf pool13 2 #[] #[] 1537 4 #[] #[])
  fields := #[]
  methods := #[]
  instanceTypes := #[]
  staticTypes := #[]
  resolved := Array.replicate 8 none
  statics := none }

/-- the primitive byte -/
def k14 : Class := { plain "byte" none with kind := .primitive 'B', accessFlags := 0x411 }
/-- [B -/
def k15 : Class := { plain "[B" (some 0) with kind := .array 14 .byte, interfaces := #[13, 2], accessFlags := 1041 }

/-- the primitive char -/
def k16 : Class := { plain "char" none with kind := .primitive 'C', accessFlags := 0x411 }
/-- [C -/
def k17 : Class := { plain "[C" (some 0) with kind := .array 16 .char, interfaces := #[13, 2], accessFlags := 1041 }

/-- the primitive int -/
def k18 : Class := { plain "int" none with kind := .primitive 'I', accessFlags := 0x411 }
/-- [I -/
def k19 : Class := { plain "[I" (some 0) with kind := .array 18 .int, interfaces := #[13, 2], accessFlags := 1041 }

def heap : Heap := #[{ cls := 7, slots := #[.long 0, .int 1, .null, .int 0, .null, .int 0, .int 0], vm := .statics 7 },
  { cls := 8, slots := #[.int 0, .int 8, .int 0, .int 1], vm := .statics 8 },
  { cls := 11, slots := #[.null, .null, .null], vm := .statics 11 }]
def classes : Array Class := #[k0, k1, k2, k3, k4, k5, k6, k7, k8, k9, k10, k11, k12, k13, k14, k15, k16, k17, k18, k19]
def interned : List (Array UInt16 × Addr) := []
def slotsUsed : Nat := 14
def theMethod : MethodId := ⟨1, 2⟩
def args0 : Array Value := #[.int 2, .int 65, .int 66, .int 300, .int 68]
def aboutOver (below : List Frame) : State where
  vm := { classes := classes, interned := interned.toArray }
  heap := heap
  slotsUsed := slotsUsed
  threads := #[{ frames := .invoking theMethod args0 :: below }]
def below0 : List Frame := [.native { method := ⟨0, 0⟩, args := #[] }]
def about1 : State := aboutOver below0
def p0 : Program := .bare "" "" ""
def e0 : Env := launch0.env 0 0 0
theorem w_frames : about1.frames = Frame.invoking theMethod args0 :: below0 := rfl
set_option maxRecDepth 65536 in
theorem w_args : argsFit about1.vm theMethod args0 = true := by decide +kernel
set_option maxRecDepth 65536 in
theorem w_heap : heapFits about1 = true := by decide +kernel
set_option maxRecDepth 65536 in
theorem w_runnable : about1.curStatus? = some .runnable := by decide +kernel
set_option maxRecDepth 65536 in
theorem w_alone : about1.alone = true := by decide +kernel
set_option maxRecDepth 65536 in
theorem w_named : about1.methodNamed? x = some theMethod := by decide +kernel
set_option maxRecDepth 65536 in
theorem w_hears : about1.hears theMethod below0 = true := by decide +kernel
set_option maxRecDepth 65536 in
theorem w_ripe : about1.ripe theMethod args0 below0 = true := by decide +kernel
theorem w_running : about1.status = .running := rfl
set_option maxRecDepth 65536 in
theorem w_room : about1.hasRoom e0.platform room_1 = true :=
  launch0.hasRoom_least _ room_1 (by decide +kernel) (by decide +kernel) (by decide +kernel) (by decide +kernel) (by decide +kernel) (by decide +kernel)
theorem allAtoms_all (ts : List Jvm.Cond) (a : Array Jvm.Value) (st : Jvm.State) : (allAtoms ts).before a st = ts.all (fun c => c.before a st) := by
  induction ts with
  | nil => rfl
  | cons c t ih =>
    show (Jvm.Cond.and c (allAtoms t)).before a st = _
    rw [Jvm.Cond.before_and, ih, List.all_cons]
def words1 : List Jvm.Cond := Jvm.Cond.code x code maxLocals ret :: tables_1
/-- a 'code' word, met by the world's own term for the bytes: nothing is compared byte by byte -/
theorem code_word {y : MethodName} {bytes : ByteArray} {mx : Nat} {rt : Option FieldType} {a : Array Value} {s : State} {m : MethodId} {meth : Method} {c : Code} (h1 : s.methodNamed? y = some m) (h2 : s.vm.method? m = some meth) (h3 : meth.code = some c) (h4 : c.code = bytes)
    (h5 : (c.maxLocals == mx && c.exceptionTable.isEmpty && decide (c.maxStack ≤ mostOperands) && decide (meth.sig.returnType = rt) && !meth.locks && decide (parseMethodDescriptor y.desc = some meth.sig)) = true) : (Jvm.Cond.code y bytes mx rt).before a s = true := by
  simp only [Bool.and_eq_true, beq_iff_eq, Bool.not_eq_true', decide_eq_true_eq] at h5
  obtain ⟨⟨⟨⟨⟨g1, g2⟩, g3⟩, g4⟩, g5⟩, g6⟩ := h5
  simp [Cond.before, Cond.holds, Cond.value, h1, h2, h3, h4, g1, g2, g3, g4, g5, g6]
def isCode : Jvm.Cond → Bool
  | .code _ _ _ _ => true
  | _ => false
theorem all_split {L : List Jvm.Cond} {P : Jvm.Cond → Bool} (h1 : L.all (fun c => isCode c || P c) = true) (h2 : ∀ c ∈ L.filter isCode, P c = true) : L.all P = true := by
  refine List.all_eq_true.mpr fun c hc => ?_
  have h := List.all_eq_true.mp h1 c hc
  rcases Bool.eq_false_or_eq_true (isCode c) with hi | hi
  · exact h2 c (List.mem_filter.mpr ⟨hc, hi⟩)
  · simpa [hi] using h
set_option maxRecDepth 65536 in
theorem w_c0 : (Jvm.Cond.code x code maxLocals ret).before args0 about1 = true := code_word (m := ⟨1, 2⟩) (meth := k1m2) (c := k1c2) (by decide +kernel) rfl rfl rfl (by decide +kernel)
set_option maxRecDepth 65536 in
theorem w_c1 : (Jvm.Cond.code ({ cls := "com/example/items_by_tag/itemsbytag/ItemCheckIdPinLaw", name := "make", desc := "(ICCCC)Ljava/lang/String;" } : Jvm.MethodName) method_2_code (5 : Nat) (Option.some (Jvm.ClassFile.FieldType.object "java/lang/String"))).before args0 about1 = true := code_word (m := ⟨1, 1⟩) (meth := k1m1) (c := k1c1) (by decide +kernel) rfl rfl rfl (by decide +kernel)
set_option maxRecDepth 65536 in
theorem w_c2 : (Jvm.Cond.code ({ cls := "java/lang/String", name := "<init>", desc := "([C)V" } : Jvm.MethodName) jdk_42_method_3_code (2 : Nat) (Option.none : Option Jvm.ClassFile.FieldType)).before args0 about1 = true := code_word (m := ⟨7, 1⟩) (meth := k7m1) (c := k7c1) (by decide +kernel) rfl rfl rfl (by decide +kernel)
set_option maxRecDepth 65536 in
theorem w_c3 : (Jvm.Cond.code ({ cls := "java/lang/String", name := "<init>", desc := "([CIILjava/lang/Void;)V" } : Jvm.MethodName) jdk_42_method_149_code (6 : Nat) (Option.none : Option Jvm.ClassFile.FieldType)).before args0 about1 = true := code_word (m := ⟨7, 4⟩) (meth := k7m4) (c := k7c4) (by decide +kernel) rfl rfl rfl (by decide +kernel)
set_option maxRecDepth 65536 in
theorem w_c4 : (Jvm.Cond.code ({ cls := "java/lang/Object", name := "<init>", desc := "()V" } : Jvm.MethodName) object_method_1_code (1 : Nat) (Option.none : Option Jvm.ClassFile.FieldType)).before args0 about1 = true := code_word (m := ⟨0, 0⟩) (meth := k0m0) (c := k0c0) (by decide +kernel) rfl rfl rfl (by decide +kernel)
set_option maxRecDepth 65536 in
theorem w_c5 : (Jvm.Cond.code ({ cls := "java/lang/StringUTF16", name := "compress", desc := "([CII)[B" } : Jvm.MethodName) jdk_52_method_16_code (6 : Nat) (Option.some (Jvm.ClassFile.FieldType.array Jvm.ClassFile.FieldType.byte))).before args0 about1 = true := code_word (m := ⟨8, 7⟩) (meth := k8m7) (c := k8c7) (by decide +kernel) rfl rfl rfl (by decide +kernel)
set_option maxRecDepth 65536 in
theorem w_c6 : (Jvm.Cond.code ({ cls := "java/lang/StringUTF16", name := "compress", desc := "([CI[BII)I" } : Jvm.MethodName) jdk_52_method_21_code (7 : Nat) (Option.some Jvm.ClassFile.FieldType.int)).before args0 about1 = true := code_word (m := ⟨8, 8⟩) (meth := k8m8) (c := k8c8) (by decide +kernel) rfl rfl rfl (by decide +kernel)
set_option maxRecDepth 65536 in
theorem w_c7 : (Jvm.Cond.code ({ cls := "java/lang/StringUTF16", name := "coderFromArrayLen", desc := "([BI)B" } : Jvm.MethodName) jdk_52_method_15_code (2 : Nat) (Option.some Jvm.ClassFile.FieldType.byte)).before args0 about1 = true := code_word (m := ⟨8, 6⟩) (meth := k8m6) (c := k8c6) (by decide +kernel) rfl rfl rfl (by decide +kernel)
set_option maxRecDepth 65536 in
theorem w_c8 : (Jvm.Cond.code ({ cls := "com/example/items_by_tag/itemsbytag/Item", name := "checkId", desc := "(Ljava/lang/String;)V" } : Jvm.MethodName) prog_5_method_2_code (1 : Nat) (Option.none : Option Jvm.ClassFile.FieldType)).before args0 about1 = true := code_word (m := ⟨9, 1⟩) (meth := k9m1) (c := k9c1) (by decide +kernel) rfl rfl rfl (by decide +kernel)
set_option maxRecDepth 65536 in
theorem w_c9 : (Jvm.Cond.code ({ cls := "java/lang/String", name := "isEmpty", desc := "()Z" } : Jvm.MethodName) jdk_42_method_55_code (1 : Nat) (Option.some Jvm.ClassFile.FieldType.boolean)).before args0 about1 = true := code_word (m := ⟨7, 3⟩) (meth := k7m3) (c := k7c3) (by decide +kernel) rfl rfl rfl (by decide +kernel)
set_option maxRecDepth 65536 in
theorem w_c10 : (Jvm.Cond.code ({ cls := "java/lang/String", name := "length", desc := "()I" } : Jvm.MethodName) jdk_42_method_54_code (1 : Nat) (Option.some Jvm.ClassFile.FieldType.int)).before args0 about1 = true := code_word (m := ⟨7, 2⟩) (meth := k7m2) (c := k7c2) (by decide +kernel) rfl rfl rfl (by decide +kernel)
set_option maxRecDepth 65536 in
theorem w_c11 : (Jvm.Cond.code ({ cls := "java/lang/String", name := "coder", desc := "()B" } : Jvm.MethodName) jdk_42_method_152_code (1 : Nat) (Option.some Jvm.ClassFile.FieldType.byte)).before args0 about1 = true := code_word (m := ⟨7, 5⟩) (meth := k7m5) (c := k7c5) (by decide +kernel) rfl rfl rfl (by decide +kernel)
set_option maxRecDepth 65536 in
theorem w_c12 : (Jvm.Cond.code ({ cls := "java/lang/StringUTF16", name := "toBytes", desc := "([CII)[B" } : Jvm.MethodName) jdk_52_method_14_code (5 : Nat) (Option.some (Jvm.ClassFile.FieldType.array Jvm.ClassFile.FieldType.byte))).before args0 about1 = true := code_word (m := ⟨8, 5⟩) (meth := k8m5) (c := k8c5) (by decide +kernel) rfl rfl rfl (by decide +kernel)
set_option maxRecDepth 65536 in
theorem w_c13 : (Jvm.Cond.code ({ cls := "java/lang/StringUTF16", name := "newBytesFor", desc := "(I)[B" } : Jvm.MethodName) jdk_52_method_2_code (1 : Nat) (Option.some (Jvm.ClassFile.FieldType.array Jvm.ClassFile.FieldType.byte))).before args0 about1 = true := code_word (m := ⟨8, 1⟩) (meth := k8m1) (c := k8c1) (by decide +kernel) rfl rfl rfl (by decide +kernel)
set_option maxRecDepth 65536 in
theorem w_c14 : (Jvm.Cond.code ({ cls := "java/lang/StringUTF16", name := "newBytesLength", desc := "(I)I" } : Jvm.MethodName) jdk_52_method_3_code (1 : Nat) (Option.some Jvm.ClassFile.FieldType.int)).before args0 about1 = true := code_word (m := ⟨8, 2⟩) (meth := k8m2) (c := k8c2) (by decide +kernel) rfl rfl rfl (by decide +kernel)
set_option maxRecDepth 65536 in
theorem w_c15 : (Jvm.Cond.code ({ cls := "java/lang/StringUTF16", name := "putChar", desc := "([BII)V" } : Jvm.MethodName) jdk_52_method_4_code (3 : Nat) (Option.none : Option Jvm.ClassFile.FieldType)).before args0 about1 = true := code_word (m := ⟨8, 3⟩) (meth := k8m3) (c := k8c3) (by decide +kernel) rfl rfl rfl (by decide +kernel)
set_option maxRecDepth 65536 in
theorem w_c16 : (Jvm.Cond.code ({ cls := "java/lang/StringUTF16", name := "getChar", desc := "([BI)C" } : Jvm.MethodName) jdk_52_method_5_code (2 : Nat) (Option.some Jvm.ClassFile.FieldType.char)).before args0 about1 = true := code_word (m := ⟨8, 4⟩) (meth := k8m4) (c := k8c4) (by decide +kernel) rfl rfl rfl (by decide +kernel)
def codes1 : List Jvm.Cond := [Jvm.Cond.code x code maxLocals ret, Jvm.Cond.code ({ cls := "com/example/items_by_tag/itemsbytag/ItemCheckIdPinLaw", name := "make", desc := "(ICCCC)Ljava/lang/String;" } : Jvm.MethodName) method_2_code (5 : Nat) (Option.some (Jvm.ClassFile.FieldType.object "java/lang/String")), Jvm.Cond.code ({ cls := "java/lang/String", name := "<init>", desc := "([C)V" } : Jvm.MethodName) jdk_42_method_3_code (2 : Nat) (Option.none : Option Jvm.ClassFile.FieldType), Jvm.Cond.code ({ cls := "java/lang/String", name := "<init>", desc := "([CIILjava/lang/Void;)V" } : Jvm.MethodName) jdk_42_method_149_code (6 : Nat) (Option.none : Option Jvm.ClassFile.FieldType), Jvm.Cond.code ({ cls := "java/lang/Object", name := "<init>", desc := "()V" } : Jvm.MethodName) object_method_1_code (1 : Nat) (Option.none : Option Jvm.ClassFile.FieldType), Jvm.Cond.code ({ cls := "java/lang/StringUTF16", name := "compress", desc := "([CII)[B" } : Jvm.MethodName) jdk_52_method_16_code (6 : Nat) (Option.some (Jvm.ClassFile.FieldType.array Jvm.ClassFile.FieldType.byte)), Jvm.Cond.code ({ cls := "java/lang/StringUTF16", name := "compress", desc := "([CI[BII)I" } : Jvm.MethodName) jdk_52_method_21_code (7 : Nat) (Option.some Jvm.ClassFile.FieldType.int), Jvm.Cond.code ({ cls := "java/lang/StringUTF16", name := "coderFromArrayLen", desc := "([BI)B" } : Jvm.MethodName) jdk_52_method_15_code (2 : Nat) (Option.some Jvm.ClassFile.FieldType.byte), Jvm.Cond.code ({ cls := "com/example/items_by_tag/itemsbytag/Item", name := "checkId", desc := "(Ljava/lang/String;)V" } : Jvm.MethodName) prog_5_method_2_code (1 : Nat) (Option.none : Option Jvm.ClassFile.FieldType), Jvm.Cond.code ({ cls := "java/lang/String", name := "isEmpty", desc := "()Z" } : Jvm.MethodName) jdk_42_method_55_code (1 : Nat) (Option.some Jvm.ClassFile.FieldType.boolean), Jvm.Cond.code ({ cls := "java/lang/String", name := "length", desc := "()I" } : Jvm.MethodName) jdk_42_method_54_code (1 : Nat) (Option.some Jvm.ClassFile.FieldType.int), Jvm.Cond.code ({ cls := "java/lang/String", name := "coder", desc := "()B" } : Jvm.MethodName) jdk_42_method_152_code (1 : Nat) (Option.some Jvm.ClassFile.FieldType.byte), Jvm.Cond.code ({ cls := "java/lang/StringUTF16", name := "toBytes", desc := "([CII)[B" } : Jvm.MethodName) jdk_52_method_14_code (5 : Nat) (Option.some (Jvm.ClassFile.FieldType.array Jvm.ClassFile.FieldType.byte)), Jvm.Cond.code ({ cls := "java/lang/StringUTF16", name := "newBytesFor", desc := "(I)[B" } : Jvm.MethodName) jdk_52_method_2_code (1 : Nat) (Option.some (Jvm.ClassFile.FieldType.array Jvm.ClassFile.FieldType.byte)), Jvm.Cond.code ({ cls := "java/lang/StringUTF16", name := "newBytesLength", desc := "(I)I" } : Jvm.MethodName) jdk_52_method_3_code (1 : Nat) (Option.some Jvm.ClassFile.FieldType.int), Jvm.Cond.code ({ cls := "java/lang/StringUTF16", name := "putChar", desc := "([BII)V" } : Jvm.MethodName) jdk_52_method_4_code (3 : Nat) (Option.none : Option Jvm.ClassFile.FieldType), Jvm.Cond.code ({ cls := "java/lang/StringUTF16", name := "getChar", desc := "([BI)C" } : Jvm.MethodName) jdk_52_method_5_code (2 : Nat) (Option.some Jvm.ClassFile.FieldType.char)]
set_option maxRecDepth 65536 in
theorem codes_eq : words1.filter isCode = codes1 := rfl
theorem w_codes : ∀ c ∈ words1.filter isCode, c.before args0 about1 = true := by
  rw [codes_eq]
  intro c hc
  simp only [codes1, List.mem_cons, List.not_mem_nil, or_false] at hc
  rcases hc with rfl | rfl | rfl | rfl | rfl | rfl | rfl | rfl | rfl | rfl | rfl | rfl | rfl | rfl | rfl | rfl | rfl
  · exact w_c0
  · exact w_c1
  · exact w_c2
  · exact w_c3
  · exact w_c4
  · exact w_c5
  · exact w_c6
  · exact w_c7
  · exact w_c8
  · exact w_c9
  · exact w_c10
  · exact w_c11
  · exact w_c12
  · exact w_c13
  · exact w_c14
  · exact w_c15
  · exact w_c16
set_option maxRecDepth 65536 in
theorem w_t1 : (words1.take 24).all (fun c => isCode c || c.before args0 about1) = true := by decide +kernel
set_option maxRecDepth 65536 in
theorem w_t2 : ((words1.drop 24).take 24).all (fun c => isCode c || c.before args0 about1) = true := by decide +kernel
set_option maxRecDepth 65536 in
theorem w_t3 : (((words1.drop 24).drop 24).take 24).all (fun c => isCode c || c.before args0 about1) = true := by decide +kernel
set_option maxRecDepth 65536 in
theorem w_t4 : (((words1.drop 24).drop 24).drop 24).all (fun c => isCode c || c.before args0 about1) = true := by decide +kernel
theorem w_tables : (allAtoms (Jvm.Cond.code x code maxLocals ret :: tables_1)).before args0 about1 = true := by
  rw [allAtoms_all]
  show words1.all (fun c => c.before args0 about1) = true
  refine all_split ?_ w_codes
  rw [← List.take_append_drop 24 words1, List.all_append, w_t1, ← List.take_append_drop 24 (words1.drop 24), List.all_append, w_t2, ← List.take_append_drop 24 ((words1.drop 24).drop 24), List.all_append, w_t3, w_t4]
  rfl
set_option maxRecDepth 65536 in
theorem w_rest : rest_1_c.before args0 about1 = true := by decide +kernel
set_option maxRecDepth 65536 in
theorem w_case : (Jvm.Cond.and given_1 narrow_1).before args0 about1 = true := by decide +kernel
theorem w_applies : (headSpec (Jvm.Cond.code x code maxLocals ret :: tables_1) room_1).applies x e0.platform about1 = true :=
  (Spec.applies_iff w_frames).mpr ⟨w_running, w_runnable, w_alone, w_named, w_hears, w_ripe, w_room, w_tables⟩
theorem atStart : AtStart classFile x code maxLocals ret World_1 tables_1 room_1 Calls_1 rest_1 Pre_1 launch0 p0 e0 about1 theMethod args0 below0 :=
  ⟨lists_1, trivial, launch0.admits_env _ _ _, launch0.least_env, fairChoices_fair.cas, fairChoices_fair.clock, w_frames, w_args, w_heap, w_applies, trivial, w_rest, w_case⟩
end start1
theorem witness_1 : WitnessClaimed_1 := ⟨start1.p0, start1.e0, start1.about1, start1.theMethod, start1.args0, start1.below0, start1.atStart⟩
end Jvm.Pilot.@@N@@
