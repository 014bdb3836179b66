import JvmDerived
import JvmDerived.Pilot.@@N@@Statement
import JvmDerived.Pilot.@@N@@Code
set_option linter.unusedVariables false
set_option linter.unusedSimpArgs false
/- laws to paste: Road.backV, Road.eqW, Road.codOf, StrChars.shr0 (cut by pick.py; bodies as the Statement names them) -/
namespace Jvm.Pilot.@@N@@
namespace StrChars
open Jvm Sem ClassFile Op Lib Jvm.Stand Jvm.Free.XT Jvm.Free.ALB Jvm.Free.JM Jvm.Free
open Jvm.Lib.Cold (StaticIs)
/-- a char array whose places are chars -/
def Ch (a : Addr) (A : Cell) (U : State) : Prop := Arr .char a A U ∧ Typed .char A
theorem Ch.mv {a : Addr} {A : Cell} {U U' : State} (h : Ch a A U) (hal : U.vm.Alike U'.vm) (hh : U'.heap = U.heap) : Ch a A U' := ⟨h.1.mv hal hh, h.2⟩
theorem Ch.keep {a : Addr} {A : Cell} {U U' : State} (h : Ch a A U) (hal : U.vm.Alike U'.vm) (hk : U'.heap[a]? = some A) : Ch a A U' := ⟨h.1.keep hal hk, h.2⟩
/-- what place i of a char[]'s cell holds -/
def cv (A : Cell) (i : Nat) : Int32 := match A.slots[i]? with | some (.int x) => x | _ => 0
theorem Ch.get {a : Addr} {A : Cell} {U : State} (h : Ch a A U) {i : Nat} (hi : i < A.slots.size) : A.slots[i]? = some (.int (cv A i)) := by
  have e := Array.getElem?_eq_getElem hi
  have f := h.2 i _ e
  unfold cv; rw [e]
  generalize A.slots[i] = v at f
  cases v <;> simp [fits] at f ⊢
/-- the byte that i2b leaves of a char -/
def lo8 (x : Int32) : Int32 := x.toInt8.toInt32
theorem fits_lo8 (y : Int32) : fits .byte (.int (lo8 y)) = true := by
  have h1 := y.toInt8.le_toInt
  have h2 := y.toInt8.toInt_lt
  simp only [lo8, fits, Bool.and_eq_true, decide_eq_true_eq, Int32.le_iff_toInt_le, Int8.toInt_toInt32, show (-128 : Int32).toInt = -128 from by decide, show (127 : Int32).toInt = 127 from by decide]
  omega
/-- A' is A but that each place j of lo .. hi - 1 holds f j -/
def Laid (A A' : Cell) (lo hi : Nat) (f : Nat → Value) : Prop := A'.cls = A.cls ∧ A'.vm = A.vm ∧ A'.slots.size = A.slots.size ∧ ∀ i, A'.slots[i]? = if lo ≤ i ∧ i < hi then some (f i) else A.slots[i]?
theorem Laid.zero (A : Cell) (lo : Nat) (f : Nat → Value) : Laid A A lo (lo + 0) f := ⟨rfl, rfl, rfl, fun i => by rw [if_neg (by omega)]⟩
theorem Laid.step {A Ak : Cell} {lo k : Nat} {f : Nat → Value} {v : Value} (h : Laid A Ak lo k f) (hlo : lo ≤ k) (hk : k < Ak.slots.size) (hv : v = f k) : Laid A (Ak.setSlot k v) lo (k + 1) f := by
  refine ⟨h.1, h.2.1, by simpa [Cell.setSlot] using h.2.2.1, fun i => ?_⟩
  by_cases e : k = i
  · subst e; rw [Cell.slots_setSlot_self v hk, if_pos (by omega), hv]
  · rw [Cell.slots_setSlot_ne v e, h.2.2.2 i]
    by_cases q : lo ≤ i ∧ i < k
    · rw [if_pos q, if_pos (by omega)]
    · rw [if_neg q, if_neg (by omega)]
def U16 : String := "java/lang/StringUTF16"
namespace Cmp5
def yN : MethodName := ⟨"java/lang/StringUTF16", "compress", "([CI[BII)I"⟩
abbrev yB : ByteArray := jdk_52_method_21_code
theorem d0 : decode yB 0 = .ok (.iconst 0, 1) := by decide +kernel
theorem d1 : decode yB 1 = .ok (.istore 5, 2) := by decide +kernel
theorem d3 : decode yB 3 = .ok (.iload 5, 2) := by decide +kernel
theorem d5 : decode yB 5 = .ok (.iload 4, 2) := by decide +kernel
theorem d7 : decode yB 7 = .ok (.if_icmp (.ge) 37, 3) := by decide +kernel
theorem d10 : decode yB 10 = .ok (.aload_n 0, 1) := by decide +kernel
theorem d11 : decode yB 11 = .ok (.iload_n 1, 1) := by decide +kernel
theorem d12 : decode yB 12 = .ok (.caload, 1) := by decide +kernel
theorem d13 : decode yB 13 = .ok (.istore 6, 2) := by decide +kernel
theorem d15 : decode yB 15 = .ok (.iload 6, 2) := by decide +kernel
theorem d17 : decode yB 17 = .ok (.sipush 255, 3) := by decide +kernel
theorem d20 : decode yB 20 = .ok (.if_icmp (.le) 6, 3) := by decide +kernel
theorem d26 : decode yB 26 = .ok (.aload_n 2, 1) := by decide +kernel
theorem d27 : decode yB 27 = .ok (.iload_n 3, 1) := by decide +kernel
theorem d28 : decode yB 28 = .ok (.iload 6, 2) := by decide +kernel
theorem d30 : decode yB 30 = .ok (.i2b, 1) := by decide +kernel
theorem d31 : decode yB 31 = .ok (.bastore, 1) := by decide +kernel
theorem d32 : decode yB 32 = .ok (.iinc 1 1, 3) := by decide +kernel
theorem d35 : decode yB 35 = .ok (.iinc 3 1, 3) := by decide +kernel
theorem d38 : decode yB 38 = .ok (.iinc 5 1, 3) := by decide +kernel
theorem d41 : decode yB 41 = .ok (.goto (-38), 3) := by decide +kernel
theorem d44 : decode yB 44 = .ok (.iload 4, 2) := by decide +kernel
theorem d46 : decode yB 46 = .ok (.ireturn, 1) := by decide +kernel
def site : List Cond := []
def tab : Cond := tabOf yN yB 7 (some .int) site
def P (b : Addr) (A : Cell) (d : Addr) (B : Cell) (o q len : Nat) (args : Array Value) (s : State) : Prop := args = #[.ref b, .int (Int32.ofNat o), .ref d, .int (Int32.ofNat q), .int (Int32.ofNat len)] ∧ Ch b A s ∧ Arr .byte d B s ∧ b ≠ d ∧ o + len ≤ A.slots.size ∧ q + len ≤ B.slots.size ∧ ∀ i, i < len → ¬ 255 < cv A (o + i)
def E (b : Addr) (A : Cell) (d : Addr) (B : Cell) (o q len : Nat) (r : Option Value) (s u : State) : Prop := r = some (.int (Int32.ofNat len)) ∧ ∃ B', Put d B' s u ∧ Laid B B' q (q + len) (fun j => Value.int (lo8 (cv A (o + (j - q)))))
/-- no char of the range above 255: len; the places written hold each char's low byte -/
theorem law (l : Launch) (b : Addr) (A : Cell) (d : Addr) (B : Cell) (o q len : Nat) : Law l yN 5 5 0 0 yB 7 (some .int) site (P b A d B o q len) (E b A d B o q len) (copyLocs d q len) 0 0 := by
  refine Law.of_walk (plainFor_of_name (by decide +kernel)) (by decide +kernel) (by decide +kernel) (by decide) (fun _ _ h => by rw [h.1]; rfl) (fun _ U U' hal hh h => ⟨h.1, h.2.1.mv hal hh, h.2.2.1.mv hal hh, h.2.2.2⟩) (fun r U U' V V' h1 hal h2 h => ⟨h.1, h.2.elim fun B' q => ⟨B', q.1.mv h1 h2, q.2⟩⟩) ?_
  intro p e s m args below meth c s₁ X0 hexec hbytes hml hret hlk hnm hown hh0 W hP
  obtain ⟨rfl, hA, hB, hne, l1, l2, hp⟩ := hP
  have c1 : Steps p.tables e below (s₁.setTop (entryFrame m #[.ref b, .int (Int32.ofNat o), .ref d, .int (Int32.ofNat q), .int (Int32.ofNat len)] 7)) (s₁.setTop (mkF m 0 #[.val (.ref b), .val (.int (Int32.ofNat o)), .val (.ref d), .val (.int (Int32.ofNat q)), .val (.int (Int32.ofNat len)), .unset, .unset] [])) := entry rfl
  have hA0 := hA.1.mv X0.warmed.alike hh0
  have hB0 := hB.mv X0.warmed.alike hh0
  have a31 := hA.1.2.2.2
  have c2 : Steps p.tables e below (s₁.setTop (entryFrame m #[.ref b, .int (Int32.ofNat o), .ref d, .int (Int32.ofNat q), .int (Int32.ofNat len)] 7)) (s₁.setTop (mkF m 3 #[.val (.ref b), .val (.int (Int32.ofNat o)), .val (.ref d), .val (.int (Int32.ofNat q)), .val (.int (Int32.ofNat len)), .val (.int 0), .unset] [])) := c1.trans (by
    refine iconstV X0.here hexec rfl 0 (hb hbytes d0) (by decide) ?_
    refine XS.istore X0.here hexec rfl (hb hbytes d1) rfl rfl ?_
    exact Steps.refl _)
  have loop : ∀ (r i : Nat), i + r = len → ∀ (z : Slot), (z = .unset ∨ ∃ w, z = .val w ∧ w.category = 1) → ∀ (Tl : State) (Bk : Cell), Stand p l e { frames := 0, locals := 0, cells := 0, slots := 0 } s m #[.ref b, .int (Int32.ofNat o), .ref d, .int (Int32.ofNat q), .int (Int32.ofNat len)] below meth c Tl ([] ++ copyLocs d q i) 0 0 → Put d Bk s₁ Tl → Laid B Bk q (q + i) (fun j => Value.int (lo8 (cv A (o + (j - q))))) →
      Steps p.tables e below (s₁.setTop (entryFrame m #[.ref b, .int (Int32.ofNat o), .ref d, .int (Int32.ofNat q), .int (Int32.ofNat len)] 7)) (Tl.setTop (mkF m 3 #[.val (.ref b), .val (.int (Int32.ofNat (o + i))), .val (.ref d), .val (.int (Int32.ofNat (q + i))), .val (.int (Int32.ofNat len)), .val (.int (Int32.ofNat i)), z] [])) → ∃ (T' : State) (B' : Cell) (z' : Slot), Stand p l e { frames := 0, locals := 0, cells := 0, slots := 0 } s m #[.ref b, .int (Int32.ofNat o), .ref d, .int (Int32.ofNat q), .int (Int32.ofNat len)] below meth c T' ([] ++ copyLocs d q len) 0 0 ∧ Put d B' s₁ T' ∧ Laid B B' q (q + len) (fun j => Value.int (lo8 (cv A (o + (j - q))))) ∧
      Steps p.tables e below (s₁.setTop (entryFrame m #[.ref b, .int (Int32.ofNat o), .ref d, .int (Int32.ofNat q), .int (Int32.ofNat len)] 7)) (T'.setTop (mkF m 3 #[.val (.ref b), .val (.int (Int32.ofNat (o + len))), .val (.ref d), .val (.int (Int32.ofNat (q + len))), .val (.int (Int32.ofNat len)), .val (.int (Int32.ofNat len)), z'] [])) := by
    intro r
    induction r with
    | zero =>
      intro i hi z hz Tl Bk Xl pl fl cl
      have hil : i = len := by omega
      rw [hil] at Xl fl cl
      exact ⟨Tl, Bk, z, Xl, pl, fl, cl⟩
    | succ r ih =>
      intro i hi z hz Tl Bk Xl pl fl cl
      have all := X0.warmed.alike.symm.trans Xl.warmed.alike
      have hAl := hA0.keep all (pl.other hne hA0.1)
      have hBk := hB0.like all pl.1 fl.1 fl.2.1 fl.2.2.1
      have hlt : q + i < Bk.slots.size := by rw [fl.2.2.1]; omega
      have c3 : Steps p.tables e below (s₁.setTop (entryFrame m #[.ref b, .int (Int32.ofNat o), .ref d, .int (Int32.ofNat q), .int (Int32.ofNat len)] 7)) (Tl.setTop (mkF m 12 #[.val (.ref b), .val (.int (Int32.ofNat (o + i))), .val (.ref d), .val (.int (Int32.ofNat (q + i))), .val (.int (Int32.ofNat len)), .val (.int (Int32.ofNat i)), z] [.int (Int32.ofNat (o + i)), .ref b])) := cl.trans (by
        refine XS.iload Xl.here hexec rfl (hb hbytes d3) rfl ?_
        refine XS.iload Xl.here hexec rfl (hb hbytes d5) rfl ?_
        refine XS.icmpNo Xl.here hexec rfl (hb hbytes d7) rfl (ii_ge_f (lt32 (by omega) (by omega))) ?_
        refine XS.aloadN Xl.here hexec rfl (hb hbytes d10) rfl rfl ?_
        refine XS.iloadN Xl.here hexec rfl (hb hbytes d11) rfl ?_
        exact Steps.refl _)
      have c4 : Steps p.tables e below (s₁.setTop (entryFrame m #[.ref b, .int (Int32.ofNat o), .ref d, .int (Int32.ofNat q), .int (Int32.ofNat len)] 7)) (Tl.setTop (mkF m 13 #[.val (.ref b), .val (.int (Int32.ofNat (o + i))), .val (.ref d), .val (.int (Int32.ofNat (q + i))), .val (.int (Int32.ofNat len)), .val (.int (Int32.ofNat i)), z] [.int (cv A (o + i))])) := c3.trans (by
        refine Xl.aget hexec hAl rfl (hA.get (i := o + i) (by omega)) rfl rfl (hb hbytes d12) ?_
        exact Steps.refl _)
      have c5 : Steps p.tables e below (s₁.setTop (entryFrame m #[.ref b, .int (Int32.ofNat o), .ref d, .int (Int32.ofNat q), .int (Int32.ofNat len)] 7)) (Tl.setTop (mkF m 15 #[.val (.ref b), .val (.int (Int32.ofNat (o + i))), .val (.ref d), .val (.int (Int32.ofNat (q + i))), .val (.int (Int32.ofNat len)), .val (.int (Int32.ofNat i)), .val (.int (cv A (o + i)))] [])) := c4.trans (by
        refine XS.istoreS Xl.here hexec rfl (hb hbytes d13) rfl rfl hz ?_
        exact Steps.refl _)
      have c6 : Steps p.tables e below (s₁.setTop (entryFrame m #[.ref b, .int (Int32.ofNat o), .ref d, .int (Int32.ofNat q), .int (Int32.ofNat len)] 7)) (Tl.setTop (mkF m 31 #[.val (.ref b), .val (.int (Int32.ofNat (o + i))), .val (.ref d), .val (.int (Int32.ofNat (q + i))), .val (.int (Int32.ofNat len)), .val (.int (Int32.ofNat i)), .val (.int (cv A (o + i)))] [.int (lo8 (cv A (o + i))), .int (Int32.ofNat (q + i)), .ref d])) := c5.trans (by
        refine XS.iload Xl.here hexec rfl (hb hbytes d15) rfl ?_
        refine sipushV Xl.here hexec rfl 255 (hb hbytes d17) (by decide) ?_
        refine XS.icmpYes Xl.here hexec rfl (pc0 := 20) rfl (hb hbytes d20) rfl (ii_le_t (hp i (by omega))) (by decide) rfl ?_
        refine XS.aloadN Xl.here hexec rfl (hb hbytes d26) rfl rfl ?_
        refine XS.iloadN Xl.here hexec rfl (hb hbytes d27) rfl ?_
        refine XS.iload Xl.here hexec rfl (hb hbytes d28) rfl ?_
        refine i2b Xl.here hexec rfl (hb hbytes d30) rfl ?_
        exact Steps.refl _)
      obtain ⟨T7, X7, p7, st7⟩ := Xl.aput hexec hBk rfl hlt rfl (fits_lo8 (cv A (o + i))) (g := (mkF m 31 #[.val (.ref b), .val (.int (Int32.ofNat (o + i))), .val (.ref d), .val (.int (Int32.ofNat (q + i))), .val (.int (Int32.ofNat len)), .val (.int (Int32.ofNat i)), .val (.int (cv A (o + i)))] [.int (lo8 (cv A (o + i))), .int (Int32.ofNat (q + i)), .ref d])) rfl (rest := []) rfl (hb hbytes d31)
      have c8 : Steps p.tables e below (s₁.setTop (entryFrame m #[.ref b, .int (Int32.ofNat o), .ref d, .int (Int32.ofNat q), .int (Int32.ofNat len)] 7)) (T7.setTop (mkF m 32 #[.val (.ref b), .val (.int (Int32.ofNat (o + i))), .val (.ref d), .val (.int (Int32.ofNat (q + i))), .val (.int (Int32.ofNat len)), .val (.int (Int32.ofNat i)), .val (.int (cv A (o + i)))] [])) := c6.trans (st7 _ (Steps.refl _))
      have c9 : Steps p.tables e below (s₁.setTop (entryFrame m #[.ref b, .int (Int32.ofNat o), .ref d, .int (Int32.ofNat q), .int (Int32.ofNat len)] 7)) (T7.setTop (mkF m 3 #[.val (.ref b), .val (.int (Int32.ofNat (o + i) + 1)), .val (.ref d), .val (.int (Int32.ofNat (q + i) + 1)), .val (.int (Int32.ofNat len)), .val (.int (Int32.ofNat i + 1)), .val (.int (cv A (o + i)))] [])) := c8.trans (by
        refine iincV X7.here hexec rfl 1 (hb hbytes d32) (by decide) rfl rfl ?_
        refine iincV X7.here hexec rfl 1 (hb hbytes d35) (by decide) rfl rfl ?_
        refine iincV X7.here hexec rfl 1 (hb hbytes d38) (by decide) rfl rfl ?_
        refine XS.goto X7.here hexec rfl (pc0 := 41) rfl (hb hbytes d41) (by decide) rfl ?_
        exact Steps.refl _)
      have c10 : Steps p.tables e below (s₁.setTop (entryFrame m #[.ref b, .int (Int32.ofNat o), .ref d, .int (Int32.ofNat q), .int (Int32.ofNat len)] 7)) (T7.setTop (mkF m 3 #[.val (.ref b), .val (.int (Int32.ofNat (o + (i + 1)))), .val (.ref d), .val (.int (Int32.ofNat (q + (i + 1)))), .val (.int (Int32.ofNat len)), .val (.int (Int32.ofNat (i + 1))), .val (.int (cv A (o + i)))] [])) := by
        have := c9
        rw [succ32, succ32, succ32] at this
        exact this
      exact ih (i + 1) (by omega) _ (Or.inr ⟨_, rfl, rfl⟩) T7 _ (by rw [copyLocs_step, ← List.append_assoc]; exact X7) (pl.trans p7) (fl.step (by omega) hlt (by simp)) c10
  obtain ⟨T9, B9, z9, X9, p9, f9, g9⟩ := loop len 0 (by omega) .unset (Or.inl rfl) s₁ B (by simpa [copyLocs] using X0) ⟨hB0.1, fun _ _ => rfl, rfl⟩ (Laid.zero _ _ _) c2
  have c11 : Steps p.tables e below (s₁.setTop (entryFrame m #[.ref b, .int (Int32.ofNat o), .ref d, .int (Int32.ofNat q), .int (Int32.ofNat len)] 7)) (T9.setTop (mkF m 46 #[.val (.ref b), .val (.int (Int32.ofNat (o + len))), .val (.ref d), .val (.int (Int32.ofNat (q + len))), .val (.int (Int32.ofNat len)), .val (.int (Int32.ofNat len)), z9] [.int (Int32.ofNat len)])) := g9.trans (by
    refine XS.iload X9.here hexec rfl (hb hbytes d3) rfl ?_
    refine XS.iload X9.here hexec rfl (hb hbytes d5) rfl ?_
    refine XS.icmpYes X9.here hexec rfl (pc0 := 7) rfl (hb hbytes d7) rfl (ii_ge_t (nlt32 (by omega) (Nat.le_refl _))) (by decide) rfl ?_
    refine XS.iload X9.here hexec rfl (hb hbytes d44) rfl ?_
    exact Steps.refl _)
  exact ⟨T9, some (.int (Int32.ofNat len)), _, _, _, X9, by simp, rfl, rfl, (fun h => by cases h), ⟨rfl, B9, p9.from hh0, f9⟩, fun fs hl => c11.trans (X9.ireturnOut hexec hret rfl (Or.inl rfl) (hb hbytes d46) hl)⟩
end Cmp5
namespace Cmp3
def yN : MethodName := ⟨"java/lang/StringUTF16", "compress", "([CII)[B"⟩
abbrev yB : ByteArray := jdk_52_method_16_code
theorem d0 : decode yB 0 = .ok (.iload_n 2, 1) := by decide +kernel
theorem d1 : decode yB 1 = .ok (.newarray .byte, 2) := by decide +kernel
theorem d3 : decode yB 3 = .ok (.astore_n 3, 1) := by decide +kernel
theorem d4 : decode yB 4 = .ok (.aload_n 0, 1) := by decide +kernel
theorem d5 : decode yB 5 = .ok (.iload_n 1, 1) := by decide +kernel
theorem d6 : decode yB 6 = .ok (.aload_n 3, 1) := by decide +kernel
theorem d7 : decode yB 7 = .ok (.iconst 0, 1) := by decide +kernel
theorem d8 : decode yB 8 = .ok (.iload_n 2, 1) := by decide +kernel
theorem d9 : decode yB 9 = .ok (.invokestatic 115, 3) := by decide +kernel
theorem d12 : decode yB 12 = .ok (.istore 4, 2) := by decide +kernel
theorem d14 : decode yB 14 = .ok (.iload 4, 2) := by decide +kernel
theorem d16 : decode yB 16 = .ok (.iload_n 2, 1) := by decide +kernel
theorem d17 : decode yB 17 = .ok (.if_icmp (.eq) 40, 3) := by decide +kernel
theorem d57 : decode yB 57 = .ok (.aload_n 3, 1) := by decide +kernel
theorem d58 : decode yB 58 = .ok (.areturn, 1) := by decide +kernel
def site : List Cond := [.arrayClass .byte, Cmp5.tab] ++ staticW U16 115 Cmp5.yN
def tab : Cond := tabOf yN yB 6 (some (.array .byte)) site
def P (b : Addr) (A : Cell) (o len : Nat) (args : Array Value) (s : State) : Prop := args = #[.ref b, .int (Int32.ofNat o), .int (Int32.ofNat len)] ∧ Ch b A s ∧ o + len ≤ A.slots.size ∧ len ≤ 536870912 ∧ ∀ i, i < len → ¬ 255 < cv A (o + i)
def E (b : Addr) (A : Cell) (o len : Nat) (r : Option Value) (s u : State) : Prop := NewArr .byte "[B" len (fun j => .int (lo8 (cv A (o + j)))) r s u ∧ u.heap.size = s.heap.size + 1
/-- no char of the range above 255: a new byte[] of their low bytes -/
theorem law (l : Launch) (b : Addr) (A : Cell) (o len : Nat) : Law l yN 3 3 1 18 yB 6 (some (.array .byte)) site (P b A o len) (E b A o len) [] 1 len := by
  refine Law.of_walk (plainFor_of_name (by decide +kernel)) (by decide +kernel) (by decide +kernel) (by decide) (fun _ _ h => by rw [h.1]; rfl) (fun _ U U' hal hh h => ⟨h.1, h.2.1.mv hal hh, h.2.2⟩) (fun r U U' V V' h1 hal h2 h => ⟨NewArr.mv r U U' V V' h1 hal h2 h.1, by rw [h1, h2]; exact h.2⟩) ?_
  intro p e s m args below meth c s₁ X0 hexec hbytes hml hret hlk hnm hown hh0 W hP
  obtain ⟨rfl, hA, l1, l2, hp⟩ := hP
  have a31 := hA.1.2.2.2
  have c1 : Steps p.tables e below (s₁.setTop (entryFrame m #[.ref b, .int (Int32.ofNat o), .int (Int32.ofNat len)] 6)) (s₁.setTop (mkF m 0 #[.val (.ref b), .val (.int (Int32.ofNat o)), .val (.int (Int32.ofNat len)), .unset, .unset, .unset] [])) := entry rfl
  have c2 : Steps p.tables e below (s₁.setTop (entryFrame m #[.ref b, .int (Int32.ofNat o), .int (Int32.ofNat len)] 6)) (s₁.setTop (mkF m 1 #[.val (.ref b), .val (.int (Int32.ofNat o)), .val (.int (Int32.ofNat len)), .unset, .unset, .unset] [.int (Int32.ofNat len)])) := c1.trans (by
    refine XS.iloadN X0.here hexec rfl (hb hbytes d0) rfl ?_
    exact Steps.refl _)
  obtain ⟨T3, B3, X3, ba3, bs3, bv3, bh3, bf3, st3⟩ := X0.anew hexec (atype := .byte) (wk W (.arrayClass .byte)) rfl (by show len * 1 ≤ _; omega) (by omega) (g := (mkF m 1 #[.val (.ref b), .val (.int (Int32.ofNat o)), .val (.int (Int32.ofNat len)), .unset, .unset, .unset] [.int (Int32.ofNat len)])) rfl (hb hbytes d1) (rest := []) rfl (Nat.le_refl _) (by show 0 + len ≤ len; omega)
  rw [hh0] at ba3 st3
  have kp3 : XT.Kept s T3 := (XT.Kept.of_eq hh0).push bh3
  have hA3 := hA.keep X3.warmed.alike (kp3 _ _ hA.1.1)
  have hne : b ≠ s.heap.size := hA.1.ne
  have c4 : Steps p.tables e below (s₁.setTop (entryFrame m #[.ref b, .int (Int32.ofNat o), .int (Int32.ofNat len)] 6)) (T3.setTop (mkF m 3 #[.val (.ref b), .val (.int (Int32.ofNat o)), .val (.int (Int32.ofNat len)), .unset, .unset, .unset] [.ref s.heap.size])) := c2.trans (st3 _ (Steps.refl _))
  have c5 : Steps p.tables e below (s₁.setTop (entryFrame m #[.ref b, .int (Int32.ofNat o), .int (Int32.ofNat len)] 6)) (T3.setTop (mkF m 9 #[.val (.ref b), .val (.int (Int32.ofNat o)), .val (.int (Int32.ofNat len)), .val (.ref s.heap.size), .unset, .unset] [.int (Int32.ofNat len), .int 0, .ref s.heap.size, .int (Int32.ofNat o), .ref b])) := c4.trans (by
    refine XS.astoreN X3.here hexec rfl (hb hbytes d3) rfl rfl rfl ?_
    refine XS.aloadN X3.here hexec rfl (hb hbytes d4) rfl rfl ?_
    refine XS.iloadN X3.here hexec rfl (hb hbytes d5) rfl ?_
    refine XS.aloadN X3.here hexec rfl (hb hbytes d6) rfl rfl ?_
    refine iconstV X3.here hexec rfl 0 (hb hbytes d7) (by decide) ?_
    refine XS.iloadN X3.here hexec rfl (hb hbytes d8) rfl ?_
    exact Steps.refl _)
  obtain ⟨v6, T6, X6, E6, g6⟩ := X3.callS hexec (Cmp5.law l b A s.heap.size B3 o 0 len) hown (wks W (staticW U16 115 Cmp5.yN)) (wk W Cmp5.tab) (W := 0) (Nat.le_of_ble_eq_true rfl) (Nat.le_of_ble_eq_true rfl) (Nat.le_refl _) (by show 0 + len + 0 ≤ len; omega) (g := (mkF m 9 #[.val (.ref b), .val (.int (Int32.ofNat o)), .val (.int (Int32.ofNat len)), .val (.ref s.heap.size), .unset, .unset] [.int (Int32.ofNat len), .int (Int32.ofNat 0), .ref s.heap.size, .int (Int32.ofNat o), .ref b])) rfl (by rw [hml]; rfl) c5 (argsL := [.ref b, .int (Int32.ofNat o), .ref s.heap.size, .int (Int32.ofNat 0), .int (Int32.ofNat len)]) (rest := []) rfl rfl (by show 2 * 0 + 0 ≤ _; decide) (hb hbytes d9) (⟨rfl, hA3, ba3, hne, l1, by rw [bs3]; simp, hp⟩)
  obtain ⟨rfl, B6, p6, f6⟩ := E6
  have c7 : Steps p.tables e below (s₁.setTop (entryFrame m #[.ref b, .int (Int32.ofNat o), .int (Int32.ofNat len)] 6)) (T6.setTop (mkF m 12 #[.val (.ref b), .val (.int (Int32.ofNat o)), .val (.int (Int32.ofNat len)), .val (.ref s.heap.size), .unset, .unset] [.int (Int32.ofNat len)])) := g6
  have c8 : Steps p.tables e below (s₁.setTop (entryFrame m #[.ref b, .int (Int32.ofNat o), .int (Int32.ofNat len)] 6)) (T6.setTop (mkF m 58 #[.val (.ref b), .val (.int (Int32.ofNat o)), .val (.int (Int32.ofNat len)), .val (.ref s.heap.size), .val (.int (Int32.ofNat len)), .unset] [.ref s.heap.size])) := c7.trans (by
    refine XS.istore X6.here hexec rfl (hb hbytes d12) rfl rfl ?_
    refine XS.iload X6.here hexec rfl (hb hbytes d14) rfl ?_
    refine XS.iloadN X6.here hexec rfl (hb hbytes d16) rfl ?_
    refine XS.icmpYes X6.here hexec rfl (pc0 := 17) rfl (hb hbytes d17) rfl (ii_eq_t rfl) (by decide) rfl ?_
    refine XS.aloadN X6.here hexec rfl (hb hbytes d57) rfl rfl ?_
    exact Steps.refl _)
  have X8 := X6.wide (L' := []) (cells' := 1) (slots' := len) (fun x hx hlt => by
    simp only [List.nil_append, copyLocs, List.mem_map, List.mem_range] at hx
    obtain ⟨i, -, rfl⟩ := hx
    exact absurd hlt (Nat.lt_irrefl _)) (Nat.le_refl _) (by omega)
  exact ⟨T6, some (.ref s.heap.size), _, _, _, X8, rfl, rfl, rfl, (fun h => by cases h), ⟨⟨rfl, B6, ba3.like (X3.warmed.alike.symm.trans X6.warmed.alike) p6.1 f6.1 f6.2.1 f6.2.2.1, f6.2.1.trans bv3, by rw [X6.warmed.alike.findClass, f6.1]; exact bf3, by rw [f6.2.2.1, bs3]; simp, fun j hj => by rw [f6.2.2.2 j, if_pos (by omega)]; rfl, kp3.put p6 (Nat.le_refl _)⟩, by rw [p6.2.2, bh3, hh0]; simp⟩, fun fs hl => c8.trans (X8.areturnOut hexec rfl hret rfl (hb hbytes d58) hl)⟩
end Cmp3
namespace CodL
def yN : MethodName := ⟨"java/lang/StringUTF16", "coderFromArrayLen", "([BI)B"⟩
abbrev yB : ByteArray := jdk_52_method_15_code
theorem d0 : decode yB 0 = .ok (.iload_n 1, 1) := by decide +kernel
theorem d1 : decode yB 1 = .ok (.aload_n 0, 1) := by decide +kernel
theorem d2 : decode yB 2 = .ok (.arraylength, 1) := by decide +kernel
theorem d3 : decode yB 3 = .ok (.isub, 1) := by decide +kernel
theorem d4 : decode yB 4 = .ok (.bipush 31, 2) := by decide +kernel
theorem d6 : decode yB 6 = .ok (.iushr, 1) := by decide +kernel
theorem d7 : decode yB 7 = .ok (.i2b, 1) := by decide +kernel
theorem d8 : decode yB 8 = .ok (.ireturn, 1) := by decide +kernel
def site : List Cond := []
def tab : Cond := tabOf yN yB 2 (some .byte) site
def P (d : Addr) (B : Cell) (args : Array Value) (s : State) : Prop := args = #[.ref d, .int (Int32.ofNat B.slots.size)] ∧ Arr .byte d B s
def E (r : Option Value) (s u : State) : Prop := XT.PureE (some (.int 0)) r s u
/-- an array as long as the number of chars: LATIN1 -/
theorem law (l : Launch) (d : Addr) (B : Cell) : Law l yN 2 2 0 0 yB 2 (some .byte) site (P d B) E [] 0 0 := by
  refine Law.of_walk (plainFor_of_name (by decide +kernel)) (by decide +kernel) (by decide +kernel) (by decide) (fun _ _ h => by rw [h.1]; rfl) (fun _ U U' hal hh h => ⟨h.1, h.2.mv hal hh⟩) (fun r U U' V V' h1 hal h2 h => XT.PureE.mv r U U' V V' h1 hal h2 h) ?_
  intro p e s m args below meth c s₁ X0 hexec hbytes hml hret hlk hnm hown hh0 W hP
  obtain ⟨rfl, hB⟩ := hP
  have hB0 := hB.mv X0.warmed.alike hh0
  have c1 : Steps p.tables e below (s₁.setTop (entryFrame m #[.ref d, .int (Int32.ofNat B.slots.size)] 2)) (s₁.setTop (mkF m 0 #[.val (.ref d), .val (.int (Int32.ofNat B.slots.size))] [])) := entry rfl
  have c2 : Steps p.tables e below (s₁.setTop (entryFrame m #[.ref d, .int (Int32.ofNat B.slots.size)] 2)) (s₁.setTop (mkF m 2 #[.val (.ref d), .val (.int (Int32.ofNat B.slots.size))] [.ref d, .int (Int32.ofNat B.slots.size)])) := c1.trans (by
    refine XS.iloadN X0.here hexec rfl (hb hbytes d0) rfl ?_
    refine XS.aloadN X0.here hexec rfl (hb hbytes d1) rfl rfl ?_
    exact Steps.refl _)
  have c3 : Steps p.tables e below (s₁.setTop (entryFrame m #[.ref d, .int (Int32.ofNat B.slots.size)] 2)) (s₁.setTop (mkF m 8 #[.val (.ref d), .val (.int (Int32.ofNat B.slots.size))] [.int (lo8 (ushr (Int32.ofNat B.slots.size - Int32.ofNat B.slots.size) 31))])) := c2.trans (by
    refine X0.alen hexec hB0 rfl rfl (hb hbytes d2) ?_
    refine XS.isub X0.here hexec rfl (hb hbytes d3) rfl ?_
    refine bipushV X0.here hexec rfl 31 (hb hbytes d4) (by decide) ?_
    refine iushr X0.here hexec rfl (hb hbytes d6) rfl ?_
    refine i2b X0.here hexec rfl (hb hbytes d7) rfl ?_
    exact Steps.refl _)
  have e0 : lo8 (ushr (Int32.ofNat B.slots.size - Int32.ofNat B.slots.size) 31) = 0 := by rw [Int32.sub_self]; decide
  rw [e0] at c3
  exact ⟨s₁, some (.int 0), _, _, _, X0, rfl, rfl, rfl, (fun h => by cases h), ⟨rfl, hh0⟩, fun fs hl => c3.trans (X0.ireturnOut hexec hret rfl (Or.inr (Or.inr (Or.inl rfl))) (hb hbytes d8) hl)⟩
end CodL
/-- the String at a is Latin-1 over a new byte[] (the heap's one new cell): the low bytes of the len chars of A from o on; every cell but a is kept -/
def Got (a : Addr) (D : Cell) (fV fC : Field) (A : Cell) (o len : Nat) (r : Option Value) (s u : State) : Prop := r = none ∧ ∃ D' V : Cell, Blank "java/lang/String" a D' u ∧ Same D D' [fV.slot, fC.slot] ∧ D'.slots[fV.slot]? = some (.ref s.heap.size) ∧ D'.slots[fC.slot]? = some (.int 0) ∧ Arr .byte s.heap.size V u ∧ V.vm = .none ∧ u.vm.findClass "[B" = some V.cls ∧ V.slots.size = len ∧ (∀ j, j < len → V.slots[j]? = some (.int (lo8 (cv A (o + j))))) ∧ (∀ (y : Addr) (c : Cell), y ≠ a → s.heap[y]? = some c → u.heap[y]? = some c) ∧ u.heap.size = s.heap.size + 1
theorem Got.mv {a : Addr} {D A : Cell} {fV fC : Field} {o len : Nat} : ∀ r (U U' V V' : State), U'.heap = U.heap → V.vm.Alike V'.vm → V'.heap = V.heap → Got a D fV fC A o len r U V → Got a D fV fC A o len r U' V' :=
  fun r U U' V V' h1 hal h2 ⟨e0, D', X, a1, a2, a3, a4, a5, a6, a7, a8, a9, a10, a11⟩ => ⟨e0, D', X, a1.mv hal h2, a2, by rw [h1]; exact a3, a4, by rw [h1]; exact a5.mv hal h2, a6, by rw [hal.findClass]; exact a7, a8, a9, by rw [h1, h2]; exact a10, by rw [h1, h2]; exact a11⟩
namespace New4
def yN : MethodName := ⟨"java/lang/String", "<init>", "([CIILjava/lang/Void;)V"⟩
abbrev yB : ByteArray := jdk_42_method_149_code
theorem d0 : decode yB 0 = .ok (.aload_n 0, 1) := by decide +kernel
theorem d1 : decode yB 1 = .ok (.invokespecial 1, 3) := by decide +kernel
theorem d4 : decode yB 4 = .ok (.iload_n 3, 1) := by decide +kernel
theorem d5 : decode yB 5 = .ok (.ifCond (.ne) 22, 3) := by decide +kernel
theorem d27 : decode yB 27 = .ok (.getstatic 38, 3) := by decide +kernel
theorem d30 : decode yB 30 = .ok (.ifCond (.eq) 28, 3) := by decide +kernel
theorem d33 : decode yB 33 = .ok (.aload_n 1, 1) := by decide +kernel
theorem d34 : decode yB 34 = .ok (.iload_n 2, 1) := by decide +kernel
theorem d35 : decode yB 35 = .ok (.iload_n 3, 1) := by decide +kernel
theorem d36 : decode yB 36 = .ok (.invokestatic 177, 3) := by decide +kernel
theorem d39 : decode yB 39 = .ok (.astore 5, 2) := by decide +kernel
theorem d41 : decode yB 41 = .ok (.aload_n 0, 1) := by decide +kernel
theorem d42 : decode yB 42 = .ok (.aload 5, 2) := by decide +kernel
theorem d44 : decode yB 44 = .ok (.iload_n 3, 1) := by decide +kernel
theorem d45 : decode yB 45 = .ok (.invokestatic 47, 3) := by decide +kernel
theorem d48 : decode yB 48 = .ok (.putfield 15, 3) := by decide +kernel
theorem d51 : decode yB 51 = .ok (.aload_n 0, 1) := by decide +kernel
theorem d52 : decode yB 52 = .ok (.aload 5, 2) := by decide +kernel
theorem d54 : decode yB 54 = .ok (.putfield 9, 3) := by decide +kernel
theorem d57 : decode yB 57 = .ok (.return_, 1) := by decide +kernel
def site : List Cond := [.fieldLink "java/lang/String" 38 "java/lang/String" "COMPACT_STRINGS" "Z", Cmp3.tab, CodL.tab, .laysFinal "java/lang/String" "java/lang/String" "value" "[B", .fieldLink "java/lang/String" 9 "java/lang/String" "value" "[B", .laysFinal "java/lang/String" "java/lang/String" "coder" "B", .fieldLink "java/lang/String" 15 "java/lang/String" "coder" "B"] ++ objW "java/lang/String" 1 ++ staticW "java/lang/String" 177 Cmp3.yN ++ staticW "java/lang/String" 47 CodL.yN
def tab : Cond := tabOf yN yB 6 none site
def P (a : Addr) (D : Cell) (fV fC : Field) (b : Addr) (A : Cell) (z : Int32) (o len : Nat) (args : Array Value) (s : State) : Prop := args = #[.ref a, .ref b, .int (Int32.ofNat o), .int (Int32.ofNat len), .null] ∧ Blank "java/lang/String" a D s ∧ Found "java/lang/String" "value" "[B" fV s ∧ Found "java/lang/String" "coder" "B" fC s ∧ Ch b A s ∧ StaticIs s "java/lang/String" "COMPACT_STRINGS" "Z" (.int z) ∧ ¬ z = 0 ∧ 0 < len ∧ o + len ≤ A.slots.size ∧ len ≤ 536870912 ∧ ∀ i, i < len → ¬ 255 < cv A (o + i)
def E (a : Addr) (D : Cell) (fV fC : Field) (A : Cell) (o len : Nat) (r : Option Value) (s u : State) : Prop := Got a D fV fC A o len r s u
/-- len > 0, no char of the range above 255: a Latin-1 String of their low bytes -/
theorem law (l : Launch) (a : Addr) (D : Cell) (fV fC : Field) (b : Addr) (A : Cell) (z : Int32) (o len : Nat) : Law l yN 5 4 2 35 yB 6 none site (P a D fV fC b A z o len) (E a D fV fC A o len) [⟨a, fC.slot⟩, ⟨a, fV.slot⟩] 1 len := by
  refine Law.of_walk (plainFor_of_name (by decide +kernel)) (by decide +kernel) (by decide +kernel) (by decide) (fun _ _ h => by rw [h.1]; rfl) (fun _ U U' hal hh h => ⟨h.1, h.2.1.mv hal hh, h.2.2.1.al hal, h.2.2.2.1.al hal, h.2.2.2.2.1.mv hal hh, h.2.2.2.2.2.1.there hal hh, h.2.2.2.2.2.2⟩) (fun r U U' V V' h1 hal h2 h => Got.mv r U U' V V' h1 hal h2 h) ?_
  intro p e s m args below meth c s₁ X0 hexec hbytes hml hret hlk hnm hown hh0 W hP
  obtain ⟨rfl, hB, f1, f2, hA, s1, hz, l0, l1, l2, hp⟩ := hP
  have a31 := hA.1.2.2.2
  have c1 : Steps p.tables e below (s₁.setTop (entryFrame m #[.ref a, .ref b, .int (Int32.ofNat o), .int (Int32.ofNat len), .null] 6)) (s₁.setTop (mkF m 0 #[.val (.ref a), .val (.ref b), .val (.int (Int32.ofNat o)), .val (.int (Int32.ofNat len)), .val .null, .unset] [])) := entry rfl
  have c2 : Steps p.tables e below (s₁.setTop (entryFrame m #[.ref a, .ref b, .int (Int32.ofNat o), .int (Int32.ofNat len), .null] 6)) (s₁.setTop (mkF m 1 #[.val (.ref a), .val (.ref b), .val (.int (Int32.ofNat o)), .val (.int (Int32.ofNat len)), .val .null, .unset] [.ref a])) := c1.trans (by
    refine XS.aloadN X0.here hexec rfl (hb hbytes d0) rfl rfl ?_
    exact Steps.refl _)
  obtain ⟨T3, X3, q3, st3⟩ := X0.oinit hexec hown (wks W (objW "java/lang/String" 1)) (g := (mkF m 1 #[.val (.ref a), .val (.ref b), .val (.int (Int32.ofNat o)), .val (.int (Int32.ofNat len)), .val .null, .unset] [.ref a])) rfl (by rw [hml]; rfl) (rest := []) rfl (hb hbytes d1) (W := 0) (by show 2 * 0 + 0 ≤ _; decide) (Nat.le_of_ble_eq_true rfl) (Nat.le_of_ble_eq_true rfl)
  have hh3 := q3.trans hh0
  have c4 : Steps p.tables e below (s₁.setTop (entryFrame m #[.ref a, .ref b, .int (Int32.ofNat o), .int (Int32.ofNat len), .null] 6)) (T3.setTop (mkF m 27 #[.val (.ref a), .val (.ref b), .val (.int (Int32.ofNat o)), .val (.int (Int32.ofNat len)), .val .null, .unset] [])) := (c2.trans (st3 _ (Steps.refl _))).trans (by
    refine XS.iloadN X3.here hexec rfl (hb hbytes d4) rfl ?_
    refine XS.ifYes X3.here hexec rfl (pc0 := 5) rfl (hb hbytes d5) rfl (i0_ne_t (nz32 (by omega) l0)) (by decide) rfl ?_
    exact Steps.refl _)
  obtain ⟨T5, X5, q5, st5⟩ := X3.sget hexec hown (wk W (.fieldLink "java/lang/String" 38 "java/lang/String" "COMPACT_STRINGS" "Z")) s1 (fun _ _ h => by rw [hh3]; exact h) (g := (mkF m 27 #[.val (.ref a), .val (.ref b), .val (.int (Int32.ofNat o)), .val (.int (Int32.ofNat len)), .val .null, .unset] [])) rfl (hb hbytes d27)
  have hh5 := q5.trans hh3
  have c6 : Steps p.tables e below (s₁.setTop (entryFrame m #[.ref a, .ref b, .int (Int32.ofNat o), .int (Int32.ofNat len), .null] 6)) (T5.setTop (mkF m 30 #[.val (.ref a), .val (.ref b), .val (.int (Int32.ofNat o)), .val (.int (Int32.ofNat len)), .val .null, .unset] [.int z])) := c4.trans (st5 _ (Steps.refl _))
  have c7 : Steps p.tables e below (s₁.setTop (entryFrame m #[.ref a, .ref b, .int (Int32.ofNat o), .int (Int32.ofNat len), .null] 6)) (T5.setTop (mkF m 36 #[.val (.ref a), .val (.ref b), .val (.int (Int32.ofNat o)), .val (.int (Int32.ofNat len)), .val .null, .unset] [.int (Int32.ofNat len), .int (Int32.ofNat o), .ref b])) := c6.trans (by
    refine XS.ifNo X5.here hexec rfl (hb hbytes d30) rfl (i0_eq_f hz) ?_
    refine XS.aloadN X5.here hexec rfl (hb hbytes d33) rfl rfl ?_
    refine XS.iloadN X5.here hexec rfl (hb hbytes d34) rfl ?_
    refine XS.iloadN X5.here hexec rfl (hb hbytes d35) rfl ?_
    exact Steps.refl _)
  obtain ⟨v8, T8, X8, E8, g8⟩ := X5.callS hexec (Cmp3.law l b A o len) hown (wks W (staticW "java/lang/String" 177 Cmp3.yN)) (wk W Cmp3.tab) (W := 0) (Nat.le_of_ble_eq_true rfl) (Nat.le_of_ble_eq_true rfl) (Nat.le_refl _) (by show 0 + len ≤ len; omega) (g := (mkF m 36 #[.val (.ref a), .val (.ref b), .val (.int (Int32.ofNat o)), .val (.int (Int32.ofNat len)), .val .null, .unset] [.int (Int32.ofNat len), .int (Int32.ofNat o), .ref b])) rfl (by rw [hml]; rfl) c7 (argsL := [.ref b, .int (Int32.ofNat o), .int (Int32.ofNat len)]) (rest := []) rfl rfl (by show 2 * 0 + 0 ≤ _; decide) (hb hbytes d36) (⟨rfl, hA.mv X5.warmed.alike hh5, l1, l2, hp⟩)
  obtain ⟨e8, z8⟩ := E8
  obtain ⟨rfl, N, n1, n2, n3, n4, n5, n6⟩ := NewArr.mv _ T5 s _ _ hh5.symm (Vm.Alike.refl _) rfl e8
  rw [hh5] at z8
  have hB1 := hB.keep X8.warmed.alike (n6 _ _ hB.1)
  have hne : s.heap.size ≠ a := (Nat.ne_of_lt (Array.getElem?_eq_some_iff.mp hB.1).1).symm
  have c9 : Steps p.tables e below (s₁.setTop (entryFrame m #[.ref a, .ref b, .int (Int32.ofNat o), .int (Int32.ofNat len), .null] 6)) (T8.setTop (mkF m 39 #[.val (.ref a), .val (.ref b), .val (.int (Int32.ofNat o)), .val (.int (Int32.ofNat len)), .val .null, .unset] [.ref s.heap.size])) := g8
  have c10 : Steps p.tables e below (s₁.setTop (entryFrame m #[.ref a, .ref b, .int (Int32.ofNat o), .int (Int32.ofNat len), .null] 6)) (T8.setTop (mkF m 45 #[.val (.ref a), .val (.ref b), .val (.int (Int32.ofNat o)), .val (.int (Int32.ofNat len)), .val .null, .val (.ref s.heap.size)] [.int (Int32.ofNat N.slots.size), .ref s.heap.size, .ref a])) := by
    have hc : Steps p.tables e below (s₁.setTop (entryFrame m #[.ref a, .ref b, .int (Int32.ofNat o), .int (Int32.ofNat len), .null] 6)) (T8.setTop (mkF m 45 #[.val (.ref a), .val (.ref b), .val (.int (Int32.ofNat o)), .val (.int (Int32.ofNat len)), .val .null, .val (.ref s.heap.size)] [.int (Int32.ofNat len), .ref s.heap.size, .ref a])) := c9.trans (by
      refine XS.astore X8.here hexec rfl (hb hbytes d39) rfl rfl rfl ?_
      refine XS.aloadN X8.here hexec rfl (hb hbytes d41) rfl rfl ?_
      refine XS.aload X8.here hexec rfl (hb hbytes d42) rfl rfl ?_
      refine XS.iloadN X8.here hexec rfl (hb hbytes d44) rfl ?_
      exact Steps.refl _)
    rw [n4]; exact hc
  obtain ⟨v11, T11, X11, E11, g11⟩ := X8.callS hexec (CodL.law l s.heap.size N) hown (wks W (staticW "java/lang/String" 47 CodL.yN)) (wk W CodL.tab) (W := 1) (Nat.le_of_ble_eq_true rfl) (Nat.le_of_ble_eq_true rfl) (Nat.le_refl _) (by show 0 + len + 0 ≤ len; omega) (g := (mkF m 45 #[.val (.ref a), .val (.ref b), .val (.int (Int32.ofNat o)), .val (.int (Int32.ofNat len)), .val .null, .val (.ref s.heap.size)] [.int (Int32.ofNat N.slots.size), .ref s.heap.size, .ref a])) rfl (by rw [hml]; rfl) c10 (argsL := [.ref s.heap.size, .int (Int32.ofNat N.slots.size)]) (rest := [.ref a]) rfl rfl (by show 2 * 0 + (1 + 0) ≤ _; decide) (hb hbytes d45) (⟨rfl, n1⟩)
  obtain ⟨rfl, q11⟩ := E11
  have hB11 := hB1.mv (X8.warmed.alike.symm.trans X11.warmed.alike) q11
  have c12 : Steps p.tables e below (s₁.setTop (entryFrame m #[.ref a, .ref b, .int (Int32.ofNat o), .int (Int32.ofNat len), .null] 6)) (T11.setTop (mkF m 48 #[.val (.ref a), .val (.ref b), .val (.int (Int32.ofNat o)), .val (.int (Int32.ofNat len)), .val .null, .val (.ref s.heap.size)] [.int 0, .ref a])) := g11
  obtain ⟨T13, X13, p13, bl13, sl13, st13⟩ := X11.finit hexec hown (wk W (.fieldLink "java/lang/String" 15 "java/lang/String" "coder" "B")) (Or.inr ⟨_, (wk W (.laysFinal "java/lang/String" "java/lang/String" "coder" "B"))⟩) (Or.inl ⟨rfl, hnm⟩) f2 (Or.inl rfl) hB11 (t := .byte) (by decide +kernel) rfl (g := (mkF m 48 #[.val (.ref a), .val (.ref b), .val (.int (Int32.ofNat o)), .val (.int (Int32.ofNat len)), .val .null, .val (.ref s.heap.size)] [.int 0, .ref a])) rfl (rest := []) rfl (hb hbytes d48)
  have c14 : Steps p.tables e below (s₁.setTop (entryFrame m #[.ref a, .ref b, .int (Int32.ofNat o), .int (Int32.ofNat len), .null] 6)) (T13.setTop (mkF m 54 #[.val (.ref a), .val (.ref b), .val (.int (Int32.ofNat o)), .val (.int (Int32.ofNat len)), .val .null, .val (.ref s.heap.size)] [.ref s.heap.size, .ref a])) := (c12.trans (st13 _ (Steps.refl _))).trans (by
    refine XS.aloadN X13.here hexec rfl (hb hbytes d51) rfl rfl ?_
    refine XS.aload X13.here hexec rfl (hb hbytes d52) rfl rfl ?_
    exact Steps.refl _)
  obtain ⟨T15, X15, p15, bl15, sl15, st15⟩ := X13.finit hexec hown (wk W (.fieldLink "java/lang/String" 9 "java/lang/String" "value" "[B")) (Or.inr ⟨_, (wk W (.laysFinal "java/lang/String" "java/lang/String" "value" "[B"))⟩) (Or.inl ⟨rfl, hnm⟩) f1 (Or.inl rfl) bl13 (t := (.array .byte)) (by decide +kernel) rfl (g := (mkF m 54 #[.val (.ref a), .val (.ref b), .val (.int (Int32.ofNat o)), .val (.int (Int32.ofNat len)), .val .null, .val (.ref s.heap.size)] [.ref s.heap.size, .ref a])) rfl (rest := []) rfl (hb hbytes d54)
  have c16 : Steps p.tables e below (s₁.setTop (entryFrame m #[.ref a, .ref b, .int (Int32.ofNat o), .int (Int32.ofNat len), .null] 6)) (T15.setTop (mkF m 57 #[.val (.ref a), .val (.ref b), .val (.int (Int32.ofNat o)), .val (.int (Int32.ofNat len)), .val .null, .val (.ref s.heap.size)] [])) := c14.trans (st15 _ (Steps.refl _))
  have ap := apart (Or.inr ⟨_, (wk W (.laysFinal "java/lang/String" "java/lang/String" "value" "[B"))⟩) (Or.inr ⟨_, (wk W (.laysFinal "java/lang/String" "java/lang/String" "coder" "B"))⟩) f1 f2 (t₁ := .array .byte) (t₂ := .byte) (by decide +kernel) (by decide +kernel) (by decide)
  have al := X8.warmed.alike.symm.trans X15.warmed.alike
  have n7 : T11.heap[s.heap.size]? = some N := by rw [q11]; exact n1.1
  exact ⟨T15, none, _, _, _, X15, by simp, rfl, by omega, (fun _ => rfl), ⟨rfl, _, N, bl15, ((Same.refl D _).set _ (by simp)).set _ (by simp), sl15, (Cell.slots_setSlot_ne _ ap).trans sl13, n1.keep al (p15.other hne (p13.other hne n7)), n2, by rw [al.findClass]; exact n3, n4, n5, fun y c h1 h2 => p15.other h1 (p13.other h1 (by rw [q11]; exact n6 y c h2)), by rw [p15.2.2, p13.2.2, q11]; exact z8⟩, fun fs hl => c16.trans (X15.returnOut hexec hret (hb hbytes d57) hl)⟩
end New4
namespace New1
def yN : MethodName := ⟨"java/lang/String", "<init>", "([C)V"⟩
abbrev yB : ByteArray := jdk_42_method_3_code
theorem d0 : decode yB 0 = .ok (.aload_n 0, 1) := by decide +kernel
theorem d1 : decode yB 1 = .ok (.aload_n 1, 1) := by decide +kernel
theorem d2 : decode yB 2 = .ok (.iconst 0, 1) := by decide +kernel
theorem d3 : decode yB 3 = .ok (.aload_n 1, 1) := by decide +kernel
theorem d4 : decode yB 4 = .ok (.arraylength, 1) := by decide +kernel
theorem d5 : decode yB 5 = .ok (.aconst_null, 1) := by decide +kernel
theorem d6 : decode yB 6 = .ok (.invokespecial 27, 3) := by decide +kernel
theorem d9 : decode yB 9 = .ok (.return_, 1) := by decide +kernel
def site : List Cond := [New4.tab] ++ initW "java/lang/String" 27 New4.yN
def tab : Cond := tabOf yN yB 2 none site
def P (a : Addr) (D : Cell) (fV fC : Field) (b : Addr) (A : Cell) (z : Int32) (args : Array Value) (s : State) : Prop := args = #[.ref a, .ref b] ∧ Blank "java/lang/String" a D s ∧ Found "java/lang/String" "value" "[B" fV s ∧ Found "java/lang/String" "coder" "B" fC s ∧ Ch b A s ∧ StaticIs s "java/lang/String" "COMPACT_STRINGS" "Z" (.int z) ∧ ¬ z = 0 ∧ 0 < A.slots.size ∧ A.slots.size ≤ 536870912 ∧ ∀ i, i < A.slots.size → ¬ 255 < cv A i
def E (a : Addr) (D : Cell) (fV fC : Field) (A : Cell) (r : Option Value) (s u : State) : Prop := Got a D fV fC A 0 A.slots.size r s u
/-- new String(chars), not empty, no char above 255: a Latin-1 String of their low bytes -/
theorem law (l : Launch) (a : Addr) (D : Cell) (fV fC : Field) (b : Addr) (A : Cell) (z : Int32) : Law l yN 2 1 3 52 yB 2 none site (P a D fV fC b A z) (E a D fV fC A) [⟨a, fC.slot⟩, ⟨a, fV.slot⟩] 1 A.slots.size := by
  refine Law.of_walk (plainFor_of_name (by decide +kernel)) (by decide +kernel) (by decide +kernel) (by decide) (fun _ _ h => by rw [h.1]; rfl) (fun _ U U' hal hh h => ⟨h.1, h.2.1.mv hal hh, h.2.2.1.al hal, h.2.2.2.1.al hal, h.2.2.2.2.1.mv hal hh, h.2.2.2.2.2.1.there hal hh, h.2.2.2.2.2.2⟩) (fun r U U' V V' h1 hal h2 h => Got.mv r U U' V V' h1 hal h2 h) ?_
  intro p e s m args below meth c s₁ X0 hexec hbytes hml hret hlk hnm hown hh0 W hP
  obtain ⟨rfl, hB, f1, f2, hA, s1, hz, l0, l2, hp⟩ := hP
  have c1 : Steps p.tables e below (s₁.setTop (entryFrame m #[.ref a, .ref b] 2)) (s₁.setTop (mkF m 0 #[.val (.ref a), .val (.ref b)] [])) := entry rfl
  have c2 : Steps p.tables e below (s₁.setTop (entryFrame m #[.ref a, .ref b] 2)) (s₁.setTop (mkF m 6 #[.val (.ref a), .val (.ref b)] [.null, .int (Int32.ofNat A.slots.size), .int 0, .ref b, .ref a])) := c1.trans (by
    refine XS.aloadN X0.here hexec rfl (hb hbytes d0) rfl rfl ?_
    refine XS.aloadN X0.here hexec rfl (hb hbytes d1) rfl rfl ?_
    refine iconstV X0.here hexec rfl 0 (hb hbytes d2) (by decide) ?_
    refine XS.aloadN X0.here hexec rfl (hb hbytes d3) rfl rfl ?_
    refine X0.alen hexec (hA.1.mv X0.warmed.alike hh0) rfl rfl (hb hbytes d4) ?_
    refine XS.aconstNull X0.here hexec rfl (hb hbytes d5) ?_
    exact Steps.refl _)
  obtain ⟨v3, T3, X3, E3, g3⟩ := X0.callN hexec (New4.law l a D fV fC b A z 0 A.slots.size) rfl hown (wks W (initW "java/lang/String" 27 New4.yN)) (W New4.tab (by simp only [site, List.mem_cons, List.mem_append, true_or, or_true])) (W := 0) (Nat.le_of_ble_eq_true rfl) (Nat.le_of_ble_eq_true rfl) (Nat.le_refl _) (by show 0 + A.slots.size ≤ A.slots.size; omega) (g := (mkF m 6 #[.val (.ref a), .val (.ref b)] [.null, .int (Int32.ofNat A.slots.size), .int (Int32.ofNat 0), .ref b, .ref a])) rfl (by rw [hml]; rfl) c2 (argsL := [.ref b, .int (Int32.ofNat 0), .int (Int32.ofNat A.slots.size), .null]) (rest := []) rfl rfl (by show 2 * 0 + 0 ≤ _; decide) (hb hbytes d6) (⟨rfl, hB.mv X0.warmed.alike hh0, f1.al X0.warmed.alike, f2.al X0.warmed.alike, hA.mv X0.warmed.alike hh0, s1.there X0.warmed.alike hh0, hz, l0, by omega, l2, fun i hi => by rw [Nat.zero_add]; exact hp i hi⟩)
  have e0 := Got.mv _ s₁ s _ _ hh0.symm (Vm.Alike.refl _) rfl E3
  obtain rfl := e0.1
  have c4 : Steps p.tables e below (s₁.setTop (entryFrame m #[.ref a, .ref b] 2)) (T3.setTop (mkF m 9 #[.val (.ref a), .val (.ref b)] [])) := g3
  exact ⟨T3, none, _, _, _, X3, by simp, rfl, by omega, (fun _ => rfl), e0, fun fs hl => c4.trans (X3.returnOut hexec hret (hb hbytes d9) hl)⟩
theorem pays {l : Launch} {R : Room} {p : Program} {e : Env} {below : List Frame} {s : State} {sargs : Array Value} {len W : Nat} (a : Addr) (D : Cell) (fV fC : Field) (b : Addr) (A : Cell) (z : Int32) (htab : tab.before sargs s = true) (hfr : 4 ≤ R.frames) (hlo : W + 65 ≤ R.locals) :
    Back l R p e below s sargs yN len W (fun A₁ a₁ => A₁.cells + 1 ≤ R.cells ∧ A₁.slots + A.slots.size ≤ R.slots ∧ P a D fV fC b A z a₁ A₁.U) (fun A₁ _ v₁ B₁ => E a D fV fC A v₁ A₁.U B₁.U ∧ B₁.locs = A₁.locs ++ [⟨a, fC.slot⟩, ⟨a, fV.slot⟩] ∧ B₁.cells = A₁.cells + 1 ∧ B₁.slots = A₁.slots + A.slots.size) :=
  (law l a D fV fC b A z).pays htab hfr (by omega)
end New1
/-- the byte, read back as charAt reads it, is the char -/
theorem lo8_mask {x : Int32} (h0 : ¬ x < 0) (h1 : ¬ 255 < x) : lo8 x &&& 255 = x := by
  have t : ∀ k : Fin 256, lo8 (Int32.ofNat k.val) &&& 255 = Int32.ofNat k.val := by decide +kernel
  rw [Int32.lt_iff_toInt_lt] at h0 h1
  have e0 : (0 : Int32).toInt = 0 := rfl
  have e1 : (255 : Int32).toInt = 255 := rfl
  obtain ⟨k, hk⟩ : ∃ k : Nat, x.toInt = k := ⟨x.toInt.toNat, by omega⟩
  have hx : x = Int32.ofNat k := Int32.toInt_inj.mp (by rw [hk, Int32.toInt_ofNat_small (by omega)])
  rw [hx]
  exact t ⟨k, by omega⟩
end StrChars
namespace StrChars.Road
open Jvm Sem ClassFile Op Lib Jvm.Stand Jvm.Free Jvm.Free.XT
open Jvm.Lib.Cold (StaticIs)
abbrev ST : String := "java/lang/String"
/-- every table word that New1's law asks, flat -/
abbrev words : List Jvm.Cond := [.code New1.yN New1.yB 2 none, .initialized ST, .methodLink ST 27 New4.yN, .instanceMethod New4.yN,
  .code New4.yN New4.yB 6 none, .fieldLink ST 38 ST "COMPACT_STRINGS" "Z", .laysFinal ST ST "value" "[B", .fieldLink ST 9 ST "value" "[B", .laysFinal ST ST "coder" "B", .fieldLink ST 15 ST "coder" "B",
  .methodLink ST 1 Lib.objectInit, .instanceMethod Lib.objectInit, .code Lib.objectInit ⟨#[0xb1]⟩ 1 none, .methodLink ST 177 Cmp3.yN, .static Cmp3.yN, .methodLink ST 47 CodL.yN, .static CodL.yN,
  .code Cmp3.yN Cmp3.yB 6 (some (.array .byte)), .initialized U16, .arrayClass .byte, .methodLink U16 115 Cmp5.yN, .static Cmp5.yN, .code Cmp5.yN Cmp5.yB 7 (some .int), .code CodL.yN CodL.yB 2 (some .byte)]
theorem tab_of {a : Array Value} {s : State} (h : ∀ w ∈ words, w.before a s = true) : New1.tab.before a s = true := by
  have h5 : Cmp5.tab.before a s = true := unparts (wk h (.code Cmp5.yN Cmp5.yB 7 (some .int))) (wks h (.initialized Cmp5.yN.cls :: Cmp5.site))
  have hc : CodL.tab.before a s = true := unparts (wk h (.code CodL.yN CodL.yB 2 (some .byte))) (wks h (.initialized CodL.yN.cls :: CodL.site))
  have q5 : ∀ w ∈ Cmp5.tab :: words, w.before a s = true := fun w hw => (List.mem_cons.mp hw).elim (fun e => e ▸ h5) (h w)
  have h3 : Cmp3.tab.before a s = true := unparts (wk q5 (.code Cmp3.yN Cmp3.yB 6 (some (.array .byte)))) (wks q5 (.initialized Cmp3.yN.cls :: Cmp3.site))
  have q3 : ∀ w ∈ Cmp3.tab :: CodL.tab :: words, w.before a s = true := fun w hw => (List.mem_cons.mp hw).elim (fun e => e ▸ h3) fun hw => (List.mem_cons.mp hw).elim (fun e => e ▸ hc) (h w)
  have h4 : New4.tab.before a s = true := unparts (wk q3 (.code New4.yN New4.yB 6 none)) (wks q3 (.initialized New4.yN.cls :: New4.site))
  have q4 : ∀ w ∈ New4.tab :: words, w.before a s = true := fun w hw => (List.mem_cons.mp hw).elim (fun e => e ▸ h4) (h w)
  exact unparts (wk q4 (.code New1.yN New1.yB 2 none)) (wks q4 (.initialized New1.yN.cls :: New1.site))
/-- the words ride from the start Z to the walk's own state -/
theorem moved {Z s : State} {a0 args : Array Value} (hZ : Z.Warmed39 s.vm) (hw : ∀ d ∈ words, d.before a0 Z = true) : ∀ d ∈ words, d.before args s = true := fun d hd => by
  have q := hw d hd
  have t : ∀ d ∈ words, d = .arrayClass .byte ∨ (d.onTables && d.keepsFace) = true := by decide +kernel
  rcases t d hd with rfl | t
  · exact RoadKit.mvA hZ q
  · exact RoadKit.mv hZ q t
/-- WHAT COMES BACK, over the tables of the start Z: h the heap at the call, h' behind it -/
def Q (Z : State) (x : Addr) (A : Cell) (h : Heap) (v : Option Value) (h' : Heap) (L : List Loc) : Prop := v = none ∧ (∀ y ∈ L, y.base = x) ∧ RoadKit.Keep h h' [x] ∧ h'.size = h.size + 1 ∧ RoadKit.Exa Z h' x ST ∧ RoadKit.Fld Z h' x ST "value" "[B" (.ref h.size) ∧ RoadKit.Fld Z h' x ST "coder" "B" (.int 0) ∧
  (∃ V : Cell, RoadKit.Arr Z h' h.size V .byte ∧ V.vm = .none ∧ Z.vm.findClass "[B" = some V.cls ∧ V.slots.size = A.slots.size ∧ ∀ j, j < A.slots.size → V.slots[j]? = some (.int (lo8 (cv A j)))) ∧
  ∀ (O n d : String) (w : Value), RoadKit.Fld Z h x O n d w → RoadKit.slotOf Z O n d ≠ RoadKit.slotOf Z ST "value" "[B" → RoadKit.slotOf Z O n d ≠ RoadKit.slotOf Z ST "coder" "B" → RoadKit.Fld Z h' x O n d w
/-- **new String(chars) AT A CALL, IN THE ROAD'S FORM**: for specialBack behind newO: x the fresh String, b the char[] with the cell A -/
theorem back {p : Program} {l : Launch} {e : Env} {R : Room} {s : State} {args : Array Value} {below : List Frame} {len W : Nat} {Z : State} {a0 : Array Value} {h : Heap} (hZ : Z.Warmed39 s.vm) (hw : ∀ d ∈ words, d.before a0 Z = true) {kI : Nat} (wi : (Jvm.Cond.instantiable ST kI).before a0 Z = true)
    {x b : Addr} {A : Cell} {z : Int32} {v0 c0 : Value} (E : RoadKit.Exa Z h x ST) (V : RoadKit.Fld Z h x ST "value" "[B" v0) (C : RoadKit.Fld Z h x ST "coder" "B" c0) (K : RoadKit.Arr Z h b A .char) (hty : Typed .char A) (S : RoadKit.Sta Z h ST "COMPACT_STRINGS" "Z" (.int z)) (hz : ¬ z = 0)
    (l0 : 0 < A.slots.size) (l2 : A.slots.size ≤ 536870912) (hp : ∀ i, i < A.slots.size → ¬ 255 < cv A i) (hfr : 4 ≤ R.frames) (hlo : W + 65 ≤ R.locals) :
    Back l R p e below s args New1.yN len W (fun P a => a = #[.ref x, .ref b] ∧ P.U.heap = h ∧ P.cells + 1 ≤ R.cells ∧ P.slots + A.slots.size ≤ R.slots)
      (fun P _ v B => ∃ L, Q Z x A h v B.U.heap L ∧ B.locs = P.locs ++ L ∧ B.cells = P.cells + 1 ∧ B.slots = P.slots + A.slots.size) := by
  intro m meth c P g ig mk a X hg hsize hdg hW hn hp'
  obtain ⟨rfl, rfl, r1, r2⟩ := hp'
  have al : Z.vm.Alike P.U.vm := hZ.alike.trans X.warmed.alike
  obtain ⟨D, cfV, kV, iV, fV, hD, gV, stV, knV, obV, asV, slV⟩ := id V
  obtain ⟨D', cfC, kC, iC, fC, hD', gC, stC, -, -, asC, slC⟩ := id C
  cases hD.symm.trans hD'
  obtain ⟨D2, kD, e1, e2, e3, e4, e5⟩ := id E
  cases hD.symm.trans e1
  obtain ⟨c2, k2, i1, i2, i3, -⟩ := Cond.instantiable_spec wi
  cases e2.symm.trans i1
  cases e3.symm.trans i2
  obtain ⟨kU, u1, u2⟩ := al.2.2 _ _ e3
  have hB : Blank ST x D P.U := ⟨hD, ⟨knV, fun q hq => by rw [hq] at obV; cases obV⟩, by rw [al.findClass]; exact e2, kU, u1, by rw [u2]; exact i3, by rw [u2]; exact e5 i3⟩
  have F1 : Found ST "value" "[B" fV P.U := ⟨SBG.found_only al ⟨cfV, kV, iV, gV⟩, stV⟩
  have F2 : Found ST "coder" "B" fC P.U := ⟨SBG.found_only al ⟨cfC, kC, iC, gC⟩, stC⟩
  have hA : Ch b A P.U := ⟨⟨K.1, State.isArrayOf_alike al K.2.1, K.2.2, by omega⟩, hty⟩
  have hS : StaticIs P.U ST "COMPACT_STRINGS" "Z" (.int z) := by
    obtain ⟨cfS, iS, kS, fS, st, cS, t1, t2, t3, t4, t5, t6, t7⟩ := S
    exact StaticIs.there (s := { Z with heap := P.U.heap }) ⟨cfS, iS, kS, fS, st, cS, t1, t2, t3, t4, t5, (fun q => by rw [q] at t6; cases t6), t7⟩ al rfl
  obtain ⟨v, B, X', ⟨⟨hv, E', V', q1, q2, q3, q4, q5, q6, q7, q8, q9, q10, q11⟩, hl, hc, hs⟩, st⟩ := New1.pays x D fV fC b A z (tab_of (moved hZ hw)) hfr hlo m meth c P g ig mk _ X hg hsize hdg hW hn ⟨r1, r2, rfl, hB, F1, F2, hA, hS, hz, l0, l2, hp⟩
  have al' : Z.vm.Alike B.U.vm := hZ.alike.trans X'.warmed.alike
  have hsz : E'.slots.size = D.slots.size := by
    obtain ⟨-, -, -, kB, w1, w2, w3⟩ := q1
    obtain ⟨kB', y1, y2⟩ := al'.2.2 _ _ e3
    rw [q2.2.1] at w1
    cases w1.symm.trans y1
    rw [w3, e5 i3, y2]
  refine ⟨v, B, X', ⟨_, ⟨hv, ?_, ⟨by omega, fun y cy hy hn' => q10 y cy (by simpa using hn') hy, fun y cy hy => ?_⟩, q11, ⟨E', _, q1.1, by rw [q2.2.1]; exact e2, by rw [q2.2.1]; exact e3, by rw [q2.1]; exact obV, fun _ => by rw [hsz]; exact e5 i3⟩,
    ⟨E', cfV, kV, iV, fV, q1.1, gV, stV, by rw [q2.1]; exact knV, by rw [q2.1]; exact obV, by rw [q2.2.1]; exact asV, q3⟩, ⟨E', cfC, kC, iC, fC, q1.1, gC, stC, by rw [q2.1]; exact knV, by rw [q2.1]; exact obV, by rw [q2.2.1]; exact asC, q4⟩,
    ⟨V', ⟨q5.1, State.isArrayOf_alike al'.symm q5.2.1, q5.2.2.1⟩, q6, by rw [← al'.findClass]; exact q7, q8, fun j hj => by have := q9 j hj; rwa [Nat.zero_add] at this⟩, fun O n d w F n1 n2 => ?_⟩, hl, hc, hs⟩, st⟩
  · intro y hy
    simp only [List.mem_cons, List.not_mem_nil, or_false] at hy
    rcases hy with rfl | rfl <;> rfl
  · by_cases q : y = x
    · subst q
      cases hD.symm.trans hy
      exact ⟨E', q1.1, q2.2.1, q2.1, hsz⟩
    · exact ⟨cy, q10 y cy q hy, rfl, rfl, rfl⟩
  · obtain ⟨D3, cf, k, i, f, g1, g2, g3, g4, g5, g6, g7⟩ := F
    cases hD.symm.trans g1
    simp only [RoadKit.slotOf, g2, gV, gC, Option.map_some, Option.getD_some] at n1 n2
    exact ⟨E', cf, k, i, f, q1.1, g2, g3, by rw [q2.1]; exact g4, by rw [q2.1]; exact g5, by rw [q2.2.1]; exact g6, by rw [q2.2.2 f.slot (by simp [n1, n2])]; exact g7⟩
end StrChars.Road
namespace StrChars.Road
open Jvm Sem ClassFile Op Lib Jvm.Stand Jvm.Free Jvm.Free.XT
/-- WHAT COMES BACK, the byte[] as a list of values -/
def QA (Z : State) (x : Addr) (zn : Int32) (cs : List Int32) (h : Heap) (v : Option Value) (h' : Heap) (L : List Loc) : Prop := v = none ∧ (∀ y ∈ L, y.base = x) ∧ RoadKit.Keep h h' [x] ∧ h'.size = h.size + 1 ∧ RoadKit.Exa Z h' x ST ∧ RoadKit.Fld Z h' x ST "value" "[B" (.ref h.size) ∧ RoadKit.Fld Z h' x ST "coder" "B" (.int 0) ∧
  (∃ kb, Z.vm.findClass "[B" = some kb ∧ RoadKit.Arv Z h' h.size kb .byte zn (cs.map fun c => .int (lo8 c)) (.int 0)) ∧
  ∀ (O n d : String) (w : Value), RoadKit.Fld Z h x O n d w → RoadKit.slotOf Z O n d ≠ RoadKit.slotOf Z ST "value" "[B" → RoadKit.slotOf Z O n d ≠ RoadKit.slotOf Z ST "coder" "B" → RoadKit.Fld Z h' x O n d w
/-- **new String(chars) AT A CALL, THE ARRAYS AS LISTS**: the char[] at b holds cs, not empty, no char above 255 -/
theorem backArv {p : Program} {l : Launch} {e : Env} {R : Room} {s : State} {args : Array Value} {below : List Frame} {len W : Nat} {Z : State} {a0 : Array Value} {h : Heap} (hZ : Z.Warmed39 s.vm) (hw : ∀ d ∈ words, d.before a0 Z = true) {kI : Nat} (wi : (Jvm.Cond.instantiable ST kI).before a0 Z = true)
    {x b : Addr} {k : ClassId} {zn z : Int32} {cs : List Int32} {dv v0 c0 : Value} (E : RoadKit.Exa Z h x ST) (V : RoadKit.Fld Z h x ST "value" "[B" v0) (C : RoadKit.Fld Z h x ST "coder" "B" c0) (K : RoadKit.Arv Z h b k .char zn (cs.map Value.int) dv) (S : RoadKit.Sta Z h ST "COMPACT_STRINGS" "Z" (.int z)) (hz : ¬ z = 0)
    (hlen : zn.toNatClampNeg = cs.length) (h0 : 0 < cs.length) (hbig : cs.length ≤ 536870912) (hall : ∀ c ∈ cs, ¬ 255 < c) (hfr : 4 ≤ R.frames) (hlo : W + 65 ≤ R.locals) :
    Back l R p e below s args New1.yN len W (fun P a => a = #[.ref x, .ref b] ∧ P.U.heap = h ∧ P.cells + 1 ≤ R.cells ∧ P.slots + cs.length ≤ R.slots)
      (fun P _ v B => ∃ L, QA Z x zn cs h v B.U.heap L ∧ B.locs = P.locs ++ L ∧ B.cells = P.cells + 1 ∧ B.slots = P.slots + cs.length) := by
  obtain ⟨A, K1, K2, K3, K4, K5, K6⟩ := K
  have e : A.slots.size = cs.length := K3.trans hlen
  have hat : ∀ (i : Nat) (hi : i < cs.length), A.slots[i]? = some (.int cs[i]) := fun i hi => by rw [K5 i (by omega)]; simp [List.getD_eq_getElem?_getD, hi]
  have hcv : ∀ (i : Nat) (hi : i < cs.length), cv A i = cs[i] := fun i hi => by unfold cv; rw [hat i hi]
  have hty : Typed .char A := fun i v hv => by
    have hi : i < A.slots.size := (Array.getElem?_eq_some_iff.mp hv).1
    have q := K5 i hi
    rw [hv] at q
    rw [Option.some.inj q]
    exact K6 i hi
  refine Back.mono (back hZ hw wi E V C K1 hty S hz (by omega) (by omega) (fun i hi => by rw [hcv i (by omega)]; exact hall _ (List.getElem_mem _)) hfr hlo) (fun P a hp => ⟨hp.1, hp.2.1, hp.2.2.1, by rw [e]; exact hp.2.2.2⟩) (fun P a v B hp hq => ?_)
  obtain ⟨L, ⟨q1, q2, q3, q4, q5, q6, q7, ⟨V', v1, v2, v3, v4, v5⟩, q9⟩, hl, hc, hs⟩ := hq
  refine ⟨L, ⟨q1, q2, q3, q4, q5, q6, q7, ⟨V'.cls, v3, V', v1, rfl, by rw [v4, e, hlen], K4, fun i hi => ?_, fun i hi => ?_⟩, q9⟩, hl, hc, by rw [hs, e]⟩
  · have hi' : i < cs.length := by omega
    rw [v5 i (by omega), hcv i hi']; simp [List.getD_eq_getElem?_getD, hi']
  · have hi' : i < cs.length := by omega
    simp only [List.getD_eq_getElem?_getD, List.getElem?_map, List.getElem?_eq_getElem hi', Option.map_some, Option.getD_some]
    exact fits_lo8 _
end StrChars.Road
namespace StrChars.Road
open Jvm Sem ClassFile Op Lib Jvm.Stand Jvm.Free Jvm.Free.XT
/-- WHAT COMES BACK, in the writer's own shape -/
def QV (Z : State) (x : Addr) (N : Int32) (bs : List Int32) (h : Heap) (n0 : Nat) (v : Option Value) (h' : Heap) (L : List Loc) : Prop := v = none ∧ RoadKit.Fr n0 L ∧ RoadKit.Keep h h' [x] ∧ RoadKit.Exa Z h' x ST ∧ RoadKit.Fld Z h' x ST "coder" "B" (.int 0) ∧
  ∃ (t : Addr) (kb : ClassId), n0 ≤ t ∧ h.size ≤ t ∧ ¬ t = x ∧ RoadKit.Fld Z h' x ST "value" "[B" (.ref t) ∧ RoadKit.Arv Z h' t kb .byte N (bs.map Value.int) (.int 0)
/-- **new String(chars) AT A CALL, FOR THE WRITER**: a char[] of n known ints, each 0 to 255 -/
theorem backV {p : Program} {l : Launch} {e : Env} {R : Room} {s : State} {args : Array Value} {below : List Frame} {len W : Nat} {Z : State} {a0 : Array Value} {h : Heap} (hZ : Z.Warmed39 s.vm) (hw : ∀ d ∈ words, d.before a0 Z = true) {kI : Nat} (wi : (Jvm.Cond.instantiable ST kI).before a0 Z = true)
    {x b : Addr} {kC : ClassId} {cs bs : List Int32} {d v0 c0 : Value} {z N : Int32} {n n0 : Nat} (hx0 : n0 ≤ x) (hh0 : n0 ≤ h.size) (E : RoadKit.Exa Z h x ST) (V : RoadKit.Fld Z h x ST "value" "[B" v0) (C : RoadKit.Fld Z h x ST "coder" "B" c0) (K : RoadKit.Arv Z h b kC .char N (cs.map Value.int) d) (S : RoadKit.Sta Z h ST "COMPACT_STRINGS" "Z" (.int z)) (hz : ¬ z = 0)
    (hn : cs.length = n) (hN : N = Int32.ofNat n) (l0 : 0 < n) (l2 : n ≤ 4000) (hp : ∀ c ∈ cs, ¬ c < 0 ∧ ¬ (255 : Int32) < c) (hb : bs = cs.map (fun c => c.toInt8.toInt32)) (hfr : 4 ≤ R.frames) (hlo : W + 65 ≤ R.locals) :
    Back l R p e below s args (⟨"java/lang/String", "<init>", "([C)V"⟩ : MethodName) len W (fun P a => a = #[.ref x, .ref b] ∧ P.U.heap = h ∧ P.cells + 1 ≤ R.cells ∧ P.slots + n ≤ R.slots)
      (fun P _ v B => ∃ L, QV Z x N bs h n0 v B.U.heap L ∧ B.locs = P.locs ++ L ∧ B.cells = P.cells + 1 ∧ B.slots = P.slots + n) := by
  subst hn hN hb
  refine Back.mono (backArv hZ hw wi E V C K S hz (n32 (by omega)) l0 (by omega) (fun c hc => (hp c hc).2) hfr hlo) (fun P a hp => hp) (fun P a v B hp hq => ?_)
  obtain ⟨L, ⟨q1, q2, q3, q4, q5, q6, q7, ⟨kb, v1, v2⟩, q9⟩, hl, hc, hs⟩ := hq
  exact ⟨L, ⟨q1, fun y hy => by rw [q2 y hy]; exact hx0, q3, q5, q7, h.size, kb, hh0, Nat.le_refl _, Nat.ne_of_gt E.lt, q6, by rw [List.map_map]; exact v2⟩, hl, hc, hs⟩
end StrChars.Road
namespace StrChars
open Jvm Sem ClassFile Op Lib Jvm.Stand Jvm.Free.XT Jvm.Free.ALB Jvm.Free.JM Jvm.Free
open Jvm.Lib.Cold (StaticIs)
def hi8 (x : Int32) : Int32 := lo8 (x >>> ((8 : Int32) &&& 31))
/-- what StringUTF16.getChar makes of two bytes -/
def pairCh (u v : Int32) : Int32 := (((u &&& 255) <<< ((0 : Int32) &&& 31)) ||| ((v &&& 255) <<< ((8 : Int32) &&& 31))).toUInt32.toUInt16.toUInt32.toInt32
theorem shr0 (c : Int32) : c >>> ((0 : Int32) &&& 31) = c := by
  have e : ((0 : Int32) &&& 31) = 0 := by decide
  rw [e]
  apply Int32.toBitVec_inj.mp
  rw [Int32.toBitVec_shiftRight]
  have e1 : ((0 : Int32).toBitVec.smod 32) = 0#32 := by decide
  rw [e1, BitVec.sshiftRight_eq']
  exact BitVec.sshiftRight_zero
theorem lo8_and (x : Int32) : (lo8 x &&& 255).toBitVec.toNat = x.toBitVec.toNat % 256 := by
  have h : (lo8 x).toBitVec = (x.toBitVec.signExtend 8).signExtend 32 := by rw [lo8, Int8.toBitVec_toInt32, Int32.toBitVec_toInt8]
  rw [Int32.toBitVec_and, BitVec.toNat_and, h]
  have e : ((x.toBitVec.signExtend 8).signExtend 32).toNat % 256 = x.toBitVec.toNat % 256 := by
    rw [BitVec.toNat_signExtend]
    have hlt := x.toBitVec.isLt
    simp only [BitVec.toNat_setWidth, BitVec.toNat_signExtend]
    split <;> split <;> omega
  rw [← e]
  exact Nat.and_two_pow_sub_one_eq_mod _ 8
theorem pair_says {c : Int32} (h0 : ¬ c < 0) (h1 : ¬ 65535 < c) : pairCh (lo8 c) (hi8 c) = c := by
  rw [Int32.lt_iff_toInt_lt] at h0 h1
  have e0 : (0 : Int32).toInt = 0 := rfl
  have e1 : (65535 : Int32).toInt = 65535 := rfl
  have hc : c.toInt = c.toBitVec.toNat := by
    have := c.toBitVec.isLt
    have e : c.toInt = c.toBitVec.toInt := rfl
    rw [e] at h0 h1
    rw [e]
    rw [BitVec.toInt_eq_toNat_cond] at h0 h1 ⊢
    split at h0 <;> split <;> omega
  have hn : c.toBitVec.toNat < 65536 := by omega
  have a1 := lo8_and c
  have a2 : (hi8 c &&& 255).toBitVec.toNat = c.toBitVec.toNat / 256 := by
    rw [hi8, lo8_and]
    have e : ((8 : Int32) &&& 31) = 8 := by decide
    rw [e, Int32.toBitVec_shiftRight]
    have e2 : ((8 : Int32).toBitVec.smod 32) = 8#32 := by decide
    rw [e2, BitVec.sshiftRight_eq', BitVec.toNat_sshiftRight_of_msb_false (by rw [BitVec.msb_eq_false_iff_two_mul_lt]; omega)]
    show c.toBitVec.toNat >>> 8 % 256 = _
    rw [Nat.shiftRight_eq_div_pow]
    omega
  unfold pairCh
  apply Int32.toBitVec_inj.mp
  apply BitVec.eq_of_toNat_eq
  have f0 : ((0 : Int32) &&& 31) = 0 := by decide
  have f8 : ((8 : Int32) &&& 31) = 8 := by decide
  rw [f0, f8]
  have g : (((lo8 c &&& 255) <<< (0 : Int32)) ||| ((hi8 c &&& 255) <<< (8 : Int32))).toBitVec.toNat = c.toBitVec.toNat := by
    rw [Int32.toBitVec_or, Int32.toBitVec_shiftLeft, Int32.toBitVec_shiftLeft]
    have s0 : ((0 : Int32).toBitVec.smod 32) = 0#32 := by decide
    have s8 : ((8 : Int32).toBitVec.smod 32) = 8#32 := by decide
    rw [s0, s8, BitVec.toNat_or]
    simp only [BitVec.shiftLeft_eq', BitVec.toNat_shiftLeft, a1, a2]
    show (c.toBitVec.toNat % 256) <<< 0 % 2 ^ 32 ||| (c.toBitVec.toNat / 256) <<< 8 % 2 ^ 32 = _
    rw [Nat.shiftLeft_zero, Nat.mod_eq_of_lt (show c.toBitVec.toNat % 256 < 2 ^ 32 by omega), Nat.mod_eq_of_lt (show (c.toBitVec.toNat / 256) <<< 8 < 2 ^ 32 by rw [Nat.shiftLeft_eq]; omega), Nat.or_comm, ← Nat.shiftLeft_add_eq_or_of_lt (by omega), Nat.shiftLeft_eq]
    omega
  show BitVec.toNat (((((lo8 c &&& 255) <<< (0 : Int32)) ||| ((hi8 c &&& 255) <<< (8 : Int32))).toBitVec.setWidth 16).setWidth 32) = _
  rw [BitVec.toNat_setWidth, BitVec.toNat_setWidth, g]
  omega
end StrChars
namespace StrChars
open Jvm Sem ClassFile Op Lib Jvm.Stand Jvm.Free.XT Jvm.Free.ALB Jvm.Free.JM Jvm.Free
open Jvm.Lib.Cold (StaticIs)
/-- the array's cell V codes the n chars f 0 .. f (n - 1) by the coder cd, as the JDK does: coder 1 just where some char is above 255 -/
def Cod (cd : Int32) (n : Nat) (f : Nat → Int32) (V : Cell) : Prop := (cd = 0 ∧ V.slots.size = n ∧ ∀ j, j < n → V.slots[j]? = some (.int (lo8 (f j))) ∧ ¬ 255 < f j) ∨ (cd = 1 ∧ V.slots.size = 2 * n ∧ (∀ j, j < n → V.slots[2 * j]? = some (.int (lo8 (f j))) ∧ V.slots[2 * j + 1]? = some (.int (hi8 (f j)))) ∧ ∃ j, j < n ∧ 255 < f j)
/-- **x is a String of the n chars f 0 .. f (n - 1)**, Latin-1 or UTF-16; its array at t has the cell V -/
def Txt (x t : Addr) (V : Cell) (cd : Int32) (n : Nat) (f : Nat → Int32) (U : State) : Prop := Exact "java/lang/String" x U ∧ Has x "java/lang/String" "value" "[B" (.ref t) U ∧ Has x "java/lang/String" "coder" "B" (.int cd) U ∧ XT.Arr .byte t V U ∧ Cod cd n f V ∧ ∀ j, j < n → ¬ f j < 0 ∧ ¬ 65535 < f j
theorem Txt.mv {x t : Addr} {V : Cell} {cd : Int32} {n : Nat} {f : Nat → Int32} {U U' : State} (h : Txt x t V cd n f U) (hal : U.vm.Alike U'.vm) (hh : U'.heap = U.heap) : Txt x t V cd n f U' := ⟨h.1.mv hal hh, h.2.1.mv hal hh, h.2.2.1.mv hal hh, h.2.2.2.1.mv hal hh, h.2.2.2.2⟩
end StrChars
namespace StrChars.Road
open Jvm Sem ClassFile Op Lib Jvm.Stand Jvm.Free Jvm.Free.XT
open Jvm.Lib.Cold (StaticIs)
theorem consq {a : Array Value} {s : State} {c : Jvm.Cond} {L : List Jvm.Cond} (h0 : c.before a s = true) (h : ∀ w ∈ L, w.before a s = true) : ∀ w ∈ c :: L, w.before a s = true := fun w hw => (List.mem_cons.mp hw).elim (fun e => e ▸ h0) (h w)
/-- the bytes of the chars cs, low before high -/
def wideBytes : List Int32 → List Value
  | [] => []
  | c :: cs => .int (lo8 c) :: .int (hi8 c) :: wideBytes cs
theorem wide_lo (d : Value) : ∀ (cs : List Int32) (j : Nat), j < cs.length → (wideBytes cs).getD (2 * j) d = .int (lo8 (cs.getD j 0))
  | [], j, h => absurd h (Nat.not_lt_zero j)
  | c :: cs, 0, _ => rfl
  | c :: cs, j + 1, h => by
    have q := wide_lo d cs j (by simpa using h)
    rw [show 2 * (j + 1) = 2 * j + 1 + 1 from by omega]
    simpa [wideBytes] using q
theorem wide_hi (d : Value) : ∀ (cs : List Int32) (j : Nat), j < cs.length → (wideBytes cs).getD (2 * j + 1) d = .int (hi8 (cs.getD j 0))
  | [], j, h => absurd h (Nat.not_lt_zero j)
  | c :: cs, 0, _ => rfl
  | c :: cs, j + 1, h => by
    have q := wide_hi d cs j (by simpa using h)
    rw [show 2 * (j + 1) + 1 = 2 * j + 1 + 1 + 1 from by omega]
    simpa [wideBytes] using q
theorem low_at (d : Value) (cs : List Int32) (j : Nat) (h : j < cs.length) : (cs.map fun c => Value.int (lo8 c)).getD j d = .int (lo8 (cs.getD j 0)) := by
  simp [List.getD_eq_getElem?_getD, h]
/-- an array of N2 bytes vs codes the chars cs by the coder cd -/
def CodA (cs : List Int32) (cd N2 : Int32) (vs : List Value) : Prop := (cd = 0 ∧ N2 = Int32.ofNat cs.length ∧ vs = (cs.map fun c => Value.int (lo8 c)) ∧ ∀ c ∈ cs, ¬ 255 < c) ∨ (cd = 1 ∧ N2 = Int32.ofNat (2 * cs.length) ∧ vs = wideBytes cs ∧ ∃ c ∈ cs, 255 < c)
theorem CodA.cod {cs : List Int32} {cd N2 : Int32} {vs : List Value} {V : Cell} (h : CodA cs cd N2 vs) (hn : 2 * cs.length < 2 ^ 31) (hs : V.slots.size = N2.toNatClampNeg) (hv : RoadKit.Has V vs (.int 0)) : Cod cd cs.length (fun j => cs.getD j 0) V := by
  rcases h with ⟨rfl, rfl, rfl, h⟩ | ⟨rfl, rfl, rfl, c, hc, hw⟩
  · rw [n32 (by omega)] at hs
    exact Or.inl ⟨rfl, hs, fun j hj => ⟨by rw [hv j (by omega), low_at _ _ _ hj], by
      have e : cs.getD j 0 = cs[j] := by simp [List.getD_eq_getElem?_getD, hj]
      show ¬ 255 < cs.getD j 0
      rw [e]; exact h _ (List.getElem_mem _)⟩⟩
  · rw [n32 (by omega)] at hs
    obtain ⟨j, hj, rfl⟩ := List.getElem_of_mem hc
    exact Or.inr ⟨rfl, hs, fun j hj => ⟨by rw [hv _ (by omega), wide_lo _ _ _ hj], by rw [hv _ (by omega), wide_hi _ _ _ hj]⟩, j, hj, by
      have e : cs.getD j 0 = cs[j] := by simp [List.getD_eq_getElem?_getD, hj]
      show 255 < cs.getD j 0
      rw [e]; exact hw⟩
/-- an object of exactly java/lang/String, its two fields found: as the laws ask it -/
theorem strObj {Z U : State} {a0 : Array Value} {kI : Nat} (wi : (Jvm.Cond.instantiable ST kI).before a0 Z = true) (al : Z.vm.Alike U.vm) {x : Addr} {v0 c0 : Value} (E : RoadKit.Exa Z U.heap x ST) (V : RoadKit.Fld Z U.heap x ST "value" "[B" v0) (C : RoadKit.Fld Z U.heap x ST "coder" "B" c0) :
    ∃ (D : Cell) (fV fC : Field), Blank ST x D U ∧ Found ST "value" "[B" fV U ∧ Found ST "coder" "B" fC U ∧ D.slots[fV.slot]? = some v0 ∧ D.slots[fC.slot]? = some c0 ∧ RoadKit.slotOf Z ST "value" "[B" = fV.slot ∧ RoadKit.slotOf Z ST "coder" "B" = fC.slot := by
  obtain ⟨D, cfV, kV, iV, fV, hD, gV, stV, knV, obV, asV, slV⟩ := V
  obtain ⟨D', cfC, kC, iC, fC, hD', gC, stC, -, -, asC, slC⟩ := C
  cases hD.symm.trans hD'
  obtain ⟨D2, kD, e1, e2, e3, e4, e5⟩ := E
  cases hD.symm.trans e1
  obtain ⟨c2, k2, i1, i2, i3, -⟩ := Cond.instantiable_spec wi
  cases e2.symm.trans i1
  cases e3.symm.trans i2
  obtain ⟨kU, u1, u2⟩ := al.2.2 _ _ e3
  exact ⟨D, fV, fC, ⟨hD, ⟨knV, fun q hq => by rw [hq] at obV; cases obV⟩, by rw [al.findClass]; exact e2, kU, u1, by rw [u2]; exact i3, by rw [u2]; exact e5 i3⟩, ⟨SBG.found_only al ⟨cfV, kV, iV, gV⟩, stV⟩, ⟨SBG.found_only al ⟨cfC, kC, iC, gC⟩, stC⟩, slV, slC, by simp [RoadKit.slotOf, gV], by simp [RoadKit.slotOf, gC]⟩
theorem sta_is {Z U : State} (al : Z.vm.Alike U.vm) {C n d : String} {v : Value} (S : RoadKit.Sta Z U.heap C n d v) : StaticIs U C n d v := by
  obtain ⟨cfS, iS, kS, fS, st, cS, t1, t2, t3, t4, t5, t6, t7⟩ := S
  exact StaticIs.there (s := { Z with heap := U.heap }) ⟨cfS, iS, kS, fS, st, cS, t1, t2, t3, t4, t5, (fun q => by rw [q] at t6; cases t6), t7⟩ al rfl
end StrChars.Road
namespace StrChars
open Jvm Sem ClassFile Op Lib Jvm.Stand Jvm.Free.XT Jvm.Free.ALB Jvm.Free.JM Jvm.Free
open Jvm.Lib.Cold (StaticIs)
/-- what place i of a byte[]'s cell holds -/
def yv (A : Cell) (i : Nat) : Int32 := match A.slots[i]? with | some (.int x) => x | _ => 0
theorem yv_get {a : Addr} {A : Cell} {U : State} (h : XT.Arr .byte a A U) (ht : Typed .byte A) {i : Nat} (hi : i < A.slots.size) : A.slots[i]? = some (.int (yv A i)) := by
  have e := Array.getElem?_eq_getElem hi
  have f := ht i _ e
  unfold yv; rw [e]
  generalize A.slots[i] = v at f
  cases v <;> simp [fits] at f ⊢
/-- the two arrays are equal, place for place -/
def EqC (A B : Cell) : Prop := A.slots.size = B.slots.size ∧ ∀ i, i < A.slots.size → yv A i = yv B i
/-- a boolean that says whether p -/
def Says01 (q : Prop) (r : Option Value) (s u : State) : Prop := ∃ v : Int32, r = some (.int v) ∧ u.heap = s.heap ∧ ((v = 1 ∧ q) ∨ (v = 0 ∧ ¬ q))
theorem Says01.mv {q : Prop} : ∀ r (U U' V V' : State), U'.heap = U.heap → V.vm.Alike V'.vm → V'.heap = V.heap → Says01 q r U V → Says01 q r U' V' :=
  fun r U U' V V' h1 _ h2 ⟨v, a, b, c⟩ => ⟨v, a, by rw [h1, h2]; exact b, c⟩
namespace LEq
def yN : MethodName := ⟨"java/lang/StringLatin1", "equals", "([B[B)Z"⟩
abbrev yB : ByteArray := jdk_43_method_13_code
theorem d0 : decode yB 0 = .ok (.aload_n 0, 1) := by decide +kernel
theorem d1 : decode yB 1 = .ok (.arraylength, 1) := by decide +kernel
theorem d2 : decode yB 2 = .ok (.aload_n 1, 1) := by decide +kernel
theorem d3 : decode yB 3 = .ok (.arraylength, 1) := by decide +kernel
theorem d4 : decode yB 4 = .ok (.if_icmp (.ne) 30, 3) := by decide +kernel
theorem d7 : decode yB 7 = .ok (.iconst 0, 1) := by decide +kernel
theorem d8 : decode yB 8 = .ok (.istore_n 2, 1) := by decide +kernel
theorem d9 : decode yB 9 = .ok (.iload_n 2, 1) := by decide +kernel
theorem d10 : decode yB 10 = .ok (.aload_n 0, 1) := by decide +kernel
theorem d11 : decode yB 11 = .ok (.arraylength, 1) := by decide +kernel
theorem d12 : decode yB 12 = .ok (.if_icmp (.ge) 20, 3) := by decide +kernel
theorem d15 : decode yB 15 = .ok (.aload_n 0, 1) := by decide +kernel
theorem d16 : decode yB 16 = .ok (.iload_n 2, 1) := by decide +kernel
theorem d17 : decode yB 17 = .ok (.baload, 1) := by decide +kernel
theorem d18 : decode yB 18 = .ok (.aload_n 1, 1) := by decide +kernel
theorem d19 : decode yB 19 = .ok (.iload_n 2, 1) := by decide +kernel
theorem d20 : decode yB 20 = .ok (.baload, 1) := by decide +kernel
theorem d21 : decode yB 21 = .ok (.if_icmp (.eq) 5, 3) := by decide +kernel
theorem d24 : decode yB 24 = .ok (.iconst 0, 1) := by decide +kernel
theorem d25 : decode yB 25 = .ok (.ireturn, 1) := by decide +kernel
theorem d26 : decode yB 26 = .ok (.iinc 2 1, 3) := by decide +kernel
theorem d29 : decode yB 29 = .ok (.goto (-20), 3) := by decide +kernel
theorem d32 : decode yB 32 = .ok (.iconst 1, 1) := by decide +kernel
theorem d33 : decode yB 33 = .ok (.ireturn, 1) := by decide +kernel
theorem d34 : decode yB 34 = .ok (.iconst 0, 1) := by decide +kernel
theorem d35 : decode yB 35 = .ok (.ireturn, 1) := by decide +kernel
def site : List Cond := []
def tab : Cond := tabOf yN yB 3 (some .boolean) site
def P (a : Addr) (A : Cell) (b : Addr) (B : Cell) (args : Array Value) (s : State) : Prop := args = #[.ref a, .ref b] ∧ XT.Arr .byte a A s ∧ Typed .byte A ∧ XT.Arr .byte b B s ∧ Typed .byte B
/-- whether two byte[] are equal, place for place -/
theorem law (l : Launch) (a : Addr) (A : Cell) (b : Addr) (B : Cell) : Law l yN 2 2 0 0 yB 3 (some .boolean) site (P a A b B) (Says01 (EqC A B)) [] 0 0 := by
  refine Law.of_walk (plainFor_of_name (by decide +kernel)) (by decide +kernel) (by decide +kernel) (by decide) (fun _ _ h => by rw [h.1]; rfl) (fun _ U U' hal hh h => ⟨h.1, h.2.1.mv hal hh, h.2.2.1, h.2.2.2.1.mv hal hh, h.2.2.2.2⟩) (fun r U U' V V' h1 hal h2 h => Says01.mv r U U' V V' h1 hal h2 h) ?_
  intro p e s m args below meth c s₁ X0 hexec hbytes hml hret hlk hnm hown hh0 W hP
  obtain ⟨rfl, hA, tA, hB, tB⟩ := hP
  have a31 := hA.2.2.2
  have b31 := hB.2.2.2
  have hA0 := hA.mv X0.warmed.alike hh0
  have hB0 := hB.mv X0.warmed.alike hh0
  have c1 : Steps p.tables e below (s₁.setTop (entryFrame m #[.ref a, .ref b] 3)) (s₁.setTop (mkF m 0 #[.val (.ref a), .val (.ref b), .unset] [])) := entry rfl
  have c2 : Steps p.tables e below (s₁.setTop (entryFrame m #[.ref a, .ref b] 3)) (s₁.setTop (mkF m 4 #[.val (.ref a), .val (.ref b), .unset] [.int (Int32.ofNat B.slots.size), .int (Int32.ofNat A.slots.size)])) := c1.trans (by
    refine XS.aloadN X0.here hexec rfl (hb hbytes d0) rfl rfl ?_
    refine X0.alen hexec hA0 rfl rfl (hb hbytes d1) ?_
    refine XS.aloadN X0.here hexec rfl (hb hbytes d2) rfl rfl ?_
    refine X0.alen hexec hB0 rfl rfl (hb hbytes d3) ?_
    exact Steps.refl _)
  by_cases hs : A.slots.size = B.slots.size
  · have c3 : Steps p.tables e below (s₁.setTop (entryFrame m #[.ref a, .ref b] 3)) (s₁.setTop (mkF m 9 #[.val (.ref a), .val (.ref b), .val (.int 0)] [])) := c2.trans (by
      refine XS.icmpNo X0.here hexec rfl (hb hbytes d4) rfl (ii_ne_f (by rw [hs])) ?_
      refine iconstV X0.here hexec rfl 0 (hb hbytes d7) (by decide) ?_
      refine XS.istoreN X0.here hexec rfl (hb hbytes d8) rfl rfl ?_
      exact Steps.refl _)
    have loop : ∀ (r i : Nat), i + r = A.slots.size → (∀ j, j < i → yv A j = yv B j) → Steps p.tables e below (s₁.setTop (entryFrame m #[.ref a, .ref b] 3)) (s₁.setTop (mkF m 9 #[.val (.ref a), .val (.ref b), .val (.int (Int32.ofNat i))] [])) → ∃ (pc : Nat) (Ls : Array Slot) (v : Int32), (pc = 25 ∨ pc = 33) ∧ ((v = 1 ∧ EqC A B) ∨ (v = 0 ∧ ¬ EqC A B)) ∧ Steps p.tables e below (s₁.setTop (entryFrame m #[.ref a, .ref b] 3)) (s₁.setTop (mkF m pc Ls [.int v])) := by
      intro r
      induction r with
      | zero =>
        intro i hi he cl
        exact ⟨33, _, 1, Or.inr rfl, Or.inl ⟨rfl, hs, fun j hj => he j (by omega)⟩, cl.trans (by
          refine XS.iloadN X0.here hexec rfl (hb hbytes d9) rfl ?_
          refine XS.aloadN X0.here hexec rfl (hb hbytes d10) rfl rfl ?_
          refine X0.alen hexec hA0 rfl rfl (hb hbytes d11) ?_
          refine XS.icmpYes X0.here hexec rfl (pc0 := 12) rfl (hb hbytes d12) rfl (ii_ge_t (nlt32 (by omega) (by omega))) (by decide) rfl ?_
          refine iconstV X0.here hexec rfl 1 (hb hbytes d32) (by decide) ?_
          exact Steps.refl _)⟩
      | succ r ih =>
        intro i hi he cl
        have c4 : Steps p.tables e below (s₁.setTop (entryFrame m #[.ref a, .ref b] 3)) (s₁.setTop (mkF m 21 #[.val (.ref a), .val (.ref b), .val (.int (Int32.ofNat i))] [.int (yv B i), .int (yv A i)])) := cl.trans (by
          refine XS.iloadN X0.here hexec rfl (hb hbytes d9) rfl ?_
          refine XS.aloadN X0.here hexec rfl (hb hbytes d10) rfl rfl ?_
          refine X0.alen hexec hA0 rfl rfl (hb hbytes d11) ?_
          refine XS.icmpNo X0.here hexec rfl (hb hbytes d12) rfl (ii_ge_f (lt32 (by omega) (by omega))) ?_
          refine XS.aloadN X0.here hexec rfl (hb hbytes d15) rfl rfl ?_
          refine XS.iloadN X0.here hexec rfl (hb hbytes d16) rfl ?_
          refine X0.aget hexec hA0 rfl (yv_get hA tA (i := i) (by omega)) rfl rfl (hb hbytes d17) ?_
          refine XS.aloadN X0.here hexec rfl (hb hbytes d18) rfl rfl ?_
          refine XS.iloadN X0.here hexec rfl (hb hbytes d19) rfl ?_
          refine X0.aget hexec hB0 rfl (yv_get hB tB (i := i) (by omega)) rfl rfl (hb hbytes d20) ?_
          exact Steps.refl _)
        by_cases hv : yv A i = yv B i
        · have c5 : Steps p.tables e below (s₁.setTop (entryFrame m #[.ref a, .ref b] 3)) (s₁.setTop (mkF m 9 #[.val (.ref a), .val (.ref b), .val (.int (Int32.ofNat i + 1))] [])) := c4.trans (by
            refine XS.icmpYes X0.here hexec rfl (pc0 := 21) rfl (hb hbytes d21) rfl (ii_eq_t hv) (by decide) rfl ?_
            refine iincV X0.here hexec rfl 1 (hb hbytes d26) (by decide) rfl rfl ?_
            refine XS.goto X0.here hexec rfl (pc0 := 29) rfl (hb hbytes d29) (by decide) rfl ?_
            exact Steps.refl _)
          rw [succ32] at c5
          exact ih (i + 1) (by omega) (fun j hj => by
            by_cases e : j = i
            · rw [e]; exact hv
            · exact he j (by omega)) c5
        · exact ⟨25, _, 0, Or.inl rfl, Or.inr ⟨rfl, fun q => hv (q.2 i (by omega))⟩, c4.trans (by
            refine XS.icmpNo X0.here hexec rfl (hb hbytes d21) rfl (ii_eq_f hv) ?_
            refine iconstV X0.here hexec rfl 0 (hb hbytes d24) (by decide) ?_
            exact Steps.refl _)⟩
    obtain ⟨pc, Ls, v, hpc, hv, cz⟩ := loop A.slots.size 0 (by omega) (fun j hj => absurd hj (Nat.not_lt_zero j)) c3
    have nv : narrow .boolean (.int v) = .int v := by rcases hv with ⟨rfl, -⟩ | ⟨rfl, -⟩ <;> rfl
    rcases hpc with rfl | rfl
    · exact ⟨s₁, some (.int v), _, _, _, X0, rfl, rfl, rfl, (fun h => by cases h), ⟨v, rfl, hh0, hv⟩, fun fs hl => cz.trans (X0.ireturnOut hexec hret nv (Or.inr (Or.inl rfl)) (hb hbytes d25) hl)⟩
    · exact ⟨s₁, some (.int v), _, _, _, X0, rfl, rfl, rfl, (fun h => by cases h), ⟨v, rfl, hh0, hv⟩, fun fs hl => cz.trans (X0.ireturnOut hexec hret nv (Or.inr (Or.inl rfl)) (hb hbytes d33) hl)⟩
  · have c3 : Steps p.tables e below (s₁.setTop (entryFrame m #[.ref a, .ref b] 3)) (s₁.setTop (mkF m 35 #[.val (.ref a), .val (.ref b), .unset] [.int 0])) := c2.trans (by
      refine XS.icmpYes X0.here hexec rfl (pc0 := 4) rfl (hb hbytes d4) rfl (ii_ne_t (ne32 a31 b31 hs)) (by decide) rfl ?_
      refine iconstV X0.here hexec rfl 0 (hb hbytes d34) (by decide) ?_
      exact Steps.refl _)
    exact ⟨s₁, some (.int 0), _, _, _, X0, rfl, rfl, rfl, (fun h => by cases h), ⟨0, rfl, hh0, Or.inr ⟨rfl, fun q => hs q.1⟩⟩, fun fs hl => c3.trans (X0.ireturnOut hexec hret rfl (Or.inr (Or.inl rfl)) (hb hbytes d35) hl)⟩
end LEq
theorem Cod.ty {cd : Int32} {n : Nat} {f : Nat → Int32} {V : Cell} (h : Cod cd n f V) : Typed .byte V := fun i v hv => by
  have hi : i < V.slots.size := (Array.getElem?_eq_some_iff.mp hv).1
  rcases h with ⟨-, k1, k2⟩ | ⟨-, k1, k2, -⟩
  · rw [(k2 i (by omega)).1] at hv; cases hv; exact fits_lo8 _
  · rcases Nat.mod_two_eq_zero_or_one i with e | e
    · obtain ⟨j, rfl⟩ : ∃ j, i = 2 * j := ⟨i / 2, by omega⟩
      rw [(k2 j (by omega)).1] at hv; cases hv; exact fits_lo8 _
    · obtain ⟨j, rfl⟩ : ∃ j, i = 2 * j + 1 := ⟨i / 2, by omega⟩
      rw [(k2 j (by omega)).2] at hv; cases hv; exact fits_lo8 _
/-- the same text -/
def SameT (n : Nat) (f : Nat → Int32) (k : Nat) (g : Nat → Int32) : Prop := n = k ∧ ∀ j, j < n → f j = g j
theorem lo8_inj {x y : Int32} (h0 : ¬ x < 0) (h1 : ¬ 255 < x) (k0 : ¬ y < 0) (k1 : ¬ 255 < y) (h : lo8 x = lo8 y) : x = y := by
  rw [← lo8_mask h0 h1, ← lo8_mask k0 k1, h]
/-- arrays coded by one coder are equal just where the texts are -/
theorem Cod.eqv {cd : Int32} {n k : Nat} {f g : Nat → Int32} {V V' : Cell} (h : Cod cd n f V) (h' : Cod cd k g V') (hf : ∀ j, j < n → ¬ f j < 0 ∧ ¬ 65535 < f j) (hg : ∀ j, j < k → ¬ g j < 0 ∧ ¬ 65535 < g j) : EqC V V' ↔ SameT n f k g := by
  have yvv : ∀ {W : Cell} {i : Nat} {x : Int32}, W.slots[i]? = some (.int x) → yv W i = x := fun q => by unfold yv; rw [q]
  rcases h with ⟨rfl, k1, k2⟩ | ⟨rfl, k1, k2, -⟩
  · rcases h' with ⟨-, m1, m2⟩ | ⟨e, -⟩
    · constructor
      · rintro ⟨e1, e2⟩
        refine ⟨by omega, fun j hj => ?_⟩
        have q := e2 j (by omega)
        rw [yvv (k2 j hj).1, yvv (m2 j (by omega)).1] at q
        exact lo8_inj (hf j hj).1 (k2 j hj).2 (hg j (by omega)).1 (m2 j (by omega)).2 q
      · rintro ⟨rfl, e2⟩
        refine ⟨by omega, fun j hj => ?_⟩
        rw [yvv (k2 j (by omega)).1, yvv (m2 j (by omega)).1, e2 j (by omega)]
    · exact absurd e (by decide)
  · rcases h' with ⟨e, -⟩ | ⟨-, m1, m2, -⟩
    · exact absurd e (by decide)
    · constructor
      · rintro ⟨e1, e2⟩
        refine ⟨by omega, fun j hj => ?_⟩
        have q1 := e2 (2 * j) (by omega)
        have q2 := e2 (2 * j + 1) (by omega)
        rw [yvv (k2 j hj).1, yvv (m2 j (by omega)).1] at q1
        rw [yvv (k2 j hj).2, yvv (m2 j (by omega)).2] at q2
        rw [← pair_says (hf j hj).1 (hf j hj).2, ← pair_says (hg j (by omega)).1 (hg j (by omega)).2, q1, q2]
      · rintro ⟨rfl, e2⟩
        refine ⟨by omega, fun i hi => ?_⟩
        rcases Nat.mod_two_eq_zero_or_one i with e | e
        · obtain ⟨j, rfl⟩ : ∃ j, i = 2 * j := ⟨i / 2, by omega⟩
          rw [yvv (k2 j (by omega)).1, yvv (m2 j (by omega)).1, e2 j (by omega)]
        · obtain ⟨j, rfl⟩ : ∃ j, i = 2 * j + 1 := ⟨i / 2, by omega⟩
          rw [yvv (k2 j (by omega)).2, yvv (m2 j (by omega)).2, e2 j (by omega)]
/-- two codings differ: so do the texts -/
theorem Cod.dif {cd cd' : Int32} {n k : Nat} {f g : Nat → Int32} {V V' : Cell} (h : Cod cd n f V) (h' : Cod cd' k g V') (hne : ¬ cd = cd') : ¬ SameT n f k g := by
  rintro ⟨rfl, e⟩
  rcases h with ⟨rfl, -, k2⟩ | ⟨rfl, -, -, j, hj, hw⟩
  · rcases h' with ⟨rfl, -⟩ | ⟨-, -, -, j, hj, hw⟩
    · exact hne rfl
    · exact (k2 j hj).2 (by rw [e j hj]; exact hw)
  · rcases h' with ⟨-, -, m2⟩ | ⟨rfl, -⟩
    · exact (m2 j hj).2 (by rw [← e j hj]; exact hw)
    · exact hne rfl
/-- an object of exactly C is an instance of C -/
theorem cinst {p : Program} {l : Launch} {e : Env} {R : Room} {s : State} {m : MethodId} {args : Array Value} {below : List Frame} {meth : Method} {c : Code} {T : State} {locs : List Loc} {cells slots : Nat} (X : Stand p l e R s m args below meth c T locs cells slots) (hexec : p.tables.exec = Jvm.exec) {own C : String} {index : Nat} (hown : s.vm.findClass own = some m.cls) (hlink : (Cond.classLink own index C).before args s = true) {a : Addr} (hE : Exact C a T)
    {g : JFrame} (hg : g.method = m) {rest : List Value} (hstack : g.stack = .ref a :: rest) (hdg : decode c.code g.pc = .ok (.instanceof index, 3)) :
    ∃ T', Stand p l e R s m args below meth c T' locs cells slots ∧ T'.heap = T.heap ∧ ∀ target, Steps p.tables e below (T'.setTop { g with pc := g.pc + 3, stack := .int 1 :: rest }) target → Steps p.tables e below (T.setTop g) target := by
  obtain ⟨cB, h1, D, h2, h3, h4⟩ := hE
  have h1' : s.vm.findClass C = some cB := by rw [← X.warmed.alike.findClass]; exact h1
  obtain ⟨vm', X', st⟩ := X.instanceofYes hexec hown hlink h2 h4 h1' (by rw [h3]; exact Jvm.Free.SB.assignable_self _ _) hg hstack hdg
  exact ⟨_, X', rfl, st⟩
theorem cself {p : Program} {l : Launch} {e : Env} {R : Room} {s : State} {m : MethodId} {args : Array Value} {below : List Frame} {meth : Method} {c : Code} {T : State} {locs : List Loc} {cells slots : Nat} (X : Stand p l e R s m args below meth c T locs cells slots) (hexec : p.tables.exec = Jvm.exec) {own C : String} {index : Nat} (hown : s.vm.findClass own = some m.cls) (hlink : (Cond.classLink own index C).before args s = true) {a : Addr} (hE : Exact C a T)
    {g : JFrame} (hg : g.method = m) {rest : List Value} (hstack : g.stack = .ref a :: rest) (hdg : decode c.code g.pc = .ok (.checkcast index, 3)) :
    ∃ T', Stand p l e R s m args below meth c T' locs cells slots ∧ T'.heap = T.heap ∧ ∀ target, Steps p.tables e below (T'.setTop { g with pc := g.pc + 3, stack := .ref a :: rest }) target → Steps p.tables e below (T.setTop g) target := by
  obtain ⟨cB, h1, D, h2, h3, h4⟩ := hE
  have h1' : s.vm.findClass C = some cB := by rw [← X.warmed.alike.findClass]; exact h1
  obtain ⟨vm', X', st⟩ := X.checkcastYes hexec hown hlink h2 h4 h1' (by rw [h3]; exact Jvm.Free.SB.assignable_self _ _) hg hstack hdg
  exact ⟨_, X', rfl, fun t h => st t (by rw [← hstack] at h; exact h)⟩
namespace SEq
def yN : MethodName := ⟨"java/lang/String", "equals", "(Ljava/lang/Object;)Z"⟩
abbrev yB : ByteArray := jdk_42_method_66_code
theorem d0 : decode yB 0 = .ok (.aload_n 0, 1) := by decide +kernel
theorem d1 : decode yB 1 = .ok (.aload_n 1, 1) := by decide +kernel
theorem d2 : decode yB 2 = .ok (.if_acmp (.ne) 5, 3) := by decide +kernel
theorem d5 : decode yB 5 = .ok (.iconst 1, 1) := by decide +kernel
theorem d6 : decode yB 6 = .ok (.ireturn, 1) := by decide +kernel
theorem d7 : decode yB 7 = .ok (.aload_n 1, 1) := by decide +kernel
theorem d8 : decode yB 8 = .ok (.instanceof 10, 3) := by decide +kernel
theorem d11 : decode yB 11 = .ok (.ifCond (.eq) 43, 3) := by decide +kernel
theorem d14 : decode yB 14 = .ok (.aload_n 1, 1) := by decide +kernel
theorem d15 : decode yB 15 = .ok (.checkcast 10, 3) := by decide +kernel
theorem d18 : decode yB 18 = .ok (.astore_n 2, 1) := by decide +kernel
theorem d19 : decode yB 19 = .ok (.getstatic 38, 3) := by decide +kernel
theorem d22 : decode yB 22 = .ok (.ifCond (.eq) 14, 3) := by decide +kernel
theorem d25 : decode yB 25 = .ok (.aload_n 0, 1) := by decide +kernel
theorem d26 : decode yB 26 = .ok (.getfield 15, 3) := by decide +kernel
theorem d29 : decode yB 29 = .ok (.aload_n 2, 1) := by decide +kernel
theorem d30 : decode yB 30 = .ok (.getfield 15, 3) := by decide +kernel
theorem d33 : decode yB 33 = .ok (.if_icmp (.ne) 21, 3) := by decide +kernel
theorem d36 : decode yB 36 = .ok (.aload_n 0, 1) := by decide +kernel
theorem d37 : decode yB 37 = .ok (.getfield 9, 3) := by decide +kernel
theorem d40 : decode yB 40 = .ok (.aload_n 2, 1) := by decide +kernel
theorem d41 : decode yB 41 = .ok (.getfield 9, 3) := by decide +kernel
theorem d44 : decode yB 44 = .ok (.invokestatic 541, 3) := by decide +kernel
theorem d47 : decode yB 47 = .ok (.ifCond (.eq) 7, 3) := by decide +kernel
theorem d50 : decode yB 50 = .ok (.iconst 1, 1) := by decide +kernel
theorem d51 : decode yB 51 = .ok (.goto 4, 3) := by decide +kernel
theorem d54 : decode yB 54 = .ok (.iconst 0, 1) := by decide +kernel
theorem d55 : decode yB 55 = .ok (.ireturn, 1) := by decide +kernel
def site : List Cond := [.classLink "java/lang/String" 10 "java/lang/String", .fieldLink "java/lang/String" 38 "java/lang/String" "COMPACT_STRINGS" "Z", .fieldLink "java/lang/String" 15 "java/lang/String" "coder" "B", .fieldLink "java/lang/String" 9 "java/lang/String" "value" "[B", LEq.tab] ++ staticW "java/lang/String" 541 LEq.yN
def tab : Cond := tabOf yN yB 3 (some .boolean) site
def P (x t : Addr) (V : Cell) (cd : Int32) (n : Nat) (f : Nat → Int32) (y t' : Addr) (V' : Cell) (cd' : Int32) (k : Nat) (g : Nat → Int32) (z : Int32) (args : Array Value) (s : State) : Prop := args = #[.ref x, .ref y] ∧ Txt x t V cd n f s ∧ Txt y t' V' cd' k g s ∧ StaticIs s "java/lang/String" "COMPACT_STRINGS" "Z" (.int z) ∧ ¬ z = 0
/-- equals(Object) of two Strings: whether the texts are the same -/
theorem law (l : Launch) (x t : Addr) (V : Cell) (cd : Int32) (n : Nat) (f : Nat → Int32) (y t' : Addr) (V' : Cell) (cd' : Int32) (k : Nat) (g : Nat → Int32) (z : Int32) : Law l yN 2 1 1 14 yB 3 (some .boolean) site (P x t V cd n f y t' V' cd' k g z) (Says01 (SameT n f k g)) [] 0 0 := by
  refine Law.of_walk (plainFor_of_name (by decide +kernel)) (by decide +kernel) (by decide +kernel) (by decide) (fun _ _ h => by rw [h.1]; rfl) (fun _ U U' hal hh h => ⟨h.1, h.2.1.mv hal hh, h.2.2.1.mv hal hh, h.2.2.2.1.there hal hh, h.2.2.2.2⟩) (fun r U U' V V' h1 hal h2 h => Says01.mv r U U' V V' h1 hal h2 h) ?_
  intro p e s m args below meth c s₁ X0 hexec hbytes hml hret hlk hnm hown hh0 W hP
  obtain ⟨rfl, hx, hy, s1, hz⟩ := hP
  have c1 : Steps p.tables e below (s₁.setTop (entryFrame m #[.ref x, .ref y] 3)) (s₁.setTop (mkF m 2 #[.val (.ref x), .val (.ref y), .unset] [.ref y, .ref x])) := Steps.trans (entry rfl) (by
    show Steps p.tables e below (s₁.setTop (mkF m 0 #[.val (.ref x), .val (.ref y), .unset] [])) _
    refine XS.aloadN X0.here hexec rfl (hb hbytes d0) rfl rfl ?_
    refine XS.aloadN X0.here hexec rfl (hb hbytes d1) rfl rfl ?_
    exact Steps.refl _)
  by_cases hxy : x = y
  · have c2 : Steps p.tables e below (s₁.setTop (entryFrame m #[.ref x, .ref y] 3)) (s₁.setTop (mkF m 6 #[.val (.ref x), .val (.ref y), .unset] [.int 1])) := c1.trans (by
      refine acmpNo X0.here hexec rfl (hb hbytes d2) rfl rfl rfl (by simp [acmp, hxy]) ?_
      refine iconstV X0.here hexec rfl 1 (hb hbytes d5) (by decide) ?_
      exact Steps.refl _)
    subst hxy
    have ec : cd = cd' := by
      obtain ⟨D, fd, a1, a2, a3⟩ := hx.2.2.1
      obtain ⟨D', fd', b1, b2, b3⟩ := hy.2.2.1
      cases a1.symm.trans b1
      obtain ⟨q1, q2, q3, q4⟩ := a2.1
      obtain ⟨r1, r2, r3, r4⟩ := b2.1
      cases q4.symm.trans r4
      cases a3.symm.trans b3; rfl
    have et : t = t' := by
      obtain ⟨D, fd, a1, a2, a3⟩ := hx.2.1
      obtain ⟨D', fd', b1, b2, b3⟩ := hy.2.1
      cases a1.symm.trans b1
      obtain ⟨q1, q2, q3, q4⟩ := a2.1
      obtain ⟨r1, r2, r3, r4⟩ := b2.1
      cases q4.symm.trans r4
      cases a3.symm.trans b3; rfl
    subst ec et
    have ev : V = V' := by cases hx.2.2.2.1.1.symm.trans hy.2.2.2.1.1; rfl
    subst ev
    have hs : SameT n f k g := (Cod.eqv hx.2.2.2.2.1 hy.2.2.2.2.1 hx.2.2.2.2.2 hy.2.2.2.2.2).mp ⟨rfl, fun _ _ => rfl⟩
    exact ⟨s₁, some (.int 1), _, _, _, X0, rfl, rfl, rfl, (fun h => by cases h), ⟨1, rfl, hh0, Or.inl ⟨rfl, hs⟩⟩, fun fs hl => c2.trans (X0.ireturnOut hexec hret rfl (Or.inr (Or.inl rfl)) (hb hbytes d6) hl)⟩
  · have c2 : Steps p.tables e below (s₁.setTop (entryFrame m #[.ref x, .ref y] 3)) (s₁.setTop (mkF m 8 #[.val (.ref x), .val (.ref y), .unset] [.ref y])) := c1.trans (by
      refine acmpYes X0.here hexec rfl (pc0 := 2) rfl (hb hbytes d2) rfl rfl rfl (by simp [acmp, hxy]) (by decide) rfl ?_
      refine XS.aloadN X0.here hexec rfl (hb hbytes d7) rfl rfl ?_
      exact Steps.refl _)
    obtain ⟨T3, X3, q3, st3⟩ := cinst X0 hexec hown (wk W (.classLink "java/lang/String" 10 "java/lang/String")) (hy.mv X0.warmed.alike hh0).1 (g := (mkF m 8 #[.val (.ref x), .val (.ref y), .unset] [.ref y])) rfl (rest := []) rfl (hb hbytes d8)
    have hh3 := q3.trans hh0
    have c4 : Steps p.tables e below (s₁.setTop (entryFrame m #[.ref x, .ref y] 3)) (T3.setTop (mkF m 15 #[.val (.ref x), .val (.ref y), .unset] [.ref y])) := (c2.trans (st3 _ (Steps.refl _))).trans (by
      refine XS.ifNo X3.here hexec rfl (hb hbytes d11) rfl (i0_eq_f (by decide)) ?_
      refine XS.aloadN X3.here hexec rfl (hb hbytes d14) rfl rfl ?_
      exact Steps.refl _)
    obtain ⟨T5, X5, q5, st5⟩ := cself X3 hexec hown (wk W (.classLink "java/lang/String" 10 "java/lang/String")) (hy.mv X3.warmed.alike hh3).1 (g := (mkF m 15 #[.val (.ref x), .val (.ref y), .unset] [.ref y])) rfl (rest := []) rfl (hb hbytes d15)
    have hh5 := q5.trans hh3
    have c6 : Steps p.tables e below (s₁.setTop (entryFrame m #[.ref x, .ref y] 3)) (T5.setTop (mkF m 19 #[.val (.ref x), .val (.ref y), .val (.ref y)] [])) := (c4.trans (st5 _ (Steps.refl _))).trans (by
      refine XS.astoreN X5.here hexec rfl (hb hbytes d18) rfl rfl rfl ?_
      exact Steps.refl _)
    obtain ⟨T7, X7, q7, st7⟩ := X5.sget hexec hown (wk W (.fieldLink "java/lang/String" 38 "java/lang/String" "COMPACT_STRINGS" "Z")) s1 (fun _ _ h => by rw [hh5]; exact h) (g := (mkF m 19 #[.val (.ref x), .val (.ref y), .val (.ref y)] [])) rfl (hb hbytes d19)
    have hh7 := q7.trans hh5
    have c8 : Steps p.tables e below (s₁.setTop (entryFrame m #[.ref x, .ref y] 3)) (T7.setTop (mkF m 26 #[.val (.ref x), .val (.ref y), .val (.ref y)] [.ref x])) := (c6.trans (st7 _ (Steps.refl _))).trans (by
      refine XS.ifNo X7.here hexec rfl (hb hbytes d22) rfl (i0_eq_f hz) ?_
      refine XS.aloadN X7.here hexec rfl (hb hbytes d25) rfl rfl ?_
      exact Steps.refl _)
    obtain ⟨T9, X9, q9, st9⟩ := X7.hget hexec hown (wk W (.fieldLink "java/lang/String" 15 "java/lang/String" "coder" "B")) (hx.mv X7.warmed.alike hh7).2.2.1 (g := (mkF m 26 #[.val (.ref x), .val (.ref y), .val (.ref y)] [.ref x])) rfl (rest := []) rfl (hb hbytes d26)
    have hh9 := q9.trans hh7
    have c10 : Steps p.tables e below (s₁.setTop (entryFrame m #[.ref x, .ref y] 3)) (T9.setTop (mkF m 30 #[.val (.ref x), .val (.ref y), .val (.ref y)] [.ref y, .int cd])) := (c8.trans (st9 _ (Steps.refl _))).trans (by
      refine XS.aloadN X9.here hexec rfl (hb hbytes d29) rfl rfl ?_
      exact Steps.refl _)
    obtain ⟨T11, X11, q11, st11⟩ := X9.hget hexec hown (wk W (.fieldLink "java/lang/String" 15 "java/lang/String" "coder" "B")) (hy.mv X9.warmed.alike hh9).2.2.1 (g := (mkF m 30 #[.val (.ref x), .val (.ref y), .val (.ref y)] [.ref y, .int cd])) rfl (rest := [.int cd]) rfl (hb hbytes d30)
    have hh11 := q11.trans hh9
    have c12 : Steps p.tables e below (s₁.setTop (entryFrame m #[.ref x, .ref y] 3)) (T11.setTop (mkF m 33 #[.val (.ref x), .val (.ref y), .val (.ref y)] [.int cd', .int cd])) := c10.trans (st11 _ (Steps.refl _))
    by_cases hcd : cd = cd'
    · subst hcd
      have c13 : Steps p.tables e below (s₁.setTop (entryFrame m #[.ref x, .ref y] 3)) (T11.setTop (mkF m 37 #[.val (.ref x), .val (.ref y), .val (.ref y)] [.ref x])) := c12.trans (by
        refine XS.icmpNo X11.here hexec rfl (hb hbytes d33) rfl (ii_ne_f rfl) ?_
        refine XS.aloadN X11.here hexec rfl (hb hbytes d36) rfl rfl ?_
        exact Steps.refl _)
      obtain ⟨T14, X14, q14, st14⟩ := X11.hget hexec hown (wk W (.fieldLink "java/lang/String" 9 "java/lang/String" "value" "[B")) (hx.mv X11.warmed.alike hh11).2.1 (g := (mkF m 37 #[.val (.ref x), .val (.ref y), .val (.ref y)] [.ref x])) rfl (rest := []) rfl (hb hbytes d37)
      have hh14 := q14.trans hh11
      have c15 : Steps p.tables e below (s₁.setTop (entryFrame m #[.ref x, .ref y] 3)) (T14.setTop (mkF m 41 #[.val (.ref x), .val (.ref y), .val (.ref y)] [.ref y, .ref t])) := (c13.trans (st14 _ (Steps.refl _))).trans (by
        refine XS.aloadN X14.here hexec rfl (hb hbytes d40) rfl rfl ?_
        exact Steps.refl _)
      obtain ⟨T16, X16, q16, st16⟩ := X14.hget hexec hown (wk W (.fieldLink "java/lang/String" 9 "java/lang/String" "value" "[B")) (hy.mv X14.warmed.alike hh14).2.1 (g := (mkF m 41 #[.val (.ref x), .val (.ref y), .val (.ref y)] [.ref y, .ref t])) rfl (rest := [.ref t]) rfl (hb hbytes d41)
      have hh16 := q16.trans hh14
      have c17 : Steps p.tables e below (s₁.setTop (entryFrame m #[.ref x, .ref y] 3)) (T16.setTop (mkF m 44 #[.val (.ref x), .val (.ref y), .val (.ref y)] [.ref t', .ref t])) := c15.trans (st16 _ (Steps.refl _))
      obtain ⟨v18, T18, X18, E18, g18⟩ := X16.callS hexec (LEq.law l t V t' V') hown (wks W (staticW "java/lang/String" 541 LEq.yN)) (wk W LEq.tab) (W := 0) (Nat.le_of_ble_eq_true rfl) (Nat.le_of_ble_eq_true rfl) (Nat.le_refl _) (Nat.le_refl _) (g := (mkF m 44 #[.val (.ref x), .val (.ref y), .val (.ref y)] [.ref t', .ref t])) rfl (by rw [hml]; rfl) c17 (argsL := [.ref t, .ref t']) (rest := []) rfl rfl (by show 2 * 0 + 0 ≤ _; decide) (hb hbytes d44) (⟨rfl, hx.2.2.2.1.mv X16.warmed.alike hh16, hx.2.2.2.2.1.ty, hy.2.2.2.1.mv X16.warmed.alike hh16, hy.2.2.2.2.1.ty⟩)
      obtain ⟨v, rfl, q18, hv⟩ := E18
      have iff := Cod.eqv hx.2.2.2.2.1 hy.2.2.2.2.1 hx.2.2.2.2.2 hy.2.2.2.2.2
      rcases hv with ⟨rfl, he⟩ | ⟨rfl, he⟩
      · have c19 : Steps p.tables e below (s₁.setTop (entryFrame m #[.ref x, .ref y] 3)) (T18.setTop (mkF m 55 #[.val (.ref x), .val (.ref y), .val (.ref y)] [.int 1])) := Steps.trans g18 (by
          refine XS.ifNo X18.here hexec rfl (hb hbytes d47) rfl (i0_eq_f (by decide)) ?_
          refine iconstV X18.here hexec rfl 1 (hb hbytes d50) (by decide) ?_
          refine XS.goto X18.here hexec rfl (pc0 := 51) rfl (hb hbytes d51) (by decide) rfl ?_
          exact Steps.refl _)
        exact ⟨T18, some (.int 1), _, _, _, X18, rfl, rfl, rfl, (fun h => by cases h), ⟨1, rfl, q18.trans hh16, Or.inl ⟨rfl, iff.mp he⟩⟩, fun fs hl => c19.trans (X18.ireturnOut hexec hret rfl (Or.inr (Or.inl rfl)) (hb hbytes d55) hl)⟩
      · have c19 : Steps p.tables e below (s₁.setTop (entryFrame m #[.ref x, .ref y] 3)) (T18.setTop (mkF m 55 #[.val (.ref x), .val (.ref y), .val (.ref y)] [.int 0])) := Steps.trans g18 (by
          refine XS.ifYes X18.here hexec rfl (pc0 := 47) rfl (hb hbytes d47) rfl (i0_eq_t rfl) (by decide) rfl ?_
          refine iconstV X18.here hexec rfl 0 (hb hbytes d54) (by decide) ?_
          exact Steps.refl _)
        exact ⟨T18, some (.int 0), _, _, _, X18, rfl, rfl, rfl, (fun h => by cases h), ⟨0, rfl, q18.trans hh16, Or.inr ⟨rfl, fun q => he (iff.mpr q)⟩⟩, fun fs hl => c19.trans (X18.ireturnOut hexec hret rfl (Or.inr (Or.inl rfl)) (hb hbytes d55) hl)⟩
    · have c13 : Steps p.tables e below (s₁.setTop (entryFrame m #[.ref x, .ref y] 3)) (T11.setTop (mkF m 55 #[.val (.ref x), .val (.ref y), .val (.ref y)] [.int 0])) := c12.trans (by
        refine XS.icmpYes X11.here hexec rfl (pc0 := 33) rfl (hb hbytes d33) rfl (ii_ne_t hcd) (by decide) rfl ?_
        refine iconstV X11.here hexec rfl 0 (hb hbytes d54) (by decide) ?_
        exact Steps.refl _)
      exact ⟨T11, some (.int 0), _, _, _, X11, rfl, rfl, rfl, (fun h => by cases h), ⟨0, rfl, hh11, Or.inr ⟨rfl, Cod.dif hx.2.2.2.2.1 hy.2.2.2.2.1 hcd⟩⟩, fun fs hl => c13.trans (X11.ireturnOut hexec hret rfl (Or.inr (Or.inl rfl)) (hb hbytes d55) hl)⟩
theorem pays {l : Launch} {R : Room} {p : Program} {e : Env} {below : List Frame} {s : State} {sargs : Array Value} {len W : Nat} (x t : Addr) (V : Cell) (cd : Int32) (n : Nat) (f : Nat → Int32) (y t' : Addr) (V' : Cell) (cd' : Int32) (k : Nat) (g : Nat → Int32) (z : Int32) (htab : tab.before sargs s = true) (hfr : 2 ≤ R.frames) (hlo : W + 28 ≤ R.locals) :
    Back l R p e below s sargs yN len W (fun A₁ a₁ => A₁.cells + 0 ≤ R.cells ∧ A₁.slots + 0 ≤ R.slots ∧ P x t V cd n f y t' V' cd' k g z a₁ A₁.U) (fun A₁ _ v₁ B₁ => Says01 (SameT n f k g) v₁ A₁.U B₁.U ∧ B₁.locs = A₁.locs ++ [] ∧ B₁.cells = A₁.cells + 0 ∧ B₁.slots = A₁.slots + 0) :=
  (law l x t V cd n f y t' V' cd' k g z).pays htab hfr (by omega)
end SEq
end StrChars
namespace StrChars.Road
open Jvm Sem ClassFile Op Lib Jvm.Stand Jvm.Free Jvm.Free.XT
open Jvm.Lib.Cold (StaticIs)
/-- the words of String.equals(Object) -/
abbrev wordsEq : List Jvm.Cond := [.code SEq.yN SEq.yB 3 (some .boolean), .initialized ST, .classLink ST 10 ST, .fieldLink ST 38 ST "COMPACT_STRINGS" "Z", .fieldLink ST 15 ST "coder" "B", .fieldLink ST 9 ST "value" "[B", .methodLink ST 541 LEq.yN, .static LEq.yN, .code LEq.yN LEq.yB 3 (some .boolean), .initialized "java/lang/StringLatin1"]
theorem tabEq_of {a : Array Value} {s : State} (h : ∀ w ∈ wordsEq, w.before a s = true) : SEq.tab.before a s = true := by
  have hl : LEq.tab.before a s = true := unparts (wk h (.code LEq.yN LEq.yB 3 (some .boolean))) (wks h (.initialized LEq.yN.cls :: LEq.site))
  have q := consq hl h
  exact unparts (wk q (.code SEq.yN SEq.yB 3 (some .boolean))) (wks q (.initialized SEq.yN.cls :: SEq.site))
theorem movedEq {Z s : State} {a0 args : Array Value} (hZ : Z.Warmed39 s.vm) (hw : ∀ d ∈ wordsEq, d.before a0 Z = true) : ∀ d ∈ wordsEq, d.before args s = true := fun d hd => by
  have t : ∀ d ∈ wordsEq, (d.onTables && d.keepsFace) = true := by decide +kernel
  exact RoadKit.mv hZ (hw d hd) (t d hd)
/-- the road's facts of a String, as the laws ask it -/
theorem txt_of {Z U : State} {a0 : Array Value} {kI : Nat} (wi : (Jvm.Cond.instantiable ST kI).before a0 Z = true) (al : Z.vm.Alike U.vm) {x t : Addr} {kb : ClassId} {cs : List Int32} {cd N2 : Int32} {vs : List Value} (E : RoadKit.Exa Z U.heap x ST) (V : RoadKit.Fld Z U.heap x ST "value" "[B" (.ref t)) (C : RoadKit.Fld Z U.heap x ST "coder" "B" (.int cd)) (K : RoadKit.Arv Z U.heap t kb .byte N2 vs (.int 0)) (hc : CodA cs cd N2 vs) (hb : ∀ c ∈ cs, ¬ c < 0 ∧ ¬ (65535 : Int32) < c) (l2 : cs.length ≤ 4000) :
    ∃ A, Txt x t A cd cs.length (fun j => cs.getD j 0) U := by
  obtain ⟨A, K1, K2, K3, K4, K5, K6⟩ := K
  have hcod := hc.cod (by omega) K3 K5
  obtain ⟨D, fV, fC, hB, F1, F2, g1, g2, -, -⟩ := strObj wi al E V C
  exact ⟨A, ⟨_, hB.2.2.1, D, hB.1, rfl, by cases q : D.vm <;> first | rfl | exact absurd q (hB.2.1.2 _)⟩, Has.of hB F1 g1, Has.of hB F2 g2, ⟨K1.1, State.isArrayOf_alike al K1.2.1, K1.2.2, by rcases hcod with ⟨-, q, -⟩ | ⟨-, q, -⟩ <;> omega⟩, hcod, fun j hj => by
    have e : cs.getD j 0 = cs[j] := by simp [List.getD_eq_getElem?_getD, hj]
    show ¬ cs.getD j 0 < 0 ∧ ¬ 65535 < cs.getD j 0
    rw [e]; exact hb _ (List.getElem_mem _)⟩
theorem same_list (cs ds : List Int32) : SameT cs.length (fun j => cs.getD j 0) ds.length (fun j => ds.getD j 0) ↔ cs = ds := by
  constructor
  · rintro ⟨e, q⟩
    refine List.ext_getElem e fun j h1 h2 => ?_
    have := q j h1
    simpa [List.getD_eq_getElem?_getD, h1, h2] using this
  · rintro rfl
    exact ⟨rfl, fun _ _ => rfl⟩
/-- **equals(Object) OF TWO SUCH STRINGS**: 1 just where the chars are the same -/
theorem eqW {p : Program} {l : Launch} {e : Env} {R : Room} {s : State} {args : Array Value} {below : List Frame} {len W : Nat} {Z : State} {a0 : Array Value} {h : Heap} (hZ : Z.Warmed39 s.vm) (hw : ∀ d ∈ wordsEq, d.before a0 Z = true) {kI : Nat} (wi : (Jvm.Cond.instantiable ST kI).before a0 Z = true)
    {x t : Addr} {kb : ClassId} {cs : List Int32} {cd N2 : Int32} {vs : List Value} (E : RoadKit.Exa Z h x ST) (V : RoadKit.Fld Z h x ST "value" "[B" (.ref t)) (C : RoadKit.Fld Z h x ST "coder" "B" (.int cd)) (K : RoadKit.Arv Z h t kb .byte N2 vs (.int 0)) (hc : CodA cs cd N2 vs) (hb : ∀ c ∈ cs, ¬ c < 0 ∧ ¬ (65535 : Int32) < c) (l2 : cs.length ≤ 4000)
    {y t' : Addr} {kb' : ClassId} {ds : List Int32} {cd' N2' : Int32} {vs' : List Value} (E' : RoadKit.Exa Z h y ST) (V' : RoadKit.Fld Z h y ST "value" "[B" (.ref t')) (C' : RoadKit.Fld Z h y ST "coder" "B" (.int cd')) (K' : RoadKit.Arv Z h t' kb' .byte N2' vs' (.int 0)) (hc' : CodA ds cd' N2' vs') (hb' : ∀ c ∈ ds, ¬ c < 0 ∧ ¬ (65535 : Int32) < c) (l2' : ds.length ≤ 4000)
    {z : Int32} (S : RoadKit.Sta Z h ST "COMPACT_STRINGS" "Z" (.int z)) (hz : ¬ z = 0) (hfr : 2 ≤ R.frames) (hlo : W + 28 ≤ R.locals) :
    Back l R p e below s args (⟨"java/lang/String", "equals", "(Ljava/lang/Object;)Z"⟩ : MethodName) len W (fun P a => a = #[.ref x, .ref y] ∧ P.U.heap = h ∧ P.cells + 0 ≤ R.cells ∧ P.slots + 0 ≤ R.slots)
      (fun P _ v B => ∃ L, (((v = some (.int 1) ∧ cs = ds) ∨ (v = some (.int 0) ∧ ¬ cs = ds)) ∧ L = [] ∧ B.U.heap = h) ∧ B.locs = P.locs ++ L ∧ B.cells = P.cells + 0 ∧ B.slots = P.slots + 0) := by
  intro m meth c P g ig mk a X hg hsize hdg hW hn hp'
  obtain ⟨rfl, rfl, r1, r2⟩ := hp'
  have al : Z.vm.Alike P.U.vm := hZ.alike.trans X.warmed.alike
  obtain ⟨A, hx⟩ := txt_of wi al E V C K hc hb l2
  obtain ⟨A', hy⟩ := txt_of wi al E' V' C' K' hc' hb' l2'
  obtain ⟨v, B, X', ⟨⟨w, hv, hh, hq⟩, hl, hk, hs⟩, st⟩ := SEq.pays x t A cd cs.length (fun j => cs.getD j 0) y t' A' cd' ds.length (fun j => ds.getD j 0) z (tabEq_of (movedEq hZ hw)) hfr hlo m meth c P g ig mk _ X hg hsize hdg hW hn ⟨r1, r2, rfl, hx, hy, sta_is al S, hz⟩
  refine ⟨v, B, X', ⟨[], ⟨?_, rfl, hh⟩, hl, hk, hs⟩, st⟩
  rcases hq with ⟨rfl, q⟩ | ⟨rfl, q⟩
  · exact Or.inl ⟨hv, (same_list cs ds).mp q⟩
  · exact Or.inr ⟨hv, fun e => q ((same_list cs ds).mpr e)⟩
end StrChars.Road
namespace StrChars.Road
open Jvm Sem ClassFile Op Lib Jvm.Stand Jvm.Free Jvm.Free.XT
open Jvm.Lib.Cold (StaticIs)
/-- what backV says of its String, as the contracts of this text ask it: cs's low bytes, coder 0 -/
theorem codOf {cs : List Int32} {n : Nat} (hn : cs.length = n) (hb : ∀ c ∈ cs, ¬ 255 < c) : CodA cs 0 (Int32.ofNat n) ((cs.map lo8).map Value.int) := Or.inl ⟨rfl, by rw [hn], by simp [List.map_map, Function.comp_def], hb⟩
end StrChars.Road
end Jvm.Pilot.@@N@@

namespace Jvm.Pilot.@@N@@
open Jvm Jvm.ClassFile Sem Op Lib Jvm.Free Jvm.Stand Jvm.LawKit Jvm.RoadKit Bundle Jvm.Pilot.@@N@@.Jvm.D
section OwnGo
variable {p : Program} {l : Launch} {e : Env} {R : Room} {s : State} {m : MethodId} {args : Array Value} {below : List Frame} {meth : Method} {c : Code} {T : State} {locs : List Loc} {cells slots : Nat} {Z : State} {a0 : Array Value} {h : Heap} {Q : Option Value → Heap → List Loc → Prop} {kc kn : Nat} {V V' : State}
/-- from V the run comes to the body's end, and there Q holds -/
def own_Go (p : Program) (e : Env) (below : List Frame) (s : State) (Q : Option Value → Heap → List Loc → Prop) (kc kn : Nat) (V : State) : Prop :=
  ∃ U o, Steps p.tables e below V U ∧ U.status = .running ∧ Ended U below o ∧ ∃ v L, o = .returned v ∧ Q v U.heap L ∧ FrameEnd s o U L kc kn
theorem own_st (h : ∀ t, Steps p.tables e below V' t → Steps p.tables e below V t) (k : own_Go p e below s Q kc kn V') : own_Go p e below s Q kc kn V := by
  obtain ⟨U, o, h1, r⟩ := k
  exact ⟨U, o, h U h1, r⟩
theorem own_z0 {n0 : Nat} (X : Old Z n0 h) : n0 ≤ h.size := X.1 ▸ X.2.1
/-- the return of an int, a long or a reference -/
theorem own_ret (X : Stand p l e R s m args below meth c T locs cells slots) (hx : p.tables.exec = Jvm.exec) (hk : meth.locks = false) {pc : Nat} {Ls : Array Slot} {w : Value} {t : FieldType} {i : Instr} {rest : List Value} (hret : meth.sig.returnType = some t) (hn : narrow t w = w)
    (hi : (i = .ireturn ∧ (t = .int ∨ t = .boolean ∨ t = .byte ∨ t = .char ∨ t = .short) ∧ ∃ z, w = .int z) ∨ (i = .lreturn ∧ t = .long ∧ ∃ z, w = .long z) ∨ (i = .dreturn ∧ t = .double ∧ ∃ z, w = .double z) ∨ (i = .freturn ∧ t = .float ∧ ∃ z, w = .float z) ∨ (i = .areturn ∧ t.isReference = true ∧ w.isRef = true))
    (hd : decode c.code pc = .ok (i, 1)) (hc : cells ≤ kc) (hs : slots ≤ kn) (q : Q (some w) T.heap locs) : own_Go p e below s Q kc kn (T.setTop (mkF m pc Ls (w :: rest))) := by
  obtain ⟨fs, hr, hrun, hended, hW, hsame⟩ := X.leave (v := some w) (fun h => by rw [hret] at h; cases h)
  exact ⟨_, _, retOut X hx hret hn hi hd hr, hrun, hended, _, _, rfl, q, ⟨_, rfl⟩, hW, hsame.mono hc hs⟩
theorem own_retI (X : Stand p l e R s m args below meth c T locs cells slots) (hx : p.tables.exec = Jvm.exec) (hk : meth.locks = false) {pc : Nat} {Ls : Array Slot} {z : Int32} {rest : List Value} (hret : meth.sig.returnType = some .int) (hd : decode c.code pc = .ok (.ireturn, 1)) (hc : cells ≤ kc) (hs : slots ≤ kn) (q : Q (some (.int z)) T.heap locs) :
    own_Go p e below s Q kc kn (T.setTop (mkF m pc Ls (.int z :: rest))) := own_ret X hx hk hret rfl (Or.inl ⟨rfl, Or.inl rfl, z, rfl⟩) hd hc hs q
theorem own_retJ (X : Stand p l e R s m args below meth c T locs cells slots) (hx : p.tables.exec = Jvm.exec) (hk : meth.locks = false) {pc : Nat} {Ls : Array Slot} {z : Int64} {rest : List Value} (hret : meth.sig.returnType = some .long) (hd : decode c.code pc = .ok (.lreturn, 1)) (hc : cells ≤ kc) (hs : slots ≤ kn) (q : Q (some (.long z)) T.heap locs) :
    own_Go p e below s Q kc kn (T.setTop (mkF m pc Ls (.long z :: rest))) := own_ret X hx hk hret rfl (Or.inr (Or.inl ⟨rfl, rfl, z, rfl⟩)) hd hc hs q
theorem own_retR (X : Stand p l e R s m args below meth c T locs cells slots) (hx : p.tables.exec = Jvm.exec) (hk : meth.locks = false) {pc : Nat} {Ls : Array Slot} {w : Value} {t : FieldType} {rest : List Value} (hret : meth.sig.returnType = some t) (ht : t.isReference = true) (hw : w.isRef = true) (hd : decode c.code pc = .ok (.areturn, 1)) (hc : cells ≤ kc) (hs : slots ≤ kn) (q : Q (some w) T.heap locs) :
    own_Go p e below s Q kc kn (T.setTop (mkF m pc Ls (w :: rest))) := by
  refine own_ret X hx hk hret ?_ (Or.inr (Or.inr (Or.inr (Or.inr ⟨rfl, ht, hw⟩)))) hd hc hs q
  rcases ref_cases hw with rfl | ⟨b, rfl⟩ <;> cases t <;> first | rfl | (cases ht; done)
/-- the return of a boolean, byte, char or short -/
theorem own_retN (X : Stand p l e R s m args below meth c T locs cells slots) (hx : p.tables.exec = Jvm.exec) (hk : meth.locks = false) {pc : Nat} {Ls : Array Slot} {z : Int32} {t : FieldType} {rest : List Value} (hret : meth.sig.returnType = some t) (ht : t = .boolean ∨ t = .byte ∨ t = .char ∨ t = .short) (hd : decode c.code pc = .ok (.ireturn, 1)) (hc : cells ≤ kc) (hs : slots ≤ kn) (q : Q (some (.int (nar t z))) T.heap locs) :
    own_Go p e below s Q kc kn (T.setTop (mkF m pc Ls (.int z :: rest))) := by
  obtain ⟨fs, hr, hrun, hended, hW, hsame⟩ := X.leave (v := some (.int (nar t z))) (fun h => by rw [hret] at h; cases h)
  exact ⟨_, _, retN X hx hret ht hd hr, hrun, hended, _, _, rfl, q, ⟨_, rfl⟩, hW, hsame.mono hc hs⟩
theorem own_retV (X : Stand p l e R s m args below meth c T locs cells slots) (hx : p.tables.exec = Jvm.exec) (hk : meth.locks = false) {pc : Nat} {Ls : Array Slot} (hret : meth.sig.returnType = none) (hd : decode c.code pc = .ok (.return_, 1)) (hc : cells ≤ kc) (hs : slots ≤ kn) (q : Q none T.heap locs) :
    own_Go p e below s Q kc kn (T.setTop (mkF m pc Ls [])) := by
  obtain ⟨fs, hr, hrun, hended, hW, hsame⟩ := X.leave (v := none) (fun _ => rfl)
  exact ⟨_, _, X.returnOut hx hret hd hr, hrun, hended, _, _, rfl, q, ⟨_, rfl⟩, hW, hsame.mono hc hs⟩
/-! calls, by a Back or by the callee's own contract -/
variable {own : String} {index : Nat} {y z : MethodName} {bytes : ByteArray} {maxL : Nat} {ret : Option FieldType} {W k n : Nat} {as' : Array Value} {Qy : Option Value → Heap → List Loc → Prop} {g : JFrame} {argsL rest : List Value} {rm : Room}
theorem own_backS (X : Stand p l e R s m args below meth c T locs cells slots) (hx : p.tables.exec = Jvm.exec) (hZ : Z.Warmed39 s.vm) (hown : s.vm.findClass own = some m.cls) (w1 : (Cond.methodLink own index y).before a0 Z = true) (w2 : (Cond.static y).before a0 Z = true) (w3 : (Cond.initialized y.cls).before a0 Z = true) (w4 : (Cond.code y bytes maxL ret).before a0 Z = true)
    (hy : y.cls ≠ "java/lang/invoke/MethodHandle" ∧ y.cls ≠ "java/lang/invoke/VarHandle")
    (hK : Back l R p e below s args y 3 W (fun A a => a = as' ∧ A.U.heap = h ∧ A.cells + k ≤ R.cells ∧ A.slots + n ≤ R.slots) (fun A _ v B => ∃ L, Qy v B.U.heap L ∧ B.locs = A.locs ++ L ∧ B.cells = A.cells + k ∧ B.slots = A.slots + n))
    (eT : T.heap = h) (hg : g.method = m) (hsize : g.locals.size = c.maxLocals) (has : argsL.toArray = as') (hlen : ∀ sig, parseMethodDescriptor y.desc = some sig → argsL.length = sig.parameters.length) (hstack : g.stack = argsL.reverse ++ rest) (hW : 2 * g.monitorRoom + (rest.map fun v => v.category).sum ≤ W)
    (hdg : decode c.code g.pc = .ok (.invokestatic index, 3)) (hc : cells + k ≤ R.cells) (hs : slots + n ≤ R.slots) :
    ∃ v T' h' L, Stand p l e R s m args below meth c T' (locs ++ L) (cells + k) (slots + n) ∧ T'.heap = h' ∧ Qy v h' L ∧ ∀ t, Steps p.tables e below (T'.setTop { g with pc := g.pc + 3, stack := v.toList ++ rest }) t → Steps p.tables e below (T.setTop g) t := by
  obtain ⟨v, _, ⟨T', L', k', n'⟩, -, X', ⟨L, hQ, l1, l2, l3⟩, st⟩ := Jvm.LawKit.callS X hx (y := y) hown (mvT hZ w1) (mvT hZ w2) (mvT hZ w3) (mvT hZ w4) hy hK hg hsize hlen hstack hW hdg (fun _ _ => ⟨has, eT, hc, hs⟩)
  dsimp only [Pt.U, Pt.locs, Pt.cells, Pt.slots] at X' l1 l2 l3 st hQ
  subst l1 l2 l3
  exact ⟨v, T', _, L, X', rfl, hQ, st⟩
theorem own_callS (X : Stand p l e R s m args below meth c T locs cells slots) (hx : p.tables.exec = Jvm.exec) (hZ : Z.Warmed39 s.vm) (hown : s.vm.findClass own = some m.cls) (w1 : (Cond.methodLink own index y).before a0 Z = true) (w2 : (Cond.static y).before a0 Z = true) (w3 : (Cond.initialized y.cls).before a0 Z = true) (w4 : (Cond.code y bytes maxL ret).before a0 Z = true)
    (hy : y.cls ≠ "java/lang/invoke/MethodHandle" ∧ y.cls ≠ "java/lang/invoke/VarHandle")
    (hM : MetFree l y (head1 [Cond.code y bytes maxL ret] rm) (fun a U => a = as' ∧ Z.Warmed39 U.vm ∧ U.heap = h) (fun _ _ _ _ _ => True) (fun _ U o U' => ∃ v L, o = .returned v ∧ Qy v U'.heap L ∧ FrameEnd U o U' L rm.cells rm.slots)) (hf : rm.frames + 1 ≤ R.frames) (hl : W + (maxL + 11) + rm.locals ≤ R.locals)
    (eT : T.heap = h) (hg : g.method = m) (hsize : g.locals.size = c.maxLocals) (has : argsL.toArray = as') (hlen : ∀ sig, parseMethodDescriptor y.desc = some sig → argsL.length = sig.parameters.length) (hstack : g.stack = argsL.reverse ++ rest) (hW : 2 * g.monitorRoom + (rest.map fun v => v.category).sum ≤ W)
    (hdg : decode c.code g.pc = .ok (.invokestatic index, 3)) (hc : cells + rm.cells ≤ R.cells) (hs : slots + rm.slots ≤ R.slots) :
    ∃ v T' h' L, Stand p l e R s m args below meth c T' (locs ++ L) (cells + rm.cells) (slots + rm.slots) ∧ T'.heap = h' ∧ Qy v h' L ∧ ∀ t, Steps p.tables e below (T'.setTop { g with pc := g.pc + 3, stack := v.toList ++ rest }) t → Steps p.tables e below (T.setTop g) t :=
  own_backS X hx hZ hown w1 w2 w3 w4 hy (backOf hM hZ w4 w3 hf hl) eT hg hsize has hlen hstack hW hdg hc hs
theorem own_backI (X : Stand p l e R s m args below meth c T locs cells slots) (hx : p.tables.exec = Jvm.exec) (hZ : Z.Warmed39 s.vm) (hown : s.vm.findClass own = some m.cls) (hy1 : y.name = "<init>") (w1 : (Cond.methodLink own index y).before a0 Z = true) (w2 : (Cond.instanceMethod y).before a0 Z = true) (w4 : (Cond.code y bytes maxL none).before a0 Z = true)
    (hy : y.cls ≠ "java/lang/invoke/MethodHandle" ∧ y.cls ≠ "java/lang/invoke/VarHandle")
    (hK : Back l R p e below s args y 3 W (fun A a => a = as' ∧ A.U.heap = h ∧ A.cells + k ≤ R.cells ∧ A.slots + n ≤ R.slots) (fun A _ v B => ∃ L, Qy v B.U.heap L ∧ B.locs = A.locs ++ L ∧ B.cells = A.cells + k ∧ B.slots = A.slots + n))
    (eT : T.heap = h) {a : Addr} (hg : g.method = m) (hsize : g.locals.size = c.maxLocals) (has : (Value.ref a :: argsL).toArray = as') (hlen : ∀ sig, parseMethodDescriptor y.desc = some sig → argsL.length = sig.parameters.length) (hstack : g.stack = argsL.reverse ++ .ref a :: rest) (hW : 2 * g.monitorRoom + (rest.map fun v => v.category).sum ≤ W)
    (hdg : decode c.code g.pc = .ok (.invokespecial index, 3)) (hc : cells + k ≤ R.cells) (hs : slots + n ≤ R.slots) :
    ∃ v T' h' L, Stand p l e R s m args below meth c T' (locs ++ L) (cells + k) (slots + n) ∧ T'.heap = h' ∧ Qy v h' L ∧ ∀ t, Steps p.tables e below (T'.setTop { g with pc := g.pc + 3, stack := v.toList ++ rest }) t → Steps p.tables e below (T.setTop g) t := by
  obtain ⟨v, _, ⟨T', L', k', n'⟩, -, X', ⟨L, hQ, l1, l2, l3⟩, st⟩ := X.specialBack hx (y := y) hy1 hown (mvT hZ w1) (mvT hZ w2) (mvT hZ w4) hy hK hg hsize (Steps.refl _) hlen hstack hW hdg (fun _ _ => ⟨has, eT, hc, hs⟩)
  dsimp only [Pt.U, Pt.locs, Pt.cells, Pt.slots] at X' l1 l2 l3 st hQ
  subst l1 l2 l3
  exact ⟨v, T', _, L, X', rfl, hQ, fun t k => st.trans k⟩
theorem own_callI (X : Stand p l e R s m args below meth c T locs cells slots) (hx : p.tables.exec = Jvm.exec) (hZ : Z.Warmed39 s.vm) (hown : s.vm.findClass own = some m.cls) (hy1 : y.name = "<init>") (w1 : (Cond.methodLink own index y).before a0 Z = true) (w2 : (Cond.instanceMethod y).before a0 Z = true) (w3 : (Cond.initialized y.cls).before a0 Z = true) (w4 : (Cond.code y bytes maxL none).before a0 Z = true)
    (hy : y.cls ≠ "java/lang/invoke/MethodHandle" ∧ y.cls ≠ "java/lang/invoke/VarHandle")
    (hM : MetFree l y (head1 [Cond.code y bytes maxL none] rm) (fun a U => a = as' ∧ Z.Warmed39 U.vm ∧ U.heap = h) (fun _ _ _ _ _ => True) (fun _ U o U' => ∃ v L, o = .returned v ∧ Qy v U'.heap L ∧ FrameEnd U o U' L rm.cells rm.slots)) (hf : rm.frames + 1 ≤ R.frames) (hl : W + (maxL + 11) + rm.locals ≤ R.locals)
    (eT : T.heap = h) {a : Addr} (hg : g.method = m) (hsize : g.locals.size = c.maxLocals) (has : (Value.ref a :: argsL).toArray = as') (hlen : ∀ sig, parseMethodDescriptor y.desc = some sig → argsL.length = sig.parameters.length) (hstack : g.stack = argsL.reverse ++ .ref a :: rest) (hW : 2 * g.monitorRoom + (rest.map fun v => v.category).sum ≤ W)
    (hdg : decode c.code g.pc = .ok (.invokespecial index, 3)) (hc : cells + rm.cells ≤ R.cells) (hs : slots + rm.slots ≤ R.slots) :
    ∃ v T' h' L, Stand p l e R s m args below meth c T' (locs ++ L) (cells + rm.cells) (slots + rm.slots) ∧ T'.heap = h' ∧ Qy v h' L ∧ ∀ t, Steps p.tables e below (T'.setTop { g with pc := g.pc + 3, stack := v.toList ++ rest }) t → Steps p.tables e below (T.setTop g) t :=
  own_backI X hx hZ hown hy1 w1 w2 w4 hy (backOf hM hZ w4 w3 hf hl) eT hg hsize has hlen hstack hW hdg hc hs
theorem own_backV (X : Stand p l e R s m args below meth c T locs cells slots) (hx : p.tables.exec = Jvm.exec) (hZ : Z.Warmed39 s.vm) (hown : s.vm.findClass own = some m.cls) {C : String} (w1 : (Cond.methodLink own index y).before a0 Z = true) (w2 : (Cond.declares y).before a0 Z = true) (hnf : NotFace s y) (w3 : (Cond.selects C y z).before a0 Z = true) (w4 : (Cond.instanceMethod z).before a0 Z = true)
    (hy : y.cls ≠ "java/lang/invoke/MethodHandle" ∧ y.cls ≠ "java/lang/invoke/VarHandle")
    (hK : Back l R p e below s args z 3 W (fun A a => a = as' ∧ A.U.heap = h ∧ A.cells + k ≤ R.cells ∧ A.slots + n ≤ R.slots) (fun A _ v B => ∃ L, Qy v B.U.heap L ∧ B.locs = A.locs ++ L ∧ B.cells = A.cells + k ∧ B.slots = A.slots + n))
    (eT : T.heap = h) {b : Addr} (E : Exa Z h b C) (hg : g.method = m) (hsize : g.locals.size = c.maxLocals) (has : (Value.ref b :: argsL).toArray = as') (hlen : ∀ sig, parseMethodDescriptor y.desc = some sig → argsL.length = sig.parameters.length) (hstack : g.stack = argsL.reverse ++ .ref b :: rest) (hW : 2 * g.monitorRoom + (rest.map fun v => v.category).sum ≤ W)
    (hdg : decode c.code g.pc = .ok (.invokevirtual index, 3)) (hc : cells + k ≤ R.cells) (hs : slots + n ≤ R.slots) :
    ∃ v T' h' L, Stand p l e R s m args below meth c T' (locs ++ L) (cells + k) (slots + n) ∧ T'.heap = h' ∧ Qy v h' L ∧ ∀ t, Steps p.tables e below (T'.setTop { g with pc := g.pc + 3, stack := v.toList ++ rest }) t → Steps p.tables e below (T.setTop g) t := by
  obtain ⟨cq, kq, qa, qb, qc⟩ := isOf hZ eT E
  obtain ⟨v, _, ⟨T', L', k', n'⟩, -, X', ⟨L, hQ, l1, l2, l3⟩, st⟩ := X.virtualBack hx (y := y) (z := z) hown (mvT hZ w1) (mvT hZ w2) hnf (mvT hZ w3) (mvT hZ w4) hy hK qa qc hg hsize (Steps.refl _) hlen hstack hW hdg (fun _ _ => ⟨has, eT, hc, hs⟩)
  dsimp only [Pt.U, Pt.locs, Pt.cells, Pt.slots] at X' l1 l2 l3 st hQ
  subst l1 l2 l3
  exact ⟨v, T', _, L, X', rfl, hQ, fun t k => st.trans k⟩
theorem own_callV (X : Stand p l e R s m args below meth c T locs cells slots) (hx : p.tables.exec = Jvm.exec) (hZ : Z.Warmed39 s.vm) (hown : s.vm.findClass own = some m.cls) {C : String} (w1 : (Cond.methodLink own index y).before a0 Z = true) (w2 : (Cond.declares y).before a0 Z = true) (w3 : (Cond.selects C y y).before a0 Z = true) (w4 : (Cond.instanceMethod y).before a0 Z = true) (w5 : (Cond.initialized y.cls).before a0 Z = true) (w6 : (Cond.code y bytes maxL ret).before a0 Z = true)
    (hy : y.cls ≠ "java/lang/invoke/MethodHandle" ∧ y.cls ≠ "java/lang/invoke/VarHandle")
    (hM : MetFree l y (head1 [Cond.code y bytes maxL ret] rm) (fun a U => a = as' ∧ Z.Warmed39 U.vm ∧ U.heap = h) (fun _ _ _ _ _ => True) (fun _ U o U' => ∃ v L, o = .returned v ∧ Qy v U'.heap L ∧ FrameEnd U o U' L rm.cells rm.slots)) (hf : rm.frames + 1 ≤ R.frames) (hl : W + (maxL + 11) + rm.locals ≤ R.locals)
    (eT : T.heap = h) {b : Addr} (E : Exa Z h b C) (hg : g.method = m) (hsize : g.locals.size = c.maxLocals) (has : (Value.ref b :: argsL).toArray = as') (hlen : ∀ sig, parseMethodDescriptor y.desc = some sig → argsL.length = sig.parameters.length) (hstack : g.stack = argsL.reverse ++ .ref b :: rest) (hW : 2 * g.monitorRoom + (rest.map fun v => v.category).sum ≤ W)
    (hdg : decode c.code g.pc = .ok (.invokevirtual index, 3)) (hc : cells + rm.cells ≤ R.cells) (hs : slots + rm.slots ≤ R.slots) :
    ∃ v T' h' L, Stand p l e R s m args below meth c T' (locs ++ L) (cells + rm.cells) (slots + rm.slots) ∧ T'.heap = h' ∧ Qy v h' L ∧ ∀ t, Steps p.tables e below (T'.setTop { g with pc := g.pc + 3, stack := v.toList ++ rest }) t → Steps p.tables e below (T.setTop g) t :=
  own_backV X hx hZ hown w1 w2 (notFace_of_selects (args := #[]) (mvT hZ w3)) w3 w4 hy (backOf hM hZ w6 w5 hf hl) eT E hg hsize has hlen hstack hW hdg hc hs
end OwnGo
section OwnArr
variable {p : Program} {l : Launch} {e : Env} {R : Room} {s : State} {m : MethodId} {args : Array Value} {below : List Frame} {meth : Method} {c : Code} {T : State} {locs : List Loc} {cells slots : Nat} {Z : State} {a0 : Array Value} {h : Heap} {a : Addr} {k : ClassId} {ty : FieldType} {z j : Int32} {vs : List Value} {d v : Value} {g : JFrame} {rest : List Value}
theorem own_alen (X : Stand p l e R s m args below meth c T locs cells slots) (hx : p.tables.exec = Jvm.exec) (hZ : Z.Warmed39 s.vm) (eT : T.heap = h) (A : Arv Z h a k ty z vs d) (hg : g.method = m) (hs : g.stack = .ref a :: rest) (hd : decode c.code g.pc = .ok (.arraylength, 1)) (t : State)
    (hr : Steps p.tables e below (T.setTop { g with pc := g.pc + 1, stack := .int z :: rest }) t) : Steps p.tables e below (T.setTop g) t := by
  obtain ⟨cl, A1, A2, A3, A4, A5, A6⟩ := A
  refine X.arraylength hx (by rw [eT]; exact A1.1) (State.isArrayOf_alike hZ.alike A1.2.1) hg hs hd t ?_
  rw [len_of A3 A4]
  exact hr
theorem own_cald (X : Stand p l e R s m args below meth c T locs cells slots) (hx : p.tables.exec = Jvm.exec) (hZ : Z.Warmed39 s.vm) (eT : T.heap = h) (A : Arv Z h a k .char z vs d) (hj : ¬ j < 0 ∧ j < z) (hv : vs.getD j.toNatClampNeg d = v) (hg : g.method = m) (hs : g.stack = .int j :: .ref a :: rest) (hd : decode c.code g.pc = .ok (.caload, 1)) (t : State)
    (hr : Steps p.tables e below (T.setTop { g with pc := g.pc + 1, stack := v :: rest }) t) : Steps p.tables e below (T.setTop g) t := by
  obtain ⟨cl, A1, A2, A3, A4, A5, A6⟩ := A
  exact X.caload hx (by rw [eT]; exact A1.1) (State.isArrayOf_alike hZ.alike A1.2.1) A1.2.2 (inb_of A3 hj) (A5.at (inb_of A3 hj) hv) hg hs hd t hr
theorem own_bald (X : Stand p l e R s m args below meth c T locs cells slots) (hx : p.tables.exec = Jvm.exec) (hZ : Z.Warmed39 s.vm) (eT : T.heap = h) (A : Arv Z h a k .byte z vs d) (hj : ¬ j < 0 ∧ j < z) (hv : vs.getD j.toNatClampNeg d = v) (hg : g.method = m) (hs : g.stack = .int j :: .ref a :: rest) (hd : decode c.code g.pc = .ok (.baload, 1)) (t : State)
    (hr : Steps p.tables e below (T.setTop { g with pc := g.pc + 1, stack := v :: rest }) t) : Steps p.tables e below (T.setTop g) t := by
  obtain ⟨cl, A1, A2, A3, A4, A5, A6⟩ := A
  exact X.baloadBytes hx (by rw [eT]; exact A1.1) (State.isArrayOf_alike hZ.alike A1.2.1) A1.2.2 (inb_of A3 hj) (A5.at (inb_of A3 hj) hv) hg hs hd t hr
end OwnArr
section OwnFace
variable {p : Program} {l : Launch} {e : Env} {R : Room} {s : State} {m : MethodId} {args : Array Value} {below : List Frame} {meth : Method} {c : Code} {T : State} {locs : List Loc} {cells slots : Nat} {Z : State} {a0 : Array Value} {h : Heap} {own C : String} {index count : Nat} {y z : MethodName} {bytes : ByteArray} {maxL : Nat} {ret : Option FieldType} {W : Nat} {as' : Array Value} {Qy : Option Value → Heap → List Loc → Prop} {g : JFrame} {argsL rest : List Value} {rm : Room}
theorem own_callF (X : Stand p l e R s m args below meth c T locs cells slots) (hx : p.tables.exec = Jvm.exec) (hZ : Z.Warmed39 s.vm) (hown : s.vm.findClass own = some m.cls) (w1 : (Cond.methodLink own index y).before a0 Z = true) (w2 : (Cond.declares y).before a0 Z = true) (w3 : (Cond.interfaceMethod y.cls y.cls y.name y.desc).before args s = true) (w4 : (Cond.selects C y z).before a0 Z = true) (w5 : (Cond.instanceMethod z).before a0 Z = true) (w6 : (Cond.publicMethod z).before a0 Z = true) (w7 : (Cond.unhidden C y.name y.desc).before a0 Z = true) (w8 : (Cond.castable C y.cls).before a0 Z = true) (w9 : (Cond.initialized z.cls).before a0 Z = true) (w10 : (Cond.code z bytes maxL ret).before a0 Z = true)
    (hy : y.cls ≠ "java/lang/invoke/MethodHandle" ∧ y.cls ≠ "java/lang/invoke/VarHandle")
    (hM : MetFree l z (head1 [Cond.code z bytes maxL ret] rm) (fun a U => a = as' ∧ Z.Warmed39 U.vm ∧ U.heap = h) (fun _ _ _ _ _ => True) (fun _ U o U' => ∃ v L, o = .returned v ∧ Qy v U'.heap L ∧ FrameEnd U o U' L rm.cells rm.slots)) (hf : rm.frames + 1 ≤ R.frames) (hl : W + (maxL + 11) + rm.locals ≤ R.locals)
    (eT : T.heap = h) {b : Addr} (E : Exa Z h b C) (hg : g.method = m) (hsize : g.locals.size = c.maxLocals) (has : (Value.ref b :: argsL).toArray = as') (hlen : ∀ sig, parseMethodDescriptor y.desc = some sig → argsL.length = sig.parameters.length) (hstack : g.stack = argsL.reverse ++ .ref b :: rest) (hW : 2 * g.monitorRoom + (rest.map fun v => v.category).sum ≤ W)
    (hdg : decode c.code g.pc = .ok (.invokeinterface index count, 5)) (hc : cells + rm.cells ≤ R.cells) (hs : slots + rm.slots ≤ R.slots) :
    ∃ v T' h' L, Stand p l e R s m args below meth c T' (locs ++ L) (cells + rm.cells) (slots + rm.slots) ∧ T'.heap = h' ∧ Qy v h' L ∧ ∀ t, Steps p.tables e below (T'.setTop { g with pc := g.pc + 5, stack := v.toList ++ rest }) t → Steps p.tables e below (T.setTop g) t := by
  obtain ⟨cq, kq, qa, qb, qc⟩ := isOf hZ eT E
  obtain ⟨v, _, ⟨T', L', k', n'⟩, -, X', ⟨L, hQ, l1, l2, l3⟩, st⟩ := X.interfaceBack hx (xi := y) (y := z) hown (mvT hZ w1) (mvT hZ w2) w3 (mvT hZ w4) (mvT hZ w5) (mvT hZ w6) (mvT hZ w7) (mvT hZ w8) hy (backOf hM hZ w10 w9 hf hl) qa qb qc hg hsize (Steps.refl _) hlen hstack hW hdg (fun _ _ => ⟨has, eT, hc, hs⟩)
  dsimp only [Pt.U, Pt.locs, Pt.cells, Pt.slots] at X' l1 l2 l3 st hQ
  subst l1 l2 l3
  exact ⟨v, T', _, L, X', rfl, hQ, fun t k => st.trans k⟩
theorem own_callVU {owner : String} (X : Stand p l e R s m args below meth c T locs cells slots) (hx : p.tables.exec = Jvm.exec) (hZ : Z.Warmed39 s.vm) (hown : s.vm.findClass own = some m.cls) (w1 : (Cond.methodLink own index y).before a0 Z = true) (w2 : (Cond.sameMethod y.cls owner y.name y.desc).before a0 Z = true) (w3 : (Cond.declares ⟨owner, y.name, y.desc⟩).before a0 Z = true) (w4 : (Cond.selects C y z).before a0 Z = true) (w5 : (Cond.instanceMethod z).before a0 Z = true) (w6 : (Cond.initialized z.cls).before a0 Z = true) (w7 : (Cond.code z bytes maxL ret).before a0 Z = true)
    (hy : owner ≠ "java/lang/invoke/MethodHandle" ∧ owner ≠ "java/lang/invoke/VarHandle")
    (hM : MetFree l z (head1 [Cond.code z bytes maxL ret] rm) (fun a U => a = as' ∧ Z.Warmed39 U.vm ∧ U.heap = h) (fun _ _ _ _ _ => True) (fun _ U o U' => ∃ v L, o = .returned v ∧ Qy v U'.heap L ∧ FrameEnd U o U' L rm.cells rm.slots)) (hf : rm.frames + 1 ≤ R.frames) (hl : W + (maxL + 11) + rm.locals ≤ R.locals)
    (eT : T.heap = h) {b : Addr} (E : Exa Z h b C) (hg : g.method = m) (hsize : g.locals.size = c.maxLocals) (has : (Value.ref b :: argsL).toArray = as') (hlen : ∀ sig, parseMethodDescriptor y.desc = some sig → argsL.length = sig.parameters.length) (hstack : g.stack = argsL.reverse ++ .ref b :: rest) (hW : 2 * g.monitorRoom + (rest.map fun v => v.category).sum ≤ W)
    (hdg : decode c.code g.pc = .ok (.invokevirtual index, 3)) (hc : cells + rm.cells ≤ R.cells) (hs : slots + rm.slots ≤ R.slots) :
    ∃ v T' h' L, Stand p l e R s m args below meth c T' (locs ++ L) (cells + rm.cells) (slots + rm.slots) ∧ T'.heap = h' ∧ Qy v h' L ∧ ∀ t, Steps p.tables e below (T'.setTop { g with pc := g.pc + 3, stack := v.toList ++ rest }) t → Steps p.tables e below (T.setTop g) t := by
  obtain ⟨cq, kq, qa, qb, qc⟩ := isOf hZ eT E
  obtain ⟨v, _, ⟨T', L', k', n'⟩, -, X', ⟨L, hQ, l1, l2, l3⟩, st⟩ := X.virtualBackUp hx (x := y) (y := z) hown (mvT hZ w1) (mvT hZ w2) (mvT hZ w3) hy (mvT hZ w4) (mvT hZ w5) (backOf hM hZ w7 w6 hf hl) qa qc hg hsize (Steps.refl _) hlen hstack hW hdg (fun _ _ => ⟨has, eT, hc, hs⟩)
  dsimp only [Pt.U, Pt.locs, Pt.cells, Pt.slots] at X' l1 l2 l3 st hQ
  subst l1 l2 l3
  exact ⟨v, T', _, L, X', rfl, hQ, fun t k => st.trans k⟩
theorem own_aald {ty : FieldType} {a : Addr} {cl : Cell} {j : Int32} {v : Value} (X : Stand p l e R s m args below meth c T locs cells slots) (hx : p.tables.exec = Jvm.exec) (hZ : Z.Warmed39 s.vm) (eT : T.heap = h) (A : Arr Z h a cl ty) (hty : ty.isReference = true) (hj : ¬ (j < 0 ∨ cl.slots.size ≤ j.toNatClampNeg)) (hv : cl.slots[j.toNatClampNeg]? = some v) (hg : g.method = m) (hs : g.stack = .int j :: .ref a :: rest) (hd : decode c.code g.pc = .ok (.aaload, 1)) (t : State)
    (hr : Steps p.tables e below (T.setTop { g with pc := g.pc + 1, stack := v :: rest }) t) : Steps p.tables e below (T.setTop g) t :=
  X.aaload hx (by rw [eT]; exact A.1) (State.isArrayOf_alike hZ.alike A.2.1) hty A.2.2 hj hv hg hs hd t hr
theorem own_and {a b : Jvm.Cond} (h1 : a.before a0 Z = true) (h2 : b.before a0 Z = true) : (Jvm.Cond.and a b).before a0 Z = true := by rw [Cond.before_and, h1, h2]; rfl
end OwnFace
section OwnUp
variable {p : Program} {l : Launch} {e : Env} {R : Room} {s : State} {m : MethodId} {args : Array Value} {below : List Frame} {meth : Method} {c : Code} {T : State} {locs : List Loc} {cells slots : Nat} {Z : State} {a0 : Array Value} {h : Heap} {own C : String} {index : Nat} {y z : MethodName} {bytes : ByteArray} {maxL : Nat} {ret : Option FieldType} {W : Nat} {as' : Array Value} {Qy : Option Value → Heap → List Loc → Prop} {g : JFrame} {argsL rest : List Value} {rm : Room}
theorem own_face (w : (Cond.instanceMethod y).before a0 Z = true) (w' : (Cond.selects C z z).before a0 Z = true) (hz : z.cls = y.cls) : ∃ mk methM ck, Z.methodNamed? y = some mk ∧ Z.vm.method? mk = some methM ∧ Z.vm.findClass y.cls = some mk.cls ∧ Z.vm.classes[mk.cls]? = some ck ∧ ck.isInterface = false := by
  obtain ⟨mk, methM, hnamed, hmethM, -, -⟩ := Cond.instanceMethod_spec w
  obtain ⟨c2, r2, m2, -, -, q3, -, kP, hkP, hkPi⟩ := Cond.selects_spec w'
  have e1 := findClass_of_methodNamed hnamed
  have e2 := findClass_of_methodNamed q3
  rw [hz, e1] at e2
  exact ⟨mk, methM, kP, hnamed, hmethM, e1, by rw [Option.some.inj e2]; exact hkP, hkPi⟩
theorem own_same (hy : y.cls ≠ "java/lang/invoke/MethodHandle" ∧ y.cls ≠ "java/lang/invoke/VarHandle") (w : (Cond.instanceMethod y).before a0 Z = true) (w' : (Cond.selects C z z).before a0 Z = true) (hz : z.cls = y.cls) : (Cond.sameMethod y.cls y.cls y.name y.desc).before a0 Z = true := by
  obtain ⟨mk, methM, ck, h1, h2, h3, h4, h5⟩ := own_face w w' hz
  have h6 : Z.methodFound? y.cls y.name y.desc = some mk := State.methodFound?_of_named h1 hy
  simp [Cond.before, Cond.holds, Cond.value, h3, h6, h1, h4, h5]
theorem own_callX (X : Stand p l e R s m args below meth c T locs cells slots) (hx : p.tables.exec = Jvm.exec) (hZ : Z.Warmed39 s.vm) (hown : s.vm.findClass own = some m.cls) (w1 : (Cond.methodLink own index y).before a0 Z = true) (w2 : (Cond.selects C z z).before a0 Z = true) (hz : z.cls = y.cls) (w3 : (Cond.instanceMethod y).before a0 Z = true) (w4 : (Cond.superclass own y.cls).before a0 Z = true) (w5 : (Cond.initialized y.cls).before a0 Z = true) (w6 : (Cond.code y bytes maxL ret).before a0 Z = true) (hn : y.name ≠ "<init>")
    (hy : y.cls ≠ "java/lang/invoke/MethodHandle" ∧ y.cls ≠ "java/lang/invoke/VarHandle")
    (hM : MetFree l y (head1 [Cond.code y bytes maxL ret] rm) (fun a U => a = as' ∧ Z.Warmed39 U.vm ∧ U.heap = h) (fun _ _ _ _ _ => True) (fun _ U o U' => ∃ v L, o = .returned v ∧ Qy v U'.heap L ∧ FrameEnd U o U' L rm.cells rm.slots)) (hf : rm.frames + 1 ≤ R.frames) (hl : W + (maxL + 11) + rm.locals ≤ R.locals)
    (eT : T.heap = h) {b : Addr} {D : String} (E : Exa Z h b D) (hg : g.method = m) (hsize : g.locals.size = c.maxLocals) (has : (Value.ref b :: argsL).toArray = as') (hlen : ∀ sig, parseMethodDescriptor y.desc = some sig → argsL.length = sig.parameters.length) (hstack : g.stack = argsL.reverse ++ .ref b :: rest) (hW : 2 * g.monitorRoom + (rest.map fun v => v.category).sum ≤ W)
    (hdg : decode c.code g.pc = .ok (.invokespecial index, 3)) (hc : cells + rm.cells ≤ R.cells) (hs : slots + rm.slots ≤ R.slots) :
    ∃ v T' h' L, Stand p l e R s m args below meth c T' (locs ++ L) (cells + rm.cells) (slots + rm.slots) ∧ T'.heap = h' ∧ Qy v h' L ∧ ∀ t, Steps p.tables e below (T'.setTop { g with pc := g.pc + 3, stack := v.toList ++ rest }) t → Steps p.tables e below (T.setTop g) t := by
  obtain ⟨cell, k, e1, e2, e3, e4, -⟩ := E
  obtain ⟨v, _, ⟨T', L', k', n'⟩, -, X', ⟨L, hQ, l1, l2, l3⟩, st⟩ := superBack (K := D) X hx hZ (y := y) hown w1 (own_same hy w3 w2 hz) w3 w4 hn (backOf hM hZ w6 w5 hf hl) eT (a := b) ⟨cell, _, e1, e2, by simp [e4, Vm.assignable_self]⟩ hg hsize w6 hlen hstack hW hdg (fun _ _ => ⟨has, eT, hc, hs⟩)
  dsimp only [Pt.U, Pt.locs, Pt.cells, Pt.slots] at X' l1 l2 l3 st hQ
  subst l1 l2 l3
  exact ⟨v, T', _, L, X', rfl, hQ, fun t k => st.trans k⟩
theorem own_callP (X : Stand p l e R s m args below meth c T locs cells slots) (hx : p.tables.exec = Jvm.exec) (hZ : Z.Warmed39 s.vm) (hown : s.vm.findClass own = some m.cls) (w1 : (Cond.methodLink own index y).before a0 Z = true) (w2 : (Cond.selects C y y).before a0 Z = true) (w3 : (Cond.instanceMethod y).before a0 Z = true) (w4 : (Cond.privateMethod y).before a0 Z = true) (w5 : (Cond.initialized y.cls).before a0 Z = true) (w6 : (Cond.code y bytes maxL ret).before a0 Z = true)
    (hy : y.cls ≠ "java/lang/invoke/MethodHandle" ∧ y.cls ≠ "java/lang/invoke/VarHandle")
    (hM : MetFree l y (head1 [Cond.code y bytes maxL ret] rm) (fun a U => a = as' ∧ Z.Warmed39 U.vm ∧ U.heap = h) (fun _ _ _ _ _ => True) (fun _ U o U' => ∃ v L, o = .returned v ∧ Qy v U'.heap L ∧ FrameEnd U o U' L rm.cells rm.slots)) (hf : rm.frames + 1 ≤ R.frames) (hl : W + (maxL + 11) + rm.locals ≤ R.locals)
    (eT : T.heap = h) {b : Addr} {D : String} (E : Exa Z h b D) (hg : g.method = m) (hsize : g.locals.size = c.maxLocals) (has : (Value.ref b :: argsL).toArray = as') (hlen : ∀ sig, parseMethodDescriptor y.desc = some sig → argsL.length = sig.parameters.length) (hstack : g.stack = argsL.reverse ++ .ref b :: rest) (hW : 2 * g.monitorRoom + (rest.map fun v => v.category).sum ≤ W)
    (hdg : decode c.code g.pc = .ok (.invokevirtual index, 3)) (hc : cells + rm.cells ≤ R.cells) (hs : slots + rm.slots ≤ R.slots) :
    ∃ v T' h' L, Stand p l e R s m args below meth c T' (locs ++ L) (cells + rm.cells) (slots + rm.slots) ∧ T'.heap = h' ∧ Qy v h' L ∧ ∀ t, Steps p.tables e below (T'.setTop { g with pc := g.pc + 3, stack := v.toList ++ rest }) t → Steps p.tables e below (T.setTop g) t := by
  obtain ⟨cell, k, e1, e2, e3, e4, -⟩ := E
  obtain ⟨mk, methM, ck, h1, h2, h3, h4, h5⟩ := own_face w3 w2 rfl
  have ws := Jvm.Stand.selects_self_of_private h3 h4 h5 (Cond.privateMethod_at w4) w3 hy
  obtain ⟨v, _, ⟨T', L', k', n'⟩, -, X', ⟨L, hQ, l1, l2, l3⟩, st⟩ := X.privateBack hx (y := y) hown (mvT hZ w1) (mvT hZ w3) (mvT hZ ws) (Cond.privateMethod_at (args := args) (mvT hZ w4)) (mvT hZ w6) hy (backOf hM hZ w6 w5 hf hl) hg hsize (Steps.refl _) (a := b) (cell := cell) (by rw [eT]; exact e1) (fun q z => by rw [z] at e4; cases e4) hlen hstack hW hdg (fun _ _ => ⟨has, eT, hc, hs⟩)
  dsimp only [Pt.U, Pt.locs, Pt.cells, Pt.slots] at X' l1 l2 l3 st hQ
  subst l1 l2 l3
  exact ⟨v, T', _, L, X', rfl, hQ, fun t k => st.trans k⟩
theorem own_callVZ {z' : MethodName} {C' : String} (X : Stand p l e R s m args below meth c T locs cells slots) (hx : p.tables.exec = Jvm.exec) (hZ : Z.Warmed39 s.vm) (hown : s.vm.findClass own = some m.cls) (w1 : (Cond.methodLink own index y).before a0 Z = true) (w2 : (Cond.declares y).before a0 Z = true) (w2' : (Cond.selects C' z' z').before a0 Z = true) (hz : z'.cls = y.cls) (wy : (Cond.instanceMethod y).before a0 Z = true) (w3 : (Cond.selects C y z).before a0 Z = true) (w4 : (Cond.instanceMethod z).before a0 Z = true) (w5 : (Cond.initialized z.cls).before a0 Z = true) (w6 : (Cond.code z bytes maxL ret).before a0 Z = true)
    (hy : y.cls ≠ "java/lang/invoke/MethodHandle" ∧ y.cls ≠ "java/lang/invoke/VarHandle")
    (hM : MetFree l z (head1 [Cond.code z bytes maxL ret] rm) (fun a U => a = as' ∧ Z.Warmed39 U.vm ∧ U.heap = h) (fun _ _ _ _ _ => True) (fun _ U o U' => ∃ v L, o = .returned v ∧ Qy v U'.heap L ∧ FrameEnd U o U' L rm.cells rm.slots)) (hf : rm.frames + 1 ≤ R.frames) (hl : W + (maxL + 11) + rm.locals ≤ R.locals)
    (eT : T.heap = h) {b : Addr} (E : Exa Z h b C) (hg : g.method = m) (hsize : g.locals.size = c.maxLocals) (has : (Value.ref b :: argsL).toArray = as') (hlen : ∀ sig, parseMethodDescriptor y.desc = some sig → argsL.length = sig.parameters.length) (hstack : g.stack = argsL.reverse ++ .ref b :: rest) (hW : 2 * g.monitorRoom + (rest.map fun v => v.category).sum ≤ W)
    (hdg : decode c.code g.pc = .ok (.invokevirtual index, 3)) (hc : cells + rm.cells ≤ R.cells) (hs : slots + rm.slots ≤ R.slots) :
    ∃ v T' h' L, Stand p l e R s m args below meth c T' (locs ++ L) (cells + rm.cells) (slots + rm.slots) ∧ T'.heap = h' ∧ Qy v h' L ∧ ∀ t, Steps p.tables e below (T'.setTop { g with pc := g.pc + 3, stack := v.toList ++ rest }) t → Steps p.tables e below (T.setTop g) t :=
  own_backV X hx hZ hown w1 w2 (fun r0 h0 => by
    obtain ⟨mk, methM, ck, h1, h2, h3, h4, h5⟩ := own_face (a0 := #[]) (Z := s) (mvT hZ wy) (mvT hZ w2') hz
    cases h0.symm.trans h1
    exact ⟨ck, h4, h5⟩) w3 w4 hy (backOf hM hZ w6 w5 hf hl) eT E hg hsize has hlen hstack hW hdg hc hs
theorem own_shl0 (x : Int32) : x <<< ((0 : Int32) &&& 31) = x := by
  have e : ((0 : Int32) &&& 31) = 0 := by decide
  rw [e]
  simp
end OwnUp
section OwnGoW
variable {p : Program} {l : Launch} {e : Env} {R : Room} {s : State} {vm : Vm} {m : MethodId} {args : Array Value} {below : List Frame} {meth : Method} {c : Code} {T : State} {locs : List Loc} {cells slots : Nat} {Z : State} {a0 : Array Value} {h : Heap} {EL : List (String × Nat)} {Q : Option Value → Heap → List Loc → Prop} {kc kn k0 : Nat} {V V' : State}
/-- own_Go where the run may load String constants: what the literals hold is carried by CHr -/
def own_GoW (p : Program) (e : Env) (below : List Frame) (s Z : State) (EL : List (String × Nat)) (Q : Option Value → Heap → List Loc → Prop) (kc kn : Nat) (V : State) : Prop :=
  ∃ U o, Steps p.tables e below V U ∧ U.status = .running ∧ Ended U below o ∧ ∃ v L, o = .returned v ∧ Q v U.heap L ∧ CHr Z EL s.vm s.heap U.vm U.heap ∧ ReturnedEndW s o U L kc kn
theorem own_stW (h : ∀ t, Steps p.tables e below V' t → Steps p.tables e below V t) (k : own_GoW p e below s Z EL Q kc kn V') : own_GoW p e below s Z EL Q kc kn V := by
  obtain ⟨U, o, h1, r⟩ := k
  exact ⟨U, o, h U h1, r⟩
theorem own_endW {o : Outcome} {t : State} {L : List Loc} {k n k' n' : Nat} (h : ReturnedEndW s o t L k n) (hk : k ≤ k') (hn : n ≤ n') : ReturnedEndW s o t L k' n' := ⟨h.1, h.2.1, h.2.2.1, h.2.2.2.mono hk hn⟩
theorem own_retW (X : Stand p l e R (s.setVm vm) m args below meth c T locs cells slots) (hx : p.tables.exec = Jvm.exec) (hk : meth.locks = false) (hS : s.Since vm k0) (hn0 : k0 ≤ T.heap.size) (hZ : Z.Warmed39 vm) (hEL : EW Z a0 EL) (Hr : CHr Z EL s.vm s.heap vm T.heap)
    {pc : Nat} {Ls : Array Slot} {w : Value} {t : FieldType} {i : Instr} {rest : List Value} (hret : meth.sig.returnType = some t) (hn : narrow t w = w)
    (hi : (i = .ireturn ∧ (t = .int ∨ t = .boolean ∨ t = .byte ∨ t = .char ∨ t = .short) ∧ ∃ z, w = .int z) ∨ (i = .lreturn ∧ t = .long ∧ ∃ z, w = .long z) ∨ (i = .dreturn ∧ t = .double ∧ ∃ z, w = .double z) ∨ (i = .freturn ∧ t = .float ∧ ∃ z, w = .float z) ∨ (i = .areturn ∧ t.isReference = true ∧ w.isRef = true))
    (hd : decode c.code pc = .ok (i, 1)) (hc : cells ≤ kc) (hs : slots ≤ kn) (q : Q (some w) T.heap locs) : own_GoW p e below s Z EL Q kc kn (T.setTop (mkF m pc Ls (w :: rest))) := by
  obtain ⟨fs, hr, hrun, hended, hE⟩ := X.leaveW hS hn0 (v := some w) (fun h => by rw [hret] at h; cases h)
  exact ⟨_, _, retOut X hx hret hn hi hd hr, hrun, hended, _, _, rfl, q, (show CHr Z EL s.vm s.heap T.vm T.heap from Hr.trans (CHv.at X hZ hEL Hr.1)), own_endW hE hc hs⟩
theorem own_retIW (X : Stand p l e R (s.setVm vm) m args below meth c T locs cells slots) (hx : p.tables.exec = Jvm.exec) (hk : meth.locks = false) (hS : s.Since vm k0) (hn0 : k0 ≤ T.heap.size) (hZ : Z.Warmed39 vm) (hEL : EW Z a0 EL) (Hr : CHr Z EL s.vm s.heap vm T.heap)
    {pc : Nat} {Ls : Array Slot} {z : Int32} {rest : List Value} (hret : meth.sig.returnType = some .int) (hd : decode c.code pc = .ok (.ireturn, 1)) (hc : cells ≤ kc) (hs : slots ≤ kn) (q : Q (some (.int z)) T.heap locs) :
    own_GoW p e below s Z EL Q kc kn (T.setTop (mkF m pc Ls (.int z :: rest))) := own_retW X hx hk hS hn0 hZ hEL Hr hret rfl (Or.inl ⟨rfl, Or.inl rfl, z, rfl⟩) hd hc hs q
theorem own_retJW (X : Stand p l e R (s.setVm vm) m args below meth c T locs cells slots) (hx : p.tables.exec = Jvm.exec) (hk : meth.locks = false) (hS : s.Since vm k0) (hn0 : k0 ≤ T.heap.size) (hZ : Z.Warmed39 vm) (hEL : EW Z a0 EL) (Hr : CHr Z EL s.vm s.heap vm T.heap)
    {pc : Nat} {Ls : Array Slot} {z : Int64} {rest : List Value} (hret : meth.sig.returnType = some .long) (hd : decode c.code pc = .ok (.lreturn, 1)) (hc : cells ≤ kc) (hs : slots ≤ kn) (q : Q (some (.long z)) T.heap locs) :
    own_GoW p e below s Z EL Q kc kn (T.setTop (mkF m pc Ls (.long z :: rest))) := own_retW X hx hk hS hn0 hZ hEL Hr hret rfl (Or.inr (Or.inl ⟨rfl, rfl, z, rfl⟩)) hd hc hs q
theorem own_retRW (X : Stand p l e R (s.setVm vm) m args below meth c T locs cells slots) (hx : p.tables.exec = Jvm.exec) (hk : meth.locks = false) (hS : s.Since vm k0) (hn0 : k0 ≤ T.heap.size) (hZ : Z.Warmed39 vm) (hEL : EW Z a0 EL) (Hr : CHr Z EL s.vm s.heap vm T.heap)
    {pc : Nat} {Ls : Array Slot} {w : Value} {t : FieldType} {rest : List Value} (hret : meth.sig.returnType = some t) (ht : t.isReference = true) (hw : w.isRef = true) (hd : decode c.code pc = .ok (.areturn, 1)) (hc : cells ≤ kc) (hs : slots ≤ kn) (q : Q (some w) T.heap locs) :
    own_GoW p e below s Z EL Q kc kn (T.setTop (mkF m pc Ls (w :: rest))) := by
  refine own_retW X hx hk hS hn0 hZ hEL Hr hret ?_ (Or.inr (Or.inr (Or.inr (Or.inr ⟨rfl, ht, hw⟩)))) hd hc hs q
  rcases ref_cases hw with rfl | ⟨b, rfl⟩ <;> cases t <;> first | rfl | (cases ht; done)
theorem own_retNW (X : Stand p l e R (s.setVm vm) m args below meth c T locs cells slots) (hx : p.tables.exec = Jvm.exec) (hk : meth.locks = false) (hS : s.Since vm k0) (hn0 : k0 ≤ T.heap.size) (hZ : Z.Warmed39 vm) (hEL : EW Z a0 EL) (Hr : CHr Z EL s.vm s.heap vm T.heap)
    {pc : Nat} {Ls : Array Slot} {z : Int32} {t : FieldType} {rest : List Value} (hret : meth.sig.returnType = some t) (ht : t = .boolean ∨ t = .byte ∨ t = .char ∨ t = .short) (hd : decode c.code pc = .ok (.ireturn, 1)) (hc : cells ≤ kc) (hs : slots ≤ kn) (q : Q (some (.int (nar t z))) T.heap locs) :
    own_GoW p e below s Z EL Q kc kn (T.setTop (mkF m pc Ls (.int z :: rest))) := by
  obtain ⟨fs, hr, hrun, hended, hE⟩ := X.leaveW hS hn0 (v := some (.int (nar t z))) (fun h => by rw [hret] at h; cases h)
  exact ⟨_, _, retN X hx hret ht hd hr, hrun, hended, _, _, rfl, q, (show CHr Z EL s.vm s.heap T.vm T.heap from Hr.trans (CHv.at X hZ hEL Hr.1)), own_endW hE hc hs⟩
theorem own_retVW (X : Stand p l e R (s.setVm vm) m args below meth c T locs cells slots) (hx : p.tables.exec = Jvm.exec) (hk : meth.locks = false) (hS : s.Since vm k0) (hn0 : k0 ≤ T.heap.size) (hZ : Z.Warmed39 vm) (hEL : EW Z a0 EL) (Hr : CHr Z EL s.vm s.heap vm T.heap)
    {pc : Nat} {Ls : Array Slot} (hret : meth.sig.returnType = none) (hd : decode c.code pc = .ok (.return_, 1)) (hc : cells ≤ kc) (hs : slots ≤ kn) (q : Q none T.heap locs) :
    own_GoW p e below s Z EL Q kc kn (T.setTop (mkF m pc Ls [])) := by
  obtain ⟨fs, hr, hrun, hended, hE⟩ := X.leaveW hS hn0 (v := none) (fun _ => rfl)
  exact ⟨_, _, X.returnOut hx hret hd hr, hrun, hended, _, _, rfl, q, (show CHr Z EL s.vm s.heap T.vm T.heap from Hr.trans (CHv.at X hZ hEL Hr.1)), own_endW hE hc hs⟩
/-! a callee that may load constants itself: its law keeps the invariant; sf: what it writes of the caller's and what isn't a literal's -/
variable {own : String} {index : Nat} {y z : MethodName} {bytes : ByteArray} {maxL : Nat} {ret : Option FieldType} {W k n len : Nat} {as' : Array Value} {Qy : Option Value → Heap → List Loc → Prop} {g : JFrame} {argsL rest : List Value} {rm : Room} {sf : List Addr}
theorem own_payW {K : Program → Env → List Frame → State → Array Value → Prop}
    (hM : MetFree l y (head1 [Cond.code y bytes maxL ret] rm) (fun a U => a = as' ∧ Z.Warmed39 U.vm ∧ U.heap = h ∧ CHv Z EL U.vm h ∧ ∀ x ∈ sf, Safe Z EL U.vm h x) K (fun _ U o U' => ∃ v L, o = .returned v ∧ Qy v U'.heap L ∧ CHr Z EL U.vm U.heap U'.vm U'.heap ∧ ReturnedEndW U o U' L rm.cells rm.slots))
    (hK : ∀ (m : MethodId) (meth : Method) (c : Code) (A : Pt) (a : Array Value) (g : JFrame) (mk : MethodId), Stand p l e R (s.setVm vm) m args below meth c A.U A.locs A.cells A.slots → g.method = m → K p e (A.U.setTop g).frames (A.U.calling g mk a) a)
    (hZ : Z.Warmed39 vm) (wc : (Cond.code y bytes maxL ret).before a0 Z = true) (wz : (Cond.initialized y.cls).before a0 Z = true) (hf : rm.frames + 1 ≤ R.frames) (hl : W + (maxL + 11) + rm.locals ≤ R.locals) (hEL : EW Z a0 EL) (H : CHv Z EL vm h) (hsf : ∀ x ∈ sf, x < h.size ∧ Safe Z EL vm h x) :
    BackS l R p e below (s.setVm vm) args y len W (fun A a => a = as' ∧ A.U.heap = h ∧ A.cells + rm.cells ≤ R.cells ∧ A.slots + rm.slots ≤ R.slots)
      (fun A _ v B => ∃ L, Qy v B.U.heap L ∧ B.locs = A.locs ++ L ∧ B.cells = A.cells + rm.cells ∧ B.slots = A.slots + rm.slots ∧ CHr Z EL vm h B.U.vm B.U.heap) :=
  BackS.of_freeWG (bytes := bytes) (maxL := maxL) (ret := ret) (E := fun _ first o t L k n => k = rm.cells ∧ n = rm.slots ∧ (∃ v, o = .returned v ∧ Qy v t.heap L) ∧ CHr Z EL first.vm first.heap t.vm t.heap) hM hf hl
    (fun m meth c A a Y hp => have hU : Z.Warmed39 A.U.vm := wtrans (s := s.setVm vm) hZ Y.warmed
      ⟨by show (Cond.and _ .tt).before a A.U = true; rw [Cond.before_and, mv hU wc]; rfl, mv hU wc, mv hU wz, hp.2.2.1, hp.2.2.2⟩)
    (fun m meth c A a g mk Y hp => ⟨hp.1, wtrans (s := s.setVm vm) hZ Y.warmed, hp.2.1, (CHv.at Y hZ hEL H).1, fun x hx => (CHv.at Y hZ hEL H).safe (hsf x hx).1 (hsf x hx).2⟩) (fun m meth c A a g mk Y _ hg => hK m meth c A a g mk Y hg)
    (fun _ _ _ _ ⟨v, L, h1, h2, h3, h4⟩ => ⟨L, _, _, h4, rfl, rfl, ⟨v, h1, h2⟩, h3⟩)
    (fun m meth c A a g mk v t L k n Y hp _ _ ⟨e1, e2, ⟨v', e3, e4⟩, e5⟩ => by
      cases e3; subst e1 e2
      refine ⟨L, e4, rfl, rfl, rfl, (CHv.at Y hZ hEL H).trans ?_⟩
      rw [← hp.2.1]; exact e5)
theorem own_callSW (X : Stand p l e R (s.setVm vm) m args below meth c T locs cells slots) (hx : p.tables.exec = Jvm.exec) (hZ : Z.Warmed39 vm) (hown : vm.findClass own = some m.cls) (hS : s.Since vm k0) (hk : k0 ≤ h.size) (w1 : (Cond.methodLink own index y).before a0 Z = true) (w2 : (Cond.static y).before a0 Z = true) (w3 : (Cond.initialized y.cls).before a0 Z = true) (w4 : (Cond.code y bytes maxL ret).before a0 Z = true)
    (hy : y.cls ≠ "java/lang/invoke/MethodHandle" ∧ y.cls ≠ "java/lang/invoke/VarHandle")
    (hB : BackS l R p e below (s.setVm vm) args y 3 W (fun A a => a = as' ∧ A.U.heap = h ∧ A.cells + k ≤ R.cells ∧ A.slots + n ≤ R.slots) (fun A _ v B => ∃ L, Qy v B.U.heap L ∧ B.locs = A.locs ++ L ∧ B.cells = A.cells + k ∧ B.slots = A.slots + n ∧ CHr Z EL vm h B.U.vm B.U.heap))
    (eT : T.heap = h) (hg : g.method = m) (hsize : g.locals.size = c.maxLocals) (has : argsL.toArray = as') (hlen : ∀ sig, parseMethodDescriptor y.desc = some sig → argsL.length = sig.parameters.length) (hstack : g.stack = argsL.reverse ++ rest) (hW : 2 * g.monitorRoom + (rest.map fun v => v.category).sum ≤ W)
    (hdg : decode c.code g.pc = .ok (.invokestatic index, 3)) (hc : cells + k ≤ R.cells) (hs : slots + n ≤ R.slots) :
    ∃ v T' h' L, Stand p l e R (s.setVm T'.vm) m args below meth c T' (locs ++ L) (cells + k) (slots + n) ∧ T'.heap = h' ∧ Qy v h' L ∧ s.Since T'.vm h'.size ∧ h.size ≤ h'.size ∧ Z.Warmed39 T'.vm ∧ T'.vm.findClass own = some m.cls ∧ CHr Z EL vm h T'.vm h' ∧ ∀ t, Steps p.tables e below (T'.setTop { g with pc := g.pc + 3, stack := v.toList ++ rest }) t → Steps p.tables e below (T.setTop g) t := by
  obtain ⟨v, _, ⟨T', L', k', n'⟩, -, X', hS', hh', ⟨L, hQ, l1, l2, l3, l4⟩, st⟩ := callSS X hx (y := y) hown (mvT (s := s.setVm vm) hZ w1) (mvT (s := s.setVm vm) hZ w2) (mvT (s := s.setVm vm) hZ w3) (mvT (s := s.setVm vm) hZ w4) hy hB hg hsize hlen hstack hW hdg (fun _ _ => ⟨has, eT, hc, hs⟩)
  dsimp only [Pt.U, Pt.locs, Pt.cells, Pt.slots] at X' l1 l2 l3 l4 st hQ hS' hh'
  subst l1 l2 l3
  rw [eT] at hh'
  obtain ⟨X2, hS2, hZ2, hown2⟩ := rebS hS hk X' hS' hh' (Z := Z) hZ (own := own) hown
  exact ⟨v, T', _, L, X2, rfl, hQ, hS2, hh', hZ2, hown2, l4, fun t k => st.trans k⟩
theorem own_callIW (X : Stand p l e R (s.setVm vm) m args below meth c T locs cells slots) (hx : p.tables.exec = Jvm.exec) (hZ : Z.Warmed39 vm) (hown : vm.findClass own = some m.cls) (hS : s.Since vm k0) (hk : k0 ≤ h.size) (hy1 : y.name = "<init>") (w1 : (Cond.methodLink own index y).before a0 Z = true) (w2 : (Cond.instanceMethod y).before a0 Z = true) (w4 : (Cond.code y bytes maxL none).before a0 Z = true)
    (hy : y.cls ≠ "java/lang/invoke/MethodHandle" ∧ y.cls ≠ "java/lang/invoke/VarHandle")
    (hB : BackS l R p e below (s.setVm vm) args y 3 W (fun A a => a = as' ∧ A.U.heap = h ∧ A.cells + k ≤ R.cells ∧ A.slots + n ≤ R.slots) (fun A _ v B => ∃ L, Qy v B.U.heap L ∧ B.locs = A.locs ++ L ∧ B.cells = A.cells + k ∧ B.slots = A.slots + n ∧ CHr Z EL vm h B.U.vm B.U.heap))
    (eT : T.heap = h) {a : Addr} (hg : g.method = m) (hsize : g.locals.size = c.maxLocals) (has : (Value.ref a :: argsL).toArray = as') (hlen : ∀ sig, parseMethodDescriptor y.desc = some sig → argsL.length = sig.parameters.length) (hstack : g.stack = argsL.reverse ++ .ref a :: rest) (hW : 2 * g.monitorRoom + (rest.map fun v => v.category).sum ≤ W)
    (hdg : decode c.code g.pc = .ok (.invokespecial index, 3)) (hc : cells + k ≤ R.cells) (hs : slots + n ≤ R.slots) :
    ∃ v T' h' L, Stand p l e R (s.setVm T'.vm) m args below meth c T' (locs ++ L) (cells + k) (slots + n) ∧ T'.heap = h' ∧ Qy v h' L ∧ s.Since T'.vm h'.size ∧ h.size ≤ h'.size ∧ Z.Warmed39 T'.vm ∧ T'.vm.findClass own = some m.cls ∧ CHr Z EL vm h T'.vm h' ∧ ∀ t, Steps p.tables e below (T'.setTop { g with pc := g.pc + 3, stack := v.toList ++ rest }) t → Steps p.tables e below (T.setTop g) t := by
  obtain ⟨v, _, ⟨T', L', k', n'⟩, -, X', hS', hh', ⟨L, hQ, l1, l2, l3, l4⟩, st⟩ := X.specialBackS hx (y := y) hy1 hown (mvT (s := s.setVm vm) hZ w1) (mvT (s := s.setVm vm) hZ w2) (mvT (s := s.setVm vm) hZ w4) hy hB hg hsize (Steps.refl _) hlen hstack hW hdg (fun _ _ => ⟨has, eT, hc, hs⟩)
  dsimp only [Pt.U, Pt.locs, Pt.cells, Pt.slots] at X' l1 l2 l3 l4 st hQ hS' hh'
  subst l1 l2 l3
  rw [eT] at hh'
  obtain ⟨X2, hS2, hZ2, hown2⟩ := rebS hS hk X' hS' hh' (Z := Z) hZ (own := own) hown
  exact ⟨v, T', _, L, X2, rfl, hQ, hS2, hh', hZ2, hown2, l4, fun t k => st.trans k⟩
theorem own_sf0 : ∀ x ∈ ([] : List Addr), x < h.size ∧ Safe Z EL vm h x := fun _ q => nomatch q
theorem own_sfS {x : Addr} {ws : List Addr} (h1 : x < h.size) (h2 : Safe Z EL vm h x) (r : ∀ y ∈ ws, y < h.size ∧ Safe Z EL vm h y) : ∀ y ∈ x :: ws, y < h.size ∧ Safe Z EL vm h y := fun y q => by
  rcases List.mem_cons.mp q with rfl | q
  · exact ⟨h1, h2⟩
  · exact r y q
end OwnGoW
section OwnVW
variable {p : Program} {l : Launch} {e : Env} {R : Room} {s : State} {vm : Vm} {m : MethodId} {args : Array Value} {below : List Frame} {meth : Method} {c : Code} {T : State} {locs : List Loc} {cells slots k0 : Nat} {Z : State} {a0 : Array Value} {h : Heap} {EL : List (String × Nat)} {own C : String} {index : Nat} {y : MethodName} {bytes : ByteArray} {maxL : Nat} {ret : Option FieldType} {W k n : Nat} {as' : Array Value} {Qy : Option Value → Heap → List Loc → Prop} {g : JFrame} {argsL rest : List Value}
theorem own_callVW (X : Stand p l e R (s.setVm vm) m args below meth c T locs cells slots) (hx : p.tables.exec = Jvm.exec) (hZ : Z.Warmed39 vm) (hown : vm.findClass own = some m.cls) (hS : s.Since vm k0) (hk : k0 ≤ h.size) (w1 : (Cond.methodLink own index y).before a0 Z = true) (w2 : (Cond.declares y).before a0 Z = true) (w3 : (Cond.selects C y y).before a0 Z = true) (w4 : (Cond.instanceMethod y).before a0 Z = true)
    (hy : y.cls ≠ "java/lang/invoke/MethodHandle" ∧ y.cls ≠ "java/lang/invoke/VarHandle")
    (hB : BackS l R p e below (s.setVm vm) args y 3 W (fun A a => a = as' ∧ A.U.heap = h ∧ A.cells + k ≤ R.cells ∧ A.slots + n ≤ R.slots) (fun A _ v B => ∃ L, Qy v B.U.heap L ∧ B.locs = A.locs ++ L ∧ B.cells = A.cells + k ∧ B.slots = A.slots + n ∧ CHr Z EL vm h B.U.vm B.U.heap))
    (eT : T.heap = h) {a : Addr} (E : Exa Z h a C) (hg : g.method = m) (hsize : g.locals.size = c.maxLocals) (has : (Value.ref a :: argsL).toArray = as') (hlen : ∀ sig, parseMethodDescriptor y.desc = some sig → argsL.length = sig.parameters.length) (hstack : g.stack = argsL.reverse ++ .ref a :: rest) (hW : 2 * g.monitorRoom + (rest.map fun v => v.category).sum ≤ W)
    (hdg : decode c.code g.pc = .ok (.invokevirtual index, 3)) (hc : cells + k ≤ R.cells) (hs : slots + n ≤ R.slots) :
    ∃ v T' h' L, Stand p l e R (s.setVm T'.vm) m args below meth c T' (locs ++ L) (cells + k) (slots + n) ∧ T'.heap = h' ∧ Qy v h' L ∧ s.Since T'.vm h'.size ∧ h.size ≤ h'.size ∧ Z.Warmed39 T'.vm ∧ T'.vm.findClass own = some m.cls ∧ CHr Z EL vm h T'.vm h' ∧ ∀ t, Steps p.tables e below (T'.setTop { g with pc := g.pc + 3, stack := v.toList ++ rest }) t → Steps p.tables e below (T.setTop g) t := by
  obtain ⟨cq, kq, qa, qb, qc⟩ := isOf (s := s.setVm vm) hZ eT E
  obtain ⟨v, _, ⟨T', L', k', n'⟩, -, X', hS', hh', ⟨L, hQ, l1, l2, l3, l4⟩, st⟩ := X.virtualBackS hx (y := y) (z := y) hown (mvT (s := s.setVm vm) hZ w1) (mvT (s := s.setVm vm) hZ w2) (notFace_of_selects (args := #[]) (mvT (s := s.setVm vm) hZ w3)) (mvT (s := s.setVm vm) hZ w3) (mvT (s := s.setVm vm) hZ w4) hy hB qa qc hg hsize (Steps.refl _) hlen hstack hW hdg (fun _ _ => ⟨has, eT, hc, hs⟩)
  dsimp only [Pt.U, Pt.locs, Pt.cells, Pt.slots] at X' l1 l2 l3 l4 st hQ hS' hh'
  subst l1 l2 l3
  rw [eT] at hh'
  obtain ⟨X2, hS2, hZ2, hown2⟩ := rebS hS hk X' hS' hh' (Z := Z) hZ (own := own) hown
  exact ⟨v, T', _, L, X2, rfl, hQ, hS2, hh', hZ2, hown2, l4, fun t k => st.trans k⟩
end OwnVW
def own_first : List Int32 → Int32 → Int32
  | [], i => i
  | c :: cs, i => if 255 < c then i else own_first cs (i + 1)
theorem own_nb (y : Int32) : nar .byte (y.toInt8.toInt32) = y.toInt8.toInt32 := by
  show (y.toInt8.toInt32).toInt8.toInt32 = y.toInt8.toInt32
  simp

theorem own_nc (y : Int32) : nar .char (y.toUInt32.toUInt16.toUInt32.toInt32) = y.toUInt32.toUInt16.toUInt32.toInt32 := by
  have e : ∀ u : UInt16, u.toUInt32.toInt32.toUInt32.toUInt16 = u := fun u => by simp
  show ((y.toUInt32.toUInt16).toUInt32.toInt32).toUInt32.toUInt16.toUInt32.toInt32 = _
  rw [e]

theorem own_and255 (x : Int32) : ¬ nar .char ((x &&& (255 : Int32)).toUInt32.toUInt16.toUInt32.toInt32) < 0 ∧ ¬ (255 : Int32) < nar .char ((x &&& (255 : Int32)).toUInt32.toUInt16.toUInt32.toInt32) := by
  have t : ∀ k : Fin 256, ¬ nar .char ((Int32.ofNat k.val).toUInt32.toUInt16.toUInt32.toInt32) < 0 ∧ ¬ (255 : Int32) < nar .char ((Int32.ofNat k.val).toUInt32.toUInt16.toUInt32.toInt32) := by decide +kernel
  have h : (x &&& 255).toBitVec.toNat < 256 := by
    simp only [Int32.toBitVec_and, BitVec.toNat_and]
    exact Nat.lt_succ_of_le Nat.and_le_right
  have e : (x &&& 255) = Int32.ofNat (x &&& 255).toBitVec.toNat := by
    apply Int32.toBitVec_inj.mp
    show _ = BitVec.ofNat 32 _
    rw [BitVec.ofNat_toNat]; simp
  rw [e]
  exact t ⟨_, h⟩
theorem own_sub0 (x : Int32) : x - (0 : Int32) = x := by simp
theorem own_65 {c : Int32} (h : ¬ (255 : Int32) < c) : ¬ (65535 : Int32) < c := fun q => h (Int32.lt_trans (by decide) q)
theorem own_c255 (x : Int32) : ¬ ((x &&& (255 : Int32)).toUInt32.toUInt16.toUInt32.toInt32) < 0 ∧ ¬ (255 : Int32) < ((x &&& (255 : Int32)).toUInt32.toUInt16.toUInt32.toInt32) := by have q := own_and255 x; rw [own_nc] at q; exact q
theorem own_b47 : (47 : Int32).toInt8.toInt32 = (47 : Int32) := by decide
theorem own_n47 : nar .char (47 : Int32) = (47 : Int32) := rfl
theorem own_eqS {p : Program} {l : Launch} {e : Env} {R : Room} {s : State} {args : Array Value} {below : List Frame} {len W : Nat} {Z : State} {a0 : Array Value} {h : Heap} (hZ : Z.Warmed39 s.vm) (hw : ∀ d ∈ StrChars.Road.wordsEq, d.before a0 Z = true) {kI : Nat} (wi : (Jvm.Cond.instantiable "java/lang/String" kI).before a0 Z = true)
    {x t : Addr} {kb : ClassId} {cs : List Int32} {N2 : Int32} {vs : List Value} (E : Exa Z h x "java/lang/String") (V : Fld Z h x "java/lang/String" "value" "[B" (.ref t)) (C : Fld Z h x "java/lang/String" "coder" "B" (.int (0 : Int32))) (K : Arv Z h t kb .byte N2 vs (.int (0 : Int32))) (hc : StrChars.Road.CodA cs 0 N2 vs) (hb : ∀ c ∈ cs, ¬ c < 0 ∧ ¬ (65535 : Int32) < c) (l2 : cs.length ≤ 4000)
    {y t' : Addr} {kb' : ClassId} {vs' : List Value} (E' : Exa Z h y "java/lang/String") (V' : Fld Z h y "java/lang/String" "value" "[B" (.ref t')) (C' : Fld Z h y "java/lang/String" "coder" "B" (.int (0 : Int32))) (K' : Arv Z h t' kb' .byte N2 vs' (.int (0 : Int32))) (hc' : StrChars.Road.CodA cs 0 N2 vs')
    {z : Int32} (S : Sta Z h "java/lang/String" "COMPACT_STRINGS" "Z" (.int z)) (hz : ¬ z = 0) (hfr : 2 ≤ R.frames) (hlo : W + 28 ≤ R.locals) :
    Back l R p e below s args (⟨"java/lang/String", "equals", "(Ljava/lang/Object;)Z"⟩ : MethodName) len W (fun P a => a = #[.ref x, .ref y] ∧ P.U.heap = h ∧ P.cells + 0 ≤ R.cells ∧ P.slots + 0 ≤ R.slots)
      (fun P _ v B => ∃ L, (v = some (.int (1 : Int32)) ∧ L = [] ∧ B.U.heap = h) ∧ B.locs = P.locs ++ L ∧ B.cells = P.cells + 0 ∧ B.slots = P.slots + 0) :=
  Back.mono (StrChars.Road.eqW hZ hw wi E V C K hc hb l2 E' V' C' K' hc' hb l2 S hz hfr hlo) (fun _ _ q => q) (fun P a v B _ ⟨L, ⟨hq, h2, h3⟩, r⟩ => ⟨L, ⟨hq.elim (fun q => q.1) (fun q => absurd rfl q.2), h2, h3⟩, r⟩)
theorem own_sta {s : State} {args : Array Value} {C n d : String} {k : Int32} (h : (Jvm.Cond.eq (Term.static C n d) (Term.int k)).before args s = true) (hi : (Jvm.Cond.initializedFor C n d).before args s = true) : Sta s s.heap C n d (.int k) := by
  obtain ⟨x, y, hx, hy, k1, k2⟩ := cmp_v (Or.inl (Cond.before_iff.mp h))
  rw [Term.int_eval k] at hy
  cases hy
  obtain ⟨z, rfl⟩ : ∃ z, x = .int z := k2
  have e := gotT (show (Jvm.Cond.eq (Term.static C n d) (Term.int k)).value args s none s [] = some (decide (z = k)) by simp [Cond.value, hx, Term.int_eval]) (Cond.before_iff.mp h)
  subst e
  exact Sta.start hx (Or.inl hi)
theorem own_nosf {P : Addr → Prop} : ∀ x ∈ ([] : List Addr), P x := fun _ q => nomatch q
theorem own_pn0 : plainName "java/lang/StringLatin1" = true := by first | (simp [plainName, overriddenIn]; done) | decide +kernel
theorem own_d_jdk_43_method_3_0 : decode jdk_43_method_3_code 0 = .ok (.iload_n 0, 1) := by decide +kernel
theorem own_d_jdk_43_method_3_1 : decode jdk_43_method_3_code 1 = .ok (.sipush 255, 3) := by decide +kernel
theorem own_d_jdk_43_method_3_4 : decode jdk_43_method_3_code 4 = .ok (.if_icmp .gt 7, 3) := by decide +kernel
theorem own_d_jdk_43_method_3_7 : decode jdk_43_method_3_code 7 = .ok (.iconst 1, 1) := by decide +kernel
theorem own_d_jdk_43_method_3_8 : decode jdk_43_method_3_code 8 = .ok (.goto 4, 3) := by decide +kernel
theorem own_d_jdk_43_method_3_12 : decode jdk_43_method_3_code 12 = .ok (.ireturn, 1) := by decide +kernel
theorem own_ef_cene (m : MethodId) (x0 : Int32) : entryFrame m #[(.int x0)] 1 = mkF m 0 #[.val (.int x0)] [] := by first | (simp [entryFrame, mkF, argsToLocals, Value.category]; done) | rfl
def own_Q_cene (Z : State)  (h0 : Heap) (n0 : Nat) (v : Option Value) (h : Heap) (L : List Loc) : Prop := v = some (.int (1 : Int32)) ∧ Fr n0 L ∧ h = h0
set_option maxRecDepth 65536 in
set_option maxHeartbeats 40000000 in
theorem own_rm_cene (l : Launch) (Z : State) (a0 : Array Value) (hw : ∀ d ∈ tables_1, d.before a0 Z = true) (ws : List Jvm.Cond) (ch : Int32) (h0 : Heap) (n0 : Nat) (Od : Old Z n0 h0) (b1 : ¬ (255 : Int32) < ch) :
    MetFree l (⟨"java/lang/StringLatin1", "canEncode", "(C)Z"⟩ : MethodName) (head1 (Jvm.Cond.code (⟨"java/lang/StringLatin1", "canEncode", "(C)Z"⟩ : MethodName) jdk_43_method_3_code 1 (some .boolean) :: ws) ({ frames := 0, cells := 0, slots := 0, locals := 0 } : Room)) (fun a9 U => a9 = #[(.int ch)] ∧ Z.Warmed39 U.vm ∧ U.heap = h0) (fun _ _ _ _ _ => True) (fun _ U o U' => ∃ v L, o = .returned v ∧ own_Q_cene Z  h0 n0 v U'.heap L ∧ FrameEnd U o U' L ({ frames := 0, cells := 0, slots := 0, locals := 0 } : Room).cells ({ frames := 0, cells := 0, slots := 0, locals := 0 } : Room).slots) := by
  refine MetFree.of_bodySF (plainFor_of_name own_pn0) hisR ?_
  intro p e s m args below meth c s₁ Bd hml0 hP hK
  obtain ⟨rfl, hZ, hh⟩ := hP
  have hx := Bd.exec
  have hby := Bd.bytes
  have hml : c.maxLocals = 1 := hml0
  have hown : s.vm.findClass "java/lang/StringLatin1" = some m.cls := findClass_of_methodNamed Bd.named
  have hnm := (name_of_methodNamed Bd.named Bd.method).1
  have hlk : meth.locks = false := Bd.notSynchronized
  have X0 : Stand p l e ({ frames := 0, cells := 0, slots := 0, locals := 0 } : Room) s m #[(.int ch)] below meth c s₁ [] 0 0 := Stand.of_body Bd
  have e0 : s₁.heap = h0 := by rw [← hh, Bd.state]; rfl
  have N0 := Fr.nil n0
  show own_Go p e below s (own_Q_cene Z  h0 n0) ({ frames := 0, cells := 0, slots := 0, locals := 0 } : Room).cells ({ frames := 0, cells := 0, slots := 0, locals := 0 } : Room).slots (s₁.setTop (entryFrame m #[(.int ch)] 1))
  refine own_st (fun t9 k9 => castTop (own_ef_cene m ch) k9) ?_
  show own_Go p e below s _ _ _ (s₁.setTop (mkF m 0 #[.val (.int ch)] []))
  refine own_st (fun t9 k9 => XS.iloadN X0.here hx rfl (hb hby own_d_jdk_43_method_3_0) rfl  k9) ?_
  show own_Go p e below s _ _ _ (s₁.setTop (mkF m 1 #[.val (.int ch)] [(.int ch)]))
  refine own_st (fun t9 k9 => XS.sipush X0.here hx rfl (hb hby own_d_jdk_43_method_3_1) k9) ?_
  show own_Go p e below s _ _ _ (s₁.setTop (mkF m 4 #[.val (.int ch)] [(.int (255 : Int32)), (.int ch)]))
  refine own_st (fun t9 k9 => XS.icmpNo X0.here hx rfl (hb hby own_d_jdk_43_method_3_4) rfl (flt (b1 : ¬ ((255 : Int32) < ch))).2.2.1 k9) ?_
  show own_Go p e below s _ _ _ (s₁.setTop (mkF m 7 #[.val (.int ch)] []))
  refine own_st (fun t9 k9 => XS.iconst X0.here hx rfl (hb hby own_d_jdk_43_method_3_7) k9) ?_
  show own_Go p e below s _ _ _ (s₁.setTop (mkF m 8 #[.val (.int ch)] [(.int (1 : Int32))]))
  refine own_st (fun t9 k9 => XS.goto X0.here hx rfl (pc0 := 8) (pc' := 12) rfl (hb hby own_d_jdk_43_method_3_8) (by decide) (by decide) k9) ?_
  show own_Go p e below s _ _ _ (s₁.setTop (mkF m 12 #[.val (.int ch)] [(.int (1 : Int32))]))
  exact own_retN X0 hx hlk (t := .boolean) Bd.returns (by simp) (hb hby own_d_jdk_43_method_3_12) (by decide) (by decide) (by rw [e0]; exact ⟨rfl, N0, rfl⟩)
theorem own_d_jdk_43_method_46_0 : decode jdk_43_method_46_code 0 = .ok (.iconst 1, 1) := by decide +kernel
theorem own_d_jdk_43_method_46_1 : decode jdk_43_method_46_code 1 = .ok (.newarray .byte, 2) := by decide +kernel
theorem own_d_jdk_43_method_46_3 : decode jdk_43_method_46_code 3 = .ok (.dup, 1) := by decide +kernel
theorem own_d_jdk_43_method_46_4 : decode jdk_43_method_46_code 4 = .ok (.iconst 0, 1) := by decide +kernel
theorem own_d_jdk_43_method_46_5 : decode jdk_43_method_46_code 5 = .ok (.iload_n 0, 1) := by decide +kernel
theorem own_d_jdk_43_method_46_6 : decode jdk_43_method_46_code 6 = .ok (.i2b, 1) := by decide +kernel
theorem own_d_jdk_43_method_46_7 : decode jdk_43_method_46_code 7 = .ok (.bastore, 1) := by decide +kernel
theorem own_d_jdk_43_method_46_8 : decode jdk_43_method_46_code 8 = .ok (.areturn, 1) := by decide +kernel
theorem own_ef_tb1 (m : MethodId) (x0 : Int32) : entryFrame m #[(.int x0)] 1 = mkF m 0 #[.val (.int x0)] [] := by first | (simp [entryFrame, mkF, argsToLocals, Value.category]; done) | rfl
def own_Q_tb1 (Z : State) (ch : Int32) (h0 : Heap) (n0 : Nat) (v : Option Value) (h : Heap) (L : List Loc) : Prop := Fr n0 L ∧ Keep h0 h [] ∧ ∃ a k, v = some (.ref a) ∧ h0.size ≤ a ∧ Arv Z h a k .byte (1 : Int32) [(.int (ch.toInt8.toInt32))] (.int (0 : Int32))
set_option maxRecDepth 65536 in
set_option maxHeartbeats 40000000 in
theorem own_rm_tb1 (l : Launch) (Z : State) (a0 : Array Value) (hw : ∀ d ∈ tables_1, d.before a0 Z = true) (ws : List Jvm.Cond) (ch : Int32) (h0 : Heap) (n0 : Nat) (Od : Old Z n0 h0) :
    MetFree l (⟨"java/lang/StringLatin1", "toBytes", "(C)[B"⟩ : MethodName) (head1 (Jvm.Cond.code (⟨"java/lang/StringLatin1", "toBytes", "(C)[B"⟩ : MethodName) jdk_43_method_46_code 1 (some (.array .byte)) :: ws) ({ frames := 0, cells := 1, slots := 1, locals := 0 } : Room)) (fun a9 U => a9 = #[(.int ch)] ∧ Z.Warmed39 U.vm ∧ U.heap = h0) (fun _ _ _ _ _ => True) (fun _ U o U' => ∃ v L, o = .returned v ∧ own_Q_tb1 Z ch h0 n0 v U'.heap L ∧ FrameEnd U o U' L ({ frames := 0, cells := 1, slots := 1, locals := 0 } : Room).cells ({ frames := 0, cells := 1, slots := 1, locals := 0 } : Room).slots) := by
  refine MetFree.of_bodySF (plainFor_of_name own_pn0) hisR ?_
  intro p e s m args below meth c s₁ Bd hml0 hP hK
  obtain ⟨rfl, hZ, hh⟩ := hP
  have hx := Bd.exec
  have hby := Bd.bytes
  have hml : c.maxLocals = 1 := hml0
  have hown : s.vm.findClass "java/lang/StringLatin1" = some m.cls := findClass_of_methodNamed Bd.named
  have hnm := (name_of_methodNamed Bd.named Bd.method).1
  have hlk : meth.locks = false := Bd.notSynchronized
  have X0 : Stand p l e ({ frames := 0, cells := 1, slots := 1, locals := 0 } : Room) s m #[(.int ch)] below meth c s₁ [] 0 0 := Stand.of_body Bd
  have e0 : s₁.heap = h0 := by rw [← hh, Bd.state]; rfl
  have N0 := Fr.nil n0
  show own_Go p e below s (own_Q_tb1 Z ch h0 n0) ({ frames := 0, cells := 1, slots := 1, locals := 0 } : Room).cells ({ frames := 0, cells := 1, slots := 1, locals := 0 } : Room).slots (s₁.setTop (entryFrame m #[(.int ch)] 1))
  refine own_st (fun t9 k9 => castTop (own_ef_tb1 m ch) k9) ?_
  show own_Go p e below s _ _ _ (s₁.setTop (mkF m 0 #[.val (.int ch)] []))
  have Kp : Keep h0 h0 [] := Keep.refl h0 []
  refine own_st (fun t9 k9 => XS.iconst X0.here hx rfl (hb hby own_d_jdk_43_method_46_0) k9) ?_
  show own_Go p e below s _ _ _ (s₁.setTop (mkF m 1 #[.val (.int ch)] [(.int (1 : Int32))]))
  obtain ⟨T1, h1, k1, X1, e1, E1, A1, st1⟩ := newP X0 hx hZ (hw _ (List.mem_of_getElem? (i := 14) rfl)) e0 (g := (mkF m 1 #[.val (.int ch)] [(.int (1 : Int32))])) rfl (hb hby own_d_jdk_43_method_46_1) rfl (by decide) (cap := 1) (by decide) (by decide) (by decide) (by decide)
  obtain ⟨a, g1⟩ : ∃ z, z = h0.size := ⟨_, rfl⟩
  rw [← g1] at A1 st1
  have ge_a : n0 ≤ a := Nat.le_trans (own_z0 Od) (Nat.le_of_eq g1.symm)
  have gz_a : h0.size ≤ a := Nat.le_trans Kp.1 (Nat.le_of_eq g1.symm)
  have Od := Od.ext E1
  have Kp := Kp.ext E1
  refine own_st st1 ?_
  show own_Go p e below s _ _ _ (T1.setTop (mkF m 3 #[.val (.int ch)] [(.ref a)]))
  have V_a : Arv Z h1 a k1 .byte (1 : Int32) [(.int (0 : Int32))] (.int (0 : Int32)) := (Arv.new A1 (by decide)).pad (pad_rep [] (.int (0 : Int32)) 1)
  refine own_st (fun t9 k9 => XS.dup X1.here hx rfl (hb hby own_d_jdk_43_method_46_3) rfl rfl k9) ?_
  show own_Go p e below s _ _ _ (T1.setTop (mkF m 4 #[.val (.int ch)] [(.ref a), (.ref a)]))
  refine own_st (fun t9 k9 => XS.iconst X1.here hx rfl (hb hby own_d_jdk_43_method_46_4) k9) ?_
  show own_Go p e below s _ _ _ (T1.setTop (mkF m 5 #[.val (.int ch)] [(.int (0 : Int32)), (.ref a), (.ref a)]))
  refine own_st (fun t9 k9 => XS.iloadN X1.here hx rfl (hb hby own_d_jdk_43_method_46_5) rfl  k9) ?_
  show own_Go p e below s _ _ _ (T1.setTop (mkF m 6 #[.val (.int ch)] [(.int ch), (.int (0 : Int32)), (.ref a), (.ref a)]))
  refine own_st (fun t9 k9 => XT.i2b X1.here hx rfl (hb hby own_d_jdk_43_method_46_6) rfl k9) ?_
  show own_Go p e below s _ _ _ (T1.setTop (mkF m 7 #[.val (.int ch)] [(.int (ch.toInt8.toInt32)), (.int (0 : Int32)), (.ref a), (.ref a)]))
  obtain ⟨cl2, Ar2, q2, S2, M2, H2, G2⟩ := id V_a
  obtain ⟨T2, h2, X2, e2, W2, st2⟩ := stB X1 hx hZ e1 Ar2 (j := (0 : Int32)) (inb_of S2 ⟨by decide, by decide⟩) (g := (mkF m 7 #[.val (.int ch)] [(.int (ch.toInt8.toInt32)), (.int (0 : Int32)), (.ref a), (.ref a)])) rfl rfl (hb hby own_d_jdk_43_method_46_7)
  have N2 := Fr.snoc X2 N0 ge_a
  have Od := Od.wr W2 ge_a
  have Kp := Kp.wr W2 (Or.inr gz_a)
  refine own_st st2 ?_
  show own_Go p e below s _ _ _ (T2.setTop (mkF m 8 #[.val (.int ch)] [(.ref a)]))
  have V_a : Arv Z h2 a k1 .byte (1 : Int32) [(.int (nar .byte (ch.toInt8.toInt32)))] (.int (0 : Int32)) := Arv.set Ar2 q2 S2 M2 H2 G2 (fits_nar_byte _) W2 0 rfl (Nat.le_of_ble_eq_true rfl)
  rw [own_nb] at V_a
  exact own_retR X2 hx hlk Bd.returns rfl rfl (hb hby own_d_jdk_43_method_46_8) (by decide) (by decide) (by rw [e2]; exact ⟨N2, Kp, a, _, rfl, gz_a, V_a⟩)
theorem own_pn1 : plainName "java/lang/String" = true := by first | (simp [plainName, overriddenIn]; done) | decide +kernel
theorem own_d_jdk_42_method_151_0 : decode jdk_42_method_151_code 0 = .ok (.aload_n 0, 1) := by decide +kernel
theorem own_d_jdk_42_method_151_1 : decode jdk_42_method_151_code 1 = .ok (.invokespecial 1, 3) := by decide +kernel
theorem own_d_jdk_42_method_151_4 : decode jdk_42_method_151_code 4 = .ok (.aload_n 0, 1) := by decide +kernel
theorem own_d_jdk_42_method_151_5 : decode jdk_42_method_151_code 5 = .ok (.aload_n 1, 1) := by decide +kernel
theorem own_d_jdk_42_method_151_6 : decode jdk_42_method_151_code 6 = .ok (.putfield 9, 3) := by decide +kernel
theorem own_d_jdk_42_method_151_9 : decode jdk_42_method_151_code 9 = .ok (.aload_n 0, 1) := by decide +kernel
theorem own_d_jdk_42_method_151_10 : decode jdk_42_method_151_code 10 = .ok (.iload_n 2, 1) := by decide +kernel
theorem own_d_jdk_42_method_151_11 : decode jdk_42_method_151_code 11 = .ok (.putfield 15, 3) := by decide +kernel
theorem own_d_jdk_42_method_151_14 : decode jdk_42_method_151_code 14 = .ok (.return_, 1) := by decide +kernel
theorem own_ef_sbb (m : MethodId) (x0 : Addr) (x1 : Addr) (x2 : Int32) : entryFrame m #[(.ref x0), (.ref x1), (.int x2)] 3 = mkF m 0 #[.val (.ref x0), .val (.ref x1), .val (.int x2)] [] := by first | (simp [entryFrame, mkF, argsToLocals, Value.category]; done) | rfl
def own_Q_sbb (Z : State) (x t : Addr) (h0 : Heap) (n0 : Nat) (v : Option Value) (h : Heap) (L : List Loc) : Prop := v = none ∧ Fr n0 L ∧ Keep h0 h [x] ∧ Exa Z h x "java/lang/String" ∧ Fld Z h x "java/lang/String" "coder" "B" (.int (0 : Int32)) ∧ Fld Z h x "java/lang/String" "value" "[B" (.ref t)
set_option maxRecDepth 65536 in
set_option maxHeartbeats 40000000 in
theorem own_rm_sbb (l : Launch) (Z : State) (a0 : Array Value) (hw : ∀ d ∈ tables_1, d.before a0 Z = true) (ws : List Jvm.Cond) (x t : Addr) (v0 c0 : Value) (h0 : Heap) (n0 : Nat) (Od : Old Z n0 h0) (E_x : Exa Z h0 x "java/lang/String") (F_v : Fld Z h0 x "java/lang/String" "value" "[B" v0) (F_k : Fld Z h0 x "java/lang/String" "coder" "B" c0) (ge_x : n0 ≤ x) :
    MetFree l (⟨"java/lang/String", "<init>", "([BB)V"⟩ : MethodName) (head1 (Jvm.Cond.code (⟨"java/lang/String", "<init>", "([BB)V"⟩ : MethodName) jdk_42_method_151_code 3 none :: ws) ({ frames := 1, cells := 0, slots := 0, locals := 12 } : Room)) (fun a9 U => a9 = #[(.ref x), (.ref t), (.int (0 : Int32))] ∧ Z.Warmed39 U.vm ∧ U.heap = h0) (fun _ _ _ _ _ => True) (fun _ U o U' => ∃ v L, o = .returned v ∧ own_Q_sbb Z x t h0 n0 v U'.heap L ∧ FrameEnd U o U' L ({ frames := 1, cells := 0, slots := 0, locals := 12 } : Room).cells ({ frames := 1, cells := 0, slots := 0, locals := 12 } : Room).slots) := by
  refine MetFree.of_bodySF (plainFor_of_name own_pn1) hisR ?_
  intro p e s m args below meth c s₁ Bd hml0 hP hK
  obtain ⟨rfl, hZ, hh⟩ := hP
  have hx := Bd.exec
  have hby := Bd.bytes
  have hml : c.maxLocals = 3 := hml0
  have hown : s.vm.findClass "java/lang/String" = some m.cls := findClass_of_methodNamed Bd.named
  have hnm := (name_of_methodNamed Bd.named Bd.method).1
  have hlk : meth.locks = false := Bd.notSynchronized
  have X0 : Stand p l e ({ frames := 1, cells := 0, slots := 0, locals := 12 } : Room) s m #[(.ref x), (.ref t), (.int (0 : Int32))] below meth c s₁ [] 0 0 := Stand.of_body Bd
  have e0 : s₁.heap = h0 := by rw [← hh, Bd.state]; rfl
  have N0 := Fr.nil n0
  show own_Go p e below s (own_Q_sbb Z x t h0 n0) ({ frames := 1, cells := 0, slots := 0, locals := 12 } : Room).cells ({ frames := 1, cells := 0, slots := 0, locals := 12 } : Room).slots (s₁.setTop (entryFrame m #[(.ref x), (.ref t), (.int (0 : Int32))] 3))
  refine own_st (fun t9 k9 => castTop (own_ef_sbb m x t (0 : Int32)) k9) ?_
  show own_Go p e below s _ _ _ (s₁.setTop (mkF m 0 #[.val (.ref x), .val (.ref t), .val (.int (0 : Int32))] []))
  have Kp : Keep h0 h0 [x] := Keep.refl h0 [x]
  refine own_st (fun t9 k9 => XS.aloadN X0.here hx rfl (hb hby own_d_jdk_42_method_151_0) rfl rfl k9) ?_
  show own_Go p e below s _ _ _ (s₁.setTop (mkF m 1 #[.val (.ref x), .val (.ref t), .val (.int (0 : Int32))] [(.ref x)]))
  obtain ⟨T3, X3, e3, st3⟩ := initO X0 hx hZ hown (hw _ (List.mem_of_getElem? (i := 19) rfl)) (hw _ (List.mem_of_getElem? (i := 20) rfl)) (hw _ (List.mem_of_getElem? (i := 21) rfl)) e0 (g := (mkF m 1 #[.val (.ref x), .val (.ref t), .val (.int (0 : Int32))] [(.ref x)])) rfl (by rw [hml]; rfl) rfl (hb hby own_d_jdk_42_method_151_1) (by decide) (W := 0) (by show 2 * 0 + _ ≤ _; exact Nat.le_of_eq rfl) (by decide)
  refine own_st st3 ?_
  show own_Go p e below s _ _ _ (T3.setTop (mkF m 4 #[.val (.ref x), .val (.ref t), .val (.int (0 : Int32))] []))
  refine own_st (fun t9 k9 => XS.aloadN X3.here hx rfl (hb hby own_d_jdk_42_method_151_4) rfl rfl k9) ?_
  show own_Go p e below s _ _ _ (T3.setTop (mkF m 5 #[.val (.ref x), .val (.ref t), .val (.int (0 : Int32))] [(.ref x)]))
  refine own_st (fun t9 k9 => XS.aloadN X3.here hx rfl (hb hby own_d_jdk_42_method_151_5) rfl rfl k9) ?_
  show own_Go p e below s _ _ _ (T3.setTop (mkF m 6 #[.val (.ref x), .val (.ref t), .val (.int (0 : Int32))] [(.ref t), (.ref x)]))
  obtain ⟨T4, h4, X4, e4, W4, st4⟩ := putF X3 hx hZ hown (host := "") (Or.inl (hw _ (List.mem_of_getElem? (i := 22) rfl))) Via.refl e3 F_v E_x (Or.inr ⟨(hw _ (List.mem_of_getElem? (i := 23) rfl)), rfl, hnm⟩) (hw _ (List.mem_of_getElem? (i := 10) rfl)) (ty := (.array .byte)) (by decide) rfl rfl (g := (mkF m 6 #[.val (.ref x), .val (.ref t), .val (.int (0 : Int32))] [(.ref t), (.ref x)])) rfl rfl (hb hby own_d_jdk_42_method_151_6)
  have N4 := Fr.snoc X4 N0 ge_x
  have E_x := E_x.wr W4
  have F_v := F_v.same W4
  have F_k := F_k.other W4 (Or.inr (RoadKit.slot_ne (Or.inr (hw _ (List.mem_of_getElem? (i := 25) rfl))) (Or.inr (hw _ (List.mem_of_getElem? (i := 23) rfl))) (by decide) (t := .byte) (t' := (.array .byte)) (by decide) (by decide)))
  have Od := Od.wr W4 ge_x
  have Kp := Kp.wr W4 (Or.inl (List.mem_of_getElem? (i := 0) rfl))
  refine own_st st4 ?_
  show own_Go p e below s _ _ _ (T4.setTop (mkF m 9 #[.val (.ref x), .val (.ref t), .val (.int (0 : Int32))] []))
  refine own_st (fun t9 k9 => XS.aloadN X4.here hx rfl (hb hby own_d_jdk_42_method_151_9) rfl rfl k9) ?_
  show own_Go p e below s _ _ _ (T4.setTop (mkF m 10 #[.val (.ref x), .val (.ref t), .val (.int (0 : Int32))] [(.ref x)]))
  refine own_st (fun t9 k9 => XS.iloadN X4.here hx rfl (hb hby own_d_jdk_42_method_151_10) rfl  k9) ?_
  show own_Go p e below s _ _ _ (T4.setTop (mkF m 11 #[.val (.ref x), .val (.ref t), .val (.int (0 : Int32))] [(.int (0 : Int32)), (.ref x)]))
  obtain ⟨T5, h5, X5, e5, W5, st5⟩ := putFN X4 hx hZ hown (hw _ (List.mem_of_getElem? (i := 24) rfl)) Via.refl e4 F_k E_x (Or.inr ⟨(hw _ (List.mem_of_getElem? (i := 25) rfl)), rfl, hnm⟩) (hw _ (List.mem_of_getElem? (i := 10) rfl)) (ty := .byte) (v' := (.int (0 : Int32))) (by decide) rfl rfl (g := (mkF m 11 #[.val (.ref x), .val (.ref t), .val (.int (0 : Int32))] [(.int (0 : Int32)), (.ref x)])) rfl rfl (hb hby own_d_jdk_42_method_151_11)
  have N5 := Fr.snoc X5 N4 ge_x
  have E_x := E_x.wr W5
  have F_v := F_v.other W5 (Or.inr (RoadKit.slot_ne (Or.inr (hw _ (List.mem_of_getElem? (i := 23) rfl))) (Or.inr (hw _ (List.mem_of_getElem? (i := 25) rfl))) (by decide) (t := (.array .byte)) (t' := .byte) (by decide) (by decide)))
  have F_k := F_k.same W5
  have Od := Od.wr W5 ge_x
  have Kp := Kp.wr W5 (Or.inl (List.mem_of_getElem? (i := 0) rfl))
  refine own_st st5 ?_
  show own_Go p e below s _ _ _ (T5.setTop (mkF m 14 #[.val (.ref x), .val (.ref t), .val (.int (0 : Int32))] []))
  exact own_retV X5 hx hlk Bd.returns (hb hby own_d_jdk_42_method_151_14) (by decide) (by decide) (by rw [e5]; exact ⟨rfl, N5, Kp, E_x, F_k, F_v⟩)
theorem own_d_jdk_42_method_139_0 : decode jdk_42_method_139_code 0 = .ok (.getstatic 38, 3) := by decide +kernel
theorem own_d_jdk_42_method_139_3 : decode jdk_42_method_139_code 3 = .ok (.ifCond .eq 23, 3) := by decide +kernel
theorem own_d_jdk_42_method_139_6 : decode jdk_42_method_139_code 6 = .ok (.iload_n 0, 1) := by decide +kernel
theorem own_pd0 : parseMethodDescriptor "(C)Z" = some ⟨[.char], some .boolean⟩ := by decide +kernel
theorem own_d_jdk_42_method_139_7 : decode jdk_42_method_139_code 7 = .ok (.invokestatic 1015, 3) := by decide +kernel
theorem own_d_jdk_42_method_139_10 : decode jdk_42_method_139_code 10 = .ok (.ifCond .eq 16, 3) := by decide +kernel
theorem own_d_jdk_42_method_139_13 : decode jdk_42_method_139_code 13 = .ok (.new 10, 3) := by decide +kernel
theorem own_d_jdk_42_method_139_16 : decode jdk_42_method_139_code 16 = .ok (.dup, 1) := by decide +kernel
theorem own_d_jdk_42_method_139_17 : decode jdk_42_method_139_code 17 = .ok (.iload_n 0, 1) := by decide +kernel
theorem own_pd1 : parseMethodDescriptor "(C)[B" = some ⟨[.char], some (.array .byte)⟩ := by decide +kernel
theorem own_d_jdk_42_method_139_18 : decode jdk_42_method_139_code 18 = .ok (.invokestatic 1018, 3) := by decide +kernel
theorem own_d_jdk_42_method_139_21 : decode jdk_42_method_139_code 21 = .ok (.iconst 0, 1) := by decide +kernel
theorem own_pd2 : parseMethodDescriptor "([BB)V" = some ⟨[(.array .byte), .byte], none⟩ := by decide +kernel
theorem own_d_jdk_42_method_139_22 : decode jdk_42_method_139_code 22 = .ok (.invokespecial 209, 3) := by decide +kernel
theorem own_d_jdk_42_method_139_25 : decode jdk_42_method_139_code 25 = .ok (.areturn, 1) := by decide +kernel
theorem own_ef_vof (m : MethodId) (x0 : Int32) : entryFrame m #[(.int x0)] 1 = mkF m 0 #[.val (.int x0)] [] := by first | (simp [entryFrame, mkF, argsToLocals, Value.category]; done) | rfl
def own_Q_vof (Z : State) (ch : Int32) (h0 : Heap) (n0 : Nat) (v : Option Value) (h : Heap) (L : List Loc) : Prop := Fr n0 L ∧ Keep h0 h [] ∧ ∃ x t k, v = some (.ref x) ∧ h0.size ≤ x ∧ h0.size ≤ t ∧ Exa Z h x "java/lang/String" ∧ Fld Z h x "java/lang/String" "coder" "B" (.int (0 : Int32)) ∧ Fld Z h x "java/lang/String" "value" "[B" (.ref t) ∧ Arv Z h t k .byte (1 : Int32) [(.int (ch.toInt8.toInt32))] (.int (0 : Int32))
set_option maxRecDepth 65536 in
set_option maxHeartbeats 40000000 in
theorem own_rm_vof (l : Launch) (Z : State) (a0 : Array Value) (hw : ∀ d ∈ tables_1, d.before a0 Z = true) (ws : List Jvm.Cond) (ch : Int32) (G : Int32) (h0 : Heap) (n0 : Nat) (Od : Old Z n0 h0) (b1 : ¬ (255 : Int32) < ch) (O2 : Sta Z Z.heap "java/lang/String" "COMPACT_STRINGS" "Z" (.int G)) (P5 : ¬ (G = (0 : Int32))) :
    MetFree l (⟨"java/lang/String", "valueOf", "(C)Ljava/lang/String;"⟩ : MethodName) (head1 (Jvm.Cond.code (⟨"java/lang/String", "valueOf", "(C)Ljava/lang/String;"⟩ : MethodName) jdk_42_method_139_code 1 (some (.object "java/lang/String")) :: ws) ({ frames := 2, cells := 2, slots := 5, locals := 27 } : Room)) (fun a9 U => a9 = #[(.int ch)] ∧ Z.Warmed39 U.vm ∧ U.heap = h0) (fun _ _ _ _ _ => True) (fun _ U o U' => ∃ v L, o = .returned v ∧ own_Q_vof Z ch h0 n0 v U'.heap L ∧ FrameEnd U o U' L ({ frames := 2, cells := 2, slots := 5, locals := 27 } : Room).cells ({ frames := 2, cells := 2, slots := 5, locals := 27 } : Room).slots) := by
  refine MetFree.of_bodySF (plainFor_of_name own_pn1) hisR ?_
  intro p e s m args below meth c s₁ Bd hml0 hP hK
  obtain ⟨rfl, hZ, hh⟩ := hP
  have hx := Bd.exec
  have hby := Bd.bytes
  have hml : c.maxLocals = 1 := hml0
  have hown : s.vm.findClass "java/lang/String" = some m.cls := findClass_of_methodNamed Bd.named
  have hnm := (name_of_methodNamed Bd.named Bd.method).1
  have hlk : meth.locks = false := Bd.notSynchronized
  have X0 : Stand p l e ({ frames := 2, cells := 2, slots := 5, locals := 27 } : Room) s m #[(.int ch)] below meth c s₁ [] 0 0 := Stand.of_body Bd
  have e0 : s₁.heap = h0 := by rw [← hh, Bd.state]; rfl
  have N0 := Fr.nil n0
  show own_Go p e below s (own_Q_vof Z ch h0 n0) ({ frames := 2, cells := 2, slots := 5, locals := 27 } : Room).cells ({ frames := 2, cells := 2, slots := 5, locals := 27 } : Room).slots (s₁.setTop (entryFrame m #[(.int ch)] 1))
  refine own_st (fun t9 k9 => castTop (own_ef_vof m ch) k9) ?_
  show own_Go p e below s _ _ _ (s₁.setTop (mkF m 0 #[.val (.int ch)] []))
  have Kp : Keep h0 h0 [] := Keep.refl h0 []
  obtain ⟨T6, X6, e6, st6⟩ := getS (host := "") X0 hx hZ hown (hw _ (List.mem_of_getElem? (i := 4) rfl)) Via.refl e0 (O2.ext Od.2) (g := (mkF m 0 #[.val (.int ch)] [])) rfl (hb hby own_d_jdk_42_method_139_0)
  refine own_st st6 ?_
  show own_Go p e below s _ _ _ (T6.setTop (mkF m 3 #[.val (.int ch)] [(.int G)]))
  refine own_st (fun t9 k9 => XS.ifNo X6.here hx rfl (hb hby own_d_jdk_42_method_139_3) rfl ((if0 _ _).trans (feq (P5 : ¬ (G = (0 : Int32)))).1) k9) ?_
  show own_Go p e below s _ _ _ (T6.setTop (mkF m 6 #[.val (.int ch)] []))
  refine own_st (fun t9 k9 => XS.iloadN X6.here hx rfl (hb hby own_d_jdk_42_method_139_6) rfl  k9) ?_
  show own_Go p e below s _ _ _ (T6.setTop (mkF m 7 #[.val (.int ch)] [(.int ch)]))
  obtain ⟨_, T7, h7, L7, X7, e7, ⟨rfl, Nc, hu⟩, st7⟩ := own_callS X6 hx hZ hown (hw _ (List.mem_of_getElem? (i := 5) rfl)) (hw _ (List.mem_of_getElem? (i := 6) rfl)) (hw _ (List.mem_of_getElem? (i := 7) rfl)) (hw _ (List.mem_of_getElem? (i := 8) rfl)) (by decide) (own_rm_cene l Z a0 hw [] ch h0 n0 Od b1) (by decide) (by decide) e6 (W := 0) (g := (mkF m 7 #[.val (.int ch)] [(.int ch)])) rfl (by rw [hml]; rfl) (argsL := [(.int ch)]) (rest := []) rfl (lenOf own_pd0 rfl) rfl (by show 2 * 0 + _ ≤ _; exact Nat.le_of_eq rfl) (hb hby own_d_jdk_42_method_139_7) (by decide) (by decide)
  have N7 := Fr.app N0 Nc
  refine own_st st7 ?_
  show own_Go p e below s _ _ _ (T7.setTop (mkF m 10 #[.val (.int ch)] [(.int (1 : Int32))]))
  refine own_st (fun t9 k9 => XS.ifNo X7.here hx rfl (hb hby own_d_jdk_42_method_139_10) rfl (by decide) k9) ?_
  show own_Go p e below s _ _ _ (T7.setTop (mkF m 13 #[.val (.int ch)] []))
  obtain ⟨T8, h8, X8, e8, E8, A8, D8, U8, st8⟩ := newO X7 hx hZ hown (hw _ (List.mem_of_getElem? (i := 9) rfl)) (hw _ (List.mem_of_getElem? (i := 10) rfl)) (hw _ (List.mem_of_getElem? (i := 2) rfl)) (e7.trans hu) (g := (mkF m 13 #[.val (.int ch)] [])) rfl (hb hby own_d_jdk_42_method_139_13) (by decide) (by decide)
  obtain ⟨x, g8⟩ : ∃ z, z = h0.size := ⟨_, rfl⟩
  rw [← g8] at A8 D8 st8 U8
  have ge_x : n0 ≤ x := Nat.le_trans (own_z0 Od) (Nat.le_of_eq g8.symm)
  have gz_x : h0.size ≤ x := Nat.le_trans Kp.1 (Nat.le_of_eq g8.symm)
  have Od := Od.ext E8
  have Kp := Kp.ext E8
  refine own_st st8 ?_
  show own_Go p e below s _ _ _ (T8.setTop (mkF m 16 #[.val (.int ch)] [(.ref x)]))
  have E_x : Exa Z h8 x "java/lang/String" := A8
  have F_v : Fld Z h8 x "java/lang/String" "value" "[B" .null := D8 (Or.inr (hw _ (List.mem_of_getElem? (i := 23) rfl))) (ty := (.array .byte)) (by decide)
  have F_k : Fld Z h8 x "java/lang/String" "coder" "B" (.int (0 : Int32)) := D8 (Or.inr (hw _ (List.mem_of_getElem? (i := 25) rfl))) (ty := .byte) (by decide)
  refine own_st (fun t9 k9 => XS.dup X8.here hx rfl (hb hby own_d_jdk_42_method_139_16) rfl rfl k9) ?_
  show own_Go p e below s _ _ _ (T8.setTop (mkF m 17 #[.val (.int ch)] [(.ref x), (.ref x)]))
  refine own_st (fun t9 k9 => XS.iloadN X8.here hx rfl (hb hby own_d_jdk_42_method_139_17) rfl  k9) ?_
  show own_Go p e below s _ _ _ (T8.setTop (mkF m 18 #[.val (.int ch)] [(.int ch), (.ref x), (.ref x)]))
  obtain ⟨_, T9, h9, L9, X9, e9, ⟨Nd, Kd, t, kt, rfl, gt, V_t⟩, st9⟩ := own_callS X8 hx hZ hown (hw _ (List.mem_of_getElem? (i := 11) rfl)) (hw _ (List.mem_of_getElem? (i := 12) rfl)) (hw _ (List.mem_of_getElem? (i := 7) rfl)) (hw _ (List.mem_of_getElem? (i := 13) rfl)) (by decide) (own_rm_tb1 l Z a0 hw [] ch h8 n0 Od) (by decide) (by decide) e8 (W := 2) (g := (mkF m 18 #[.val (.int ch)] [(.int ch), (.ref x), (.ref x)])) rfl (by rw [hml]; rfl) (argsL := [(.int ch)]) (rest := [(.ref x), (.ref x)]) rfl (lenOf own_pd1 rfl) rfl (by show 2 * 0 + _ ≤ _; exact Nat.le_of_eq rfl) (hb hby own_d_jdk_42_method_139_18) (by decide) (by decide)
  have N9 := Fr.app N7 Nd
  have ne_x_t : x ≠ t := Nat.ne_of_lt (Nat.lt_of_lt_of_le E_x.lt gt)
  have ge_t : n0 ≤ t := Nat.le_trans (own_z0 Od) gt
  have gz_t : h0.size ≤ t := Nat.le_trans Kp.1 gt
  have E_x := E_x.keep Kd
  have F_v := F_v.keep Kd nin0
  have F_k := F_k.keep Kd nin0
  have Od := Od.keep Kd all0
  have Kp := Kp.trans Kd all0
  refine own_st st9 ?_
  show own_Go p e below s _ _ _ (T9.setTop (mkF m 21 #[.val (.int ch)] [(.ref t), (.ref x), (.ref x)]))
  refine own_st (fun t9 k9 => XS.iconst X9.here hx rfl (hb hby own_d_jdk_42_method_139_21) k9) ?_
  show own_Go p e below s _ _ _ (T9.setTop (mkF m 22 #[.val (.int ch)] [(.int (0 : Int32)), (.ref t), (.ref x), (.ref x)]))
  obtain ⟨_, T10, h10, L10, X10, e10, ⟨rfl, Nq, Ke, E_y, F_c, F_u⟩, st10⟩ := own_callI X9 hx hZ hown rfl (hw _ (List.mem_of_getElem? (i := 15) rfl)) (hw _ (List.mem_of_getElem? (i := 16) rfl)) (hw _ (List.mem_of_getElem? (i := 2) rfl)) (hw _ (List.mem_of_getElem? (i := 18) rfl)) (by decide) (own_rm_sbb l Z a0 hw [] x t .null (.int (0 : Int32)) h9 n0 Od E_x F_v F_k ge_x) (by decide) (by decide) e9 (a := x) (W := 1) (g := (mkF m 22 #[.val (.int ch)] [(.int (0 : Int32)), (.ref t), (.ref x), (.ref x)])) rfl (by rw [hml]; rfl) (argsL := [(.ref t), (.int (0 : Int32))]) (rest := [(.ref x)]) rfl (lenOf own_pd2 rfl) rfl (by show 2 * 0 + _ ≤ _; exact Nat.le_of_eq rfl) (hb hby own_d_jdk_42_method_139_22) (by decide) (by decide)
  have N10 := Fr.app N9 Nq
  have E_x := E_x.keep Ke
  have V_t := V_t.keep Ke (ninS (Ne.symm ne_x_t) nin0)
  have Od := Od.keep Ke (allS ge_x all0)
  have Kp := Kp.trans Ke (allS (Or.inr gz_x) all0)
  refine own_st st10 ?_
  show own_Go p e below s _ _ _ (T10.setTop (mkF m 25 #[.val (.int ch)] [(.ref x)]))
  exact own_retR X10 hx hlk Bd.returns rfl rfl (hb hby own_d_jdk_42_method_139_25) (by decide) (by decide) (by rw [e10]; exact ⟨N10, Kp, x, t, kt, rfl, gz_x, gz_t, E_y, F_c, F_u, V_t⟩)
theorem own_pn2 : plainName "java/lang/Record" = true := by first | (simp [plainName, overriddenIn]; done) | decide +kernel
theorem own_d_jdk_30_method_1_0 : decode jdk_30_method_1_code 0 = .ok (.aload_n 0, 1) := by decide +kernel
theorem own_d_jdk_30_method_1_1 : decode jdk_30_method_1_code 1 = .ok (.invokespecial 1, 3) := by decide +kernel
theorem own_d_jdk_30_method_1_4 : decode jdk_30_method_1_code 4 = .ok (.return_, 1) := by decide +kernel
theorem own_ef_rec (m : MethodId) (x0 : Addr) : entryFrame m #[(.ref x0)] 1 = mkF m 0 #[.val (.ref x0)] [] := by first | (simp [entryFrame, mkF, argsToLocals, Value.category]; done) | rfl
def own_Q_rec (Z : State)  (h0 : Heap) (n0 : Nat) (v : Option Value) (h : Heap) (L : List Loc) : Prop := v = none ∧ Fr n0 L ∧ h = h0
set_option maxRecDepth 65536 in
set_option maxHeartbeats 40000000 in
theorem own_rm_rec (l : Launch) (Z : State) (a0 : Array Value) (hw : ∀ d ∈ tables_1, d.before a0 Z = true) (ws : List Jvm.Cond) (x : Addr) (h0 : Heap) (n0 : Nat) (Od : Old Z n0 h0) :
    MetFree l (⟨"java/lang/Record", "<init>", "()V"⟩ : MethodName) (head1 (Jvm.Cond.code (⟨"java/lang/Record", "<init>", "()V"⟩ : MethodName) jdk_30_method_1_code 1 none :: ws) ({ frames := 1, cells := 0, slots := 0, locals := 12 } : Room)) (fun a9 U => a9 = #[(.ref x)] ∧ Z.Warmed39 U.vm ∧ U.heap = h0) (fun _ _ _ _ _ => True) (fun _ U o U' => ∃ v L, o = .returned v ∧ own_Q_rec Z  h0 n0 v U'.heap L ∧ FrameEnd U o U' L ({ frames := 1, cells := 0, slots := 0, locals := 12 } : Room).cells ({ frames := 1, cells := 0, slots := 0, locals := 12 } : Room).slots) := by
  refine MetFree.of_bodySF (plainFor_of_name own_pn2) hisR ?_
  intro p e s m args below meth c s₁ Bd hml0 hP hK
  obtain ⟨rfl, hZ, hh⟩ := hP
  have hx := Bd.exec
  have hby := Bd.bytes
  have hml : c.maxLocals = 1 := hml0
  have hown : s.vm.findClass "java/lang/Record" = some m.cls := findClass_of_methodNamed Bd.named
  have hnm := (name_of_methodNamed Bd.named Bd.method).1
  have hlk : meth.locks = false := Bd.notSynchronized
  have X0 : Stand p l e ({ frames := 1, cells := 0, slots := 0, locals := 12 } : Room) s m #[(.ref x)] below meth c s₁ [] 0 0 := Stand.of_body Bd
  have e0 : s₁.heap = h0 := by rw [← hh, Bd.state]; rfl
  have N0 := Fr.nil n0
  show own_Go p e below s (own_Q_rec Z  h0 n0) ({ frames := 1, cells := 0, slots := 0, locals := 12 } : Room).cells ({ frames := 1, cells := 0, slots := 0, locals := 12 } : Room).slots (s₁.setTop (entryFrame m #[(.ref x)] 1))
  refine own_st (fun t9 k9 => castTop (own_ef_rec m x) k9) ?_
  show own_Go p e below s _ _ _ (s₁.setTop (mkF m 0 #[.val (.ref x)] []))
  refine own_st (fun t9 k9 => XS.aloadN X0.here hx rfl (hb hby own_d_jdk_30_method_1_0) rfl rfl k9) ?_
  show own_Go p e below s _ _ _ (s₁.setTop (mkF m 1 #[.val (.ref x)] [(.ref x)]))
  obtain ⟨T11, X11, e11, st11⟩ := initO X0 hx hZ hown (hw _ (List.mem_of_getElem? (i := 55) rfl)) (hw _ (List.mem_of_getElem? (i := 20) rfl)) (hw _ (List.mem_of_getElem? (i := 21) rfl)) e0 (g := (mkF m 1 #[.val (.ref x)] [(.ref x)])) rfl (by rw [hml]; rfl) rfl (hb hby own_d_jdk_30_method_1_1) (by decide) (W := 0) (by show 2 * 0 + _ ≤ _; exact Nat.le_of_eq rfl) (by decide)
  refine own_st st11 ?_
  show own_Go p e below s _ _ _ (T11.setTop (mkF m 4 #[.val (.ref x)] []))
  exact own_retV X11 hx hlk Bd.returns (hb hby own_d_jdk_30_method_1_4) (by decide) (by decide) (by rw [e11]; exact ⟨rfl, N0, rfl⟩)
theorem own_pn3 : plainName "java/util/Objects" = true := by first | (simp [plainName, overriddenIn]; done) | decide +kernel
theorem own_d_jdk_31_method_11_0 : decode jdk_31_method_11_code 0 = .ok (.aload_n 0, 1) := by decide +kernel
theorem own_d_jdk_31_method_11_1 : decode jdk_31_method_11_code 1 = .ok (.ifnonnull 12, 3) := by decide +kernel
theorem own_d_jdk_31_method_11_13 : decode jdk_31_method_11_code 13 = .ok (.aload_n 0, 1) := by decide +kernel
theorem own_d_jdk_31_method_11_14 : decode jdk_31_method_11_code 14 = .ok (.areturn, 1) := by decide +kernel
theorem own_ef_rnn (m : MethodId) (x0 : Addr) (x1 : Addr) : entryFrame m #[(.ref x0), (.ref x1)] 2 = mkF m 0 #[.val (.ref x0), .val (.ref x1)] [] := by first | (simp [entryFrame, mkF, argsToLocals, Value.category]; done) | rfl
def own_Q_rnn (Z : State) (x : Addr) (h0 : Heap) (n0 : Nat) (v : Option Value) (h : Heap) (L : List Loc) : Prop := v = some (.ref x) ∧ Fr n0 L ∧ h = h0
set_option maxRecDepth 65536 in
set_option maxHeartbeats 40000000 in
theorem own_rm_rnn (l : Launch) (Z : State) (a0 : Array Value) (hw : ∀ d ∈ tables_1, d.before a0 Z = true) (ws : List Jvm.Cond) (x y : Addr) (h0 : Heap) (n0 : Nat) (Od : Old Z n0 h0) :
    MetFree l (⟨"java/util/Objects", "requireNonNull", "(Ljava/lang/Object;Ljava/lang/String;)Ljava/lang/Object;"⟩ : MethodName) (head1 (Jvm.Cond.code (⟨"java/util/Objects", "requireNonNull", "(Ljava/lang/Object;Ljava/lang/String;)Ljava/lang/Object;"⟩ : MethodName) jdk_31_method_11_code 2 (some (.object "java/lang/Object")) :: ws) ({ frames := 0, cells := 0, slots := 0, locals := 0 } : Room)) (fun a9 U => a9 = #[(.ref x), (.ref y)] ∧ Z.Warmed39 U.vm ∧ U.heap = h0) (fun _ _ _ _ _ => True) (fun _ U o U' => ∃ v L, o = .returned v ∧ own_Q_rnn Z x h0 n0 v U'.heap L ∧ FrameEnd U o U' L ({ frames := 0, cells := 0, slots := 0, locals := 0 } : Room).cells ({ frames := 0, cells := 0, slots := 0, locals := 0 } : Room).slots) := by
  refine MetFree.of_bodySF (plainFor_of_name own_pn3) hisR ?_
  intro p e s m args below meth c s₁ Bd hml0 hP hK
  obtain ⟨rfl, hZ, hh⟩ := hP
  have hx := Bd.exec
  have hby := Bd.bytes
  have hml : c.maxLocals = 2 := hml0
  have hown : s.vm.findClass "java/util/Objects" = some m.cls := findClass_of_methodNamed Bd.named
  have hnm := (name_of_methodNamed Bd.named Bd.method).1
  have hlk : meth.locks = false := Bd.notSynchronized
  have X0 : Stand p l e ({ frames := 0, cells := 0, slots := 0, locals := 0 } : Room) s m #[(.ref x), (.ref y)] below meth c s₁ [] 0 0 := Stand.of_body Bd
  have e0 : s₁.heap = h0 := by rw [← hh, Bd.state]; rfl
  have N0 := Fr.nil n0
  show own_Go p e below s (own_Q_rnn Z x h0 n0) ({ frames := 0, cells := 0, slots := 0, locals := 0 } : Room).cells ({ frames := 0, cells := 0, slots := 0, locals := 0 } : Room).slots (s₁.setTop (entryFrame m #[(.ref x), (.ref y)] 2))
  refine own_st (fun t9 k9 => castTop (own_ef_rnn m x y) k9) ?_
  show own_Go p e below s _ _ _ (s₁.setTop (mkF m 0 #[.val (.ref x), .val (.ref y)] []))
  refine own_st (fun t9 k9 => XS.aloadN X0.here hx rfl (hb hby own_d_jdk_31_method_11_0) rfl rfl k9) ?_
  show own_Go p e below s _ _ _ (s₁.setTop (mkF m 1 #[.val (.ref x), .val (.ref y)] [(.ref x)]))
  refine own_st (fun t9 k9 => XT.ifnonnullYes X0.here hx rfl (pc0 := 1) (pc' := 13) rfl (hb hby own_d_jdk_31_method_11_1) rfl (by decide) (by decide) k9) ?_
  show own_Go p e below s _ _ _ (s₁.setTop (mkF m 13 #[.val (.ref x), .val (.ref y)] []))
  refine own_st (fun t9 k9 => XS.aloadN X0.here hx rfl (hb hby own_d_jdk_31_method_11_13) rfl rfl k9) ?_
  show own_Go p e below s _ _ _ (s₁.setTop (mkF m 14 #[.val (.ref x), .val (.ref y)] [(.ref x)]))
  exact own_retR X0 hx hlk Bd.returns rfl rfl (hb hby own_d_jdk_31_method_11_14) (by decide) (by decide) (by rw [e0]; exact ⟨rfl, N0, rfl⟩)
theorem own_d_jdk_42_method_55_0 : decode jdk_42_method_55_code 0 = .ok (.aload_n 0, 1) := by decide +kernel
theorem own_d_jdk_42_method_55_1 : decode jdk_42_method_55_code 1 = .ok (.getfield 9, 3) := by decide +kernel
theorem own_d_jdk_42_method_55_4 : decode jdk_42_method_55_code 4 = .ok (.arraylength, 1) := by decide +kernel
theorem own_d_jdk_42_method_55_5 : decode jdk_42_method_55_code 5 = .ok (.ifCond .ne 7, 3) := by decide +kernel
theorem own_d_jdk_42_method_55_12 : decode jdk_42_method_55_code 12 = .ok (.iconst 0, 1) := by decide +kernel
theorem own_d_jdk_42_method_55_13 : decode jdk_42_method_55_code 13 = .ok (.ireturn, 1) := by decide +kernel
theorem own_ef_emp (m : MethodId) (x0 : Addr) : entryFrame m #[(.ref x0)] 1 = mkF m 0 #[.val (.ref x0)] [] := by first | (simp [entryFrame, mkF, argsToLocals, Value.category]; done) | rfl
def own_Q_emp (Z : State)  (h0 : Heap) (n0 : Nat) (v : Option Value) (h : Heap) (L : List Loc) : Prop := v = some (.int (0 : Int32)) ∧ Fr n0 L ∧ h = h0
set_option maxRecDepth 65536 in
set_option maxHeartbeats 40000000 in
theorem own_rm_emp (l : Launch) (Z : State) (a0 : Array Value) (hw : ∀ d ∈ tables_1, d.before a0 Z = true) (ws : List Jvm.Cond) (x tx : Addr) (kx : ClassId) (z : Int32) (vs : List Value) (h0 : Heap) (n0 : Nat) (Od : Old Z n0 h0) (F : Fld Z h0 x "java/lang/String" "value" "[B" (.ref tx)) (V : Arv Z h0 tx kx .byte z vs (.int (0 : Int32))) (hz : ¬ (z = (0 : Int32))) :
    MetFree l (⟨"java/lang/String", "isEmpty", "()Z"⟩ : MethodName) (head1 (Jvm.Cond.code (⟨"java/lang/String", "isEmpty", "()Z"⟩ : MethodName) jdk_42_method_55_code 1 (some .boolean) :: ws) ({ frames := 0, cells := 0, slots := 0, locals := 0 } : Room)) (fun a9 U => a9 = #[(.ref x)] ∧ Z.Warmed39 U.vm ∧ U.heap = h0) (fun _ _ _ _ _ => True) (fun _ U o U' => ∃ v L, o = .returned v ∧ own_Q_emp Z  h0 n0 v U'.heap L ∧ FrameEnd U o U' L ({ frames := 0, cells := 0, slots := 0, locals := 0 } : Room).cells ({ frames := 0, cells := 0, slots := 0, locals := 0 } : Room).slots) := by
  refine MetFree.of_bodySF (plainFor_of_name own_pn1) hisR ?_
  intro p e s m args below meth c s₁ Bd hml0 hP hK
  obtain ⟨rfl, hZ, hh⟩ := hP
  have hx := Bd.exec
  have hby := Bd.bytes
  have hml : c.maxLocals = 1 := hml0
  have hown : s.vm.findClass "java/lang/String" = some m.cls := findClass_of_methodNamed Bd.named
  have hnm := (name_of_methodNamed Bd.named Bd.method).1
  have hlk : meth.locks = false := Bd.notSynchronized
  have X0 : Stand p l e ({ frames := 0, cells := 0, slots := 0, locals := 0 } : Room) s m #[(.ref x)] below meth c s₁ [] 0 0 := Stand.of_body Bd
  have e0 : s₁.heap = h0 := by rw [← hh, Bd.state]; rfl
  have N0 := Fr.nil n0
  show own_Go p e below s (own_Q_emp Z  h0 n0) ({ frames := 0, cells := 0, slots := 0, locals := 0 } : Room).cells ({ frames := 0, cells := 0, slots := 0, locals := 0 } : Room).slots (s₁.setTop (entryFrame m #[(.ref x)] 1))
  refine own_st (fun t9 k9 => castTop (own_ef_emp m x) k9) ?_
  show own_Go p e below s _ _ _ (s₁.setTop (mkF m 0 #[.val (.ref x)] []))
  refine own_st (fun t9 k9 => XS.aloadN X0.here hx rfl (hb hby own_d_jdk_42_method_55_0) rfl rfl k9) ?_
  show own_Go p e below s _ _ _ (s₁.setTop (mkF m 1 #[.val (.ref x)] [(.ref x)]))
  obtain ⟨T12, X12, e12, st12⟩ := getF X0 hx hZ hown (host := "") (Or.inl (hw _ (List.mem_of_getElem? (i := 22) rfl))) Via.refl e0 F (g := (mkF m 1 #[.val (.ref x)] [(.ref x)])) rfl rfl (hb hby own_d_jdk_42_method_55_1)
  refine own_st st12 ?_
  show own_Go p e below s _ _ _ (T12.setTop (mkF m 4 #[.val (.ref x)] [(.ref tx)]))
  refine own_st (fun t9 k9 => own_alen X12 hx hZ e12 V (g := (mkF m 4 #[.val (.ref x)] [(.ref tx)])) rfl rfl (hb hby own_d_jdk_42_method_55_4) t9 k9) ?_
  show own_Go p e below s _ _ _ (T12.setTop (mkF m 5 #[.val (.ref x)] [(.int z)]))
  refine own_st (fun t9 k9 => XS.ifYes X12.here hx rfl (pc0 := 5) (pc' := 12) rfl (hb hby own_d_jdk_42_method_55_5) rfl ((if0 _ _).trans (feq (hz : ¬ (z = (0 : Int32)))).2) (by decide) (by decide) k9) ?_
  show own_Go p e below s _ _ _ (T12.setTop (mkF m 12 #[.val (.ref x)] []))
  refine own_st (fun t9 k9 => XS.iconst X12.here hx rfl (hb hby own_d_jdk_42_method_55_12) k9) ?_
  show own_Go p e below s _ _ _ (T12.setTop (mkF m 13 #[.val (.ref x)] [(.int (0 : Int32))]))
  exact own_retN X12 hx hlk (t := .boolean) Bd.returns (by simp) (hb hby own_d_jdk_42_method_55_13) (by decide) (by decide) (by rw [e12]; exact ⟨rfl, N0, rfl⟩)
theorem own_d_jdk_42_method_152_0 : decode jdk_42_method_152_code 0 = .ok (.getstatic 38, 3) := by decide +kernel
theorem own_d_jdk_42_method_152_3 : decode jdk_42_method_152_code 3 = .ok (.ifCond .eq 10, 3) := by decide +kernel
theorem own_d_jdk_42_method_152_6 : decode jdk_42_method_152_code 6 = .ok (.aload_n 0, 1) := by decide +kernel
theorem own_d_jdk_42_method_152_7 : decode jdk_42_method_152_code 7 = .ok (.getfield 15, 3) := by decide +kernel
theorem own_d_jdk_42_method_152_10 : decode jdk_42_method_152_code 10 = .ok (.goto 4, 3) := by decide +kernel
theorem own_d_jdk_42_method_152_14 : decode jdk_42_method_152_code 14 = .ok (.ireturn, 1) := by decide +kernel
theorem own_ef_cod (m : MethodId) (x0 : Addr) : entryFrame m #[(.ref x0)] 1 = mkF m 0 #[.val (.ref x0)] [] := by first | (simp [entryFrame, mkF, argsToLocals, Value.category]; done) | rfl
def own_Q_cod (Z : State)  (h0 : Heap) (n0 : Nat) (v : Option Value) (h : Heap) (L : List Loc) : Prop := v = some (.int (0 : Int32)) ∧ Fr n0 L ∧ h = h0
set_option maxRecDepth 65536 in
set_option maxHeartbeats 40000000 in
theorem own_rm_cod (l : Launch) (Z : State) (a0 : Array Value) (hw : ∀ d ∈ tables_1, d.before a0 Z = true) (ws : List Jvm.Cond) (x : Addr) (G : Int32) (h0 : Heap) (n0 : Nat) (Od : Old Z n0 h0) (O2 : Sta Z Z.heap "java/lang/String" "COMPACT_STRINGS" "Z" (.int G)) (P5 : ¬ (G = (0 : Int32))) (F : Fld Z h0 x "java/lang/String" "coder" "B" (.int (0 : Int32))) :
    MetFree l (⟨"java/lang/String", "coder", "()B"⟩ : MethodName) (head1 (Jvm.Cond.code (⟨"java/lang/String", "coder", "()B"⟩ : MethodName) jdk_42_method_152_code 1 (some .byte) :: ws) ({ frames := 0, cells := 0, slots := 0, locals := 0 } : Room)) (fun a9 U => a9 = #[(.ref x)] ∧ Z.Warmed39 U.vm ∧ U.heap = h0) (fun _ _ _ _ _ => True) (fun _ U o U' => ∃ v L, o = .returned v ∧ own_Q_cod Z  h0 n0 v U'.heap L ∧ FrameEnd U o U' L ({ frames := 0, cells := 0, slots := 0, locals := 0 } : Room).cells ({ frames := 0, cells := 0, slots := 0, locals := 0 } : Room).slots) := by
  refine MetFree.of_bodySF (plainFor_of_name own_pn1) hisR ?_
  intro p e s m args below meth c s₁ Bd hml0 hP hK
  obtain ⟨rfl, hZ, hh⟩ := hP
  have hx := Bd.exec
  have hby := Bd.bytes
  have hml : c.maxLocals = 1 := hml0
  have hown : s.vm.findClass "java/lang/String" = some m.cls := findClass_of_methodNamed Bd.named
  have hnm := (name_of_methodNamed Bd.named Bd.method).1
  have hlk : meth.locks = false := Bd.notSynchronized
  have X0 : Stand p l e ({ frames := 0, cells := 0, slots := 0, locals := 0 } : Room) s m #[(.ref x)] below meth c s₁ [] 0 0 := Stand.of_body Bd
  have e0 : s₁.heap = h0 := by rw [← hh, Bd.state]; rfl
  have N0 := Fr.nil n0
  show own_Go p e below s (own_Q_cod Z  h0 n0) ({ frames := 0, cells := 0, slots := 0, locals := 0 } : Room).cells ({ frames := 0, cells := 0, slots := 0, locals := 0 } : Room).slots (s₁.setTop (entryFrame m #[(.ref x)] 1))
  refine own_st (fun t9 k9 => castTop (own_ef_cod m x) k9) ?_
  show own_Go p e below s _ _ _ (s₁.setTop (mkF m 0 #[.val (.ref x)] []))
  obtain ⟨T13, X13, e13, st13⟩ := getS (host := "") X0 hx hZ hown (hw _ (List.mem_of_getElem? (i := 4) rfl)) Via.refl e0 (O2.ext Od.2) (g := (mkF m 0 #[.val (.ref x)] [])) rfl (hb hby own_d_jdk_42_method_152_0)
  refine own_st st13 ?_
  show own_Go p e below s _ _ _ (T13.setTop (mkF m 3 #[.val (.ref x)] [(.int G)]))
  refine own_st (fun t9 k9 => XS.ifNo X13.here hx rfl (hb hby own_d_jdk_42_method_152_3) rfl ((if0 _ _).trans (feq (P5 : ¬ (G = (0 : Int32)))).1) k9) ?_
  show own_Go p e below s _ _ _ (T13.setTop (mkF m 6 #[.val (.ref x)] []))
  refine own_st (fun t9 k9 => XS.aloadN X13.here hx rfl (hb hby own_d_jdk_42_method_152_6) rfl rfl k9) ?_
  show own_Go p e below s _ _ _ (T13.setTop (mkF m 7 #[.val (.ref x)] [(.ref x)]))
  obtain ⟨T14, X14, e14, st14⟩ := getF X13 hx hZ hown (host := "") (Or.inl (hw _ (List.mem_of_getElem? (i := 24) rfl))) Via.refl e13 F (g := (mkF m 7 #[.val (.ref x)] [(.ref x)])) rfl rfl (hb hby own_d_jdk_42_method_152_7)
  refine own_st st14 ?_
  show own_Go p e below s _ _ _ (T14.setTop (mkF m 10 #[.val (.ref x)] [(.int (0 : Int32))]))
  refine own_st (fun t9 k9 => XS.goto X14.here hx rfl (pc0 := 10) (pc' := 14) rfl (hb hby own_d_jdk_42_method_152_10) (by decide) (by decide) k9) ?_
  show own_Go p e below s _ _ _ (T14.setTop (mkF m 14 #[.val (.ref x)] [(.int (0 : Int32))]))
  exact own_retN X14 hx hlk (t := .byte) Bd.returns (by simp) (hb hby own_d_jdk_42_method_152_14) (by decide) (by decide) (by rw [e14]; exact ⟨rfl, N0, rfl⟩)
theorem own_d_jdk_42_method_54_0 : decode jdk_42_method_54_code 0 = .ok (.aload_n 0, 1) := by decide +kernel
theorem own_d_jdk_42_method_54_1 : decode jdk_42_method_54_code 1 = .ok (.getfield 9, 3) := by decide +kernel
theorem own_d_jdk_42_method_54_4 : decode jdk_42_method_54_code 4 = .ok (.arraylength, 1) := by decide +kernel
theorem own_d_jdk_42_method_54_5 : decode jdk_42_method_54_code 5 = .ok (.aload_n 0, 1) := by decide +kernel
theorem own_pd3 : parseMethodDescriptor "()B" = some ⟨[], some .byte⟩ := by decide +kernel
theorem own_d_jdk_42_method_54_6 : decode jdk_42_method_54_code 6 = .ok (.invokevirtual 335, 3) := by decide +kernel
theorem own_d_jdk_42_method_54_9 : decode jdk_42_method_54_code 9 = .ok (.ishr, 1) := by decide +kernel
theorem own_d_jdk_42_method_54_10 : decode jdk_42_method_54_code 10 = .ok (.ireturn, 1) := by decide +kernel
theorem own_ef_len (m : MethodId) (x0 : Addr) : entryFrame m #[(.ref x0)] 1 = mkF m 0 #[.val (.ref x0)] [] := by first | (simp [entryFrame, mkF, argsToLocals, Value.category]; done) | rfl
def own_Q_len (Z : State) (z : Int32) (h0 : Heap) (n0 : Nat) (v : Option Value) (h : Heap) (L : List Loc) : Prop := v = some (.int z) ∧ Fr n0 L ∧ h = h0
set_option maxRecDepth 65536 in
set_option maxHeartbeats 40000000 in
theorem own_rm_len (l : Launch) (Z : State) (a0 : Array Value) (hw : ∀ d ∈ tables_1, d.before a0 Z = true) (ws : List Jvm.Cond) (x tx : Addr) (kx : ClassId) (z : Int32) (vs : List Value) (G : Int32) (h0 : Heap) (n0 : Nat) (Od : Old Z n0 h0) (O2 : Sta Z Z.heap "java/lang/String" "COMPACT_STRINGS" "Z" (.int G)) (P5 : ¬ (G = (0 : Int32))) (E_x : Exa Z h0 x "java/lang/String") (F : Fld Z h0 x "java/lang/String" "value" "[B" (.ref tx)) (F_k : Fld Z h0 x "java/lang/String" "coder" "B" (.int (0 : Int32))) (V : Arv Z h0 tx kx .byte z vs (.int (0 : Int32))) :
    MetFree l (⟨"java/lang/String", "length", "()I"⟩ : MethodName) (head1 (Jvm.Cond.code (⟨"java/lang/String", "length", "()I"⟩ : MethodName) jdk_42_method_54_code 1 (some .int) :: ws) ({ frames := 1, cells := 0, slots := 0, locals := 13 } : Room)) (fun a9 U => a9 = #[(.ref x)] ∧ Z.Warmed39 U.vm ∧ U.heap = h0) (fun _ _ _ _ _ => True) (fun _ U o U' => ∃ v L, o = .returned v ∧ own_Q_len Z z h0 n0 v U'.heap L ∧ FrameEnd U o U' L ({ frames := 1, cells := 0, slots := 0, locals := 13 } : Room).cells ({ frames := 1, cells := 0, slots := 0, locals := 13 } : Room).slots) := by
  refine MetFree.of_bodySF (plainFor_of_name own_pn1) hisR ?_
  intro p e s m args below meth c s₁ Bd hml0 hP hK
  obtain ⟨rfl, hZ, hh⟩ := hP
  have hx := Bd.exec
  have hby := Bd.bytes
  have hml : c.maxLocals = 1 := hml0
  have hown : s.vm.findClass "java/lang/String" = some m.cls := findClass_of_methodNamed Bd.named
  have hnm := (name_of_methodNamed Bd.named Bd.method).1
  have hlk : meth.locks = false := Bd.notSynchronized
  have X0 : Stand p l e ({ frames := 1, cells := 0, slots := 0, locals := 13 } : Room) s m #[(.ref x)] below meth c s₁ [] 0 0 := Stand.of_body Bd
  have e0 : s₁.heap = h0 := by rw [← hh, Bd.state]; rfl
  have N0 := Fr.nil n0
  show own_Go p e below s (own_Q_len Z z h0 n0) ({ frames := 1, cells := 0, slots := 0, locals := 13 } : Room).cells ({ frames := 1, cells := 0, slots := 0, locals := 13 } : Room).slots (s₁.setTop (entryFrame m #[(.ref x)] 1))
  refine own_st (fun t9 k9 => castTop (own_ef_len m x) k9) ?_
  show own_Go p e below s _ _ _ (s₁.setTop (mkF m 0 #[.val (.ref x)] []))
  refine own_st (fun t9 k9 => XS.aloadN X0.here hx rfl (hb hby own_d_jdk_42_method_54_0) rfl rfl k9) ?_
  show own_Go p e below s _ _ _ (s₁.setTop (mkF m 1 #[.val (.ref x)] [(.ref x)]))
  obtain ⟨T15, X15, e15, st15⟩ := getF X0 hx hZ hown (host := "") (Or.inl (hw _ (List.mem_of_getElem? (i := 22) rfl))) Via.refl e0 F (g := (mkF m 1 #[.val (.ref x)] [(.ref x)])) rfl rfl (hb hby own_d_jdk_42_method_54_1)
  refine own_st st15 ?_
  show own_Go p e below s _ _ _ (T15.setTop (mkF m 4 #[.val (.ref x)] [(.ref tx)]))
  refine own_st (fun t9 k9 => own_alen X15 hx hZ e15 V (g := (mkF m 4 #[.val (.ref x)] [(.ref tx)])) rfl rfl (hb hby own_d_jdk_42_method_54_4) t9 k9) ?_
  show own_Go p e below s _ _ _ (T15.setTop (mkF m 5 #[.val (.ref x)] [(.int z)]))
  refine own_st (fun t9 k9 => XS.aloadN X15.here hx rfl (hb hby own_d_jdk_42_method_54_5) rfl rfl k9) ?_
  show own_Go p e below s _ _ _ (T15.setTop (mkF m 6 #[.val (.ref x)] [(.ref x), (.int z)]))
  obtain ⟨_, T16, h16, L16, X16, e16, ⟨rfl, Nc, hu⟩, st16⟩ := own_callV X15 hx hZ hown (hw _ (List.mem_of_getElem? (i := 111) rfl)) (hw _ (List.mem_of_getElem? (i := 112) rfl)) (hw _ (List.mem_of_getElem? (i := 114) rfl)) (hw _ (List.mem_of_getElem? (i := 113) rfl)) (hw _ (List.mem_of_getElem? (i := 2) rfl)) (hw _ (List.mem_of_getElem? (i := 115) rfl)) (by decide) (own_rm_cod l Z a0 hw [] x G h0 n0 Od O2 P5 F_k) (by decide) (by decide) e15 (b := x) E_x (W := 1) (g := (mkF m 6 #[.val (.ref x)] [(.ref x), (.int z)])) rfl (by rw [hml]; rfl) (argsL := []) (rest := [(.int z)]) rfl (lenOf own_pd3 rfl) rfl (by show 2 * 0 + _ ≤ _; exact Nat.le_of_eq rfl) (hb hby own_d_jdk_42_method_54_6) (by decide) (by decide)
  have N16 := Fr.app N0 Nc
  refine own_st st16 ?_
  show own_Go p e below s _ _ _ (T16.setTop (mkF m 9 #[.val (.ref x)] [(.int (0 : Int32)), (.int z)]))
  refine own_st (fun t9 k9 => XT.ishr X16.here hx rfl (hb hby own_d_jdk_42_method_54_9) rfl k9) ?_
  show own_Go p e below s _ _ _ (T16.setTop (mkF m 10 #[.val (.ref x)] [(.int (z >>> ((0 : Int32) &&& 31)))]))
  rw [StrChars.shr0]
  show own_Go p e below s _ _ _ (T16.setTop (mkF m 10 #[.val (.ref x)] [(.int z)]))
  exact own_retI X16 hx hlk Bd.returns (hb hby own_d_jdk_42_method_54_10) (by decide) (by decide) (by rw [(e16.trans hu)]; exact ⟨rfl, N16, rfl⟩)
theorem own_pn4 : plainName "java/lang/AbstractStringBuilder" = true := by first | (simp [plainName, overriddenIn]; done) | decide +kernel
theorem own_d_jdk_68_method_2_0 : decode jdk_68_method_2_code 0 = .ok (.aload_n 0, 1) := by decide +kernel
theorem own_d_jdk_68_method_2_1 : decode jdk_68_method_2_code 1 = .ok (.invokespecial 3, 3) := by decide +kernel
theorem own_d_jdk_68_method_2_4 : decode jdk_68_method_2_code 4 = .ok (.getstatic 18, 3) := by decide +kernel
theorem own_d_jdk_68_method_2_7 : decode jdk_68_method_2_code 7 = .ok (.ifCond .eq 18, 3) := by decide +kernel
theorem own_d_jdk_68_method_2_10 : decode jdk_68_method_2_code 10 = .ok (.aload_n 0, 1) := by decide +kernel
theorem own_d_jdk_68_method_2_11 : decode jdk_68_method_2_code 11 = .ok (.iload_n 1, 1) := by decide +kernel
theorem own_d_jdk_68_method_2_12 : decode jdk_68_method_2_code 12 = .ok (.newarray .byte, 2) := by decide +kernel
theorem own_d_jdk_68_method_2_14 : decode jdk_68_method_2_code 14 = .ok (.putfield 15, 3) := by decide +kernel
theorem own_d_jdk_68_method_2_17 : decode jdk_68_method_2_code 17 = .ok (.aload_n 0, 1) := by decide +kernel
theorem own_d_jdk_68_method_2_18 : decode jdk_68_method_2_code 18 = .ok (.iconst 0, 1) := by decide +kernel
theorem own_d_jdk_68_method_2_19 : decode jdk_68_method_2_code 19 = .ok (.putfield 22, 3) := by decide +kernel
theorem own_d_jdk_68_method_2_22 : decode jdk_68_method_2_code 22 = .ok (.goto 16, 3) := by decide +kernel
theorem own_d_jdk_68_method_2_38 : decode jdk_68_method_2_code 38 = .ok (.return_, 1) := by decide +kernel
theorem own_ef_sbi (m : MethodId) (x0 : Addr) (x1 : Int32) : entryFrame m #[(.ref x0), (.int x1)] 2 = mkF m 0 #[.val (.ref x0), .val (.int x1)] [] := by first | (simp [entryFrame, mkF, argsToLocals, Value.category]; done) | rfl
def own_Q_sbi (Z : State) (x : Addr) (h0 : Heap) (n0 : Nat) (v : Option Value) (h : Heap) (L : List Loc) : Prop := v = none ∧ Fr n0 L ∧ Keep h0 h [x] ∧ Exa Z h x "java/lang/StringBuilder" ∧ ∃ vb kv, h0.size ≤ vb ∧ Fld Z h x "java/lang/AbstractStringBuilder" "value" "[B" (.ref vb) ∧ Fld Z h x "java/lang/AbstractStringBuilder" "coder" "B" (.int (0 : Int32)) ∧ Fld Z h x "java/lang/AbstractStringBuilder" "count" "I" (.int (0 : Int32)) ∧ Arv Z h vb kv .byte (16 : Int32) [(.int (0 : Int32)), (.int (0 : Int32)), (.int (0 : Int32)), (.int (0 : Int32)), (.int (0 : Int32)), (.int (0 : Int32)), (.int (0 : Int32)), (.int (0 : Int32)), (.int (0 : Int32)), (.int (0 : Int32)), (.int (0 : Int32)), (.int (0 : Int32)), (.int (0 : Int32)), (.int (0 : Int32)), (.int (0 : Int32)), (.int (0 : Int32))] (.int (0 : Int32))
set_option maxRecDepth 65536 in
set_option maxHeartbeats 40000000 in
theorem own_rm_sbi (l : Launch) (Z : State) (a0 : Array Value) (hw : ∀ d ∈ tables_1, d.before a0 Z = true) (ws : List Jvm.Cond) (x : Addr) (G : Int32) (h0 : Heap) (n0 : Nat) (Od : Old Z n0 h0) (E_x : Exa Z h0 x "java/lang/StringBuilder") (F_v : Fld Z h0 x "java/lang/AbstractStringBuilder" "value" "[B" .null) (F_k : Fld Z h0 x "java/lang/AbstractStringBuilder" "coder" "B" (.int (0 : Int32))) (F_c : Fld Z h0 x "java/lang/AbstractStringBuilder" "count" "I" (.int (0 : Int32))) (ge_x : n0 ≤ x) (O2 : Sta Z Z.heap "java/lang/String" "COMPACT_STRINGS" "Z" (.int G)) (P5 : ¬ (G = (0 : Int32))) :
    MetFree l (⟨"java/lang/AbstractStringBuilder", "<init>", "(I)V"⟩ : MethodName) (head1 (Jvm.Cond.code (⟨"java/lang/AbstractStringBuilder", "<init>", "(I)V"⟩ : MethodName) jdk_68_method_2_code 2 none :: ws) ({ frames := 1, cells := 1, slots := 16, locals := 12 } : Room)) (fun a9 U => a9 = #[(.ref x), (.int (16 : Int32))] ∧ Z.Warmed39 U.vm ∧ U.heap = h0) (fun _ _ _ _ _ => True) (fun _ U o U' => ∃ v L, o = .returned v ∧ own_Q_sbi Z x h0 n0 v U'.heap L ∧ FrameEnd U o U' L ({ frames := 1, cells := 1, slots := 16, locals := 12 } : Room).cells ({ frames := 1, cells := 1, slots := 16, locals := 12 } : Room).slots) := by
  refine MetFree.of_bodySF (plainFor_of_name own_pn4) hisR ?_
  intro p e s m args below meth c s₁ Bd hml0 hP hK
  obtain ⟨rfl, hZ, hh⟩ := hP
  have hx := Bd.exec
  have hby := Bd.bytes
  have hml : c.maxLocals = 2 := hml0
  have hown : s.vm.findClass "java/lang/AbstractStringBuilder" = some m.cls := findClass_of_methodNamed Bd.named
  have hnm := (name_of_methodNamed Bd.named Bd.method).1
  have hlk : meth.locks = false := Bd.notSynchronized
  have X0 : Stand p l e ({ frames := 1, cells := 1, slots := 16, locals := 12 } : Room) s m #[(.ref x), (.int (16 : Int32))] below meth c s₁ [] 0 0 := Stand.of_body Bd
  have e0 : s₁.heap = h0 := by rw [← hh, Bd.state]; rfl
  have N0 := Fr.nil n0
  show own_Go p e below s (own_Q_sbi Z x h0 n0) ({ frames := 1, cells := 1, slots := 16, locals := 12 } : Room).cells ({ frames := 1, cells := 1, slots := 16, locals := 12 } : Room).slots (s₁.setTop (entryFrame m #[(.ref x), (.int (16 : Int32))] 2))
  refine own_st (fun t9 k9 => castTop (own_ef_sbi m x (16 : Int32)) k9) ?_
  show own_Go p e below s _ _ _ (s₁.setTop (mkF m 0 #[.val (.ref x), .val (.int (16 : Int32))] []))
  have Kp : Keep h0 h0 [x] := Keep.refl h0 [x]
  refine own_st (fun t9 k9 => XS.aloadN X0.here hx rfl (hb hby own_d_jdk_68_method_2_0) rfl rfl k9) ?_
  show own_Go p e below s _ _ _ (s₁.setTop (mkF m 1 #[.val (.ref x), .val (.int (16 : Int32))] [(.ref x)]))
  obtain ⟨T17, X17, e17, st17⟩ := initO X0 hx hZ hown (hw _ (List.mem_of_getElem? (i := 90) rfl)) (hw _ (List.mem_of_getElem? (i := 20) rfl)) (hw _ (List.mem_of_getElem? (i := 21) rfl)) e0 (g := (mkF m 1 #[.val (.ref x), .val (.int (16 : Int32))] [(.ref x)])) rfl (by rw [hml]; rfl) rfl (hb hby own_d_jdk_68_method_2_1) (by decide) (W := 0) (by show 2 * 0 + _ ≤ _; exact Nat.le_of_eq rfl) (by decide)
  refine own_st st17 ?_
  show own_Go p e below s _ _ _ (T17.setTop (mkF m 4 #[.val (.ref x), .val (.int (16 : Int32))] []))
  obtain ⟨T18, X18, e18, st18⟩ := getS (host := "") X17 hx hZ hown (hw _ (List.mem_of_getElem? (i := 91) rfl)) Via.refl e17 (O2.ext Od.2) (g := (mkF m 4 #[.val (.ref x), .val (.int (16 : Int32))] [])) rfl (hb hby own_d_jdk_68_method_2_4)
  refine own_st st18 ?_
  show own_Go p e below s _ _ _ (T18.setTop (mkF m 7 #[.val (.ref x), .val (.int (16 : Int32))] [(.int G)]))
  refine own_st (fun t9 k9 => XS.ifNo X18.here hx rfl (hb hby own_d_jdk_68_method_2_7) rfl ((if0 _ _).trans (feq (P5 : ¬ (G = (0 : Int32)))).1) k9) ?_
  show own_Go p e below s _ _ _ (T18.setTop (mkF m 10 #[.val (.ref x), .val (.int (16 : Int32))] []))
  refine own_st (fun t9 k9 => XS.aloadN X18.here hx rfl (hb hby own_d_jdk_68_method_2_10) rfl rfl k9) ?_
  show own_Go p e below s _ _ _ (T18.setTop (mkF m 11 #[.val (.ref x), .val (.int (16 : Int32))] [(.ref x)]))
  refine own_st (fun t9 k9 => XS.iloadN X18.here hx rfl (hb hby own_d_jdk_68_method_2_11) rfl  k9) ?_
  show own_Go p e below s _ _ _ (T18.setTop (mkF m 12 #[.val (.ref x), .val (.int (16 : Int32))] [(.int (16 : Int32)), (.ref x)]))
  obtain ⟨T19, h19, k19, X19, e19, E19, A19, st19⟩ := newP X18 hx hZ (hw _ (List.mem_of_getElem? (i := 14) rfl)) e18 (g := (mkF m 12 #[.val (.ref x), .val (.int (16 : Int32))] [(.int (16 : Int32)), (.ref x)])) rfl (hb hby own_d_jdk_68_method_2_12) rfl (by decide) (cap := 16) (by decide) (by decide) (by decide) (by decide)
  obtain ⟨vb, g19⟩ : ∃ z, z = h0.size := ⟨_, rfl⟩
  rw [← g19] at A19 st19
  have ne_x_vb : x ≠ vb := Nat.ne_of_lt (Nat.lt_of_lt_of_le E_x.lt (Nat.le_of_eq g19.symm))
  have ge_vb : n0 ≤ vb := Nat.le_trans (own_z0 Od) (Nat.le_of_eq g19.symm)
  have gz_vb : h0.size ≤ vb := Nat.le_trans Kp.1 (Nat.le_of_eq g19.symm)
  have E_x := E_x.ext E19
  have F_v := F_v.ext E19
  have F_k := F_k.ext E19
  have F_c := F_c.ext E19
  have Od := Od.ext E19
  have Kp := Kp.ext E19
  refine own_st st19 ?_
  show own_Go p e below s _ _ _ (T19.setTop (mkF m 14 #[.val (.ref x), .val (.int (16 : Int32))] [(.ref vb), (.ref x)]))
  have V_b : Arv Z h19 vb k19 .byte (16 : Int32) [(.int (0 : Int32)), (.int (0 : Int32)), (.int (0 : Int32)), (.int (0 : Int32)), (.int (0 : Int32)), (.int (0 : Int32)), (.int (0 : Int32)), (.int (0 : Int32)), (.int (0 : Int32)), (.int (0 : Int32)), (.int (0 : Int32)), (.int (0 : Int32)), (.int (0 : Int32)), (.int (0 : Int32)), (.int (0 : Int32)), (.int (0 : Int32))] (.int (0 : Int32)) := (Arv.new A19 (by decide)).pad (pad_rep [] (.int (0 : Int32)) 16)
  obtain ⟨T20, h20, X20, e20, W20, st20⟩ := putF X19 hx hZ hown (host := "") (Or.inl (hw _ (List.mem_of_getElem? (i := 92) rfl))) Via.refl e19 F_v E_x (Or.inl (hw _ (List.mem_of_getElem? (i := 93) rfl))) (hw _ (List.mem_of_getElem? (i := 79) rfl)) (ty := (.array .byte)) (by decide) rfl rfl (g := (mkF m 14 #[.val (.ref x), .val (.int (16 : Int32))] [(.ref vb), (.ref x)])) rfl rfl (hb hby own_d_jdk_68_method_2_14)
  have N20 := Fr.snoc X20 N0 ge_x
  have E_x := E_x.wr W20
  have F_v := F_v.same W20
  have F_k := F_k.other W20 (Or.inr (RoadKit.slot_ne (Or.inl (hw _ (List.mem_of_getElem? (i := 95) rfl))) (Or.inl (hw _ (List.mem_of_getElem? (i := 93) rfl))) (by decide) (t := .byte) (t' := (.array .byte)) (by decide) (by decide)))
  have F_c := F_c.other W20 (Or.inr (RoadKit.slot_ne (Or.inl (hw _ (List.mem_of_getElem? (i := 117) rfl))) (Or.inl (hw _ (List.mem_of_getElem? (i := 93) rfl))) (by decide) (t := .int) (t' := (.array .byte)) (by decide) (by decide)))
  have V_b := V_b.other W20 (Ne.symm ne_x_vb)
  have Od := Od.wr W20 ge_x
  have Kp := Kp.wr W20 (Or.inl (List.mem_of_getElem? (i := 0) rfl))
  refine own_st st20 ?_
  show own_Go p e below s _ _ _ (T20.setTop (mkF m 17 #[.val (.ref x), .val (.int (16 : Int32))] []))
  refine own_st (fun t9 k9 => XS.aloadN X20.here hx rfl (hb hby own_d_jdk_68_method_2_17) rfl rfl k9) ?_
  show own_Go p e below s _ _ _ (T20.setTop (mkF m 18 #[.val (.ref x), .val (.int (16 : Int32))] [(.ref x)]))
  refine own_st (fun t9 k9 => XS.iconst X20.here hx rfl (hb hby own_d_jdk_68_method_2_18) k9) ?_
  show own_Go p e below s _ _ _ (T20.setTop (mkF m 19 #[.val (.ref x), .val (.int (16 : Int32))] [(.int (0 : Int32)), (.ref x)]))
  obtain ⟨T21, h21, X21, e21, W21, st21⟩ := putFN X20 hx hZ hown (hw _ (List.mem_of_getElem? (i := 94) rfl)) Via.refl e20 F_k E_x (Or.inl (hw _ (List.mem_of_getElem? (i := 95) rfl))) (hw _ (List.mem_of_getElem? (i := 79) rfl)) (ty := .byte) (v' := (.int (0 : Int32))) (by decide) rfl rfl (g := (mkF m 19 #[.val (.ref x), .val (.int (16 : Int32))] [(.int (0 : Int32)), (.ref x)])) rfl rfl (hb hby own_d_jdk_68_method_2_19)
  have N21 := Fr.snoc X21 N20 ge_x
  have E_x := E_x.wr W21
  have F_v := F_v.other W21 (Or.inr (RoadKit.slot_ne (Or.inl (hw _ (List.mem_of_getElem? (i := 93) rfl))) (Or.inl (hw _ (List.mem_of_getElem? (i := 95) rfl))) (by decide) (t := (.array .byte)) (t' := .byte) (by decide) (by decide)))
  have F_k := F_k.same W21
  have F_c := F_c.other W21 (Or.inr (RoadKit.slot_ne (Or.inl (hw _ (List.mem_of_getElem? (i := 117) rfl))) (Or.inl (hw _ (List.mem_of_getElem? (i := 95) rfl))) (by decide) (t := .int) (t' := .byte) (by decide) (by decide)))
  have V_b := V_b.other W21 (Ne.symm ne_x_vb)
  have Od := Od.wr W21 ge_x
  have Kp := Kp.wr W21 (Or.inl (List.mem_of_getElem? (i := 0) rfl))
  refine own_st st21 ?_
  show own_Go p e below s _ _ _ (T21.setTop (mkF m 22 #[.val (.ref x), .val (.int (16 : Int32))] []))
  refine own_st (fun t9 k9 => XS.goto X21.here hx rfl (pc0 := 22) (pc' := 38) rfl (hb hby own_d_jdk_68_method_2_22) (by decide) (by decide) k9) ?_
  show own_Go p e below s _ _ _ (T21.setTop (mkF m 38 #[.val (.ref x), .val (.int (16 : Int32))] []))
  exact own_retV X21 hx hlk Bd.returns (hb hby own_d_jdk_68_method_2_38) (by decide) (by decide) (by rw [e21]; exact ⟨rfl, N21, Kp, E_x, vb, _, gz_vb, F_v, F_k, F_c, V_b⟩)
theorem own_pn5 : plainName "java/lang/StringBuilder" = true := by first | (simp [plainName, overriddenIn]; done) | decide +kernel
theorem own_d_jdk_67_method_1_0 : decode jdk_67_method_1_code 0 = .ok (.aload_n 0, 1) := by decide +kernel
theorem own_d_jdk_67_method_1_1 : decode jdk_67_method_1_code 1 = .ok (.bipush 16, 2) := by decide +kernel
theorem own_pd4 : parseMethodDescriptor "(I)V" = some ⟨[.int], none⟩ := by decide +kernel
theorem own_d_jdk_67_method_1_3 : decode jdk_67_method_1_code 3 = .ok (.invokespecial 1, 3) := by decide +kernel
theorem own_d_jdk_67_method_1_6 : decode jdk_67_method_1_code 6 = .ok (.return_, 1) := by decide +kernel
theorem own_ef_sb0 (m : MethodId) (x0 : Addr) : entryFrame m #[(.ref x0)] 1 = mkF m 0 #[.val (.ref x0)] [] := by first | (simp [entryFrame, mkF, argsToLocals, Value.category]; done) | rfl
def own_Q_sb0 (Z : State) (x : Addr) (h0 : Heap) (n0 : Nat) (v : Option Value) (h : Heap) (L : List Loc) : Prop := v = none ∧ Fr n0 L ∧ Keep h0 h [x] ∧ Exa Z h x "java/lang/StringBuilder" ∧ ∃ vb kv, h0.size ≤ vb ∧ Fld Z h x "java/lang/AbstractStringBuilder" "value" "[B" (.ref vb) ∧ Fld Z h x "java/lang/AbstractStringBuilder" "coder" "B" (.int (0 : Int32)) ∧ Fld Z h x "java/lang/AbstractStringBuilder" "count" "I" (.int (0 : Int32)) ∧ Arv Z h vb kv .byte (16 : Int32) [(.int (0 : Int32)), (.int (0 : Int32)), (.int (0 : Int32)), (.int (0 : Int32)), (.int (0 : Int32)), (.int (0 : Int32)), (.int (0 : Int32)), (.int (0 : Int32)), (.int (0 : Int32)), (.int (0 : Int32)), (.int (0 : Int32)), (.int (0 : Int32)), (.int (0 : Int32)), (.int (0 : Int32)), (.int (0 : Int32)), (.int (0 : Int32))] (.int (0 : Int32))
set_option maxRecDepth 65536 in
set_option maxHeartbeats 40000000 in
theorem own_rm_sb0 (l : Launch) (Z : State) (a0 : Array Value) (hw : ∀ d ∈ tables_1, d.before a0 Z = true) (ws : List Jvm.Cond) (x : Addr) (G : Int32) (h0 : Heap) (n0 : Nat) (Od : Old Z n0 h0) (E_x : Exa Z h0 x "java/lang/StringBuilder") (F_v : Fld Z h0 x "java/lang/AbstractStringBuilder" "value" "[B" .null) (F_k : Fld Z h0 x "java/lang/AbstractStringBuilder" "coder" "B" (.int (0 : Int32))) (F_c : Fld Z h0 x "java/lang/AbstractStringBuilder" "count" "I" (.int (0 : Int32))) (ge_x : n0 ≤ x) (O2 : Sta Z Z.heap "java/lang/String" "COMPACT_STRINGS" "Z" (.int G)) (P5 : ¬ (G = (0 : Int32))) :
    MetFree l (⟨"java/lang/StringBuilder", "<init>", "()V"⟩ : MethodName) (head1 (Jvm.Cond.code (⟨"java/lang/StringBuilder", "<init>", "()V"⟩ : MethodName) jdk_67_method_1_code 1 none :: ws) ({ frames := 2, cells := 1, slots := 16, locals := 25 } : Room)) (fun a9 U => a9 = #[(.ref x)] ∧ Z.Warmed39 U.vm ∧ U.heap = h0) (fun _ _ _ _ _ => True) (fun _ U o U' => ∃ v L, o = .returned v ∧ own_Q_sb0 Z x h0 n0 v U'.heap L ∧ FrameEnd U o U' L ({ frames := 2, cells := 1, slots := 16, locals := 25 } : Room).cells ({ frames := 2, cells := 1, slots := 16, locals := 25 } : Room).slots) := by
  refine MetFree.of_bodySF (plainFor_of_name own_pn5) hisR ?_
  intro p e s m args below meth c s₁ Bd hml0 hP hK
  obtain ⟨rfl, hZ, hh⟩ := hP
  have hx := Bd.exec
  have hby := Bd.bytes
  have hml : c.maxLocals = 1 := hml0
  have hown : s.vm.findClass "java/lang/StringBuilder" = some m.cls := findClass_of_methodNamed Bd.named
  have hnm := (name_of_methodNamed Bd.named Bd.method).1
  have hlk : meth.locks = false := Bd.notSynchronized
  have X0 : Stand p l e ({ frames := 2, cells := 1, slots := 16, locals := 25 } : Room) s m #[(.ref x)] below meth c s₁ [] 0 0 := Stand.of_body Bd
  have e0 : s₁.heap = h0 := by rw [← hh, Bd.state]; rfl
  have N0 := Fr.nil n0
  show own_Go p e below s (own_Q_sb0 Z x h0 n0) ({ frames := 2, cells := 1, slots := 16, locals := 25 } : Room).cells ({ frames := 2, cells := 1, slots := 16, locals := 25 } : Room).slots (s₁.setTop (entryFrame m #[(.ref x)] 1))
  refine own_st (fun t9 k9 => castTop (own_ef_sb0 m x) k9) ?_
  show own_Go p e below s _ _ _ (s₁.setTop (mkF m 0 #[.val (.ref x)] []))
  have Kp : Keep h0 h0 [x] := Keep.refl h0 [x]
  refine own_st (fun t9 k9 => XS.aloadN X0.here hx rfl (hb hby own_d_jdk_67_method_1_0) rfl rfl k9) ?_
  show own_Go p e below s _ _ _ (s₁.setTop (mkF m 1 #[.val (.ref x)] [(.ref x)]))
  refine own_st (fun t9 k9 => XS.bipush X0.here hx rfl (hb hby own_d_jdk_67_method_1_1) k9) ?_
  show own_Go p e below s _ _ _ (s₁.setTop (mkF m 3 #[.val (.ref x)] [(.int (16 : Int32)), (.ref x)]))
  obtain ⟨_, T22, h22, L22, X22, e22, ⟨rfl, Nc, Kc, E_y, vb, kv, gvb, A1, A2, A3, A4⟩, st22⟩ := own_callI X0 hx hZ hown rfl (hw _ (List.mem_of_getElem? (i := 84) rfl)) (hw _ (List.mem_of_getElem? (i := 85) rfl)) (hw _ (List.mem_of_getElem? (i := 88) rfl)) (hw _ (List.mem_of_getElem? (i := 89) rfl)) (by decide) (own_rm_sbi l Z a0 hw [] x G h0 n0 Od E_x F_v F_k F_c ge_x O2 P5) (by decide) (by decide) e0 (a := x) (W := 0) (g := (mkF m 3 #[.val (.ref x)] [(.int (16 : Int32)), (.ref x)])) rfl (by rw [hml]; rfl) (argsL := [(.int (16 : Int32))]) (rest := []) rfl (lenOf own_pd4 rfl) rfl (by show 2 * 0 + _ ≤ _; exact Nat.le_of_eq rfl) (hb hby own_d_jdk_67_method_1_3) (by decide) (by decide)
  have N22 := Fr.app N0 Nc
  have E_x := E_x.keep Kc
  have Od := Od.keep Kc (allS ge_x all0)
  have Kp := Kp.trans Kc (allS (Or.inl (List.mem_of_getElem? (i := 0) rfl)) all0)
  refine own_st st22 ?_
  show own_Go p e below s _ _ _ (T22.setTop (mkF m 6 #[.val (.ref x)] []))
  exact own_retV X22 hx hlk Bd.returns (hb hby own_d_jdk_67_method_1_6) (by decide) (by decide) (by rw [e22]; exact ⟨rfl, N22, Kp, E_y, vb, kv, gvb, A1, A2, A3, A4⟩)
theorem own_d_jdk_68_method_9_0 : decode jdk_68_method_9_code 0 = .ok (.aload_n 0, 1) := by decide +kernel
theorem own_d_jdk_68_method_9_1 : decode jdk_68_method_9_code 1 = .ok (.getfield 15, 3) := by decide +kernel
theorem own_d_jdk_68_method_9_4 : decode jdk_68_method_9_code 4 = .ok (.arraylength, 1) := by decide +kernel
theorem own_d_jdk_68_method_9_5 : decode jdk_68_method_9_code 5 = .ok (.aload_n 0, 1) := by decide +kernel
theorem own_d_jdk_68_method_9_6 : decode jdk_68_method_9_code 6 = .ok (.getfield 22, 3) := by decide +kernel
theorem own_d_jdk_68_method_9_9 : decode jdk_68_method_9_code 9 = .ok (.ishr, 1) := by decide +kernel
theorem own_d_jdk_68_method_9_10 : decode jdk_68_method_9_code 10 = .ok (.istore_n 2, 1) := by decide +kernel
theorem own_d_jdk_68_method_9_11 : decode jdk_68_method_9_code 11 = .ok (.iload_n 1, 1) := by decide +kernel
theorem own_d_jdk_68_method_9_12 : decode jdk_68_method_9_code 12 = .ok (.iload_n 2, 1) := by decide +kernel
theorem own_d_jdk_68_method_9_13 : decode jdk_68_method_9_code 13 = .ok (.isub, 1) := by decide +kernel
theorem own_d_jdk_68_method_9_14 : decode jdk_68_method_9_code 14 = .ok (.ifCond .le 24, 3) := by decide +kernel
theorem own_d_jdk_68_method_9_38 : decode jdk_68_method_9_code 38 = .ok (.return_, 1) := by decide +kernel
theorem own_ef_eci (m : MethodId) (x0 : Addr) (x1 : Int32) : entryFrame m #[(.ref x0), (.int x1)] 3 = mkF m 0 #[.val (.ref x0), .val (.int x1), .unset] [] := by first | (simp [entryFrame, mkF, argsToLocals, Value.category]; done) | rfl
def own_Q_eci (Z : State)  (h0 : Heap) (n0 : Nat) (v : Option Value) (h : Heap) (L : List Loc) : Prop := v = none ∧ Fr n0 L ∧ h = h0
set_option maxRecDepth 65536 in
set_option maxHeartbeats 40000000 in
theorem own_rm_eci (l : Launch) (Z : State) (a0 : Array Value) (hw : ∀ d ∈ tables_1, d.before a0 Z = true) (ws : List Jvm.Cond) (x vb : Addr) (kv : ClassId) (q : Int32) (vd : List Value) (h0 : Heap) (n0 : Nat) (Od : Old Z n0 h0) (F_v : Fld Z h0 x "java/lang/AbstractStringBuilder" "value" "[B" (.ref vb)) (F_k : Fld Z h0 x "java/lang/AbstractStringBuilder" "coder" "B" (.int (0 : Int32))) (V_b : Arv Z h0 vb kv .byte (16 : Int32) vd (.int (0 : Int32))) (hm : ¬ ((0 : Int32) < (q - (16 : Int32)))) :
    MetFree l (⟨"java/lang/AbstractStringBuilder", "ensureCapacityInternal", "(I)V"⟩ : MethodName) (head1 (Jvm.Cond.code (⟨"java/lang/AbstractStringBuilder", "ensureCapacityInternal", "(I)V"⟩ : MethodName) jdk_68_method_9_code 3 none :: ws) ({ frames := 0, cells := 0, slots := 0, locals := 0 } : Room)) (fun a9 U => a9 = #[(.ref x), (.int q)] ∧ Z.Warmed39 U.vm ∧ U.heap = h0) (fun _ _ _ _ _ => True) (fun _ U o U' => ∃ v L, o = .returned v ∧ own_Q_eci Z  h0 n0 v U'.heap L ∧ FrameEnd U o U' L ({ frames := 0, cells := 0, slots := 0, locals := 0 } : Room).cells ({ frames := 0, cells := 0, slots := 0, locals := 0 } : Room).slots) := by
  refine MetFree.of_bodySF (plainFor_of_name own_pn4) hisR ?_
  intro p e s m args below meth c s₁ Bd hml0 hP hK
  obtain ⟨rfl, hZ, hh⟩ := hP
  have hx := Bd.exec
  have hby := Bd.bytes
  have hml : c.maxLocals = 3 := hml0
  have hown : s.vm.findClass "java/lang/AbstractStringBuilder" = some m.cls := findClass_of_methodNamed Bd.named
  have hnm := (name_of_methodNamed Bd.named Bd.method).1
  have hlk : meth.locks = false := Bd.notSynchronized
  have X0 : Stand p l e ({ frames := 0, cells := 0, slots := 0, locals := 0 } : Room) s m #[(.ref x), (.int q)] below meth c s₁ [] 0 0 := Stand.of_body Bd
  have e0 : s₁.heap = h0 := by rw [← hh, Bd.state]; rfl
  have N0 := Fr.nil n0
  show own_Go p e below s (own_Q_eci Z  h0 n0) ({ frames := 0, cells := 0, slots := 0, locals := 0 } : Room).cells ({ frames := 0, cells := 0, slots := 0, locals := 0 } : Room).slots (s₁.setTop (entryFrame m #[(.ref x), (.int q)] 3))
  refine own_st (fun t9 k9 => castTop (own_ef_eci m x q) k9) ?_
  show own_Go p e below s _ _ _ (s₁.setTop (mkF m 0 #[.val (.ref x), .val (.int q), .unset] []))
  refine own_st (fun t9 k9 => XS.aloadN X0.here hx rfl (hb hby own_d_jdk_68_method_9_0) rfl rfl k9) ?_
  show own_Go p e below s _ _ _ (s₁.setTop (mkF m 1 #[.val (.ref x), .val (.int q), .unset] [(.ref x)]))
  obtain ⟨T23, X23, e23, st23⟩ := getF X0 hx hZ hown (host := "") (Or.inl (hw _ (List.mem_of_getElem? (i := 92) rfl))) Via.refl e0 F_v (g := (mkF m 1 #[.val (.ref x), .val (.int q), .unset] [(.ref x)])) rfl rfl (hb hby own_d_jdk_68_method_9_1)
  refine own_st st23 ?_
  show own_Go p e below s _ _ _ (T23.setTop (mkF m 4 #[.val (.ref x), .val (.int q), .unset] [(.ref vb)]))
  refine own_st (fun t9 k9 => own_alen X23 hx hZ e23 V_b (g := (mkF m 4 #[.val (.ref x), .val (.int q), .unset] [(.ref vb)])) rfl rfl (hb hby own_d_jdk_68_method_9_4) t9 k9) ?_
  show own_Go p e below s _ _ _ (T23.setTop (mkF m 5 #[.val (.ref x), .val (.int q), .unset] [(.int (16 : Int32))]))
  refine own_st (fun t9 k9 => XS.aloadN X23.here hx rfl (hb hby own_d_jdk_68_method_9_5) rfl rfl k9) ?_
  show own_Go p e below s _ _ _ (T23.setTop (mkF m 6 #[.val (.ref x), .val (.int q), .unset] [(.ref x), (.int (16 : Int32))]))
  obtain ⟨T24, X24, e24, st24⟩ := getF X23 hx hZ hown (host := "") (Or.inl (hw _ (List.mem_of_getElem? (i := 94) rfl))) Via.refl e23 F_k (g := (mkF m 6 #[.val (.ref x), .val (.int q), .unset] [(.ref x), (.int (16 : Int32))])) rfl rfl (hb hby own_d_jdk_68_method_9_6)
  refine own_st st24 ?_
  show own_Go p e below s _ _ _ (T24.setTop (mkF m 9 #[.val (.ref x), .val (.int q), .unset] [(.int (0 : Int32)), (.int (16 : Int32))]))
  refine own_st (fun t9 k9 => XT.ishr X24.here hx rfl (hb hby own_d_jdk_68_method_9_9) rfl k9) ?_
  show own_Go p e below s _ _ _ (T24.setTop (mkF m 10 #[.val (.ref x), .val (.int q), .unset] [(.int ((16 : Int32) >>> ((0 : Int32) &&& 31)))]))
  rw [StrChars.shr0]
  show own_Go p e below s _ _ _ (T24.setTop (mkF m 10 #[.val (.ref x), .val (.int q), .unset] [(.int (16 : Int32))]))
  refine own_st (fun t9 k9 => XS.istoreN X24.here hx rfl (hb hby own_d_jdk_68_method_9_10) rfl (l' := #[.val (.ref x), .val (.int q), .val (.int (16 : Int32))]) rfl k9) ?_
  show own_Go p e below s _ _ _ (T24.setTop (mkF m 11 #[.val (.ref x), .val (.int q), .val (.int (16 : Int32))] []))
  refine own_st (fun t9 k9 => XS.iloadN X24.here hx rfl (hb hby own_d_jdk_68_method_9_11) rfl  k9) ?_
  show own_Go p e below s _ _ _ (T24.setTop (mkF m 12 #[.val (.ref x), .val (.int q), .val (.int (16 : Int32))] [(.int q)]))
  refine own_st (fun t9 k9 => XS.iloadN X24.here hx rfl (hb hby own_d_jdk_68_method_9_12) rfl  k9) ?_
  show own_Go p e below s _ _ _ (T24.setTop (mkF m 13 #[.val (.ref x), .val (.int q), .val (.int (16 : Int32))] [(.int (16 : Int32)), (.int q)]))
  refine own_st (fun t9 k9 => XS.isub X24.here hx rfl (hb hby own_d_jdk_68_method_9_13) rfl k9) ?_
  show own_Go p e below s _ _ _ (T24.setTop (mkF m 14 #[.val (.ref x), .val (.int q), .val (.int (16 : Int32))] [(.int (q - (16 : Int32)))]))
  refine own_st (fun t9 k9 => XS.ifYes X24.here hx rfl (pc0 := 14) (pc' := 38) rfl (hb hby own_d_jdk_68_method_9_14) rfl ((if0 _ _).trans (flt (hm : ¬ ((0 : Int32) < (q - (16 : Int32))))).2.2.2) (by decide) (by decide) k9) ?_
  show own_Go p e below s _ _ _ (T24.setTop (mkF m 38 #[.val (.ref x), .val (.int q), .val (.int (16 : Int32))] []))
  exact own_retV X24 hx hlk Bd.returns (hb hby own_d_jdk_68_method_9_38) (by decide) (by decide) (by rw [e24]; exact ⟨rfl, N0, rfl⟩)
theorem own_d_jdk_68_method_71_0 : decode jdk_68_method_71_code 0 = .ok (.getstatic 18, 3) := by decide +kernel
theorem own_d_jdk_68_method_71_3 : decode jdk_68_method_71_code 3 = .ok (.ifCond .eq 18, 3) := by decide +kernel
theorem own_d_jdk_68_method_71_6 : decode jdk_68_method_71_code 6 = .ok (.aload_n 0, 1) := by decide +kernel
theorem own_d_jdk_68_method_71_7 : decode jdk_68_method_71_code 7 = .ok (.getfield 22, 3) := by decide +kernel
theorem own_d_jdk_68_method_71_10 : decode jdk_68_method_71_code 10 = .ok (.aload_n 1, 1) := by decide +kernel
theorem own_d_jdk_68_method_71_11 : decode jdk_68_method_71_code 11 = .ok (.invokevirtual 40, 3) := by decide +kernel
theorem own_d_jdk_68_method_71_14 : decode jdk_68_method_71_code 14 = .ok (.if_icmp .eq 7, 3) := by decide +kernel
theorem own_d_jdk_68_method_71_21 : decode jdk_68_method_71_code 21 = .ok (.return_, 1) := by decide +kernel
theorem own_ef_inf (m : MethodId) (x0 : Addr) (x1 : Addr) : entryFrame m #[(.ref x0), (.ref x1)] 2 = mkF m 0 #[.val (.ref x0), .val (.ref x1)] [] := by first | (simp [entryFrame, mkF, argsToLocals, Value.category]; done) | rfl
def own_Q_inf (Z : State)  (h0 : Heap) (n0 : Nat) (v : Option Value) (h : Heap) (L : List Loc) : Prop := v = none ∧ Fr n0 L ∧ h = h0
set_option maxRecDepth 65536 in
set_option maxHeartbeats 40000000 in
theorem own_rm_inf (l : Launch) (Z : State) (a0 : Array Value) (hw : ∀ d ∈ tables_1, d.before a0 Z = true) (ws : List Jvm.Cond) (x g0 : Addr) (G : Int32) (h0 : Heap) (n0 : Nat) (Od : Old Z n0 h0) (O2 : Sta Z Z.heap "java/lang/String" "COMPACT_STRINGS" "Z" (.int G)) (P5 : ¬ (G = (0 : Int32))) (F_k : Fld Z h0 x "java/lang/AbstractStringBuilder" "coder" "B" (.int (0 : Int32))) (E_g : Exa Z h0 g0 "java/lang/String") (G_k : Fld Z h0 g0 "java/lang/String" "coder" "B" (.int (0 : Int32))) :
    MetFree l (⟨"java/lang/AbstractStringBuilder", "inflateIfNeededFor", "(Ljava/lang/String;)V"⟩ : MethodName) (head1 (Jvm.Cond.code (⟨"java/lang/AbstractStringBuilder", "inflateIfNeededFor", "(Ljava/lang/String;)V"⟩ : MethodName) jdk_68_method_71_code 2 none :: ws) ({ frames := 1, cells := 0, slots := 0, locals := 13 } : Room)) (fun a9 U => a9 = #[(.ref x), (.ref g0)] ∧ Z.Warmed39 U.vm ∧ U.heap = h0) (fun _ _ _ _ _ => True) (fun _ U o U' => ∃ v L, o = .returned v ∧ own_Q_inf Z  h0 n0 v U'.heap L ∧ FrameEnd U o U' L ({ frames := 1, cells := 0, slots := 0, locals := 13 } : Room).cells ({ frames := 1, cells := 0, slots := 0, locals := 13 } : Room).slots) := by
  refine MetFree.of_bodySF (plainFor_of_name own_pn4) hisR ?_
  intro p e s m args below meth c s₁ Bd hml0 hP hK
  obtain ⟨rfl, hZ, hh⟩ := hP
  have hx := Bd.exec
  have hby := Bd.bytes
  have hml : c.maxLocals = 2 := hml0
  have hown : s.vm.findClass "java/lang/AbstractStringBuilder" = some m.cls := findClass_of_methodNamed Bd.named
  have hnm := (name_of_methodNamed Bd.named Bd.method).1
  have hlk : meth.locks = false := Bd.notSynchronized
  have X0 : Stand p l e ({ frames := 1, cells := 0, slots := 0, locals := 13 } : Room) s m #[(.ref x), (.ref g0)] below meth c s₁ [] 0 0 := Stand.of_body Bd
  have e0 : s₁.heap = h0 := by rw [← hh, Bd.state]; rfl
  have N0 := Fr.nil n0
  show own_Go p e below s (own_Q_inf Z  h0 n0) ({ frames := 1, cells := 0, slots := 0, locals := 13 } : Room).cells ({ frames := 1, cells := 0, slots := 0, locals := 13 } : Room).slots (s₁.setTop (entryFrame m #[(.ref x), (.ref g0)] 2))
  refine own_st (fun t9 k9 => castTop (own_ef_inf m x g0) k9) ?_
  show own_Go p e below s _ _ _ (s₁.setTop (mkF m 0 #[.val (.ref x), .val (.ref g0)] []))
  obtain ⟨T25, X25, e25, st25⟩ := getS (host := "") X0 hx hZ hown (hw _ (List.mem_of_getElem? (i := 91) rfl)) Via.refl e0 (O2.ext Od.2) (g := (mkF m 0 #[.val (.ref x), .val (.ref g0)] [])) rfl (hb hby own_d_jdk_68_method_71_0)
  refine own_st st25 ?_
  show own_Go p e below s _ _ _ (T25.setTop (mkF m 3 #[.val (.ref x), .val (.ref g0)] [(.int G)]))
  refine own_st (fun t9 k9 => XS.ifNo X25.here hx rfl (hb hby own_d_jdk_68_method_71_3) rfl ((if0 _ _).trans (feq (P5 : ¬ (G = (0 : Int32)))).1) k9) ?_
  show own_Go p e below s _ _ _ (T25.setTop (mkF m 6 #[.val (.ref x), .val (.ref g0)] []))
  refine own_st (fun t9 k9 => XS.aloadN X25.here hx rfl (hb hby own_d_jdk_68_method_71_6) rfl rfl k9) ?_
  show own_Go p e below s _ _ _ (T25.setTop (mkF m 7 #[.val (.ref x), .val (.ref g0)] [(.ref x)]))
  obtain ⟨T26, X26, e26, st26⟩ := getF X25 hx hZ hown (host := "") (Or.inl (hw _ (List.mem_of_getElem? (i := 94) rfl))) Via.refl e25 F_k (g := (mkF m 7 #[.val (.ref x), .val (.ref g0)] [(.ref x)])) rfl rfl (hb hby own_d_jdk_68_method_71_7)
  refine own_st st26 ?_
  show own_Go p e below s _ _ _ (T26.setTop (mkF m 10 #[.val (.ref x), .val (.ref g0)] [(.int (0 : Int32))]))
  refine own_st (fun t9 k9 => XS.aloadN X26.here hx rfl (hb hby own_d_jdk_68_method_71_10) rfl rfl k9) ?_
  show own_Go p e below s _ _ _ (T26.setTop (mkF m 11 #[.val (.ref x), .val (.ref g0)] [(.ref g0), (.int (0 : Int32))]))
  obtain ⟨_, T27, h27, L27, X27, e27, ⟨rfl, Nc, hu⟩, st27⟩ := own_callV X26 hx hZ hown (hw _ (List.mem_of_getElem? (i := 133) rfl)) (hw _ (List.mem_of_getElem? (i := 112) rfl)) (hw _ (List.mem_of_getElem? (i := 114) rfl)) (hw _ (List.mem_of_getElem? (i := 113) rfl)) (hw _ (List.mem_of_getElem? (i := 2) rfl)) (hw _ (List.mem_of_getElem? (i := 115) rfl)) (by decide) (own_rm_cod l Z a0 hw [] g0 G h0 n0 Od O2 P5 G_k) (by decide) (by decide) e26 (b := g0) E_g (W := 1) (g := (mkF m 11 #[.val (.ref x), .val (.ref g0)] [(.ref g0), (.int (0 : Int32))])) rfl (by rw [hml]; rfl) (argsL := []) (rest := [(.int (0 : Int32))]) rfl (lenOf own_pd3 rfl) rfl (by show 2 * 0 + _ ≤ _; exact Nat.le_of_eq rfl) (hb hby own_d_jdk_68_method_71_11) (by decide) (by decide)
  have N27 := Fr.app N0 Nc
  refine own_st st27 ?_
  show own_Go p e below s _ _ _ (T27.setTop (mkF m 14 #[.val (.ref x), .val (.ref g0)] [(.int (0 : Int32)), (.int (0 : Int32))]))
  refine own_st (fun t9 k9 => XS.icmpYes X27.here hx rfl (pc0 := 14) (pc' := 21) rfl (hb hby own_d_jdk_68_method_71_14) rfl (by decide) (by decide) (by decide) k9) ?_
  show own_Go p e below s _ _ _ (T27.setTop (mkF m 21 #[.val (.ref x), .val (.ref g0)] []))
  exact own_retV X27 hx hlk Bd.returns (hb hby own_d_jdk_68_method_71_21) (by decide) (by decide) (by rw [(e27.trans hu)]; exact ⟨rfl, N27, rfl⟩)
theorem own_d_jdk_42_method_147_0 : decode jdk_42_method_147_code 0 = .ok (.aload_n 0, 1) := by decide +kernel
theorem own_d_jdk_42_method_147_1 : decode jdk_42_method_147_code 1 = .ok (.invokevirtual 335, 3) := by decide +kernel
theorem own_d_jdk_42_method_147_4 : decode jdk_42_method_147_code 4 = .ok (.iload_n 3, 1) := by decide +kernel
theorem own_d_jdk_42_method_147_5 : decode jdk_42_method_147_code 5 = .ok (.if_icmp .ne 23, 3) := by decide +kernel
theorem own_d_jdk_42_method_147_8 : decode jdk_42_method_147_code 8 = .ok (.aload_n 0, 1) := by decide +kernel
theorem own_d_jdk_42_method_147_9 : decode jdk_42_method_147_code 9 = .ok (.getfield 9, 3) := by decide +kernel
theorem own_d_jdk_42_method_147_12 : decode jdk_42_method_147_code 12 = .ok (.iconst 0, 1) := by decide +kernel
theorem own_d_jdk_42_method_147_13 : decode jdk_42_method_147_code 13 = .ok (.aload_n 1, 1) := by decide +kernel
theorem own_d_jdk_42_method_147_14 : decode jdk_42_method_147_code 14 = .ok (.iload_n 2, 1) := by decide +kernel
theorem own_d_jdk_42_method_147_15 : decode jdk_42_method_147_code 15 = .ok (.iload_n 3, 1) := by decide +kernel
theorem own_d_jdk_42_method_147_16 : decode jdk_42_method_147_code 16 = .ok (.ishl, 1) := by decide +kernel
theorem own_d_jdk_42_method_147_17 : decode jdk_42_method_147_code 17 = .ok (.aload_n 0, 1) := by decide +kernel
theorem own_d_jdk_42_method_147_18 : decode jdk_42_method_147_code 18 = .ok (.getfield 9, 3) := by decide +kernel
theorem own_d_jdk_42_method_147_21 : decode jdk_42_method_147_code 21 = .ok (.arraylength, 1) := by decide +kernel
theorem own_d_jdk_42_method_147_22 : decode jdk_42_method_147_code 22 = .ok (.invokestatic 212, 3) := by decide +kernel
theorem own_d_jdk_42_method_147_25 : decode jdk_42_method_147_code 25 = .ok (.goto 18, 3) := by decide +kernel
theorem own_d_jdk_42_method_147_43 : decode jdk_42_method_147_code 43 = .ok (.return_, 1) := by decide +kernel
theorem own_ef_gby (m : MethodId) (x0 : Addr) (x1 : Addr) (x2 : Int32) (x3 : Int32) : entryFrame m #[(.ref x0), (.ref x1), (.int x2), (.int x3)] 4 = mkF m 0 #[.val (.ref x0), .val (.ref x1), .val (.int x2), .val (.int x3)] [] := by first | (simp [entryFrame, mkF, argsToLocals, Value.category]; done) | rfl
def own_Q_gby (Z : State) (vb : Addr) (kv : ClassId) (r : List Value) (h0 : Heap) (n0 : Nat) (v : Option Value) (h : Heap) (L : List Loc) : Prop := v = none ∧ Fr n0 L ∧ Keep h0 h [vb] ∧ Arv Z h vb kv .byte (16 : Int32) r (.int (0 : Int32))
set_option maxRecDepth 65536 in
set_option maxHeartbeats 40000000 in
theorem own_rm_gby (l : Launch) (Z : State) (a0 : Array Value) (hw : ∀ d ∈ tables_1, d.before a0 Z = true) (ws : List Jvm.Cond) (g0 vb tg : Addr) (kv kt : ClassId) (o z : Int32) (vs vd us r : List Value) (G : Int32) (h0 : Heap) (n0 : Nat) (Od : Old Z n0 h0) (O2 : Sta Z Z.heap "java/lang/String" "COMPACT_STRINGS" "Z" (.int G)) (P5 : ¬ (G = (0 : Int32))) (E_g : Exa Z h0 g0 "java/lang/String") (G_v : Fld Z h0 g0 "java/lang/String" "value" "[B" (.ref tg)) (G_k : Fld Z h0 g0 "java/lang/String" "coder" "B" (.int (0 : Int32))) (V_g : Arv Z h0 tg kt .byte z vs (.int (0 : Int32))) (V_b : Arv Z h0 vb kv .byte (16 : Int32) vd (.int (0 : Int32))) (ge_vb : n0 ≤ vb) (ne_g0_vb : g0 ≠ vb) (ne_tg_vb : tg ≠ vb) (ho : ¬ (o < (0 : Int32))) (hz : ¬ (z < (0 : Int32))) (h5 : o.toNatClampNeg + z.toNatClampNeg ≤ (16 : Int32).toNatClampNeg) (hlv : o.toNatClampNeg + z.toNatClampNeg ≤ vd.length) (hus : us = (List.range z.toNatClampNeg).map fun i => vs.getD ((0 : Int32).toNatClampNeg + i) (.int (0 : Int32))) (hr : vd.take o.toNatClampNeg ++ us ++ vd.drop (o.toNatClampNeg + z.toNatClampNeg) = r) :
    MetFree l (⟨"java/lang/String", "getBytes", "([BIB)V"⟩ : MethodName) (head1 (Jvm.Cond.code (⟨"java/lang/String", "getBytes", "([BIB)V"⟩ : MethodName) jdk_42_method_147_code 4 none :: ws) ({ frames := 1, cells := 0, slots := 0, locals := 18 } : Room)) (fun a9 U => a9 = #[(.ref g0), (.ref vb), (.int o), (.int (0 : Int32))] ∧ Z.Warmed39 U.vm ∧ U.heap = h0) (fun _ _ _ _ _ => True) (fun _ U o U' => ∃ v L, o = .returned v ∧ own_Q_gby Z vb kv r h0 n0 v U'.heap L ∧ FrameEnd U o U' L ({ frames := 1, cells := 0, slots := 0, locals := 18 } : Room).cells ({ frames := 1, cells := 0, slots := 0, locals := 18 } : Room).slots) := by
  refine MetFree.of_bodySF (plainFor_of_name own_pn1) hisR ?_
  intro p e s m args below meth c s₁ Bd hml0 hP hK
  obtain ⟨rfl, hZ, hh⟩ := hP
  have hx := Bd.exec
  have hby := Bd.bytes
  have hml : c.maxLocals = 4 := hml0
  have hown : s.vm.findClass "java/lang/String" = some m.cls := findClass_of_methodNamed Bd.named
  have hnm := (name_of_methodNamed Bd.named Bd.method).1
  have hlk : meth.locks = false := Bd.notSynchronized
  have X0 : Stand p l e ({ frames := 1, cells := 0, slots := 0, locals := 18 } : Room) s m #[(.ref g0), (.ref vb), (.int o), (.int (0 : Int32))] below meth c s₁ [] 0 0 := Stand.of_body Bd
  have e0 : s₁.heap = h0 := by rw [← hh, Bd.state]; rfl
  have N0 := Fr.nil n0
  show own_Go p e below s (own_Q_gby Z vb kv r h0 n0) ({ frames := 1, cells := 0, slots := 0, locals := 18 } : Room).cells ({ frames := 1, cells := 0, slots := 0, locals := 18 } : Room).slots (s₁.setTop (entryFrame m #[(.ref g0), (.ref vb), (.int o), (.int (0 : Int32))] 4))
  refine own_st (fun t9 k9 => castTop (own_ef_gby m g0 vb o (0 : Int32)) k9) ?_
  show own_Go p e below s _ _ _ (s₁.setTop (mkF m 0 #[.val (.ref g0), .val (.ref vb), .val (.int o), .val (.int (0 : Int32))] []))
  have Kp : Keep h0 h0 [vb] := Keep.refl h0 [vb]
  refine own_st (fun t9 k9 => XS.aloadN X0.here hx rfl (hb hby own_d_jdk_42_method_147_0) rfl rfl k9) ?_
  show own_Go p e below s _ _ _ (s₁.setTop (mkF m 1 #[.val (.ref g0), .val (.ref vb), .val (.int o), .val (.int (0 : Int32))] [(.ref g0)]))
  obtain ⟨_, T28, h28, L28, X28, e28, ⟨rfl, Nc, hu⟩, st28⟩ := own_callV X0 hx hZ hown (hw _ (List.mem_of_getElem? (i := 111) rfl)) (hw _ (List.mem_of_getElem? (i := 112) rfl)) (hw _ (List.mem_of_getElem? (i := 114) rfl)) (hw _ (List.mem_of_getElem? (i := 113) rfl)) (hw _ (List.mem_of_getElem? (i := 2) rfl)) (hw _ (List.mem_of_getElem? (i := 115) rfl)) (by decide) (own_rm_cod l Z a0 hw [] g0 G h0 n0 Od O2 P5 G_k) (by decide) (by decide) e0 (b := g0) E_g (W := 0) (g := (mkF m 1 #[.val (.ref g0), .val (.ref vb), .val (.int o), .val (.int (0 : Int32))] [(.ref g0)])) rfl (by rw [hml]; rfl) (argsL := []) (rest := []) rfl (lenOf own_pd3 rfl) rfl (by show 2 * 0 + _ ≤ _; exact Nat.le_of_eq rfl) (hb hby own_d_jdk_42_method_147_1) (by decide) (by decide)
  have N28 := Fr.app N0 Nc
  refine own_st st28 ?_
  show own_Go p e below s _ _ _ (T28.setTop (mkF m 4 #[.val (.ref g0), .val (.ref vb), .val (.int o), .val (.int (0 : Int32))] [(.int (0 : Int32))]))
  refine own_st (fun t9 k9 => XS.iloadN X28.here hx rfl (hb hby own_d_jdk_42_method_147_4) rfl  k9) ?_
  show own_Go p e below s _ _ _ (T28.setTop (mkF m 5 #[.val (.ref g0), .val (.ref vb), .val (.int o), .val (.int (0 : Int32))] [(.int (0 : Int32)), (.int (0 : Int32))]))
  refine own_st (fun t9 k9 => XS.icmpNo X28.here hx rfl (hb hby own_d_jdk_42_method_147_5) rfl (by decide) k9) ?_
  show own_Go p e below s _ _ _ (T28.setTop (mkF m 8 #[.val (.ref g0), .val (.ref vb), .val (.int o), .val (.int (0 : Int32))] []))
  refine own_st (fun t9 k9 => XS.aloadN X28.here hx rfl (hb hby own_d_jdk_42_method_147_8) rfl rfl k9) ?_
  show own_Go p e below s _ _ _ (T28.setTop (mkF m 9 #[.val (.ref g0), .val (.ref vb), .val (.int o), .val (.int (0 : Int32))] [(.ref g0)]))
  obtain ⟨T29, X29, e29, st29⟩ := getF X28 hx hZ hown (host := "") (Or.inl (hw _ (List.mem_of_getElem? (i := 22) rfl))) Via.refl (e28.trans hu) G_v (g := (mkF m 9 #[.val (.ref g0), .val (.ref vb), .val (.int o), .val (.int (0 : Int32))] [(.ref g0)])) rfl rfl (hb hby own_d_jdk_42_method_147_9)
  refine own_st st29 ?_
  show own_Go p e below s _ _ _ (T29.setTop (mkF m 12 #[.val (.ref g0), .val (.ref vb), .val (.int o), .val (.int (0 : Int32))] [(.ref tg)]))
  refine own_st (fun t9 k9 => XS.iconst X29.here hx rfl (hb hby own_d_jdk_42_method_147_12) k9) ?_
  show own_Go p e below s _ _ _ (T29.setTop (mkF m 13 #[.val (.ref g0), .val (.ref vb), .val (.int o), .val (.int (0 : Int32))] [(.int (0 : Int32)), (.ref tg)]))
  refine own_st (fun t9 k9 => XS.aloadN X29.here hx rfl (hb hby own_d_jdk_42_method_147_13) rfl rfl k9) ?_
  show own_Go p e below s _ _ _ (T29.setTop (mkF m 14 #[.val (.ref g0), .val (.ref vb), .val (.int o), .val (.int (0 : Int32))] [(.ref vb), (.int (0 : Int32)), (.ref tg)]))
  refine own_st (fun t9 k9 => XS.iloadN X29.here hx rfl (hb hby own_d_jdk_42_method_147_14) rfl  k9) ?_
  show own_Go p e below s _ _ _ (T29.setTop (mkF m 15 #[.val (.ref g0), .val (.ref vb), .val (.int o), .val (.int (0 : Int32))] [(.int o), (.ref vb), (.int (0 : Int32)), (.ref tg)]))
  refine own_st (fun t9 k9 => XS.iloadN X29.here hx rfl (hb hby own_d_jdk_42_method_147_15) rfl  k9) ?_
  show own_Go p e below s _ _ _ (T29.setTop (mkF m 16 #[.val (.ref g0), .val (.ref vb), .val (.int o), .val (.int (0 : Int32))] [(.int (0 : Int32)), (.int o), (.ref vb), (.int (0 : Int32)), (.ref tg)]))
  refine own_st (fun t9 k9 => XT.ishl X29.here hx rfl (hb hby own_d_jdk_42_method_147_16) rfl k9) ?_
  show own_Go p e below s _ _ _ (T29.setTop (mkF m 17 #[.val (.ref g0), .val (.ref vb), .val (.int o), .val (.int (0 : Int32))] [(.int (o <<< ((0 : Int32) &&& 31))), (.ref vb), (.int (0 : Int32)), (.ref tg)]))
  refine own_st (fun t9 k9 => XS.aloadN X29.here hx rfl (hb hby own_d_jdk_42_method_147_17) rfl rfl k9) ?_
  show own_Go p e below s _ _ _ (T29.setTop (mkF m 18 #[.val (.ref g0), .val (.ref vb), .val (.int o), .val (.int (0 : Int32))] [(.ref g0), (.int (o <<< ((0 : Int32) &&& 31))), (.ref vb), (.int (0 : Int32)), (.ref tg)]))
  rw [own_shl0]
  show own_Go p e below s _ _ _ (T29.setTop (mkF m 18 #[.val (.ref g0), .val (.ref vb), .val (.int o), .val (.int (0 : Int32))] [(.ref g0), (.int o), (.ref vb), (.int (0 : Int32)), (.ref tg)]))
  obtain ⟨T30, X30, e30, st30⟩ := getF X29 hx hZ hown (host := "") (Or.inl (hw _ (List.mem_of_getElem? (i := 22) rfl))) Via.refl e29 G_v (g := (mkF m 18 #[.val (.ref g0), .val (.ref vb), .val (.int o), .val (.int (0 : Int32))] [(.ref g0), (.int o), (.ref vb), (.int (0 : Int32)), (.ref tg)])) rfl rfl (hb hby own_d_jdk_42_method_147_18)
  refine own_st st30 ?_
  show own_Go p e below s _ _ _ (T30.setTop (mkF m 21 #[.val (.ref g0), .val (.ref vb), .val (.int o), .val (.int (0 : Int32))] [(.ref tg), (.int o), (.ref vb), (.int (0 : Int32)), (.ref tg)]))
  refine own_st (fun t9 k9 => own_alen X30 hx hZ e30 V_g (g := (mkF m 21 #[.val (.ref g0), .val (.ref vb), .val (.int o), .val (.int (0 : Int32))] [(.ref tg), (.int o), (.ref vb), (.int (0 : Int32)), (.ref tg)])) rfl rfl (hb hby own_d_jdk_42_method_147_21) t9 k9) ?_
  show own_Go p e below s _ _ _ (T30.setTop (mkF m 22 #[.val (.ref g0), .val (.ref vb), .val (.int o), .val (.int (0 : Int32))] [(.int z), (.int o), (.ref vb), (.int (0 : Int32)), (.ref tg)]))
  obtain ⟨T31, h31, L31, X31, e31, N31, Kq31, V_c, st31⟩ := cpA X30 hx hZ hown (hw _ (List.mem_of_getElem? (i := 139) rfl)) (hw _ (List.mem_of_getElem? (i := 142) rfl)) (hw _ (List.mem_of_getElem? (i := 140) rfl)) (hw _ (List.mem_of_getElem? (i := 141) rfl)) e30 V_g V_b (Or.inl ⟨rfl, rfl⟩) (by decide) ho hz (by have q : (0 : Int32).toNatClampNeg = 0 := rfl; rw [q, Nat.zero_add]; exact Nat.le_refl _) h5 (us := us) hus hlv N28 ge_vb (g := (mkF m 22 #[.val (.ref g0), .val (.ref vb), .val (.int o), .val (.int (0 : Int32))] [(.int z), (.int o), (.ref vb), (.int (0 : Int32)), (.ref tg)])) rfl (by rw [hml]; rfl) (rest := []) rfl (hb hby own_d_jdk_42_method_147_22) (by decide) (W := 0) (by show 2 * 0 + _ ≤ _; exact Nat.le_of_eq rfl) (by decide)
  have E_g := E_g.keep Kq31
  have G_v := G_v.keep Kq31 (ninS ne_g0_vb nin0)
  have G_k := G_k.keep Kq31 (ninS ne_g0_vb nin0)
  have V_g := V_g.keep Kq31 (ninS ne_tg_vb nin0)
  have Od := Od.keep Kq31 (allS ge_vb all0)
  have Kp := Kp.trans Kq31 (allS (Or.inl (List.mem_of_getElem? (i := 0) rfl)) all0)
  refine own_st st31 ?_
  show own_Go p e below s _ _ _ (T31.setTop (mkF m 25 #[.val (.ref g0), .val (.ref vb), .val (.int o), .val (.int (0 : Int32))] []))
  rw [hr] at V_c
  refine own_st (fun t9 k9 => XS.goto X31.here hx rfl (pc0 := 25) (pc' := 43) rfl (hb hby own_d_jdk_42_method_147_25) (by decide) (by decide) k9) ?_
  show own_Go p e below s _ _ _ (T31.setTop (mkF m 43 #[.val (.ref g0), .val (.ref vb), .val (.int o), .val (.int (0 : Int32))] []))
  exact own_retV X31 hx hlk Bd.returns (hb hby own_d_jdk_42_method_147_43) (by decide) (by decide) (by rw [e31]; exact ⟨rfl, N31, Kp, V_c⟩)
theorem own_d_jdk_68_method_73_0 : decode jdk_68_method_73_code 0 = .ok (.aload_n 0, 1) := by decide +kernel
theorem own_d_jdk_68_method_73_1 : decode jdk_68_method_73_code 1 = .ok (.aload_n 2, 1) := by decide +kernel
theorem own_pd5 : parseMethodDescriptor "(Ljava/lang/String;)V" = some ⟨[(.object "java/lang/String")], none⟩ := by decide +kernel
theorem own_d_jdk_68_method_73_2 : decode jdk_68_method_73_code 2 = .ok (.invokevirtual 397, 3) := by decide +kernel
theorem own_d_jdk_68_method_73_5 : decode jdk_68_method_73_code 5 = .ok (.aload_n 2, 1) := by decide +kernel
theorem own_d_jdk_68_method_73_6 : decode jdk_68_method_73_code 6 = .ok (.aload_n 0, 1) := by decide +kernel
theorem own_d_jdk_68_method_73_7 : decode jdk_68_method_73_code 7 = .ok (.getfield 15, 3) := by decide +kernel
theorem own_d_jdk_68_method_73_10 : decode jdk_68_method_73_code 10 = .ok (.iload_n 1, 1) := by decide +kernel
theorem own_d_jdk_68_method_73_11 : decode jdk_68_method_73_code 11 = .ok (.aload_n 0, 1) := by decide +kernel
theorem own_d_jdk_68_method_73_12 : decode jdk_68_method_73_code 12 = .ok (.getfield 22, 3) := by decide +kernel
theorem own_pd6 : parseMethodDescriptor "([BIB)V" = some ⟨[(.array .byte), .int, .byte], none⟩ := by decide +kernel
theorem own_d_jdk_68_method_73_15 : decode jdk_68_method_73_code 15 = .ok (.invokevirtual 399, 3) := by decide +kernel
theorem own_d_jdk_68_method_73_18 : decode jdk_68_method_73_code 18 = .ok (.return_, 1) := by decide +kernel
theorem own_ef_psa (m : MethodId) (x0 : Addr) (x1 : Int32) (x2 : Addr) : entryFrame m #[(.ref x0), (.int x1), (.ref x2)] 3 = mkF m 0 #[.val (.ref x0), .val (.int x1), .val (.ref x2)] [] := by first | (simp [entryFrame, mkF, argsToLocals, Value.category]; done) | rfl
def own_Q_psa (Z : State) (vb : Addr) (kv : ClassId) (r : List Value) (h0 : Heap) (n0 : Nat) (v : Option Value) (h : Heap) (L : List Loc) : Prop := v = none ∧ Fr n0 L ∧ Keep h0 h [vb] ∧ Arv Z h vb kv .byte (16 : Int32) r (.int (0 : Int32))
set_option maxRecDepth 65536 in
set_option maxHeartbeats 40000000 in
theorem own_rm_psa (l : Launch) (Z : State) (a0 : Array Value) (hw : ∀ d ∈ tables_1, d.before a0 Z = true) (ws : List Jvm.Cond) (x g0 vb tg : Addr) (kv kt : ClassId) (o z : Int32) (vs vd us r : List Value) (G : Int32) (h0 : Heap) (n0 : Nat) (Od : Old Z n0 h0) (O2 : Sta Z Z.heap "java/lang/String" "COMPACT_STRINGS" "Z" (.int G)) (P5 : ¬ (G = (0 : Int32))) (E_x : Exa Z h0 x "java/lang/StringBuilder") (F_v : Fld Z h0 x "java/lang/AbstractStringBuilder" "value" "[B" (.ref vb)) (F_k : Fld Z h0 x "java/lang/AbstractStringBuilder" "coder" "B" (.int (0 : Int32))) (E_g : Exa Z h0 g0 "java/lang/String") (G_v : Fld Z h0 g0 "java/lang/String" "value" "[B" (.ref tg)) (G_k : Fld Z h0 g0 "java/lang/String" "coder" "B" (.int (0 : Int32))) (V_g : Arv Z h0 tg kt .byte z vs (.int (0 : Int32))) (V_b : Arv Z h0 vb kv .byte (16 : Int32) vd (.int (0 : Int32))) (ge_vb : n0 ≤ vb) (ne_g0_vb : g0 ≠ vb) (ne_tg_vb : tg ≠ vb) (ho : ¬ (o < (0 : Int32))) (hz : ¬ (z < (0 : Int32))) (h5 : o.toNatClampNeg + z.toNatClampNeg ≤ (16 : Int32).toNatClampNeg) (hlv : o.toNatClampNeg + z.toNatClampNeg ≤ vd.length) (hus : us = (List.range z.toNatClampNeg).map fun i => vs.getD ((0 : Int32).toNatClampNeg + i) (.int (0 : Int32))) (hr : vd.take o.toNatClampNeg ++ us ++ vd.drop (o.toNatClampNeg + z.toNatClampNeg) = r) :
    MetFree l (⟨"java/lang/AbstractStringBuilder", "putStringAt", "(ILjava/lang/String;)V"⟩ : MethodName) (head1 (Jvm.Cond.code (⟨"java/lang/AbstractStringBuilder", "putStringAt", "(ILjava/lang/String;)V"⟩ : MethodName) jdk_68_method_73_code 3 none :: ws) ({ frames := 2, cells := 0, slots := 0, locals := 33 } : Room)) (fun a9 U => a9 = #[(.ref x), (.int o), (.ref g0)] ∧ Z.Warmed39 U.vm ∧ U.heap = h0) (fun _ _ _ _ _ => True) (fun _ U o U' => ∃ v L, o = .returned v ∧ own_Q_psa Z vb kv r h0 n0 v U'.heap L ∧ FrameEnd U o U' L ({ frames := 2, cells := 0, slots := 0, locals := 33 } : Room).cells ({ frames := 2, cells := 0, slots := 0, locals := 33 } : Room).slots) := by
  refine MetFree.of_bodySF (plainFor_of_name own_pn4) hisR ?_
  intro p e s m args below meth c s₁ Bd hml0 hP hK
  obtain ⟨rfl, hZ, hh⟩ := hP
  have hx := Bd.exec
  have hby := Bd.bytes
  have hml : c.maxLocals = 3 := hml0
  have hown : s.vm.findClass "java/lang/AbstractStringBuilder" = some m.cls := findClass_of_methodNamed Bd.named
  have hnm := (name_of_methodNamed Bd.named Bd.method).1
  have hlk : meth.locks = false := Bd.notSynchronized
  have X0 : Stand p l e ({ frames := 2, cells := 0, slots := 0, locals := 33 } : Room) s m #[(.ref x), (.int o), (.ref g0)] below meth c s₁ [] 0 0 := Stand.of_body Bd
  have e0 : s₁.heap = h0 := by rw [← hh, Bd.state]; rfl
  have N0 := Fr.nil n0
  show own_Go p e below s (own_Q_psa Z vb kv r h0 n0) ({ frames := 2, cells := 0, slots := 0, locals := 33 } : Room).cells ({ frames := 2, cells := 0, slots := 0, locals := 33 } : Room).slots (s₁.setTop (entryFrame m #[(.ref x), (.int o), (.ref g0)] 3))
  refine own_st (fun t9 k9 => castTop (own_ef_psa m x o g0) k9) ?_
  show own_Go p e below s _ _ _ (s₁.setTop (mkF m 0 #[.val (.ref x), .val (.int o), .val (.ref g0)] []))
  have Kp : Keep h0 h0 [vb] := Keep.refl h0 [vb]
  refine own_st (fun t9 k9 => XS.aloadN X0.here hx rfl (hb hby own_d_jdk_68_method_73_0) rfl rfl k9) ?_
  show own_Go p e below s _ _ _ (s₁.setTop (mkF m 1 #[.val (.ref x), .val (.int o), .val (.ref g0)] [(.ref x)]))
  refine own_st (fun t9 k9 => XS.aloadN X0.here hx rfl (hb hby own_d_jdk_68_method_73_1) rfl rfl k9) ?_
  show own_Go p e below s _ _ _ (s₁.setTop (mkF m 2 #[.val (.ref x), .val (.int o), .val (.ref g0)] [(.ref g0), (.ref x)]))
  obtain ⟨_, T32, h32, L32, X32, e32, ⟨rfl, Nc, hu⟩, st32⟩ := own_callP X0 hx hZ hown (hw _ (List.mem_of_getElem? (i := 128) rfl)) (hw _ (List.mem_of_getElem? (i := 131) rfl)) (hw _ (List.mem_of_getElem? (i := 129) rfl)) (hw _ (List.mem_of_getElem? (i := 130) rfl)) (hw _ (List.mem_of_getElem? (i := 88) rfl)) (hw _ (List.mem_of_getElem? (i := 132) rfl)) (by decide) (own_rm_inf l Z a0 hw [] x g0 G h0 n0 Od O2 P5 F_k E_g G_k) (by decide) (by decide) e0 (b := x) E_x (W := 0) (g := (mkF m 2 #[.val (.ref x), .val (.int o), .val (.ref g0)] [(.ref g0), (.ref x)])) rfl (by rw [hml]; rfl) (argsL := [(.ref g0)]) (rest := []) rfl (lenOf own_pd5 rfl) rfl (by show 2 * 0 + _ ≤ _; exact Nat.le_of_eq rfl) (hb hby own_d_jdk_68_method_73_2) (by decide) (by decide)
  have N32 := Fr.app N0 Nc
  refine own_st st32 ?_
  show own_Go p e below s _ _ _ (T32.setTop (mkF m 5 #[.val (.ref x), .val (.int o), .val (.ref g0)] []))
  refine own_st (fun t9 k9 => XS.aloadN X32.here hx rfl (hb hby own_d_jdk_68_method_73_5) rfl rfl k9) ?_
  show own_Go p e below s _ _ _ (T32.setTop (mkF m 6 #[.val (.ref x), .val (.int o), .val (.ref g0)] [(.ref g0)]))
  refine own_st (fun t9 k9 => XS.aloadN X32.here hx rfl (hb hby own_d_jdk_68_method_73_6) rfl rfl k9) ?_
  show own_Go p e below s _ _ _ (T32.setTop (mkF m 7 #[.val (.ref x), .val (.int o), .val (.ref g0)] [(.ref x), (.ref g0)]))
  obtain ⟨T33, X33, e33, st33⟩ := getF X32 hx hZ hown (host := "") (Or.inl (hw _ (List.mem_of_getElem? (i := 92) rfl))) Via.refl (e32.trans hu) F_v (g := (mkF m 7 #[.val (.ref x), .val (.int o), .val (.ref g0)] [(.ref x), (.ref g0)])) rfl rfl (hb hby own_d_jdk_68_method_73_7)
  refine own_st st33 ?_
  show own_Go p e below s _ _ _ (T33.setTop (mkF m 10 #[.val (.ref x), .val (.int o), .val (.ref g0)] [(.ref vb), (.ref g0)]))
  refine own_st (fun t9 k9 => XS.iloadN X33.here hx rfl (hb hby own_d_jdk_68_method_73_10) rfl  k9) ?_
  show own_Go p e below s _ _ _ (T33.setTop (mkF m 11 #[.val (.ref x), .val (.int o), .val (.ref g0)] [(.int o), (.ref vb), (.ref g0)]))
  refine own_st (fun t9 k9 => XS.aloadN X33.here hx rfl (hb hby own_d_jdk_68_method_73_11) rfl rfl k9) ?_
  show own_Go p e below s _ _ _ (T33.setTop (mkF m 12 #[.val (.ref x), .val (.int o), .val (.ref g0)] [(.ref x), (.int o), (.ref vb), (.ref g0)]))
  obtain ⟨T34, X34, e34, st34⟩ := getF X33 hx hZ hown (host := "") (Or.inl (hw _ (List.mem_of_getElem? (i := 94) rfl))) Via.refl e33 F_k (g := (mkF m 12 #[.val (.ref x), .val (.int o), .val (.ref g0)] [(.ref x), (.int o), (.ref vb), (.ref g0)])) rfl rfl (hb hby own_d_jdk_68_method_73_12)
  refine own_st st34 ?_
  show own_Go p e below s _ _ _ (T34.setTop (mkF m 15 #[.val (.ref x), .val (.int o), .val (.ref g0)] [(.int (0 : Int32)), (.int o), (.ref vb), (.ref g0)]))
  obtain ⟨_, T35, h35, L35, X35, e35, ⟨rfl, Nd, Kd, V_c⟩, st35⟩ := own_callV X34 hx hZ hown (hw _ (List.mem_of_getElem? (i := 134) rfl)) (hw _ (List.mem_of_getElem? (i := 135) rfl)) (hw _ (List.mem_of_getElem? (i := 137) rfl)) (hw _ (List.mem_of_getElem? (i := 136) rfl)) (hw _ (List.mem_of_getElem? (i := 2) rfl)) (hw _ (List.mem_of_getElem? (i := 138) rfl)) (by decide) (own_rm_gby l Z a0 hw [] g0 vb tg kv kt o z vs vd us r G h0 n0 Od O2 P5 E_g G_v G_k V_g V_b ge_vb ne_g0_vb ne_tg_vb ho hz h5 hlv hus hr) (by decide) (by decide) e34 (b := g0) E_g (W := 0) (g := (mkF m 15 #[.val (.ref x), .val (.int o), .val (.ref g0)] [(.int (0 : Int32)), (.int o), (.ref vb), (.ref g0)])) rfl (by rw [hml]; rfl) (argsL := [(.ref vb), (.int o), (.int (0 : Int32))]) (rest := []) rfl (lenOf own_pd6 rfl) rfl (by show 2 * 0 + _ ≤ _; exact Nat.le_of_eq rfl) (hb hby own_d_jdk_68_method_73_15) (by decide) (by decide)
  have N35 := Fr.app N32 Nd
  have E_x := E_x.keep Kd
  have E_g := E_g.keep Kd
  have G_v := G_v.keep Kd (ninS ne_g0_vb nin0)
  have G_k := G_k.keep Kd (ninS ne_g0_vb nin0)
  have V_g := V_g.keep Kd (ninS ne_tg_vb nin0)
  have Od := Od.keep Kd (allS ge_vb all0)
  have Kp := Kp.trans Kd (allS (Or.inl (List.mem_of_getElem? (i := 0) rfl)) all0)
  refine own_st st35 ?_
  show own_Go p e below s _ _ _ (T35.setTop (mkF m 18 #[.val (.ref x), .val (.int o), .val (.ref g0)] []))
  exact own_retV X35 hx hlk Bd.returns (hb hby own_d_jdk_68_method_73_18) (by decide) (by decide) (by rw [e35]; exact ⟨rfl, N35, Kp, V_c⟩)
theorem own_d_jdk_68_method_22_0 : decode jdk_68_method_22_code 0 = .ok (.aload_n 1, 1) := by decide +kernel
theorem own_d_jdk_68_method_22_1 : decode jdk_68_method_22_code 1 = .ok (.ifnonnull 8, 3) := by decide +kernel
theorem own_d_jdk_68_method_22_9 : decode jdk_68_method_22_code 9 = .ok (.aload_n 1, 1) := by decide +kernel
theorem own_pd7 : parseMethodDescriptor "()I" = some ⟨[], some .int⟩ := by decide +kernel
theorem own_d_jdk_68_method_22_10 : decode jdk_68_method_22_code 10 = .ok (.invokevirtual 32, 3) := by decide +kernel
theorem own_d_jdk_68_method_22_13 : decode jdk_68_method_22_code 13 = .ok (.istore_n 2, 1) := by decide +kernel
theorem own_d_jdk_68_method_22_14 : decode jdk_68_method_22_code 14 = .ok (.aload_n 0, 1) := by decide +kernel
theorem own_d_jdk_68_method_22_15 : decode jdk_68_method_22_code 15 = .ok (.aload_n 0, 1) := by decide +kernel
theorem own_d_jdk_68_method_22_16 : decode jdk_68_method_22_code 16 = .ok (.getfield 79, 3) := by decide +kernel
theorem own_d_jdk_68_method_22_19 : decode jdk_68_method_22_code 19 = .ok (.iload_n 2, 1) := by decide +kernel
theorem own_d_jdk_68_method_22_20 : decode jdk_68_method_22_code 20 = .ok (.iadd, 1) := by decide +kernel
theorem own_d_jdk_68_method_22_21 : decode jdk_68_method_22_code 21 = .ok (.invokevirtual 100, 3) := by decide +kernel
theorem own_d_jdk_68_method_22_24 : decode jdk_68_method_22_code 24 = .ok (.aload_n 0, 1) := by decide +kernel
theorem own_d_jdk_68_method_22_25 : decode jdk_68_method_22_code 25 = .ok (.aload_n 0, 1) := by decide +kernel
theorem own_d_jdk_68_method_22_26 : decode jdk_68_method_22_code 26 = .ok (.getfield 79, 3) := by decide +kernel
theorem own_d_jdk_68_method_22_29 : decode jdk_68_method_22_code 29 = .ok (.aload_n 1, 1) := by decide +kernel
theorem own_pd8 : parseMethodDescriptor "(ILjava/lang/String;)V" = some ⟨[.int, (.object "java/lang/String")], none⟩ := by decide +kernel
theorem own_d_jdk_68_method_22_30 : decode jdk_68_method_22_code 30 = .ok (.invokevirtual 208, 3) := by decide +kernel
theorem own_d_jdk_68_method_22_33 : decode jdk_68_method_22_code 33 = .ok (.aload_n 0, 1) := by decide +kernel
theorem own_d_jdk_68_method_22_34 : decode jdk_68_method_22_code 34 = .ok (.dup, 1) := by decide +kernel
theorem own_d_jdk_68_method_22_35 : decode jdk_68_method_22_code 35 = .ok (.getfield 79, 3) := by decide +kernel
theorem own_d_jdk_68_method_22_38 : decode jdk_68_method_22_code 38 = .ok (.iload_n 2, 1) := by decide +kernel
theorem own_d_jdk_68_method_22_39 : decode jdk_68_method_22_code 39 = .ok (.iadd, 1) := by decide +kernel
theorem own_d_jdk_68_method_22_40 : decode jdk_68_method_22_code 40 = .ok (.putfield 79, 3) := by decide +kernel
theorem own_d_jdk_68_method_22_43 : decode jdk_68_method_22_code 43 = .ok (.aload_n 0, 1) := by decide +kernel
theorem own_d_jdk_68_method_22_44 : decode jdk_68_method_22_code 44 = .ok (.areturn, 1) := by decide +kernel
theorem own_ef_aap (m : MethodId) (x0 : Addr) (x1 : Addr) : entryFrame m #[(.ref x0), (.ref x1)] 3 = mkF m 0 #[.val (.ref x0), .val (.ref x1), .unset] [] := by first | (simp [entryFrame, mkF, argsToLocals, Value.category]; done) | rfl
def own_Q_aap (Z : State) (x vb : Addr) (kv : ClassId) (r : List Value) (c2 : Int32) (h0 : Heap) (n0 : Nat) (v : Option Value) (h : Heap) (L : List Loc) : Prop := v = some (.ref x) ∧ Fr n0 L ∧ Keep h0 h [vb, x] ∧ Exa Z h x "java/lang/StringBuilder" ∧ Fld Z h x "java/lang/AbstractStringBuilder" "value" "[B" (.ref vb) ∧ Fld Z h x "java/lang/AbstractStringBuilder" "coder" "B" (.int (0 : Int32)) ∧ Fld Z h x "java/lang/AbstractStringBuilder" "count" "I" (.int c2) ∧ Arv Z h vb kv .byte (16 : Int32) r (.int (0 : Int32))
set_option maxRecDepth 65536 in
set_option maxHeartbeats 40000000 in
theorem own_rm_aap (l : Launch) (Z : State) (a0 : Array Value) (hw : ∀ d ∈ tables_1, d.before a0 Z = true) (ws : List Jvm.Cond) (x g0 vb tg : Addr) (kv kt : ClassId) (o z : Int32) (vs vd us r : List Value) (G : Int32) (c2 : Int32) (h0 : Heap) (n0 : Nat) (Od : Old Z n0 h0) (O2 : Sta Z Z.heap "java/lang/String" "COMPACT_STRINGS" "Z" (.int G)) (P5 : ¬ (G = (0 : Int32))) (E_x : Exa Z h0 x "java/lang/StringBuilder") (F_v : Fld Z h0 x "java/lang/AbstractStringBuilder" "value" "[B" (.ref vb)) (F_k : Fld Z h0 x "java/lang/AbstractStringBuilder" "coder" "B" (.int (0 : Int32))) (F_c : Fld Z h0 x "java/lang/AbstractStringBuilder" "count" "I" (.int o)) (E_g : Exa Z h0 g0 "java/lang/String") (G_v : Fld Z h0 g0 "java/lang/String" "value" "[B" (.ref tg)) (G_k : Fld Z h0 g0 "java/lang/String" "coder" "B" (.int (0 : Int32))) (V_g : Arv Z h0 tg kt .byte z vs (.int (0 : Int32))) (V_b : Arv Z h0 vb kv .byte (16 : Int32) vd (.int (0 : Int32))) (ge_vb : n0 ≤ vb) (ne_g0_vb : g0 ≠ vb) (ne_tg_vb : tg ≠ vb) (ge_x : n0 ≤ x) (ne_x_vb : x ≠ vb) (ne_tg_x : tg ≠ x) (ho : ¬ (o < (0 : Int32))) (hz : ¬ (z < (0 : Int32))) (h5 : o.toNatClampNeg + z.toNatClampNeg ≤ (16 : Int32).toNatClampNeg) (hlv : o.toNatClampNeg + z.toNatClampNeg ≤ vd.length) (hus : us = (List.range z.toNatClampNeg).map fun i => vs.getD ((0 : Int32).toNatClampNeg + i) (.int (0 : Int32))) (hr : vd.take o.toNatClampNeg ++ us ++ vd.drop (o.toNatClampNeg + z.toNatClampNeg) = r) (hm : ¬ ((0 : Int32) < ((o + z) - (16 : Int32)))) (hc2 : o + z = c2) :
    MetFree l (⟨"java/lang/AbstractStringBuilder", "append", "(Ljava/lang/String;)Ljava/lang/AbstractStringBuilder;"⟩ : MethodName) (head1 (Jvm.Cond.code (⟨"java/lang/AbstractStringBuilder", "append", "(Ljava/lang/String;)Ljava/lang/AbstractStringBuilder;"⟩ : MethodName) jdk_68_method_22_code 3 (some (.object "java/lang/AbstractStringBuilder")) :: ws) ({ frames := 3, cells := 0, slots := 0, locals := 47 } : Room)) (fun a9 U => a9 = #[(.ref x), (.ref g0)] ∧ Z.Warmed39 U.vm ∧ U.heap = h0) (fun _ _ _ _ _ => True) (fun _ U o U' => ∃ v L, o = .returned v ∧ own_Q_aap Z x vb kv r c2 h0 n0 v U'.heap L ∧ FrameEnd U o U' L ({ frames := 3, cells := 0, slots := 0, locals := 47 } : Room).cells ({ frames := 3, cells := 0, slots := 0, locals := 47 } : Room).slots) := by
  refine MetFree.of_bodySF (plainFor_of_name own_pn4) hisR ?_
  intro p e s m args below meth c s₁ Bd hml0 hP hK
  obtain ⟨rfl, hZ, hh⟩ := hP
  have hx := Bd.exec
  have hby := Bd.bytes
  have hml : c.maxLocals = 3 := hml0
  have hown : s.vm.findClass "java/lang/AbstractStringBuilder" = some m.cls := findClass_of_methodNamed Bd.named
  have hnm := (name_of_methodNamed Bd.named Bd.method).1
  have hlk : meth.locks = false := Bd.notSynchronized
  have X0 : Stand p l e ({ frames := 3, cells := 0, slots := 0, locals := 47 } : Room) s m #[(.ref x), (.ref g0)] below meth c s₁ [] 0 0 := Stand.of_body Bd
  have e0 : s₁.heap = h0 := by rw [← hh, Bd.state]; rfl
  have N0 := Fr.nil n0
  show own_Go p e below s (own_Q_aap Z x vb kv r c2 h0 n0) ({ frames := 3, cells := 0, slots := 0, locals := 47 } : Room).cells ({ frames := 3, cells := 0, slots := 0, locals := 47 } : Room).slots (s₁.setTop (entryFrame m #[(.ref x), (.ref g0)] 3))
  refine own_st (fun t9 k9 => castTop (own_ef_aap m x g0) k9) ?_
  show own_Go p e below s _ _ _ (s₁.setTop (mkF m 0 #[.val (.ref x), .val (.ref g0), .unset] []))
  have ne_g0_x : g0 ≠ x := Exa.ne E_g E_x (by decide)
  have Kp : Keep h0 h0 [vb, x] := Keep.refl h0 [vb, x]
  refine own_st (fun t9 k9 => XS.aloadN X0.here hx rfl (hb hby own_d_jdk_68_method_22_0) rfl rfl k9) ?_
  show own_Go p e below s _ _ _ (s₁.setTop (mkF m 1 #[.val (.ref x), .val (.ref g0), .unset] [(.ref g0)]))
  refine own_st (fun t9 k9 => XT.ifnonnullYes X0.here hx rfl (pc0 := 1) (pc' := 9) rfl (hb hby own_d_jdk_68_method_22_1) rfl (by decide) (by decide) k9) ?_
  show own_Go p e below s _ _ _ (s₁.setTop (mkF m 9 #[.val (.ref x), .val (.ref g0), .unset] []))
  refine own_st (fun t9 k9 => XS.aloadN X0.here hx rfl (hb hby own_d_jdk_68_method_22_9) rfl rfl k9) ?_
  show own_Go p e below s _ _ _ (s₁.setTop (mkF m 10 #[.val (.ref x), .val (.ref g0), .unset] [(.ref g0)]))
  obtain ⟨_, T36, h36, L36, X36, e36, ⟨rfl, Nc, hu⟩, st36⟩ := own_callV X0 hx hZ hown (hw _ (List.mem_of_getElem? (i := 106) rfl)) (hw _ (List.mem_of_getElem? (i := 107) rfl)) (hw _ (List.mem_of_getElem? (i := 109) rfl)) (hw _ (List.mem_of_getElem? (i := 108) rfl)) (hw _ (List.mem_of_getElem? (i := 2) rfl)) (hw _ (List.mem_of_getElem? (i := 110) rfl)) (by decide) (own_rm_len l Z a0 hw [] g0 tg kt z vs G h0 n0 Od O2 P5 E_g G_v G_k V_g) (by decide) (by decide) e0 (b := g0) E_g (W := 0) (g := (mkF m 10 #[.val (.ref x), .val (.ref g0), .unset] [(.ref g0)])) rfl (by rw [hml]; rfl) (argsL := []) (rest := []) rfl (lenOf own_pd7 rfl) rfl (by show 2 * 0 + _ ≤ _; exact Nat.le_of_eq rfl) (hb hby own_d_jdk_68_method_22_10) (by decide) (by decide)
  have N36 := Fr.app N0 Nc
  refine own_st st36 ?_
  show own_Go p e below s _ _ _ (T36.setTop (mkF m 13 #[.val (.ref x), .val (.ref g0), .unset] [(.int z)]))
  refine own_st (fun t9 k9 => XS.istoreN X36.here hx rfl (hb hby own_d_jdk_68_method_22_13) rfl (l' := #[.val (.ref x), .val (.ref g0), .val (.int z)]) rfl k9) ?_
  show own_Go p e below s _ _ _ (T36.setTop (mkF m 14 #[.val (.ref x), .val (.ref g0), .val (.int z)] []))
  refine own_st (fun t9 k9 => XS.aloadN X36.here hx rfl (hb hby own_d_jdk_68_method_22_14) rfl rfl k9) ?_
  show own_Go p e below s _ _ _ (T36.setTop (mkF m 15 #[.val (.ref x), .val (.ref g0), .val (.int z)] [(.ref x)]))
  refine own_st (fun t9 k9 => XS.aloadN X36.here hx rfl (hb hby own_d_jdk_68_method_22_15) rfl rfl k9) ?_
  show own_Go p e below s _ _ _ (T36.setTop (mkF m 16 #[.val (.ref x), .val (.ref g0), .val (.int z)] [(.ref x), (.ref x)]))
  obtain ⟨T37, X37, e37, st37⟩ := getF X36 hx hZ hown (host := "") (Or.inl (hw _ (List.mem_of_getElem? (i := 116) rfl))) Via.refl (e36.trans hu) F_c (g := (mkF m 16 #[.val (.ref x), .val (.ref g0), .val (.int z)] [(.ref x), (.ref x)])) rfl rfl (hb hby own_d_jdk_68_method_22_16)
  refine own_st st37 ?_
  show own_Go p e below s _ _ _ (T37.setTop (mkF m 19 #[.val (.ref x), .val (.ref g0), .val (.int z)] [(.int o), (.ref x)]))
  refine own_st (fun t9 k9 => XS.iloadN X37.here hx rfl (hb hby own_d_jdk_68_method_22_19) rfl  k9) ?_
  show own_Go p e below s _ _ _ (T37.setTop (mkF m 20 #[.val (.ref x), .val (.ref g0), .val (.int z)] [(.int z), (.int o), (.ref x)]))
  refine own_st (fun t9 k9 => XS.iadd X37.here hx rfl (hb hby own_d_jdk_68_method_22_20) rfl k9) ?_
  show own_Go p e below s _ _ _ (T37.setTop (mkF m 21 #[.val (.ref x), .val (.ref g0), .val (.int z)] [(.int (o + z)), (.ref x)]))
  obtain ⟨_, T38, h38, L38, X38, e38, ⟨rfl, Nd, hv⟩, st38⟩ := own_callP X37 hx hZ hown (hw _ (List.mem_of_getElem? (i := 118) rfl)) (hw _ (List.mem_of_getElem? (i := 121) rfl)) (hw _ (List.mem_of_getElem? (i := 119) rfl)) (hw _ (List.mem_of_getElem? (i := 120) rfl)) (hw _ (List.mem_of_getElem? (i := 88) rfl)) (hw _ (List.mem_of_getElem? (i := 122) rfl)) (by decide) (own_rm_eci l Z a0 hw [] x vb kv (o + z) vd h0 n0 Od F_v F_k V_b hm) (by decide) (by decide) e37 (b := x) E_x (W := 0) (g := (mkF m 21 #[.val (.ref x), .val (.ref g0), .val (.int z)] [(.int (o + z)), (.ref x)])) rfl (by rw [hml]; rfl) (argsL := [(.int (o + z))]) (rest := []) rfl (lenOf own_pd4 rfl) rfl (by show 2 * 0 + _ ≤ _; exact Nat.le_of_eq rfl) (hb hby own_d_jdk_68_method_22_21) (by decide) (by decide)
  have N38 := Fr.app N36 Nd
  refine own_st st38 ?_
  show own_Go p e below s _ _ _ (T38.setTop (mkF m 24 #[.val (.ref x), .val (.ref g0), .val (.int z)] []))
  refine own_st (fun t9 k9 => XS.aloadN X38.here hx rfl (hb hby own_d_jdk_68_method_22_24) rfl rfl k9) ?_
  show own_Go p e below s _ _ _ (T38.setTop (mkF m 25 #[.val (.ref x), .val (.ref g0), .val (.int z)] [(.ref x)]))
  refine own_st (fun t9 k9 => XS.aloadN X38.here hx rfl (hb hby own_d_jdk_68_method_22_25) rfl rfl k9) ?_
  show own_Go p e below s _ _ _ (T38.setTop (mkF m 26 #[.val (.ref x), .val (.ref g0), .val (.int z)] [(.ref x), (.ref x)]))
  obtain ⟨T39, X39, e39, st39⟩ := getF X38 hx hZ hown (host := "") (Or.inl (hw _ (List.mem_of_getElem? (i := 116) rfl))) Via.refl (e38.trans hv) F_c (g := (mkF m 26 #[.val (.ref x), .val (.ref g0), .val (.int z)] [(.ref x), (.ref x)])) rfl rfl (hb hby own_d_jdk_68_method_22_26)
  refine own_st st39 ?_
  show own_Go p e below s _ _ _ (T39.setTop (mkF m 29 #[.val (.ref x), .val (.ref g0), .val (.int z)] [(.int o), (.ref x)]))
  refine own_st (fun t9 k9 => XS.aloadN X39.here hx rfl (hb hby own_d_jdk_68_method_22_29) rfl rfl k9) ?_
  show own_Go p e below s _ _ _ (T39.setTop (mkF m 30 #[.val (.ref x), .val (.ref g0), .val (.int z)] [(.ref g0), (.int o), (.ref x)]))
  obtain ⟨_, T40, h40, L40, X40, e40, ⟨rfl, Nq, Kd, V_c⟩, st40⟩ := own_callP X39 hx hZ hown (hw _ (List.mem_of_getElem? (i := 123) rfl)) (hw _ (List.mem_of_getElem? (i := 126) rfl)) (hw _ (List.mem_of_getElem? (i := 124) rfl)) (hw _ (List.mem_of_getElem? (i := 125) rfl)) (hw _ (List.mem_of_getElem? (i := 88) rfl)) (hw _ (List.mem_of_getElem? (i := 127) rfl)) (by decide) (own_rm_psa l Z a0 hw [] x g0 vb tg kv kt o z vs vd us r G h0 n0 Od O2 P5 E_x F_v F_k E_g G_v G_k V_g V_b ge_vb ne_g0_vb ne_tg_vb ho hz h5 hlv hus hr) (by decide) (by decide) e39 (b := x) E_x (W := 0) (g := (mkF m 30 #[.val (.ref x), .val (.ref g0), .val (.int z)] [(.ref g0), (.int o), (.ref x)])) rfl (by rw [hml]; rfl) (argsL := [(.int o), (.ref g0)]) (rest := []) rfl (lenOf own_pd8 rfl) rfl (by show 2 * 0 + _ ≤ _; exact Nat.le_of_eq rfl) (hb hby own_d_jdk_68_method_22_30) (by decide) (by decide)
  have N40 := Fr.app N38 Nq
  have E_x := E_x.keep Kd
  have F_v := F_v.keep Kd (ninS ne_x_vb nin0)
  have F_k := F_k.keep Kd (ninS ne_x_vb nin0)
  have F_c := F_c.keep Kd (ninS ne_x_vb nin0)
  have E_g := E_g.keep Kd
  have G_v := G_v.keep Kd (ninS ne_g0_vb nin0)
  have G_k := G_k.keep Kd (ninS ne_g0_vb nin0)
  have V_g := V_g.keep Kd (ninS ne_tg_vb nin0)
  have Od := Od.keep Kd (allS ge_vb all0)
  have Kp := Kp.trans Kd (allS (Or.inl (List.mem_of_getElem? (i := 0) rfl)) all0)
  refine own_st st40 ?_
  show own_Go p e below s _ _ _ (T40.setTop (mkF m 33 #[.val (.ref x), .val (.ref g0), .val (.int z)] []))
  refine own_st (fun t9 k9 => XS.aloadN X40.here hx rfl (hb hby own_d_jdk_68_method_22_33) rfl rfl k9) ?_
  show own_Go p e below s _ _ _ (T40.setTop (mkF m 34 #[.val (.ref x), .val (.ref g0), .val (.int z)] [(.ref x)]))
  refine own_st (fun t9 k9 => XS.dup X40.here hx rfl (hb hby own_d_jdk_68_method_22_34) rfl rfl k9) ?_
  show own_Go p e below s _ _ _ (T40.setTop (mkF m 35 #[.val (.ref x), .val (.ref g0), .val (.int z)] [(.ref x), (.ref x)]))
  obtain ⟨T41, X41, e41, st41⟩ := getF X40 hx hZ hown (host := "") (Or.inl (hw _ (List.mem_of_getElem? (i := 116) rfl))) Via.refl e40 F_c (g := (mkF m 35 #[.val (.ref x), .val (.ref g0), .val (.int z)] [(.ref x), (.ref x)])) rfl rfl (hb hby own_d_jdk_68_method_22_35)
  refine own_st st41 ?_
  show own_Go p e below s _ _ _ (T41.setTop (mkF m 38 #[.val (.ref x), .val (.ref g0), .val (.int z)] [(.int o), (.ref x)]))
  refine own_st (fun t9 k9 => XS.iloadN X41.here hx rfl (hb hby own_d_jdk_68_method_22_38) rfl  k9) ?_
  show own_Go p e below s _ _ _ (T41.setTop (mkF m 39 #[.val (.ref x), .val (.ref g0), .val (.int z)] [(.int z), (.int o), (.ref x)]))
  refine own_st (fun t9 k9 => XS.iadd X41.here hx rfl (hb hby own_d_jdk_68_method_22_39) rfl k9) ?_
  show own_Go p e below s _ _ _ (T41.setTop (mkF m 40 #[.val (.ref x), .val (.ref g0), .val (.int z)] [(.int (o + z)), (.ref x)]))
  obtain ⟨T42, h42, X42, e42, W42, st42⟩ := putF X41 hx hZ hown (host := "") (Or.inl (hw _ (List.mem_of_getElem? (i := 116) rfl))) Via.refl e41 F_c E_x (Or.inl (hw _ (List.mem_of_getElem? (i := 117) rfl))) (hw _ (List.mem_of_getElem? (i := 79) rfl)) (ty := .int) (by decide) rfl rfl (g := (mkF m 40 #[.val (.ref x), .val (.ref g0), .val (.int z)] [(.int (o + z)), (.ref x)])) rfl rfl (hb hby own_d_jdk_68_method_22_40)
  have N42 := Fr.snoc X42 N40 ge_x
  have E_x := E_x.wr W42
  have F_v := F_v.other W42 (Or.inr (RoadKit.slot_ne (Or.inl (hw _ (List.mem_of_getElem? (i := 93) rfl))) (Or.inl (hw _ (List.mem_of_getElem? (i := 117) rfl))) (by decide) (t := (.array .byte)) (t' := .int) (by decide) (by decide)))
  have F_k := F_k.other W42 (Or.inr (RoadKit.slot_ne (Or.inl (hw _ (List.mem_of_getElem? (i := 95) rfl))) (Or.inl (hw _ (List.mem_of_getElem? (i := 117) rfl))) (by decide) (t := .byte) (t' := .int) (by decide) (by decide)))
  have F_c := F_c.same W42
  have E_g := E_g.wr W42
  have G_v := G_v.other W42 (Or.inl ne_g0_x)
  have G_k := G_k.other W42 (Or.inl ne_g0_x)
  have V_g := V_g.other W42 ne_tg_x
  have V_c := V_c.other W42 (Ne.symm ne_x_vb)
  have Od := Od.wr W42 ge_x
  have Kp := Kp.wr W42 (Or.inl (List.mem_of_getElem? (i := 1) rfl))
  refine own_st st42 ?_
  show own_Go p e below s _ _ _ (T42.setTop (mkF m 43 #[.val (.ref x), .val (.ref g0), .val (.int z)] []))
  rw [hc2] at F_c
  refine own_st (fun t9 k9 => XS.aloadN X42.here hx rfl (hb hby own_d_jdk_68_method_22_43) rfl rfl k9) ?_
  show own_Go p e below s _ _ _ (T42.setTop (mkF m 44 #[.val (.ref x), .val (.ref g0), .val (.int z)] [(.ref x)]))
  exact own_retR X42 hx hlk Bd.returns rfl rfl (hb hby own_d_jdk_68_method_22_44) (by decide) (by decide) (by rw [e42]; exact ⟨rfl, N42, Kp, E_x, F_v, F_k, F_c, V_c⟩)
theorem own_d_jdk_67_method_7_0 : decode jdk_67_method_7_code 0 = .ok (.aload_n 0, 1) := by decide +kernel
theorem own_d_jdk_67_method_7_1 : decode jdk_67_method_7_code 1 = .ok (.aload_n 1, 1) := by decide +kernel
theorem own_pd9 : parseMethodDescriptor "(Ljava/lang/String;)Ljava/lang/AbstractStringBuilder;" = some ⟨[(.object "java/lang/String")], some (.object "java/lang/AbstractStringBuilder")⟩ := by decide +kernel
theorem own_d_jdk_67_method_7_2 : decode jdk_67_method_7_code 2 = .ok (.invokespecial 29, 3) := by decide +kernel
theorem own_d_jdk_67_method_7_5 : decode jdk_67_method_7_code 5 = .ok (.pop, 1) := by decide +kernel
theorem own_d_jdk_67_method_7_6 : decode jdk_67_method_7_code 6 = .ok (.aload_n 0, 1) := by decide +kernel
theorem own_d_jdk_67_method_7_7 : decode jdk_67_method_7_code 7 = .ok (.areturn, 1) := by decide +kernel
theorem own_ef_sap (m : MethodId) (x0 : Addr) (x1 : Addr) : entryFrame m #[(.ref x0), (.ref x1)] 2 = mkF m 0 #[.val (.ref x0), .val (.ref x1)] [] := by first | (simp [entryFrame, mkF, argsToLocals, Value.category]; done) | rfl
def own_Q_sap (Z : State) (x vb : Addr) (kv : ClassId) (r : List Value) (c2 : Int32) (h0 : Heap) (n0 : Nat) (v : Option Value) (h : Heap) (L : List Loc) : Prop := v = some (.ref x) ∧ Fr n0 L ∧ Keep h0 h [vb, x] ∧ Exa Z h x "java/lang/StringBuilder" ∧ Fld Z h x "java/lang/AbstractStringBuilder" "value" "[B" (.ref vb) ∧ Fld Z h x "java/lang/AbstractStringBuilder" "coder" "B" (.int (0 : Int32)) ∧ Fld Z h x "java/lang/AbstractStringBuilder" "count" "I" (.int c2) ∧ Arv Z h vb kv .byte (16 : Int32) r (.int (0 : Int32))
set_option maxRecDepth 65536 in
set_option maxHeartbeats 40000000 in
theorem own_rm_sap (l : Launch) (Z : State) (a0 : Array Value) (hw : ∀ d ∈ tables_1, d.before a0 Z = true) (ws : List Jvm.Cond) (x g0 vb tg : Addr) (kv kt : ClassId) (o z : Int32) (vs vd us r : List Value) (G : Int32) (c2 : Int32) (h0 : Heap) (n0 : Nat) (Od : Old Z n0 h0) (O2 : Sta Z Z.heap "java/lang/String" "COMPACT_STRINGS" "Z" (.int G)) (P5 : ¬ (G = (0 : Int32))) (E_x : Exa Z h0 x "java/lang/StringBuilder") (F_v : Fld Z h0 x "java/lang/AbstractStringBuilder" "value" "[B" (.ref vb)) (F_k : Fld Z h0 x "java/lang/AbstractStringBuilder" "coder" "B" (.int (0 : Int32))) (F_c : Fld Z h0 x "java/lang/AbstractStringBuilder" "count" "I" (.int o)) (E_g : Exa Z h0 g0 "java/lang/String") (G_v : Fld Z h0 g0 "java/lang/String" "value" "[B" (.ref tg)) (G_k : Fld Z h0 g0 "java/lang/String" "coder" "B" (.int (0 : Int32))) (V_g : Arv Z h0 tg kt .byte z vs (.int (0 : Int32))) (V_b : Arv Z h0 vb kv .byte (16 : Int32) vd (.int (0 : Int32))) (ge_vb : n0 ≤ vb) (ne_g0_vb : g0 ≠ vb) (ne_tg_vb : tg ≠ vb) (ge_x : n0 ≤ x) (ne_x_vb : x ≠ vb) (ne_tg_x : tg ≠ x) (ho : ¬ (o < (0 : Int32))) (hz : ¬ (z < (0 : Int32))) (h5 : o.toNatClampNeg + z.toNatClampNeg ≤ (16 : Int32).toNatClampNeg) (hlv : o.toNatClampNeg + z.toNatClampNeg ≤ vd.length) (hus : us = (List.range z.toNatClampNeg).map fun i => vs.getD ((0 : Int32).toNatClampNeg + i) (.int (0 : Int32))) (hr : vd.take o.toNatClampNeg ++ us ++ vd.drop (o.toNatClampNeg + z.toNatClampNeg) = r) (hm : ¬ ((0 : Int32) < ((o + z) - (16 : Int32)))) (hc2 : o + z = c2) :
    MetFree l (⟨"java/lang/StringBuilder", "append", "(Ljava/lang/String;)Ljava/lang/StringBuilder;"⟩ : MethodName) (head1 (Jvm.Cond.code (⟨"java/lang/StringBuilder", "append", "(Ljava/lang/String;)Ljava/lang/StringBuilder;"⟩ : MethodName) jdk_67_method_7_code 2 (some (.object "java/lang/StringBuilder")) :: ws) ({ frames := 4, cells := 0, slots := 0, locals := 61 } : Room)) (fun a9 U => a9 = #[(.ref x), (.ref g0)] ∧ Z.Warmed39 U.vm ∧ U.heap = h0) (fun _ _ _ _ _ => True) (fun _ U o U' => ∃ v L, o = .returned v ∧ own_Q_sap Z x vb kv r c2 h0 n0 v U'.heap L ∧ FrameEnd U o U' L ({ frames := 4, cells := 0, slots := 0, locals := 61 } : Room).cells ({ frames := 4, cells := 0, slots := 0, locals := 61 } : Room).slots) := by
  refine MetFree.of_bodySF (plainFor_of_name own_pn5) hisR ?_
  intro p e s m args below meth c s₁ Bd hml0 hP hK
  obtain ⟨rfl, hZ, hh⟩ := hP
  have hx := Bd.exec
  have hby := Bd.bytes
  have hml : c.maxLocals = 2 := hml0
  have hown : s.vm.findClass "java/lang/StringBuilder" = some m.cls := findClass_of_methodNamed Bd.named
  have hnm := (name_of_methodNamed Bd.named Bd.method).1
  have hlk : meth.locks = false := Bd.notSynchronized
  have X0 : Stand p l e ({ frames := 4, cells := 0, slots := 0, locals := 61 } : Room) s m #[(.ref x), (.ref g0)] below meth c s₁ [] 0 0 := Stand.of_body Bd
  have e0 : s₁.heap = h0 := by rw [← hh, Bd.state]; rfl
  have N0 := Fr.nil n0
  show own_Go p e below s (own_Q_sap Z x vb kv r c2 h0 n0) ({ frames := 4, cells := 0, slots := 0, locals := 61 } : Room).cells ({ frames := 4, cells := 0, slots := 0, locals := 61 } : Room).slots (s₁.setTop (entryFrame m #[(.ref x), (.ref g0)] 2))
  refine own_st (fun t9 k9 => castTop (own_ef_sap m x g0) k9) ?_
  show own_Go p e below s _ _ _ (s₁.setTop (mkF m 0 #[.val (.ref x), .val (.ref g0)] []))
  have ne_g0_x : g0 ≠ x := Exa.ne E_g E_x (by decide)
  have Kp : Keep h0 h0 [vb, x] := Keep.refl h0 [vb, x]
  refine own_st (fun t9 k9 => XS.aloadN X0.here hx rfl (hb hby own_d_jdk_67_method_7_0) rfl rfl k9) ?_
  show own_Go p e below s _ _ _ (s₁.setTop (mkF m 1 #[.val (.ref x), .val (.ref g0)] [(.ref x)]))
  refine own_st (fun t9 k9 => XS.aloadN X0.here hx rfl (hb hby own_d_jdk_67_method_7_1) rfl rfl k9) ?_
  show own_Go p e below s _ _ _ (s₁.setTop (mkF m 2 #[.val (.ref x), .val (.ref g0)] [(.ref g0), (.ref x)]))
  obtain ⟨_, T43, h43, L43, X43, e43, ⟨rfl, Nc, Kc, E_y, A1, A2, A3, A4⟩, st43⟩ := own_callX X0 hx hZ hown (hw _ (List.mem_of_getElem? (i := 101) rfl)) (hw _ (List.mem_of_getElem? (i := 121) rfl)) rfl (hw _ (List.mem_of_getElem? (i := 102) rfl)) (hw _ (List.mem_of_getElem? (i := 103) rfl)) (hw _ (List.mem_of_getElem? (i := 88) rfl)) (hw _ (List.mem_of_getElem? (i := 105) rfl)) (by decide) (by decide) (own_rm_aap l Z a0 hw [] x g0 vb tg kv kt o z vs vd us r G c2 h0 n0 Od O2 P5 E_x F_v F_k F_c E_g G_v G_k V_g V_b ge_vb ne_g0_vb ne_tg_vb ge_x ne_x_vb ne_tg_x ho hz h5 hlv hus hr hm hc2) (by decide) (by decide) e0 (b := x) E_x (W := 0) (g := (mkF m 2 #[.val (.ref x), .val (.ref g0)] [(.ref g0), (.ref x)])) rfl (by rw [hml]; rfl) (argsL := [(.ref g0)]) (rest := []) rfl (lenOf own_pd9 rfl) rfl (by show 2 * 0 + _ ≤ _; exact Nat.le_of_eq rfl) (hb hby own_d_jdk_67_method_7_2) (by decide) (by decide)
  have N43 := Fr.app N0 Nc
  have E_x := E_x.keep Kc
  have E_g := E_g.keep Kc
  have G_v := G_v.keep Kc (ninS ne_g0_vb (ninS ne_g0_x nin0))
  have G_k := G_k.keep Kc (ninS ne_g0_vb (ninS ne_g0_x nin0))
  have V_g := V_g.keep Kc (ninS ne_tg_vb (ninS ne_tg_x nin0))
  have Od := Od.keep Kc (allS ge_vb (allS ge_x all0))
  have Kp := Kp.trans Kc (allS (Or.inl (List.mem_of_getElem? (i := 0) rfl)) (allS (Or.inl (List.mem_of_getElem? (i := 1) rfl)) all0))
  refine own_st st43 ?_
  show own_Go p e below s _ _ _ (T43.setTop (mkF m 5 #[.val (.ref x), .val (.ref g0)] [(.ref x)]))
  refine own_st (fun t9 k9 => XT.pop X43.here hx rfl (hb hby own_d_jdk_67_method_7_5) rfl rfl k9) ?_
  show own_Go p e below s _ _ _ (T43.setTop (mkF m 6 #[.val (.ref x), .val (.ref g0)] []))
  refine own_st (fun t9 k9 => XS.aloadN X43.here hx rfl (hb hby own_d_jdk_67_method_7_6) rfl rfl k9) ?_
  show own_Go p e below s _ _ _ (T43.setTop (mkF m 7 #[.val (.ref x), .val (.ref g0)] [(.ref x)]))
  exact own_retR X43 hx hlk Bd.returns rfl rfl (hb hby own_d_jdk_67_method_7_7) (by decide) (by decide) (by rw [e43]; exact ⟨rfl, N43, Kp, E_y, A1, A2, A3, A4⟩)
theorem own_d_jdk_68_method_64_0 : decode jdk_68_method_64_code 0 = .ok (.aload_n 0, 1) := by decide +kernel
theorem own_d_jdk_68_method_64_1 : decode jdk_68_method_64_code 1 = .ok (.getfield 15, 3) := by decide +kernel
theorem own_d_jdk_68_method_64_4 : decode jdk_68_method_64_code 4 = .ok (.areturn, 1) := by decide +kernel
theorem own_ef_gv (m : MethodId) (x0 : Addr) : entryFrame m #[(.ref x0)] 1 = mkF m 0 #[.val (.ref x0)] [] := by first | (simp [entryFrame, mkF, argsToLocals, Value.category]; done) | rfl
def own_Q_gv (Z : State) (vb : Addr) (h0 : Heap) (n0 : Nat) (v : Option Value) (h : Heap) (L : List Loc) : Prop := v = some (.ref vb) ∧ Fr n0 L ∧ h = h0
set_option maxRecDepth 65536 in
set_option maxHeartbeats 40000000 in
theorem own_rm_gv (l : Launch) (Z : State) (a0 : Array Value) (hw : ∀ d ∈ tables_1, d.before a0 Z = true) (ws : List Jvm.Cond) (x vb : Addr) (h0 : Heap) (n0 : Nat) (Od : Old Z n0 h0) (F_v : Fld Z h0 x "java/lang/AbstractStringBuilder" "value" "[B" (.ref vb)) :
    MetFree l (⟨"java/lang/AbstractStringBuilder", "getValue", "()[B"⟩ : MethodName) (head1 (Jvm.Cond.code (⟨"java/lang/AbstractStringBuilder", "getValue", "()[B"⟩ : MethodName) jdk_68_method_64_code 1 (some (.array .byte)) :: ws) ({ frames := 0, cells := 0, slots := 0, locals := 0 } : Room)) (fun a9 U => a9 = #[(.ref x)] ∧ Z.Warmed39 U.vm ∧ U.heap = h0) (fun _ _ _ _ _ => True) (fun _ U o U' => ∃ v L, o = .returned v ∧ own_Q_gv Z vb h0 n0 v U'.heap L ∧ FrameEnd U o U' L ({ frames := 0, cells := 0, slots := 0, locals := 0 } : Room).cells ({ frames := 0, cells := 0, slots := 0, locals := 0 } : Room).slots) := by
  refine MetFree.of_bodySF (plainFor_of_name own_pn4) hisR ?_
  intro p e s m args below meth c s₁ Bd hml0 hP hK
  obtain ⟨rfl, hZ, hh⟩ := hP
  have hx := Bd.exec
  have hby := Bd.bytes
  have hml : c.maxLocals = 1 := hml0
  have hown : s.vm.findClass "java/lang/AbstractStringBuilder" = some m.cls := findClass_of_methodNamed Bd.named
  have hnm := (name_of_methodNamed Bd.named Bd.method).1
  have hlk : meth.locks = false := Bd.notSynchronized
  have X0 : Stand p l e ({ frames := 0, cells := 0, slots := 0, locals := 0 } : Room) s m #[(.ref x)] below meth c s₁ [] 0 0 := Stand.of_body Bd
  have e0 : s₁.heap = h0 := by rw [← hh, Bd.state]; rfl
  have N0 := Fr.nil n0
  show own_Go p e below s (own_Q_gv Z vb h0 n0) ({ frames := 0, cells := 0, slots := 0, locals := 0 } : Room).cells ({ frames := 0, cells := 0, slots := 0, locals := 0 } : Room).slots (s₁.setTop (entryFrame m #[(.ref x)] 1))
  refine own_st (fun t9 k9 => castTop (own_ef_gv m x) k9) ?_
  show own_Go p e below s _ _ _ (s₁.setTop (mkF m 0 #[.val (.ref x)] []))
  refine own_st (fun t9 k9 => XS.aloadN X0.here hx rfl (hb hby own_d_jdk_68_method_64_0) rfl rfl k9) ?_
  show own_Go p e below s _ _ _ (s₁.setTop (mkF m 1 #[.val (.ref x)] [(.ref x)]))
  obtain ⟨T44, X44, e44, st44⟩ := getF X0 hx hZ hown (host := "") (Or.inl (hw _ (List.mem_of_getElem? (i := 92) rfl))) Via.refl e0 F_v (g := (mkF m 1 #[.val (.ref x)] [(.ref x)])) rfl rfl (hb hby own_d_jdk_68_method_64_1)
  refine own_st st44 ?_
  show own_Go p e below s _ _ _ (T44.setTop (mkF m 4 #[.val (.ref x)] [(.ref vb)]))
  exact own_retR X44 hx hlk Bd.returns rfl rfl (hb hby own_d_jdk_68_method_64_4) (by decide) (by decide) (by rw [e44]; exact ⟨rfl, N0, rfl⟩)
theorem own_d_jdk_68_method_6_0 : decode jdk_68_method_6_code 0 = .ok (.aload_n 0, 1) := by decide +kernel
theorem own_d_jdk_68_method_6_1 : decode jdk_68_method_6_code 1 = .ok (.getfield 79, 3) := by decide +kernel
theorem own_d_jdk_68_method_6_4 : decode jdk_68_method_6_code 4 = .ok (.ireturn, 1) := by decide +kernel
theorem own_ef_aln (m : MethodId) (x0 : Addr) : entryFrame m #[(.ref x0)] 1 = mkF m 0 #[.val (.ref x0)] [] := by first | (simp [entryFrame, mkF, argsToLocals, Value.category]; done) | rfl
def own_Q_aln (Z : State) (q : Int32) (h0 : Heap) (n0 : Nat) (v : Option Value) (h : Heap) (L : List Loc) : Prop := v = some (.int q) ∧ Fr n0 L ∧ h = h0
set_option maxRecDepth 65536 in
set_option maxHeartbeats 40000000 in
theorem own_rm_aln (l : Launch) (Z : State) (a0 : Array Value) (hw : ∀ d ∈ tables_1, d.before a0 Z = true) (ws : List Jvm.Cond) (x : Addr) (q : Int32) (h0 : Heap) (n0 : Nat) (Od : Old Z n0 h0) (F_c : Fld Z h0 x "java/lang/AbstractStringBuilder" "count" "I" (.int q)) :
    MetFree l (⟨"java/lang/AbstractStringBuilder", "length", "()I"⟩ : MethodName) (head1 (Jvm.Cond.code (⟨"java/lang/AbstractStringBuilder", "length", "()I"⟩ : MethodName) jdk_68_method_6_code 1 (some .int) :: ws) ({ frames := 0, cells := 0, slots := 0, locals := 0 } : Room)) (fun a9 U => a9 = #[(.ref x)] ∧ Z.Warmed39 U.vm ∧ U.heap = h0) (fun _ _ _ _ _ => True) (fun _ U o U' => ∃ v L, o = .returned v ∧ own_Q_aln Z q h0 n0 v U'.heap L ∧ FrameEnd U o U' L ({ frames := 0, cells := 0, slots := 0, locals := 0 } : Room).cells ({ frames := 0, cells := 0, slots := 0, locals := 0 } : Room).slots) := by
  refine MetFree.of_bodySF (plainFor_of_name own_pn4) hisR ?_
  intro p e s m args below meth c s₁ Bd hml0 hP hK
  obtain ⟨rfl, hZ, hh⟩ := hP
  have hx := Bd.exec
  have hby := Bd.bytes
  have hml : c.maxLocals = 1 := hml0
  have hown : s.vm.findClass "java/lang/AbstractStringBuilder" = some m.cls := findClass_of_methodNamed Bd.named
  have hnm := (name_of_methodNamed Bd.named Bd.method).1
  have hlk : meth.locks = false := Bd.notSynchronized
  have X0 : Stand p l e ({ frames := 0, cells := 0, slots := 0, locals := 0 } : Room) s m #[(.ref x)] below meth c s₁ [] 0 0 := Stand.of_body Bd
  have e0 : s₁.heap = h0 := by rw [← hh, Bd.state]; rfl
  have N0 := Fr.nil n0
  show own_Go p e below s (own_Q_aln Z q h0 n0) ({ frames := 0, cells := 0, slots := 0, locals := 0 } : Room).cells ({ frames := 0, cells := 0, slots := 0, locals := 0 } : Room).slots (s₁.setTop (entryFrame m #[(.ref x)] 1))
  refine own_st (fun t9 k9 => castTop (own_ef_aln m x) k9) ?_
  show own_Go p e below s _ _ _ (s₁.setTop (mkF m 0 #[.val (.ref x)] []))
  refine own_st (fun t9 k9 => XS.aloadN X0.here hx rfl (hb hby own_d_jdk_68_method_6_0) rfl rfl k9) ?_
  show own_Go p e below s _ _ _ (s₁.setTop (mkF m 1 #[.val (.ref x)] [(.ref x)]))
  obtain ⟨T45, X45, e45, st45⟩ := getF X0 hx hZ hown (host := "") (Or.inl (hw _ (List.mem_of_getElem? (i := 116) rfl))) Via.refl e0 F_c (g := (mkF m 1 #[.val (.ref x)] [(.ref x)])) rfl rfl (hb hby own_d_jdk_68_method_6_1)
  refine own_st st45 ?_
  show own_Go p e below s _ _ _ (T45.setTop (mkF m 4 #[.val (.ref x)] [(.int q)]))
  exact own_retI X45 hx hlk Bd.returns (hb hby own_d_jdk_68_method_6_4) (by decide) (by decide) (by rw [e45]; exact ⟨rfl, N0, rfl⟩)
theorem own_d_jdk_67_method_93_0 : decode jdk_67_method_93_code 0 = .ok (.aload_n 0, 1) := by decide +kernel
theorem own_d_jdk_67_method_93_1 : decode jdk_67_method_93_code 1 = .ok (.invokespecial 343, 3) := by decide +kernel
theorem own_d_jdk_67_method_93_4 : decode jdk_67_method_93_code 4 = .ok (.ireturn, 1) := by decide +kernel
theorem own_ef_sln (m : MethodId) (x0 : Addr) : entryFrame m #[(.ref x0)] 1 = mkF m 0 #[.val (.ref x0)] [] := by first | (simp [entryFrame, mkF, argsToLocals, Value.category]; done) | rfl
def own_Q_sln (Z : State) (q : Int32) (h0 : Heap) (n0 : Nat) (v : Option Value) (h : Heap) (L : List Loc) : Prop := v = some (.int q) ∧ Fr n0 L ∧ h = h0
set_option maxRecDepth 65536 in
set_option maxHeartbeats 40000000 in
theorem own_rm_sln (l : Launch) (Z : State) (a0 : Array Value) (hw : ∀ d ∈ tables_1, d.before a0 Z = true) (ws : List Jvm.Cond) (x : Addr) (q : Int32) (h0 : Heap) (n0 : Nat) (Od : Old Z n0 h0) (E_x : Exa Z h0 x "java/lang/StringBuilder") (F_c : Fld Z h0 x "java/lang/AbstractStringBuilder" "count" "I" (.int q)) :
    MetFree l (⟨"java/lang/StringBuilder", "length", "()I"⟩ : MethodName) (head1 (Jvm.Cond.code (⟨"java/lang/StringBuilder", "length", "()I"⟩ : MethodName) jdk_67_method_93_code 1 (some .int) :: ws) ({ frames := 1, cells := 0, slots := 0, locals := 12 } : Room)) (fun a9 U => a9 = #[(.ref x)] ∧ Z.Warmed39 U.vm ∧ U.heap = h0) (fun _ _ _ _ _ => True) (fun _ U o U' => ∃ v L, o = .returned v ∧ own_Q_sln Z q h0 n0 v U'.heap L ∧ FrameEnd U o U' L ({ frames := 1, cells := 0, slots := 0, locals := 12 } : Room).cells ({ frames := 1, cells := 0, slots := 0, locals := 12 } : Room).slots) := by
  refine MetFree.of_bodySF (plainFor_of_name own_pn5) hisR ?_
  intro p e s m args below meth c s₁ Bd hml0 hP hK
  obtain ⟨rfl, hZ, hh⟩ := hP
  have hx := Bd.exec
  have hby := Bd.bytes
  have hml : c.maxLocals = 1 := hml0
  have hown : s.vm.findClass "java/lang/StringBuilder" = some m.cls := findClass_of_methodNamed Bd.named
  have hnm := (name_of_methodNamed Bd.named Bd.method).1
  have hlk : meth.locks = false := Bd.notSynchronized
  have X0 : Stand p l e ({ frames := 1, cells := 0, slots := 0, locals := 12 } : Room) s m #[(.ref x)] below meth c s₁ [] 0 0 := Stand.of_body Bd
  have e0 : s₁.heap = h0 := by rw [← hh, Bd.state]; rfl
  have N0 := Fr.nil n0
  show own_Go p e below s (own_Q_sln Z q h0 n0) ({ frames := 1, cells := 0, slots := 0, locals := 12 } : Room).cells ({ frames := 1, cells := 0, slots := 0, locals := 12 } : Room).slots (s₁.setTop (entryFrame m #[(.ref x)] 1))
  refine own_st (fun t9 k9 => castTop (own_ef_sln m x) k9) ?_
  show own_Go p e below s _ _ _ (s₁.setTop (mkF m 0 #[.val (.ref x)] []))
  refine own_st (fun t9 k9 => XS.aloadN X0.here hx rfl (hb hby own_d_jdk_67_method_93_0) rfl rfl k9) ?_
  show own_Go p e below s _ _ _ (s₁.setTop (mkF m 1 #[.val (.ref x)] [(.ref x)]))
  obtain ⟨_, T46, h46, L46, X46, e46, ⟨rfl, Nc, hu⟩, st46⟩ := own_callX X0 hx hZ hown (hw _ (List.mem_of_getElem? (i := 167) rfl)) (hw _ (List.mem_of_getElem? (i := 121) rfl)) rfl (hw _ (List.mem_of_getElem? (i := 163) rfl)) (hw _ (List.mem_of_getElem? (i := 103) rfl)) (hw _ (List.mem_of_getElem? (i := 88) rfl)) (hw _ (List.mem_of_getElem? (i := 168) rfl)) (by decide) (by decide) (own_rm_aln l Z a0 hw [] x q h0 n0 Od F_c) (by decide) (by decide) e0 (b := x) E_x (W := 0) (g := (mkF m 1 #[.val (.ref x)] [(.ref x)])) rfl (by rw [hml]; rfl) (argsL := []) (rest := []) rfl (lenOf own_pd7 rfl) rfl (by show 2 * 0 + _ ≤ _; exact Nat.le_of_eq rfl) (hb hby own_d_jdk_67_method_93_1) (by decide) (by decide)
  have N46 := Fr.app N0 Nc
  refine own_st st46 ?_
  show own_Go p e below s _ _ _ (T46.setTop (mkF m 4 #[.val (.ref x)] [(.int q)]))
  exact own_retI X46 hx hlk Bd.returns (hb hby own_d_jdk_67_method_93_4) (by decide) (by decide) (by rw [(e46.trans hu)]; exact ⟨rfl, N46, rfl⟩)
theorem own_d_jdk_68_method_68_0 : decode jdk_68_method_68_code 0 = .ok (.getstatic 18, 3) := by decide +kernel
theorem own_d_jdk_68_method_68_3 : decode jdk_68_method_68_code 3 = .ok (.ifCond .eq 14, 3) := by decide +kernel
theorem own_d_jdk_68_method_68_6 : decode jdk_68_method_68_code 6 = .ok (.aload_n 0, 1) := by decide +kernel
theorem own_d_jdk_68_method_68_7 : decode jdk_68_method_68_code 7 = .ok (.getfield 22, 3) := by decide +kernel
theorem own_d_jdk_68_method_68_10 : decode jdk_68_method_68_code 10 = .ok (.ifCond .ne 7, 3) := by decide +kernel
theorem own_d_jdk_68_method_68_13 : decode jdk_68_method_68_code 13 = .ok (.iconst 1, 1) := by decide +kernel
theorem own_d_jdk_68_method_68_14 : decode jdk_68_method_68_code 14 = .ok (.goto 4, 3) := by decide +kernel
theorem own_d_jdk_68_method_68_18 : decode jdk_68_method_68_code 18 = .ok (.ireturn, 1) := by decide +kernel
theorem own_ef_isl (m : MethodId) (x0 : Addr) : entryFrame m #[(.ref x0)] 1 = mkF m 0 #[.val (.ref x0)] [] := by first | (simp [entryFrame, mkF, argsToLocals, Value.category]; done) | rfl
def own_Q_isl (Z : State)  (h0 : Heap) (n0 : Nat) (v : Option Value) (h : Heap) (L : List Loc) : Prop := v = some (.int (1 : Int32)) ∧ Fr n0 L ∧ h = h0
set_option maxRecDepth 65536 in
set_option maxHeartbeats 40000000 in
theorem own_rm_isl (l : Launch) (Z : State) (a0 : Array Value) (hw : ∀ d ∈ tables_1, d.before a0 Z = true) (ws : List Jvm.Cond) (x : Addr) (G : Int32) (h0 : Heap) (n0 : Nat) (Od : Old Z n0 h0) (O2 : Sta Z Z.heap "java/lang/String" "COMPACT_STRINGS" "Z" (.int G)) (P5 : ¬ (G = (0 : Int32))) (F_k : Fld Z h0 x "java/lang/AbstractStringBuilder" "coder" "B" (.int (0 : Int32))) :
    MetFree l (⟨"java/lang/AbstractStringBuilder", "isLatin1", "()Z"⟩ : MethodName) (head1 (Jvm.Cond.code (⟨"java/lang/AbstractStringBuilder", "isLatin1", "()Z"⟩ : MethodName) jdk_68_method_68_code 1 (some .boolean) :: ws) ({ frames := 0, cells := 0, slots := 0, locals := 0 } : Room)) (fun a9 U => a9 = #[(.ref x)] ∧ Z.Warmed39 U.vm ∧ U.heap = h0) (fun _ _ _ _ _ => True) (fun _ U o U' => ∃ v L, o = .returned v ∧ own_Q_isl Z  h0 n0 v U'.heap L ∧ FrameEnd U o U' L ({ frames := 0, cells := 0, slots := 0, locals := 0 } : Room).cells ({ frames := 0, cells := 0, slots := 0, locals := 0 } : Room).slots) := by
  refine MetFree.of_bodySF (plainFor_of_name own_pn4) hisR ?_
  intro p e s m args below meth c s₁ Bd hml0 hP hK
  obtain ⟨rfl, hZ, hh⟩ := hP
  have hx := Bd.exec
  have hby := Bd.bytes
  have hml : c.maxLocals = 1 := hml0
  have hown : s.vm.findClass "java/lang/AbstractStringBuilder" = some m.cls := findClass_of_methodNamed Bd.named
  have hnm := (name_of_methodNamed Bd.named Bd.method).1
  have hlk : meth.locks = false := Bd.notSynchronized
  have X0 : Stand p l e ({ frames := 0, cells := 0, slots := 0, locals := 0 } : Room) s m #[(.ref x)] below meth c s₁ [] 0 0 := Stand.of_body Bd
  have e0 : s₁.heap = h0 := by rw [← hh, Bd.state]; rfl
  have N0 := Fr.nil n0
  show own_Go p e below s (own_Q_isl Z  h0 n0) ({ frames := 0, cells := 0, slots := 0, locals := 0 } : Room).cells ({ frames := 0, cells := 0, slots := 0, locals := 0 } : Room).slots (s₁.setTop (entryFrame m #[(.ref x)] 1))
  refine own_st (fun t9 k9 => castTop (own_ef_isl m x) k9) ?_
  show own_Go p e below s _ _ _ (s₁.setTop (mkF m 0 #[.val (.ref x)] []))
  obtain ⟨T47, X47, e47, st47⟩ := getS (host := "") X0 hx hZ hown (hw _ (List.mem_of_getElem? (i := 91) rfl)) Via.refl e0 (O2.ext Od.2) (g := (mkF m 0 #[.val (.ref x)] [])) rfl (hb hby own_d_jdk_68_method_68_0)
  refine own_st st47 ?_
  show own_Go p e below s _ _ _ (T47.setTop (mkF m 3 #[.val (.ref x)] [(.int G)]))
  refine own_st (fun t9 k9 => XS.ifNo X47.here hx rfl (hb hby own_d_jdk_68_method_68_3) rfl ((if0 _ _).trans (feq (P5 : ¬ (G = (0 : Int32)))).1) k9) ?_
  show own_Go p e below s _ _ _ (T47.setTop (mkF m 6 #[.val (.ref x)] []))
  refine own_st (fun t9 k9 => XS.aloadN X47.here hx rfl (hb hby own_d_jdk_68_method_68_6) rfl rfl k9) ?_
  show own_Go p e below s _ _ _ (T47.setTop (mkF m 7 #[.val (.ref x)] [(.ref x)]))
  obtain ⟨T48, X48, e48, st48⟩ := getF X47 hx hZ hown (host := "") (Or.inl (hw _ (List.mem_of_getElem? (i := 94) rfl))) Via.refl e47 F_k (g := (mkF m 7 #[.val (.ref x)] [(.ref x)])) rfl rfl (hb hby own_d_jdk_68_method_68_7)
  refine own_st st48 ?_
  show own_Go p e below s _ _ _ (T48.setTop (mkF m 10 #[.val (.ref x)] [(.int (0 : Int32))]))
  refine own_st (fun t9 k9 => XS.ifNo X48.here hx rfl (hb hby own_d_jdk_68_method_68_10) rfl (by decide) k9) ?_
  show own_Go p e below s _ _ _ (T48.setTop (mkF m 13 #[.val (.ref x)] []))
  refine own_st (fun t9 k9 => XS.iconst X48.here hx rfl (hb hby own_d_jdk_68_method_68_13) k9) ?_
  show own_Go p e below s _ _ _ (T48.setTop (mkF m 14 #[.val (.ref x)] [(.int (1 : Int32))]))
  refine own_st (fun t9 k9 => XS.goto X48.here hx rfl (pc0 := 14) (pc' := 18) rfl (hb hby own_d_jdk_68_method_68_14) (by decide) (by decide) k9) ?_
  show own_Go p e below s _ _ _ (T48.setTop (mkF m 18 #[.val (.ref x)] [(.int (1 : Int32))]))
  exact own_retN X48 hx hlk (t := .boolean) Bd.returns (by simp) (hb hby own_d_jdk_68_method_68_18) (by decide) (by decide) (by rw [e48]; exact ⟨rfl, N0, rfl⟩)
theorem own_d_jdk_29_method_69_0 : decode jdk_29_method_69_code 0 = .ok (.iload_n 0, 1) := by decide +kernel
theorem own_d_jdk_29_method_69_1 : decode jdk_29_method_69_code 1 = .ok (.iload_n 1, 1) := by decide +kernel
theorem own_d_jdk_29_method_69_2 : decode jdk_29_method_69_code 2 = .ok (.if_icmp .gt 7, 3) := by decide +kernel
theorem own_d_jdk_29_method_69_9 : decode jdk_29_method_69_code 9 = .ok (.iload_n 1, 1) := by decide +kernel
theorem own_d_jdk_29_method_69_10 : decode jdk_29_method_69_code 10 = .ok (.ireturn, 1) := by decide +kernel
theorem own_ef_mn3 (m : MethodId) (x0 : Int32) (x1 : Int32) : entryFrame m #[(.int x0), (.int x1)] 2 = mkF m 0 #[.val (.int x0), .val (.int x1)] [] := by first | (simp [entryFrame, mkF, argsToLocals, Value.category]; done) | rfl
def own_Q_mn3 (Z : State)  (h0 : Heap) (n0 : Nat) (v : Option Value) (h : Heap) (L : List Loc) : Prop := v = some (.int (3 : Int32)) ∧ Fr n0 L ∧ h = h0
set_option maxRecDepth 65536 in
set_option maxHeartbeats 40000000 in
theorem own_rm_mn3 (l : Launch) (Z : State) (a0 : Array Value) (hw : ∀ d ∈ tables_1, d.before a0 Z = true) (ws : List Jvm.Cond)  (h0 : Heap) (n0 : Nat) (Od : Old Z n0 h0) :
    MetFree l (⟨"java/lang/Math", "min", "(II)I"⟩ : MethodName) (head1 (Jvm.Cond.code (⟨"java/lang/Math", "min", "(II)I"⟩ : MethodName) jdk_29_method_69_code 2 (some .int) :: ws) ({ frames := 0, cells := 0, slots := 0, locals := 0 } : Room)) (fun a9 U => a9 = #[(.int (16 : Int32)), (.int (3 : Int32))] ∧ Z.Warmed39 U.vm ∧ U.heap = h0) (fun _ _ _ _ _ => True) (fun _ U o U' => ∃ v L, o = .returned v ∧ own_Q_mn3 Z  h0 n0 v U'.heap L ∧ FrameEnd U o U' L ({ frames := 0, cells := 0, slots := 0, locals := 0 } : Room).cells ({ frames := 0, cells := 0, slots := 0, locals := 0 } : Room).slots) := by
  refine MetFree.of_bodySF (by decide +kernel) hisR ?_
  intro p e s m args below meth c s₁ Bd hml0 hP hK
  obtain ⟨rfl, hZ, hh⟩ := hP
  have hx := Bd.exec
  have hby := Bd.bytes
  have hml : c.maxLocals = 2 := hml0
  have hown : s.vm.findClass "java/lang/Math" = some m.cls := findClass_of_methodNamed Bd.named
  have hnm := (name_of_methodNamed Bd.named Bd.method).1
  have hlk : meth.locks = false := Bd.notSynchronized
  have X0 : Stand p l e ({ frames := 0, cells := 0, slots := 0, locals := 0 } : Room) s m #[(.int (16 : Int32)), (.int (3 : Int32))] below meth c s₁ [] 0 0 := Stand.of_body Bd
  have e0 : s₁.heap = h0 := by rw [← hh, Bd.state]; rfl
  have N0 := Fr.nil n0
  show own_Go p e below s (own_Q_mn3 Z  h0 n0) ({ frames := 0, cells := 0, slots := 0, locals := 0 } : Room).cells ({ frames := 0, cells := 0, slots := 0, locals := 0 } : Room).slots (s₁.setTop (entryFrame m #[(.int (16 : Int32)), (.int (3 : Int32))] 2))
  refine own_st (fun t9 k9 => castTop (own_ef_mn3 m (16 : Int32) (3 : Int32)) k9) ?_
  show own_Go p e below s _ _ _ (s₁.setTop (mkF m 0 #[.val (.int (16 : Int32)), .val (.int (3 : Int32))] []))
  refine own_st (fun t9 k9 => XS.iloadN X0.here hx rfl (hb hby own_d_jdk_29_method_69_0) rfl  k9) ?_
  show own_Go p e below s _ _ _ (s₁.setTop (mkF m 1 #[.val (.int (16 : Int32)), .val (.int (3 : Int32))] [(.int (16 : Int32))]))
  refine own_st (fun t9 k9 => XS.iloadN X0.here hx rfl (hb hby own_d_jdk_29_method_69_1) rfl  k9) ?_
  show own_Go p e below s _ _ _ (s₁.setTop (mkF m 2 #[.val (.int (16 : Int32)), .val (.int (3 : Int32))] [(.int (3 : Int32)), (.int (16 : Int32))]))
  refine own_st (fun t9 k9 => XS.icmpYes X0.here hx rfl (pc0 := 2) (pc' := 9) rfl (hb hby own_d_jdk_29_method_69_2) rfl (by decide) (by decide) (by decide) k9) ?_
  show own_Go p e below s _ _ _ (s₁.setTop (mkF m 9 #[.val (.int (16 : Int32)), .val (.int (3 : Int32))] []))
  refine own_st (fun t9 k9 => XS.iloadN X0.here hx rfl (hb hby own_d_jdk_29_method_69_9) rfl  k9) ?_
  show own_Go p e below s _ _ _ (s₁.setTop (mkF m 10 #[.val (.int (16 : Int32)), .val (.int (3 : Int32))] [(.int (3 : Int32))]))
  exact own_retI X0 hx hlk Bd.returns (hb hby own_d_jdk_29_method_69_10) (by decide) (by decide) (by rw [e0]; exact ⟨rfl, N0, rfl⟩)
theorem own_pn6 : plainName "java/util/Arrays" = true := by first | (simp [plainName, overriddenIn]; done) | decide +kernel
theorem own_d_jdk_65_method_131_0 : decode jdk_65_method_131_code 0 = .ok (.iload_n 1, 1) := by decide +kernel
theorem own_d_jdk_65_method_131_1 : decode jdk_65_method_131_code 1 = .ok (.iload_n 0, 1) := by decide +kernel
theorem own_d_jdk_65_method_131_2 : decode jdk_65_method_131_code 2 = .ok (.if_icmp .ge 35, 3) := by decide +kernel
theorem own_d_jdk_65_method_131_37 : decode jdk_65_method_131_code 37 = .ok (.return_, 1) := by decide +kernel
theorem own_ef_chk3 (m : MethodId) (x0 : Int32) (x1 : Int32) : entryFrame m #[(.int x0), (.int x1)] 2 = mkF m 0 #[.val (.int x0), .val (.int x1)] [] := by first | (simp [entryFrame, mkF, argsToLocals, Value.category]; done) | rfl
def own_Q_chk3 (Z : State)  (h0 : Heap) (n0 : Nat) (v : Option Value) (h : Heap) (L : List Loc) : Prop := v = none ∧ Fr n0 L ∧ h = h0
set_option maxRecDepth 65536 in
set_option maxHeartbeats 40000000 in
theorem own_rm_chk3 (l : Launch) (Z : State) (a0 : Array Value) (hw : ∀ d ∈ tables_1, d.before a0 Z = true) (ws : List Jvm.Cond)  (h0 : Heap) (n0 : Nat) (Od : Old Z n0 h0) :
    MetFree l (⟨"java/util/Arrays", "checkLength", "(II)V"⟩ : MethodName) (head1 (Jvm.Cond.code (⟨"java/util/Arrays", "checkLength", "(II)V"⟩ : MethodName) jdk_65_method_131_code 2 none :: ws) ({ frames := 0, cells := 0, slots := 0, locals := 0 } : Room)) (fun a9 U => a9 = #[(.int (0 : Int32)), (.int (3 : Int32))] ∧ Z.Warmed39 U.vm ∧ U.heap = h0) (fun _ _ _ _ _ => True) (fun _ U o U' => ∃ v L, o = .returned v ∧ own_Q_chk3 Z  h0 n0 v U'.heap L ∧ FrameEnd U o U' L ({ frames := 0, cells := 0, slots := 0, locals := 0 } : Room).cells ({ frames := 0, cells := 0, slots := 0, locals := 0 } : Room).slots) := by
  refine MetFree.of_bodySF (plainFor_of_name own_pn6) hisR ?_
  intro p e s m args below meth c s₁ Bd hml0 hP hK
  obtain ⟨rfl, hZ, hh⟩ := hP
  have hx := Bd.exec
  have hby := Bd.bytes
  have hml : c.maxLocals = 2 := hml0
  have hown : s.vm.findClass "java/util/Arrays" = some m.cls := findClass_of_methodNamed Bd.named
  have hnm := (name_of_methodNamed Bd.named Bd.method).1
  have hlk : meth.locks = false := Bd.notSynchronized
  have X0 : Stand p l e ({ frames := 0, cells := 0, slots := 0, locals := 0 } : Room) s m #[(.int (0 : Int32)), (.int (3 : Int32))] below meth c s₁ [] 0 0 := Stand.of_body Bd
  have e0 : s₁.heap = h0 := by rw [← hh, Bd.state]; rfl
  have N0 := Fr.nil n0
  show own_Go p e below s (own_Q_chk3 Z  h0 n0) ({ frames := 0, cells := 0, slots := 0, locals := 0 } : Room).cells ({ frames := 0, cells := 0, slots := 0, locals := 0 } : Room).slots (s₁.setTop (entryFrame m #[(.int (0 : Int32)), (.int (3 : Int32))] 2))
  refine own_st (fun t9 k9 => castTop (own_ef_chk3 m (0 : Int32) (3 : Int32)) k9) ?_
  show own_Go p e below s _ _ _ (s₁.setTop (mkF m 0 #[.val (.int (0 : Int32)), .val (.int (3 : Int32))] []))
  refine own_st (fun t9 k9 => XS.iloadN X0.here hx rfl (hb hby own_d_jdk_65_method_131_0) rfl  k9) ?_
  show own_Go p e below s _ _ _ (s₁.setTop (mkF m 1 #[.val (.int (0 : Int32)), .val (.int (3 : Int32))] [(.int (3 : Int32))]))
  refine own_st (fun t9 k9 => XS.iloadN X0.here hx rfl (hb hby own_d_jdk_65_method_131_1) rfl  k9) ?_
  show own_Go p e below s _ _ _ (s₁.setTop (mkF m 2 #[.val (.int (0 : Int32)), .val (.int (3 : Int32))] [(.int (0 : Int32)), (.int (3 : Int32))]))
  refine own_st (fun t9 k9 => XS.icmpYes X0.here hx rfl (pc0 := 2) (pc' := 37) rfl (hb hby own_d_jdk_65_method_131_2) rfl (by decide) (by decide) (by decide) k9) ?_
  show own_Go p e below s _ _ _ (s₁.setTop (mkF m 37 #[.val (.int (0 : Int32)), .val (.int (3 : Int32))] []))
  exact own_retV X0 hx hlk Bd.returns (hb hby own_d_jdk_65_method_131_37) (by decide) (by decide) (by rw [e0]; exact ⟨rfl, N0, rfl⟩)
theorem own_d_jdk_65_method_133_0 : decode jdk_65_method_133_code 0 = .ok (.iload_n 1, 1) := by decide +kernel
theorem own_d_jdk_65_method_133_1 : decode jdk_65_method_133_code 1 = .ok (.iload_n 2, 1) := by decide +kernel
theorem own_pd10 : parseMethodDescriptor "(II)V" = some ⟨[.int, .int], none⟩ := by decide +kernel
theorem own_d_jdk_65_method_133_2 : decode jdk_65_method_133_code 2 = .ok (.invokestatic 343, 3) := by decide +kernel
theorem own_d_jdk_65_method_133_5 : decode jdk_65_method_133_code 5 = .ok (.iload_n 2, 1) := by decide +kernel
theorem own_d_jdk_65_method_133_6 : decode jdk_65_method_133_code 6 = .ok (.iload_n 1, 1) := by decide +kernel
theorem own_d_jdk_65_method_133_7 : decode jdk_65_method_133_code 7 = .ok (.isub, 1) := by decide +kernel
theorem own_d_jdk_65_method_133_8 : decode jdk_65_method_133_code 8 = .ok (.istore_n 3, 1) := by decide +kernel
theorem own_d_jdk_65_method_133_9 : decode jdk_65_method_133_code 9 = .ok (.iload_n 3, 1) := by decide +kernel
theorem own_d_jdk_65_method_133_10 : decode jdk_65_method_133_code 10 = .ok (.newarray .byte, 2) := by decide +kernel
theorem own_d_jdk_65_method_133_12 : decode jdk_65_method_133_code 12 = .ok (.astore 4, 2) := by decide +kernel
theorem own_d_jdk_65_method_133_14 : decode jdk_65_method_133_code 14 = .ok (.aload_n 0, 1) := by decide +kernel
theorem own_d_jdk_65_method_133_15 : decode jdk_65_method_133_code 15 = .ok (.iload_n 1, 1) := by decide +kernel
theorem own_d_jdk_65_method_133_16 : decode jdk_65_method_133_code 16 = .ok (.aload 4, 2) := by decide +kernel
theorem own_d_jdk_65_method_133_18 : decode jdk_65_method_133_code 18 = .ok (.iconst 0, 1) := by decide +kernel
theorem own_d_jdk_65_method_133_19 : decode jdk_65_method_133_code 19 = .ok (.aload_n 0, 1) := by decide +kernel
theorem own_d_jdk_65_method_133_20 : decode jdk_65_method_133_code 20 = .ok (.arraylength, 1) := by decide +kernel
theorem own_d_jdk_65_method_133_21 : decode jdk_65_method_133_code 21 = .ok (.iload_n 1, 1) := by decide +kernel
theorem own_d_jdk_65_method_133_22 : decode jdk_65_method_133_code 22 = .ok (.isub, 1) := by decide +kernel
theorem own_d_jdk_65_method_133_23 : decode jdk_65_method_133_code 23 = .ok (.iload_n 3, 1) := by decide +kernel
theorem own_pd11 : parseMethodDescriptor "(II)I" = some ⟨[.int, .int], some .int⟩ := by decide +kernel
theorem own_d_jdk_65_method_133_24 : decode jdk_65_method_133_code 24 = .ok (.invokestatic 304, 3) := by decide +kernel
theorem own_d_jdk_65_method_133_27 : decode jdk_65_method_133_code 27 = .ok (.invokestatic 150, 3) := by decide +kernel
theorem own_d_jdk_65_method_133_30 : decode jdk_65_method_133_code 30 = .ok (.aload 4, 2) := by decide +kernel
theorem own_d_jdk_65_method_133_32 : decode jdk_65_method_133_code 32 = .ok (.areturn, 1) := by decide +kernel
theorem own_ef_crb3 (m : MethodId) (x0 : Addr) (x1 : Int32) (x2 : Int32) : entryFrame m #[(.ref x0), (.int x1), (.int x2)] 5 = mkF m 0 #[.val (.ref x0), .val (.int x1), .val (.int x2), .unset, .unset] [] := by first | (simp [entryFrame, mkF, argsToLocals, Value.category]; done) | rfl
def own_Q_crb3 (Z : State) (us : List Value) (h0 : Heap) (n0 : Nat) (v : Option Value) (h : Heap) (L : List Loc) : Prop := Fr n0 L ∧ Keep h0 h [] ∧ ∃ tb k, v = some (.ref tb) ∧ h0.size ≤ tb ∧ Arv Z h tb k .byte (3 : Int32) us (.int (0 : Int32))
set_option maxRecDepth 65536 in
set_option maxHeartbeats 40000000 in
theorem own_rm_crb3 (l : Launch) (Z : State) (a0 : Array Value) (hw : ∀ d ∈ tables_1, d.before a0 Z = true) (ws : List Jvm.Cond) (vb : Addr) (kv : ClassId) (vd us : List Value) (h0 : Heap) (n0 : Nat) (Od : Old Z n0 h0) (V_b : Arv Z h0 vb kv .byte (16 : Int32) vd (.int (0 : Int32))) (hus : us = (List.range (3 : Int32).toNatClampNeg).map fun i => vd.getD ((0 : Int32).toNatClampNeg + i) (.int (0 : Int32))) :
    MetFree l (⟨"java/util/Arrays", "copyOfRangeByte", "([BII)[B"⟩ : MethodName) (head1 (Jvm.Cond.code (⟨"java/util/Arrays", "copyOfRangeByte", "([BII)[B"⟩ : MethodName) jdk_65_method_133_code 5 (some (.array .byte)) :: ws) ({ frames := 1, cells := 1, slots := 3, locals := 18 } : Room)) (fun a9 U => a9 = #[(.ref vb), (.int (0 : Int32)), (.int (3 : Int32))] ∧ Z.Warmed39 U.vm ∧ U.heap = h0) (fun _ _ _ _ _ => True) (fun _ U o U' => ∃ v L, o = .returned v ∧ own_Q_crb3 Z us h0 n0 v U'.heap L ∧ FrameEnd U o U' L ({ frames := 1, cells := 1, slots := 3, locals := 18 } : Room).cells ({ frames := 1, cells := 1, slots := 3, locals := 18 } : Room).slots) := by
  refine MetFree.of_bodySF (plainFor_of_name own_pn6) hisR ?_
  intro p e s m args below meth c s₁ Bd hml0 hP hK
  obtain ⟨rfl, hZ, hh⟩ := hP
  have hx := Bd.exec
  have hby := Bd.bytes
  have hml : c.maxLocals = 5 := hml0
  have hown : s.vm.findClass "java/util/Arrays" = some m.cls := findClass_of_methodNamed Bd.named
  have hnm := (name_of_methodNamed Bd.named Bd.method).1
  have hlk : meth.locks = false := Bd.notSynchronized
  have X0 : Stand p l e ({ frames := 1, cells := 1, slots := 3, locals := 18 } : Room) s m #[(.ref vb), (.int (0 : Int32)), (.int (3 : Int32))] below meth c s₁ [] 0 0 := Stand.of_body Bd
  have e0 : s₁.heap = h0 := by rw [← hh, Bd.state]; rfl
  have N0 := Fr.nil n0
  show own_Go p e below s (own_Q_crb3 Z us h0 n0) ({ frames := 1, cells := 1, slots := 3, locals := 18 } : Room).cells ({ frames := 1, cells := 1, slots := 3, locals := 18 } : Room).slots (s₁.setTop (entryFrame m #[(.ref vb), (.int (0 : Int32)), (.int (3 : Int32))] 5))
  refine own_st (fun t9 k9 => castTop (own_ef_crb3 m vb (0 : Int32) (3 : Int32)) k9) ?_
  show own_Go p e below s _ _ _ (s₁.setTop (mkF m 0 #[.val (.ref vb), .val (.int (0 : Int32)), .val (.int (3 : Int32)), .unset, .unset] []))
  have Kp : Keep h0 h0 [] := Keep.refl h0 []
  refine own_st (fun t9 k9 => XS.iloadN X0.here hx rfl (hb hby own_d_jdk_65_method_133_0) rfl  k9) ?_
  show own_Go p e below s _ _ _ (s₁.setTop (mkF m 1 #[.val (.ref vb), .val (.int (0 : Int32)), .val (.int (3 : Int32)), .unset, .unset] [(.int (0 : Int32))]))
  refine own_st (fun t9 k9 => XS.iloadN X0.here hx rfl (hb hby own_d_jdk_65_method_133_1) rfl  k9) ?_
  show own_Go p e below s _ _ _ (s₁.setTop (mkF m 2 #[.val (.ref vb), .val (.int (0 : Int32)), .val (.int (3 : Int32)), .unset, .unset] [(.int (3 : Int32)), (.int (0 : Int32))]))
  obtain ⟨_, T49, h49, L49, X49, e49, ⟨rfl, Nc, hu⟩, st49⟩ := own_callS X0 hx hZ hown (hw _ (List.mem_of_getElem? (i := 181) rfl)) (hw _ (List.mem_of_getElem? (i := 182) rfl)) (hw _ (List.mem_of_getElem? (i := 176) rfl)) (hw _ (List.mem_of_getElem? (i := 183) rfl)) (by decide) (own_rm_chk3 l Z a0 hw [] h0 n0 Od) (by decide) (by decide) e0 (W := 0) (g := (mkF m 2 #[.val (.ref vb), .val (.int (0 : Int32)), .val (.int (3 : Int32)), .unset, .unset] [(.int (3 : Int32)), (.int (0 : Int32))])) rfl (by rw [hml]; rfl) (argsL := [(.int (0 : Int32)), (.int (3 : Int32))]) (rest := []) rfl (lenOf own_pd10 rfl) rfl (by show 2 * 0 + _ ≤ _; exact Nat.le_of_eq rfl) (hb hby own_d_jdk_65_method_133_2) (by decide) (by decide)
  have N49 := Fr.app N0 Nc
  refine own_st st49 ?_
  show own_Go p e below s _ _ _ (T49.setTop (mkF m 5 #[.val (.ref vb), .val (.int (0 : Int32)), .val (.int (3 : Int32)), .unset, .unset] []))
  refine own_st (fun t9 k9 => XS.iloadN X49.here hx rfl (hb hby own_d_jdk_65_method_133_5) rfl  k9) ?_
  show own_Go p e below s _ _ _ (T49.setTop (mkF m 6 #[.val (.ref vb), .val (.int (0 : Int32)), .val (.int (3 : Int32)), .unset, .unset] [(.int (3 : Int32))]))
  refine own_st (fun t9 k9 => XS.iloadN X49.here hx rfl (hb hby own_d_jdk_65_method_133_6) rfl  k9) ?_
  show own_Go p e below s _ _ _ (T49.setTop (mkF m 7 #[.val (.ref vb), .val (.int (0 : Int32)), .val (.int (3 : Int32)), .unset, .unset] [(.int (0 : Int32)), (.int (3 : Int32))]))
  refine own_st (fun t9 k9 => XS.isub X49.here hx rfl (hb hby own_d_jdk_65_method_133_7) rfl k9) ?_
  show own_Go p e below s _ _ _ (T49.setTop (mkF m 8 #[.val (.ref vb), .val (.int (0 : Int32)), .val (.int (3 : Int32)), .unset, .unset] [(.int ((3 : Int32) - (0 : Int32)))]))
  rw [own_sub0]
  show own_Go p e below s _ _ _ (T49.setTop (mkF m 8 #[.val (.ref vb), .val (.int (0 : Int32)), .val (.int (3 : Int32)), .unset, .unset] [(.int (3 : Int32))]))
  refine own_st (fun t9 k9 => XS.istoreN X49.here hx rfl (hb hby own_d_jdk_65_method_133_8) rfl (l' := #[.val (.ref vb), .val (.int (0 : Int32)), .val (.int (3 : Int32)), .val (.int (3 : Int32)), .unset]) rfl k9) ?_
  show own_Go p e below s _ _ _ (T49.setTop (mkF m 9 #[.val (.ref vb), .val (.int (0 : Int32)), .val (.int (3 : Int32)), .val (.int (3 : Int32)), .unset] []))
  refine own_st (fun t9 k9 => XS.iloadN X49.here hx rfl (hb hby own_d_jdk_65_method_133_9) rfl  k9) ?_
  show own_Go p e below s _ _ _ (T49.setTop (mkF m 10 #[.val (.ref vb), .val (.int (0 : Int32)), .val (.int (3 : Int32)), .val (.int (3 : Int32)), .unset] [(.int (3 : Int32))]))
  obtain ⟨T50, h50, k50, X50, e50, E50, A50, st50⟩ := newP X49 hx hZ (hw _ (List.mem_of_getElem? (i := 14) rfl)) (e49.trans hu) (g := (mkF m 10 #[.val (.ref vb), .val (.int (0 : Int32)), .val (.int (3 : Int32)), .val (.int (3 : Int32)), .unset] [(.int (3 : Int32))])) rfl (hb hby own_d_jdk_65_method_133_10) rfl (by decide) (cap := 3) (by decide) (by decide) (by decide) (by decide)
  obtain ⟨tb, g50⟩ : ∃ z, z = h0.size := ⟨_, rfl⟩
  rw [← g50] at A50 st50
  have ne_vb_tb : vb ≠ tb := Nat.ne_of_lt (Nat.lt_of_lt_of_le V_b.lt (Nat.le_of_eq g50.symm))
  have ge_tb : n0 ≤ tb := Nat.le_trans (own_z0 Od) (Nat.le_of_eq g50.symm)
  have gz_tb : h0.size ≤ tb := Nat.le_trans Kp.1 (Nat.le_of_eq g50.symm)
  have V_b := V_b.ext E50
  have Od := Od.ext E50
  have Kp := Kp.ext E50
  refine own_st st50 ?_
  show own_Go p e below s _ _ _ (T50.setTop (mkF m 12 #[.val (.ref vb), .val (.int (0 : Int32)), .val (.int (3 : Int32)), .val (.int (3 : Int32)), .unset] [(.ref tb)]))
  have V_t : Arv Z h50 tb k50 .byte (3 : Int32) [(.int (0 : Int32)), (.int (0 : Int32)), (.int (0 : Int32))] (.int (0 : Int32)) := (Arv.new A50 (by decide)).pad (pad_rep [] (.int (0 : Int32)) 3)
  refine own_st (fun t9 k9 => XS.astore X50.here hx rfl (hb hby own_d_jdk_65_method_133_12) rfl rfl (l' := #[.val (.ref vb), .val (.int (0 : Int32)), .val (.int (3 : Int32)), .val (.int (3 : Int32)), .val (.ref tb)]) rfl k9) ?_
  show own_Go p e below s _ _ _ (T50.setTop (mkF m 14 #[.val (.ref vb), .val (.int (0 : Int32)), .val (.int (3 : Int32)), .val (.int (3 : Int32)), .val (.ref tb)] []))
  refine own_st (fun t9 k9 => XS.aloadN X50.here hx rfl (hb hby own_d_jdk_65_method_133_14) rfl rfl k9) ?_
  show own_Go p e below s _ _ _ (T50.setTop (mkF m 15 #[.val (.ref vb), .val (.int (0 : Int32)), .val (.int (3 : Int32)), .val (.int (3 : Int32)), .val (.ref tb)] [(.ref vb)]))
  refine own_st (fun t9 k9 => XS.iloadN X50.here hx rfl (hb hby own_d_jdk_65_method_133_15) rfl  k9) ?_
  show own_Go p e below s _ _ _ (T50.setTop (mkF m 16 #[.val (.ref vb), .val (.int (0 : Int32)), .val (.int (3 : Int32)), .val (.int (3 : Int32)), .val (.ref tb)] [(.int (0 : Int32)), (.ref vb)]))
  refine own_st (fun t9 k9 => XS.aload X50.here hx rfl (hb hby own_d_jdk_65_method_133_16) rfl rfl k9) ?_
  show own_Go p e below s _ _ _ (T50.setTop (mkF m 18 #[.val (.ref vb), .val (.int (0 : Int32)), .val (.int (3 : Int32)), .val (.int (3 : Int32)), .val (.ref tb)] [(.ref tb), (.int (0 : Int32)), (.ref vb)]))
  refine own_st (fun t9 k9 => XS.iconst X50.here hx rfl (hb hby own_d_jdk_65_method_133_18) k9) ?_
  show own_Go p e below s _ _ _ (T50.setTop (mkF m 19 #[.val (.ref vb), .val (.int (0 : Int32)), .val (.int (3 : Int32)), .val (.int (3 : Int32)), .val (.ref tb)] [(.int (0 : Int32)), (.ref tb), (.int (0 : Int32)), (.ref vb)]))
  refine own_st (fun t9 k9 => XS.aloadN X50.here hx rfl (hb hby own_d_jdk_65_method_133_19) rfl rfl k9) ?_
  show own_Go p e below s _ _ _ (T50.setTop (mkF m 20 #[.val (.ref vb), .val (.int (0 : Int32)), .val (.int (3 : Int32)), .val (.int (3 : Int32)), .val (.ref tb)] [(.ref vb), (.int (0 : Int32)), (.ref tb), (.int (0 : Int32)), (.ref vb)]))
  refine own_st (fun t9 k9 => own_alen X50 hx hZ e50 V_b (g := (mkF m 20 #[.val (.ref vb), .val (.int (0 : Int32)), .val (.int (3 : Int32)), .val (.int (3 : Int32)), .val (.ref tb)] [(.ref vb), (.int (0 : Int32)), (.ref tb), (.int (0 : Int32)), (.ref vb)])) rfl rfl (hb hby own_d_jdk_65_method_133_20) t9 k9) ?_
  show own_Go p e below s _ _ _ (T50.setTop (mkF m 21 #[.val (.ref vb), .val (.int (0 : Int32)), .val (.int (3 : Int32)), .val (.int (3 : Int32)), .val (.ref tb)] [(.int (16 : Int32)), (.int (0 : Int32)), (.ref tb), (.int (0 : Int32)), (.ref vb)]))
  refine own_st (fun t9 k9 => XS.iloadN X50.here hx rfl (hb hby own_d_jdk_65_method_133_21) rfl  k9) ?_
  show own_Go p e below s _ _ _ (T50.setTop (mkF m 22 #[.val (.ref vb), .val (.int (0 : Int32)), .val (.int (3 : Int32)), .val (.int (3 : Int32)), .val (.ref tb)] [(.int (0 : Int32)), (.int (16 : Int32)), (.int (0 : Int32)), (.ref tb), (.int (0 : Int32)), (.ref vb)]))
  refine own_st (fun t9 k9 => XS.isub X50.here hx rfl (hb hby own_d_jdk_65_method_133_22) rfl k9) ?_
  show own_Go p e below s _ _ _ (T50.setTop (mkF m 23 #[.val (.ref vb), .val (.int (0 : Int32)), .val (.int (3 : Int32)), .val (.int (3 : Int32)), .val (.ref tb)] [(.int ((16 : Int32) - (0 : Int32))), (.int (0 : Int32)), (.ref tb), (.int (0 : Int32)), (.ref vb)]))
  rw [own_sub0]
  show own_Go p e below s _ _ _ (T50.setTop (mkF m 23 #[.val (.ref vb), .val (.int (0 : Int32)), .val (.int (3 : Int32)), .val (.int (3 : Int32)), .val (.ref tb)] [(.int (16 : Int32)), (.int (0 : Int32)), (.ref tb), (.int (0 : Int32)), (.ref vb)]))
  refine own_st (fun t9 k9 => XS.iloadN X50.here hx rfl (hb hby own_d_jdk_65_method_133_23) rfl  k9) ?_
  show own_Go p e below s _ _ _ (T50.setTop (mkF m 24 #[.val (.ref vb), .val (.int (0 : Int32)), .val (.int (3 : Int32)), .val (.int (3 : Int32)), .val (.ref tb)] [(.int (3 : Int32)), (.int (16 : Int32)), (.int (0 : Int32)), (.ref tb), (.int (0 : Int32)), (.ref vb)]))
  obtain ⟨_, T51, h51, L51, X51, e51, ⟨rfl, Nd, hv⟩, st51⟩ := own_callS X50 hx hZ hown (hw _ (List.mem_of_getElem? (i := 184) rfl)) (hw _ (List.mem_of_getElem? (i := 185) rfl)) (hw _ (List.mem_of_getElem? (i := 186) rfl)) (hw _ (List.mem_of_getElem? (i := 187) rfl)) (by decide) (own_rm_mn3 l Z a0 hw [] h50 n0 Od) (by decide) (by decide) e50 (W := 4) (g := (mkF m 24 #[.val (.ref vb), .val (.int (0 : Int32)), .val (.int (3 : Int32)), .val (.int (3 : Int32)), .val (.ref tb)] [(.int (3 : Int32)), (.int (16 : Int32)), (.int (0 : Int32)), (.ref tb), (.int (0 : Int32)), (.ref vb)])) rfl (by rw [hml]; rfl) (argsL := [(.int (16 : Int32)), (.int (3 : Int32))]) (rest := [(.int (0 : Int32)), (.ref tb), (.int (0 : Int32)), (.ref vb)]) rfl (lenOf own_pd11 rfl) rfl (by show 2 * 0 + _ ≤ _; exact Nat.le_of_eq rfl) (hb hby own_d_jdk_65_method_133_24) (by decide) (by decide)
  have N51 := Fr.app N49 Nd
  refine own_st st51 ?_
  show own_Go p e below s _ _ _ (T51.setTop (mkF m 27 #[.val (.ref vb), .val (.int (0 : Int32)), .val (.int (3 : Int32)), .val (.int (3 : Int32)), .val (.ref tb)] [(.int (3 : Int32)), (.int (0 : Int32)), (.ref tb), (.int (0 : Int32)), (.ref vb)]))
  obtain ⟨T52, h52, L52, X52, e52, N52, Kq52, V_u, st52⟩ := cpA X51 hx hZ hown (hw _ (List.mem_of_getElem? (i := 188) rfl)) (hw _ (List.mem_of_getElem? (i := 142) rfl)) (hw _ (List.mem_of_getElem? (i := 140) rfl)) (hw _ (List.mem_of_getElem? (i := 141) rfl)) (e51.trans hv) V_b V_t (Or.inl ⟨rfl, rfl⟩) (by decide) (by decide) (by decide) (by decide) (by decide) (us := us) hus (by decide) N51 ge_tb (g := (mkF m 27 #[.val (.ref vb), .val (.int (0 : Int32)), .val (.int (3 : Int32)), .val (.int (3 : Int32)), .val (.ref tb)] [(.int (3 : Int32)), (.int (0 : Int32)), (.ref tb), (.int (0 : Int32)), (.ref vb)])) rfl (by rw [hml]; rfl) (rest := []) rfl (hb hby own_d_jdk_65_method_133_27) (by decide) (W := 0) (by show 2 * 0 + _ ≤ _; exact Nat.le_of_eq rfl) (by decide)
  have V_b := V_b.keep Kq52 (ninS ne_vb_tb nin0)
  have Od := Od.keep Kq52 (allS ge_tb all0)
  have Kp := Kp.trans Kq52 (allS (Or.inr gz_tb) all0)
  refine own_st st52 ?_
  show own_Go p e below s _ _ _ (T52.setTop (mkF m 30 #[.val (.ref vb), .val (.int (0 : Int32)), .val (.int (3 : Int32)), .val (.int (3 : Int32)), .val (.ref tb)] []))
  have V_w : Arv Z h52 tb k50 .byte (3 : Int32) us (.int (0 : Int32)) := by
    have q : Arv Z h52 tb k50 .byte (3 : Int32) ([] ++ us ++ []) (.int (0 : Int32)) := V_u
    rw [List.append_nil, List.nil_append] at q
    exact q
  refine own_st (fun t9 k9 => XS.aload X52.here hx rfl (hb hby own_d_jdk_65_method_133_30) rfl rfl k9) ?_
  show own_Go p e below s _ _ _ (T52.setTop (mkF m 32 #[.val (.ref vb), .val (.int (0 : Int32)), .val (.int (3 : Int32)), .val (.int (3 : Int32)), .val (.ref tb)] [(.ref tb)]))
  exact own_retR X52 hx hlk Bd.returns rfl rfl (hb hby own_d_jdk_65_method_133_32) (by decide) (by decide) (by rw [e52]; exact ⟨N52, Kp, tb, _, rfl, gz_tb, V_w⟩)
theorem own_d_jdk_65_method_132_0 : decode jdk_65_method_132_code 0 = .ok (.iload_n 1, 1) := by decide +kernel
theorem own_d_jdk_65_method_132_1 : decode jdk_65_method_132_code 1 = .ok (.ifCond .ne 9, 3) := by decide +kernel
theorem own_d_jdk_65_method_132_4 : decode jdk_65_method_132_code 4 = .ok (.iload_n 2, 1) := by decide +kernel
theorem own_d_jdk_65_method_132_5 : decode jdk_65_method_132_code 5 = .ok (.aload_n 0, 1) := by decide +kernel
theorem own_d_jdk_65_method_132_6 : decode jdk_65_method_132_code 6 = .ok (.arraylength, 1) := by decide +kernel
theorem own_d_jdk_65_method_132_7 : decode jdk_65_method_132_code 7 = .ok (.if_icmp .eq 10, 3) := by decide +kernel
theorem own_d_jdk_65_method_132_10 : decode jdk_65_method_132_code 10 = .ok (.aload_n 0, 1) := by decide +kernel
theorem own_d_jdk_65_method_132_11 : decode jdk_65_method_132_code 11 = .ok (.iload_n 1, 1) := by decide +kernel
theorem own_d_jdk_65_method_132_12 : decode jdk_65_method_132_code 12 = .ok (.iload_n 2, 1) := by decide +kernel
theorem own_pd12 : parseMethodDescriptor "([BII)[B" = some ⟨[(.array .byte), .int, .int], some (.array .byte)⟩ := by decide +kernel
theorem own_d_jdk_65_method_132_13 : decode jdk_65_method_132_code 13 = .ok (.invokestatic 339, 3) := by decide +kernel
theorem own_d_jdk_65_method_132_16 : decode jdk_65_method_132_code 16 = .ok (.areturn, 1) := by decide +kernel
theorem own_ef_cor3 (m : MethodId) (x0 : Addr) (x1 : Int32) (x2 : Int32) : entryFrame m #[(.ref x0), (.int x1), (.int x2)] 3 = mkF m 0 #[.val (.ref x0), .val (.int x1), .val (.int x2)] [] := by first | (simp [entryFrame, mkF, argsToLocals, Value.category]; done) | rfl
def own_Q_cor3 (Z : State) (us : List Value) (h0 : Heap) (n0 : Nat) (v : Option Value) (h : Heap) (L : List Loc) : Prop := Fr n0 L ∧ Keep h0 h [] ∧ ∃ tb k, v = some (.ref tb) ∧ h0.size ≤ tb ∧ Arv Z h tb k .byte (3 : Int32) us (.int (0 : Int32))
set_option maxRecDepth 65536 in
set_option maxHeartbeats 40000000 in
theorem own_rm_cor3 (l : Launch) (Z : State) (a0 : Array Value) (hw : ∀ d ∈ tables_1, d.before a0 Z = true) (ws : List Jvm.Cond) (vb : Addr) (kv : ClassId) (vd us : List Value) (h0 : Heap) (n0 : Nat) (Od : Old Z n0 h0) (V_b : Arv Z h0 vb kv .byte (16 : Int32) vd (.int (0 : Int32))) (hus : us = (List.range (3 : Int32).toNatClampNeg).map fun i => vd.getD ((0 : Int32).toNatClampNeg + i) (.int (0 : Int32))) :
    MetFree l (⟨"java/util/Arrays", "copyOfRange", "([BII)[B"⟩ : MethodName) (head1 (Jvm.Cond.code (⟨"java/util/Arrays", "copyOfRange", "([BII)[B"⟩ : MethodName) jdk_65_method_132_code 3 (some (.array .byte)) :: ws) ({ frames := 2, cells := 1, slots := 3, locals := 34 } : Room)) (fun a9 U => a9 = #[(.ref vb), (.int (0 : Int32)), (.int (3 : Int32))] ∧ Z.Warmed39 U.vm ∧ U.heap = h0) (fun _ _ _ _ _ => True) (fun _ U o U' => ∃ v L, o = .returned v ∧ own_Q_cor3 Z us h0 n0 v U'.heap L ∧ FrameEnd U o U' L ({ frames := 2, cells := 1, slots := 3, locals := 34 } : Room).cells ({ frames := 2, cells := 1, slots := 3, locals := 34 } : Room).slots) := by
  refine MetFree.of_bodySF (plainFor_of_name own_pn6) hisR ?_
  intro p e s m args below meth c s₁ Bd hml0 hP hK
  obtain ⟨rfl, hZ, hh⟩ := hP
  have hx := Bd.exec
  have hby := Bd.bytes
  have hml : c.maxLocals = 3 := hml0
  have hown : s.vm.findClass "java/util/Arrays" = some m.cls := findClass_of_methodNamed Bd.named
  have hnm := (name_of_methodNamed Bd.named Bd.method).1
  have hlk : meth.locks = false := Bd.notSynchronized
  have X0 : Stand p l e ({ frames := 2, cells := 1, slots := 3, locals := 34 } : Room) s m #[(.ref vb), (.int (0 : Int32)), (.int (3 : Int32))] below meth c s₁ [] 0 0 := Stand.of_body Bd
  have e0 : s₁.heap = h0 := by rw [← hh, Bd.state]; rfl
  have N0 := Fr.nil n0
  show own_Go p e below s (own_Q_cor3 Z us h0 n0) ({ frames := 2, cells := 1, slots := 3, locals := 34 } : Room).cells ({ frames := 2, cells := 1, slots := 3, locals := 34 } : Room).slots (s₁.setTop (entryFrame m #[(.ref vb), (.int (0 : Int32)), (.int (3 : Int32))] 3))
  refine own_st (fun t9 k9 => castTop (own_ef_cor3 m vb (0 : Int32) (3 : Int32)) k9) ?_
  show own_Go p e below s _ _ _ (s₁.setTop (mkF m 0 #[.val (.ref vb), .val (.int (0 : Int32)), .val (.int (3 : Int32))] []))
  have Kp : Keep h0 h0 [] := Keep.refl h0 []
  refine own_st (fun t9 k9 => XS.iloadN X0.here hx rfl (hb hby own_d_jdk_65_method_132_0) rfl  k9) ?_
  show own_Go p e below s _ _ _ (s₁.setTop (mkF m 1 #[.val (.ref vb), .val (.int (0 : Int32)), .val (.int (3 : Int32))] [(.int (0 : Int32))]))
  refine own_st (fun t9 k9 => XS.ifNo X0.here hx rfl (hb hby own_d_jdk_65_method_132_1) rfl (by decide) k9) ?_
  show own_Go p e below s _ _ _ (s₁.setTop (mkF m 4 #[.val (.ref vb), .val (.int (0 : Int32)), .val (.int (3 : Int32))] []))
  refine own_st (fun t9 k9 => XS.iloadN X0.here hx rfl (hb hby own_d_jdk_65_method_132_4) rfl  k9) ?_
  show own_Go p e below s _ _ _ (s₁.setTop (mkF m 5 #[.val (.ref vb), .val (.int (0 : Int32)), .val (.int (3 : Int32))] [(.int (3 : Int32))]))
  refine own_st (fun t9 k9 => XS.aloadN X0.here hx rfl (hb hby own_d_jdk_65_method_132_5) rfl rfl k9) ?_
  show own_Go p e below s _ _ _ (s₁.setTop (mkF m 6 #[.val (.ref vb), .val (.int (0 : Int32)), .val (.int (3 : Int32))] [(.ref vb), (.int (3 : Int32))]))
  refine own_st (fun t9 k9 => own_alen X0 hx hZ e0 V_b (g := (mkF m 6 #[.val (.ref vb), .val (.int (0 : Int32)), .val (.int (3 : Int32))] [(.ref vb), (.int (3 : Int32))])) rfl rfl (hb hby own_d_jdk_65_method_132_6) t9 k9) ?_
  show own_Go p e below s _ _ _ (s₁.setTop (mkF m 7 #[.val (.ref vb), .val (.int (0 : Int32)), .val (.int (3 : Int32))] [(.int (16 : Int32)), (.int (3 : Int32))]))
  refine own_st (fun t9 k9 => XS.icmpNo X0.here hx rfl (hb hby own_d_jdk_65_method_132_7) rfl (by decide) k9) ?_
  show own_Go p e below s _ _ _ (s₁.setTop (mkF m 10 #[.val (.ref vb), .val (.int (0 : Int32)), .val (.int (3 : Int32))] []))
  refine own_st (fun t9 k9 => XS.aloadN X0.here hx rfl (hb hby own_d_jdk_65_method_132_10) rfl rfl k9) ?_
  show own_Go p e below s _ _ _ (s₁.setTop (mkF m 11 #[.val (.ref vb), .val (.int (0 : Int32)), .val (.int (3 : Int32))] [(.ref vb)]))
  refine own_st (fun t9 k9 => XS.iloadN X0.here hx rfl (hb hby own_d_jdk_65_method_132_11) rfl  k9) ?_
  show own_Go p e below s _ _ _ (s₁.setTop (mkF m 12 #[.val (.ref vb), .val (.int (0 : Int32)), .val (.int (3 : Int32))] [(.int (0 : Int32)), (.ref vb)]))
  refine own_st (fun t9 k9 => XS.iloadN X0.here hx rfl (hb hby own_d_jdk_65_method_132_12) rfl  k9) ?_
  show own_Go p e below s _ _ _ (s₁.setTop (mkF m 13 #[.val (.ref vb), .val (.int (0 : Int32)), .val (.int (3 : Int32))] [(.int (3 : Int32)), (.int (0 : Int32)), (.ref vb)]))
  obtain ⟨_, T53, h53, L53, X53, e53, ⟨Nc, Kc, tb, kb, rfl, gtb, V_t⟩, st53⟩ := own_callS X0 hx hZ hown (hw _ (List.mem_of_getElem? (i := 178) rfl)) (hw _ (List.mem_of_getElem? (i := 179) rfl)) (hw _ (List.mem_of_getElem? (i := 176) rfl)) (hw _ (List.mem_of_getElem? (i := 180) rfl)) (by decide) (own_rm_crb3 l Z a0 hw [] vb kv vd us h0 n0 Od V_b hus) (by decide) (by decide) e0 (W := 0) (g := (mkF m 13 #[.val (.ref vb), .val (.int (0 : Int32)), .val (.int (3 : Int32))] [(.int (3 : Int32)), (.int (0 : Int32)), (.ref vb)])) rfl (by rw [hml]; rfl) (argsL := [(.ref vb), (.int (0 : Int32)), (.int (3 : Int32))]) (rest := []) rfl (lenOf own_pd12 rfl) rfl (by show 2 * 0 + _ ≤ _; exact Nat.le_of_eq rfl) (hb hby own_d_jdk_65_method_132_13) (by decide) (by decide)
  have N53 := Fr.app N0 Nc
  have V_b := V_b.keep Kc nin0
  have Od := Od.keep Kc all0
  have Kp := Kp.trans Kc all0
  refine own_st st53 ?_
  show own_Go p e below s _ _ _ (T53.setTop (mkF m 16 #[.val (.ref vb), .val (.int (0 : Int32)), .val (.int (3 : Int32))] [(.ref tb)]))
  exact own_retR X53 hx hlk Bd.returns rfl rfl (hb hby own_d_jdk_65_method_132_16) (by decide) (by decide) (by rw [e53]; exact ⟨N53, Kp, tb, kb, rfl, gtb, V_t⟩)
theorem own_d_jdk_42_method_150_0 : decode jdk_42_method_150_code 0 = .ok (.aload_n 0, 1) := by decide +kernel
theorem own_d_jdk_42_method_150_1 : decode jdk_42_method_150_code 1 = .ok (.invokespecial 1, 3) := by decide +kernel
theorem own_d_jdk_42_method_150_4 : decode jdk_42_method_150_code 4 = .ok (.aload_n 1, 1) := by decide +kernel
theorem own_pd13 : parseMethodDescriptor "()[B" = some ⟨[], some (.array .byte)⟩ := by decide +kernel
theorem own_d_jdk_42_method_150_5 : decode jdk_42_method_150_code 5 = .ok (.invokevirtual 552, 3) := by decide +kernel
theorem own_d_jdk_42_method_150_8 : decode jdk_42_method_150_code 8 = .ok (.astore_n 3, 1) := by decide +kernel
theorem own_d_jdk_42_method_150_9 : decode jdk_42_method_150_code 9 = .ok (.aload_n 1, 1) := by decide +kernel
theorem own_d_jdk_42_method_150_10 : decode jdk_42_method_150_code 10 = .ok (.invokevirtual 549, 3) := by decide +kernel
theorem own_d_jdk_42_method_150_13 : decode jdk_42_method_150_code 13 = .ok (.istore 4, 2) := by decide +kernel
theorem own_d_jdk_42_method_150_15 : decode jdk_42_method_150_code 15 = .ok (.aload_n 1, 1) := by decide +kernel
theorem own_pd14 : parseMethodDescriptor "()Z" = some ⟨[], some .boolean⟩ := by decide +kernel
theorem own_d_jdk_42_method_150_16 : decode jdk_42_method_150_code 16 = .ok (.invokevirtual 1047, 3) := by decide +kernel
theorem own_d_jdk_42_method_150_19 : decode jdk_42_method_150_code 19 = .ok (.ifCond .eq 22, 3) := by decide +kernel
theorem own_d_jdk_42_method_150_22 : decode jdk_42_method_150_code 22 = .ok (.aload_n 0, 1) := by decide +kernel
theorem own_d_jdk_42_method_150_23 : decode jdk_42_method_150_code 23 = .ok (.iconst 0, 1) := by decide +kernel
theorem own_d_jdk_42_method_150_24 : decode jdk_42_method_150_code 24 = .ok (.putfield 15, 3) := by decide +kernel
theorem own_d_jdk_42_method_150_27 : decode jdk_42_method_150_code 27 = .ok (.aload_n 0, 1) := by decide +kernel
theorem own_d_jdk_42_method_150_28 : decode jdk_42_method_150_code 28 = .ok (.aload_n 3, 1) := by decide +kernel
theorem own_d_jdk_42_method_150_29 : decode jdk_42_method_150_code 29 = .ok (.iconst 0, 1) := by decide +kernel
theorem own_d_jdk_42_method_150_30 : decode jdk_42_method_150_code 30 = .ok (.iload 4, 2) := by decide +kernel
theorem own_d_jdk_42_method_150_32 : decode jdk_42_method_150_code 32 = .ok (.invokestatic 54, 3) := by decide +kernel
theorem own_d_jdk_42_method_150_35 : decode jdk_42_method_150_code 35 = .ok (.putfield 9, 3) := by decide +kernel
theorem own_d_jdk_42_method_150_38 : decode jdk_42_method_150_code 38 = .ok (.goto 59, 3) := by decide +kernel
theorem own_d_jdk_42_method_150_97 : decode jdk_42_method_150_code 97 = .ok (.return_, 1) := by decide +kernel
theorem own_ef_sv3 (m : MethodId) (x0 : Addr) (x1 : Addr) : entryFrame m #[(.ref x0), (.ref x1), .null] 5 = mkF m 0 #[.val (.ref x0), .val (.ref x1), .val .null, .unset, .unset] [] := by first | (simp [entryFrame, mkF, argsToLocals, Value.category]; done) | rfl
def own_Q_sv3 (Z : State) (y : Addr) (us : List Value) (h0 : Heap) (n0 : Nat) (v : Option Value) (h : Heap) (L : List Loc) : Prop := v = none ∧ Fr n0 L ∧ Keep h0 h [y] ∧ Exa Z h y "java/lang/String" ∧ Fld Z h y "java/lang/String" "coder" "B" (.int (0 : Int32)) ∧ ∃ tb k, Fld Z h y "java/lang/String" "value" "[B" (.ref tb) ∧ Arv Z h tb k .byte (3 : Int32) us (.int (0 : Int32))
set_option maxRecDepth 65536 in
set_option maxHeartbeats 40000000 in
theorem own_rm_sv3 (l : Launch) (Z : State) (a0 : Array Value) (hw : ∀ d ∈ tables_1, d.before a0 Z = true) (ws : List Jvm.Cond) (y x vb : Addr) (kv : ClassId) (vd us : List Value) (G : Int32) (h0 : Heap) (n0 : Nat) (Od : Old Z n0 h0) (E_y : Exa Z h0 y "java/lang/String") (W_v : Fld Z h0 y "java/lang/String" "value" "[B" .null) (W_k : Fld Z h0 y "java/lang/String" "coder" "B" (.int (0 : Int32))) (ge_y : n0 ≤ y) (ne_vb_y : vb ≠ y) (E_x : Exa Z h0 x "java/lang/StringBuilder") (F_v : Fld Z h0 x "java/lang/AbstractStringBuilder" "value" "[B" (.ref vb)) (F_k : Fld Z h0 x "java/lang/AbstractStringBuilder" "coder" "B" (.int (0 : Int32))) (F_c : Fld Z h0 x "java/lang/AbstractStringBuilder" "count" "I" (.int (3 : Int32))) (V_b : Arv Z h0 vb kv .byte (16 : Int32) vd (.int (0 : Int32))) (hus : us = (List.range (3 : Int32).toNatClampNeg).map fun i => vd.getD ((0 : Int32).toNatClampNeg + i) (.int (0 : Int32))) (O2 : Sta Z Z.heap "java/lang/String" "COMPACT_STRINGS" "Z" (.int G)) (P5 : ¬ (G = (0 : Int32))) :
    MetFree l (⟨"java/lang/String", "<init>", "(Ljava/lang/AbstractStringBuilder;Ljava/lang/Void;)V"⟩ : MethodName) (head1 (Jvm.Cond.code (⟨"java/lang/String", "<init>", "(Ljava/lang/AbstractStringBuilder;Ljava/lang/Void;)V"⟩ : MethodName) jdk_42_method_150_code 5 none :: ws) ({ frames := 3, cells := 1, slots := 3, locals := 49 } : Room)) (fun a9 U => a9 = #[(.ref y), (.ref x), .null] ∧ Z.Warmed39 U.vm ∧ U.heap = h0) (fun _ _ _ _ _ => True) (fun _ U o U' => ∃ v L, o = .returned v ∧ own_Q_sv3 Z y us h0 n0 v U'.heap L ∧ FrameEnd U o U' L ({ frames := 3, cells := 1, slots := 3, locals := 49 } : Room).cells ({ frames := 3, cells := 1, slots := 3, locals := 49 } : Room).slots) := by
  refine MetFree.of_bodySF (plainFor_of_name own_pn1) hisR ?_
  intro p e s m args below meth c s₁ Bd hml0 hP hK
  obtain ⟨rfl, hZ, hh⟩ := hP
  have hx := Bd.exec
  have hby := Bd.bytes
  have hml : c.maxLocals = 5 := hml0
  have hown : s.vm.findClass "java/lang/String" = some m.cls := findClass_of_methodNamed Bd.named
  have hnm := (name_of_methodNamed Bd.named Bd.method).1
  have hlk : meth.locks = false := Bd.notSynchronized
  have X0 : Stand p l e ({ frames := 3, cells := 1, slots := 3, locals := 49 } : Room) s m #[(.ref y), (.ref x), .null] below meth c s₁ [] 0 0 := Stand.of_body Bd
  have e0 : s₁.heap = h0 := by rw [← hh, Bd.state]; rfl
  have N0 := Fr.nil n0
  show own_Go p e below s (own_Q_sv3 Z y us h0 n0) ({ frames := 3, cells := 1, slots := 3, locals := 49 } : Room).cells ({ frames := 3, cells := 1, slots := 3, locals := 49 } : Room).slots (s₁.setTop (entryFrame m #[(.ref y), (.ref x), .null] 5))
  refine own_st (fun t9 k9 => castTop (own_ef_sv3 m y x) k9) ?_
  show own_Go p e below s _ _ _ (s₁.setTop (mkF m 0 #[.val (.ref y), .val (.ref x), .val .null, .unset, .unset] []))
  have ne_x_y : x ≠ y := Exa.ne E_x E_y (by decide)
  have Kp : Keep h0 h0 [y] := Keep.refl h0 [y]
  refine own_st (fun t9 k9 => XS.aloadN X0.here hx rfl (hb hby own_d_jdk_42_method_150_0) rfl rfl k9) ?_
  show own_Go p e below s _ _ _ (s₁.setTop (mkF m 1 #[.val (.ref y), .val (.ref x), .val .null, .unset, .unset] [(.ref y)]))
  obtain ⟨T54, X54, e54, st54⟩ := initO X0 hx hZ hown (hw _ (List.mem_of_getElem? (i := 19) rfl)) (hw _ (List.mem_of_getElem? (i := 20) rfl)) (hw _ (List.mem_of_getElem? (i := 21) rfl)) e0 (g := (mkF m 1 #[.val (.ref y), .val (.ref x), .val .null, .unset, .unset] [(.ref y)])) rfl (by rw [hml]; rfl) rfl (hb hby own_d_jdk_42_method_150_1) (by decide) (W := 0) (by show 2 * 0 + _ ≤ _; exact Nat.le_of_eq rfl) (by decide)
  refine own_st st54 ?_
  show own_Go p e below s _ _ _ (T54.setTop (mkF m 4 #[.val (.ref y), .val (.ref x), .val .null, .unset, .unset] []))
  refine own_st (fun t9 k9 => XS.aloadN X54.here hx rfl (hb hby own_d_jdk_42_method_150_4) rfl rfl k9) ?_
  show own_Go p e below s _ _ _ (T54.setTop (mkF m 5 #[.val (.ref y), .val (.ref x), .val .null, .unset, .unset] [(.ref x)]))
  obtain ⟨_, T55, h55, L55, X55, e55, ⟨rfl, Nc, hu⟩, st55⟩ := own_callV X54 hx hZ hown (hw _ (List.mem_of_getElem? (i := 156) rfl)) (hw _ (List.mem_of_getElem? (i := 157) rfl)) (hw _ (List.mem_of_getElem? (i := 159) rfl)) (hw _ (List.mem_of_getElem? (i := 158) rfl)) (hw _ (List.mem_of_getElem? (i := 88) rfl)) (hw _ (List.mem_of_getElem? (i := 160) rfl)) (by decide) (own_rm_gv l Z a0 hw [] x vb h0 n0 Od F_v) (by decide) (by decide) e54 (b := x) E_x (W := 0) (g := (mkF m 5 #[.val (.ref y), .val (.ref x), .val .null, .unset, .unset] [(.ref x)])) rfl (by rw [hml]; rfl) (argsL := []) (rest := []) rfl (lenOf own_pd13 rfl) rfl (by show 2 * 0 + _ ≤ _; exact Nat.le_of_eq rfl) (hb hby own_d_jdk_42_method_150_5) (by decide) (by decide)
  have N55 := Fr.app N0 Nc
  refine own_st st55 ?_
  show own_Go p e below s _ _ _ (T55.setTop (mkF m 8 #[.val (.ref y), .val (.ref x), .val .null, .unset, .unset] [(.ref vb)]))
  refine own_st (fun t9 k9 => XS.astoreN X55.here hx rfl (hb hby own_d_jdk_42_method_150_8) rfl rfl (l' := #[.val (.ref y), .val (.ref x), .val .null, .val (.ref vb), .unset]) rfl k9) ?_
  show own_Go p e below s _ _ _ (T55.setTop (mkF m 9 #[.val (.ref y), .val (.ref x), .val .null, .val (.ref vb), .unset] []))
  refine own_st (fun t9 k9 => XS.aloadN X55.here hx rfl (hb hby own_d_jdk_42_method_150_9) rfl rfl k9) ?_
  show own_Go p e below s _ _ _ (T55.setTop (mkF m 10 #[.val (.ref y), .val (.ref x), .val .null, .val (.ref vb), .unset] [(.ref x)]))
  obtain ⟨_, T56, h56, L56, X56, e56, ⟨rfl, Nd, hv⟩, st56⟩ := own_callVZ X55 hx hZ hown (hw _ (List.mem_of_getElem? (i := 161) rfl)) (hw _ (List.mem_of_getElem? (i := 162) rfl)) (hw _ (List.mem_of_getElem? (i := 121) rfl)) rfl (hw _ (List.mem_of_getElem? (i := 163) rfl)) (hw _ (List.mem_of_getElem? (i := 164) rfl)) (hw _ (List.mem_of_getElem? (i := 165) rfl)) (hw _ (List.mem_of_getElem? (i := 80) rfl)) (hw _ (List.mem_of_getElem? (i := 166) rfl)) (by decide) (own_rm_sln l Z a0 hw [] x (3 : Int32) h0 n0 Od E_x F_c) (by decide) (by decide) (e55.trans hu) (b := x) E_x (W := 0) (g := (mkF m 10 #[.val (.ref y), .val (.ref x), .val .null, .val (.ref vb), .unset] [(.ref x)])) rfl (by rw [hml]; rfl) (argsL := []) (rest := []) rfl (lenOf own_pd7 rfl) rfl (by show 2 * 0 + _ ≤ _; exact Nat.le_of_eq rfl) (hb hby own_d_jdk_42_method_150_10) (by decide) (by decide)
  have N56 := Fr.app N55 Nd
  refine own_st st56 ?_
  show own_Go p e below s _ _ _ (T56.setTop (mkF m 13 #[.val (.ref y), .val (.ref x), .val .null, .val (.ref vb), .unset] [(.int (3 : Int32))]))
  refine own_st (fun t9 k9 => XS.istore X56.here hx rfl (hb hby own_d_jdk_42_method_150_13) rfl (l' := #[.val (.ref y), .val (.ref x), .val .null, .val (.ref vb), .val (.int (3 : Int32))]) rfl k9) ?_
  show own_Go p e below s _ _ _ (T56.setTop (mkF m 15 #[.val (.ref y), .val (.ref x), .val .null, .val (.ref vb), .val (.int (3 : Int32))] []))
  refine own_st (fun t9 k9 => XS.aloadN X56.here hx rfl (hb hby own_d_jdk_42_method_150_15) rfl rfl k9) ?_
  show own_Go p e below s _ _ _ (T56.setTop (mkF m 16 #[.val (.ref y), .val (.ref x), .val .null, .val (.ref vb), .val (.int (3 : Int32))] [(.ref x)]))
  obtain ⟨_, T57, h57, L57, X57, e57, ⟨rfl, Nq, hq⟩, st57⟩ := own_callV X56 hx hZ hown (hw _ (List.mem_of_getElem? (i := 169) rfl)) (hw _ (List.mem_of_getElem? (i := 170) rfl)) (hw _ (List.mem_of_getElem? (i := 172) rfl)) (hw _ (List.mem_of_getElem? (i := 171) rfl)) (hw _ (List.mem_of_getElem? (i := 88) rfl)) (hw _ (List.mem_of_getElem? (i := 173) rfl)) (by decide) (own_rm_isl l Z a0 hw [] x G h0 n0 Od O2 P5 F_k) (by decide) (by decide) (e56.trans hv) (b := x) E_x (W := 0) (g := (mkF m 16 #[.val (.ref y), .val (.ref x), .val .null, .val (.ref vb), .val (.int (3 : Int32))] [(.ref x)])) rfl (by rw [hml]; rfl) (argsL := []) (rest := []) rfl (lenOf own_pd14 rfl) rfl (by show 2 * 0 + _ ≤ _; exact Nat.le_of_eq rfl) (hb hby own_d_jdk_42_method_150_16) (by decide) (by decide)
  have N57 := Fr.app N56 Nq
  refine own_st st57 ?_
  show own_Go p e below s _ _ _ (T57.setTop (mkF m 19 #[.val (.ref y), .val (.ref x), .val .null, .val (.ref vb), .val (.int (3 : Int32))] [(.int (1 : Int32))]))
  refine own_st (fun t9 k9 => XS.ifNo X57.here hx rfl (hb hby own_d_jdk_42_method_150_19) rfl (by decide) k9) ?_
  show own_Go p e below s _ _ _ (T57.setTop (mkF m 22 #[.val (.ref y), .val (.ref x), .val .null, .val (.ref vb), .val (.int (3 : Int32))] []))
  refine own_st (fun t9 k9 => XS.aloadN X57.here hx rfl (hb hby own_d_jdk_42_method_150_22) rfl rfl k9) ?_
  show own_Go p e below s _ _ _ (T57.setTop (mkF m 23 #[.val (.ref y), .val (.ref x), .val .null, .val (.ref vb), .val (.int (3 : Int32))] [(.ref y)]))
  refine own_st (fun t9 k9 => XS.iconst X57.here hx rfl (hb hby own_d_jdk_42_method_150_23) k9) ?_
  show own_Go p e below s _ _ _ (T57.setTop (mkF m 24 #[.val (.ref y), .val (.ref x), .val .null, .val (.ref vb), .val (.int (3 : Int32))] [(.int (0 : Int32)), (.ref y)]))
  obtain ⟨T58, h58, X58, e58, W58, st58⟩ := putFN X57 hx hZ hown (hw _ (List.mem_of_getElem? (i := 24) rfl)) Via.refl (e57.trans hq) W_k E_y (Or.inr ⟨(hw _ (List.mem_of_getElem? (i := 25) rfl)), rfl, hnm⟩) (hw _ (List.mem_of_getElem? (i := 10) rfl)) (ty := .byte) (v' := (.int (0 : Int32))) (by decide) rfl rfl (g := (mkF m 24 #[.val (.ref y), .val (.ref x), .val .null, .val (.ref vb), .val (.int (3 : Int32))] [(.int (0 : Int32)), (.ref y)])) rfl rfl (hb hby own_d_jdk_42_method_150_24)
  have N58 := Fr.snoc X58 N57 ge_y
  have E_y := E_y.wr W58
  have W_v := W_v.other W58 (Or.inr (RoadKit.slot_ne (Or.inr (hw _ (List.mem_of_getElem? (i := 23) rfl))) (Or.inr (hw _ (List.mem_of_getElem? (i := 25) rfl))) (by decide) (t := (.array .byte)) (t' := .byte) (by decide) (by decide)))
  have W_k := W_k.same W58
  have E_x := E_x.wr W58
  have F_v := F_v.other W58 (Or.inl ne_x_y)
  have F_k := F_k.other W58 (Or.inl ne_x_y)
  have F_c := F_c.other W58 (Or.inl ne_x_y)
  have V_b := V_b.other W58 ne_vb_y
  have Od := Od.wr W58 ge_y
  have Kp := Kp.wr W58 (Or.inl (List.mem_of_getElem? (i := 0) rfl))
  refine own_st st58 ?_
  show own_Go p e below s _ _ _ (T58.setTop (mkF m 27 #[.val (.ref y), .val (.ref x), .val .null, .val (.ref vb), .val (.int (3 : Int32))] []))
  refine own_st (fun t9 k9 => XS.aloadN X58.here hx rfl (hb hby own_d_jdk_42_method_150_27) rfl rfl k9) ?_
  show own_Go p e below s _ _ _ (T58.setTop (mkF m 28 #[.val (.ref y), .val (.ref x), .val .null, .val (.ref vb), .val (.int (3 : Int32))] [(.ref y)]))
  refine own_st (fun t9 k9 => XS.aloadN X58.here hx rfl (hb hby own_d_jdk_42_method_150_28) rfl rfl k9) ?_
  show own_Go p e below s _ _ _ (T58.setTop (mkF m 29 #[.val (.ref y), .val (.ref x), .val .null, .val (.ref vb), .val (.int (3 : Int32))] [(.ref vb), (.ref y)]))
  refine own_st (fun t9 k9 => XS.iconst X58.here hx rfl (hb hby own_d_jdk_42_method_150_29) k9) ?_
  show own_Go p e below s _ _ _ (T58.setTop (mkF m 30 #[.val (.ref y), .val (.ref x), .val .null, .val (.ref vb), .val (.int (3 : Int32))] [(.int (0 : Int32)), (.ref vb), (.ref y)]))
  refine own_st (fun t9 k9 => XS.iload X58.here hx rfl (hb hby own_d_jdk_42_method_150_30) rfl  k9) ?_
  show own_Go p e below s _ _ _ (T58.setTop (mkF m 32 #[.val (.ref y), .val (.ref x), .val .null, .val (.ref vb), .val (.int (3 : Int32))] [(.int (3 : Int32)), (.int (0 : Int32)), (.ref vb), (.ref y)]))
  obtain ⟨_, T59, h59, L59, X59, e59, ⟨Nr, Kr, tb, kb, rfl, gtb, V_t⟩, st59⟩ := own_callS X58 hx hZ hown (hw _ (List.mem_of_getElem? (i := 174) rfl)) (hw _ (List.mem_of_getElem? (i := 175) rfl)) (hw _ (List.mem_of_getElem? (i := 176) rfl)) (hw _ (List.mem_of_getElem? (i := 177) rfl)) (by decide) (own_rm_cor3 l Z a0 hw [] vb kv vd us h58 n0 Od V_b hus) (by decide) (by decide) e58 (W := 1) (g := (mkF m 32 #[.val (.ref y), .val (.ref x), .val .null, .val (.ref vb), .val (.int (3 : Int32))] [(.int (3 : Int32)), (.int (0 : Int32)), (.ref vb), (.ref y)])) rfl (by rw [hml]; rfl) (argsL := [(.ref vb), (.int (0 : Int32)), (.int (3 : Int32))]) (rest := [(.ref y)]) rfl (lenOf own_pd12 rfl) rfl (by show 2 * 0 + _ ≤ _; exact Nat.le_of_eq rfl) (hb hby own_d_jdk_42_method_150_32) (by decide) (by decide)
  have N59 := Fr.app N58 Nr
  have ne_y_tb : y ≠ tb := Nat.ne_of_lt (Nat.lt_of_lt_of_le E_y.lt gtb)
  have ne_x_tb : x ≠ tb := Nat.ne_of_lt (Nat.lt_of_lt_of_le E_x.lt gtb)
  have ne_vb_tb : vb ≠ tb := Nat.ne_of_lt (Nat.lt_of_lt_of_le V_b.lt gtb)
  have ge_tb : n0 ≤ tb := Nat.le_trans (own_z0 Od) gtb
  have gz_tb : h0.size ≤ tb := Nat.le_trans Kp.1 gtb
  have E_y := E_y.keep Kr
  have W_v := W_v.keep Kr nin0
  have W_k := W_k.keep Kr nin0
  have E_x := E_x.keep Kr
  have F_v := F_v.keep Kr nin0
  have F_k := F_k.keep Kr nin0
  have F_c := F_c.keep Kr nin0
  have V_b := V_b.keep Kr nin0
  have Od := Od.keep Kr all0
  have Kp := Kp.trans Kr all0
  refine own_st st59 ?_
  show own_Go p e below s _ _ _ (T59.setTop (mkF m 35 #[.val (.ref y), .val (.ref x), .val .null, .val (.ref vb), .val (.int (3 : Int32))] [(.ref tb), (.ref y)]))
  obtain ⟨T60, h60, X60, e60, W60, st60⟩ := putF X59 hx hZ hown (host := "") (Or.inl (hw _ (List.mem_of_getElem? (i := 22) rfl))) Via.refl e59 W_v E_y (Or.inr ⟨(hw _ (List.mem_of_getElem? (i := 23) rfl)), rfl, hnm⟩) (hw _ (List.mem_of_getElem? (i := 10) rfl)) (ty := (.array .byte)) (by decide) rfl rfl (g := (mkF m 35 #[.val (.ref y), .val (.ref x), .val .null, .val (.ref vb), .val (.int (3 : Int32))] [(.ref tb), (.ref y)])) rfl rfl (hb hby own_d_jdk_42_method_150_35)
  have N60 := Fr.snoc X60 N59 ge_y
  have E_y := E_y.wr W60
  have W_v := W_v.same W60
  have W_k := W_k.other W60 (Or.inr (RoadKit.slot_ne (Or.inr (hw _ (List.mem_of_getElem? (i := 25) rfl))) (Or.inr (hw _ (List.mem_of_getElem? (i := 23) rfl))) (by decide) (t := .byte) (t' := (.array .byte)) (by decide) (by decide)))
  have E_x := E_x.wr W60
  have F_v := F_v.other W60 (Or.inl ne_x_y)
  have F_k := F_k.other W60 (Or.inl ne_x_y)
  have F_c := F_c.other W60 (Or.inl ne_x_y)
  have V_b := V_b.other W60 ne_vb_y
  have V_t := V_t.other W60 (Ne.symm ne_y_tb)
  have Od := Od.wr W60 ge_y
  have Kp := Kp.wr W60 (Or.inl (List.mem_of_getElem? (i := 0) rfl))
  refine own_st st60 ?_
  show own_Go p e below s _ _ _ (T60.setTop (mkF m 38 #[.val (.ref y), .val (.ref x), .val .null, .val (.ref vb), .val (.int (3 : Int32))] []))
  refine own_st (fun t9 k9 => XS.goto X60.here hx rfl (pc0 := 38) (pc' := 97) rfl (hb hby own_d_jdk_42_method_150_38) (by decide) (by decide) k9) ?_
  show own_Go p e below s _ _ _ (T60.setTop (mkF m 97 #[.val (.ref y), .val (.ref x), .val .null, .val (.ref vb), .val (.int (3 : Int32))] []))
  exact own_retV X60 hx hlk Bd.returns (hb hby own_d_jdk_42_method_150_97) (by decide) (by decide) (by rw [e60]; exact ⟨rfl, N60, Kp, E_y, W_k, tb, kb, W_v, V_t⟩)
theorem own_d_jdk_42_method_53_0 : decode jdk_42_method_53_code 0 = .ok (.aload_n 0, 1) := by decide +kernel
theorem own_d_jdk_42_method_53_1 : decode jdk_42_method_53_code 1 = .ok (.aload_n 1, 1) := by decide +kernel
theorem own_d_jdk_42_method_53_2 : decode jdk_42_method_53_code 2 = .ok (.aconst_null, 1) := by decide +kernel
theorem own_pd15 : parseMethodDescriptor "(Ljava/lang/AbstractStringBuilder;Ljava/lang/Void;)V" = some ⟨[(.object "java/lang/AbstractStringBuilder"), (.object "java/lang/Void")], none⟩ := by decide +kernel
theorem own_d_jdk_42_method_53_3 : decode jdk_42_method_53_code 3 = .ok (.invokespecial 489, 3) := by decide +kernel
theorem own_d_jdk_42_method_53_6 : decode jdk_42_method_53_code 6 = .ok (.return_, 1) := by decide +kernel
theorem own_ef_sw3 (m : MethodId) (x0 : Addr) (x1 : Addr) : entryFrame m #[(.ref x0), (.ref x1)] 2 = mkF m 0 #[.val (.ref x0), .val (.ref x1)] [] := by first | (simp [entryFrame, mkF, argsToLocals, Value.category]; done) | rfl
def own_Q_sw3 (Z : State) (y : Addr) (us : List Value) (h0 : Heap) (n0 : Nat) (v : Option Value) (h : Heap) (L : List Loc) : Prop := v = none ∧ Fr n0 L ∧ Keep h0 h [y] ∧ Exa Z h y "java/lang/String" ∧ Fld Z h y "java/lang/String" "coder" "B" (.int (0 : Int32)) ∧ ∃ tb k, Fld Z h y "java/lang/String" "value" "[B" (.ref tb) ∧ Arv Z h tb k .byte (3 : Int32) us (.int (0 : Int32))
set_option maxRecDepth 65536 in
set_option maxHeartbeats 40000000 in
theorem own_rm_sw3 (l : Launch) (Z : State) (a0 : Array Value) (hw : ∀ d ∈ tables_1, d.before a0 Z = true) (ws : List Jvm.Cond) (y x vb : Addr) (kv : ClassId) (vd us : List Value) (G : Int32) (h0 : Heap) (n0 : Nat) (Od : Old Z n0 h0) (E_y : Exa Z h0 y "java/lang/String") (W_v : Fld Z h0 y "java/lang/String" "value" "[B" .null) (W_k : Fld Z h0 y "java/lang/String" "coder" "B" (.int (0 : Int32))) (ge_y : n0 ≤ y) (ne_vb_y : vb ≠ y) (E_x : Exa Z h0 x "java/lang/StringBuilder") (F_v : Fld Z h0 x "java/lang/AbstractStringBuilder" "value" "[B" (.ref vb)) (F_k : Fld Z h0 x "java/lang/AbstractStringBuilder" "coder" "B" (.int (0 : Int32))) (F_c : Fld Z h0 x "java/lang/AbstractStringBuilder" "count" "I" (.int (3 : Int32))) (V_b : Arv Z h0 vb kv .byte (16 : Int32) vd (.int (0 : Int32))) (hus : us = (List.range (3 : Int32).toNatClampNeg).map fun i => vd.getD ((0 : Int32).toNatClampNeg + i) (.int (0 : Int32))) (O2 : Sta Z Z.heap "java/lang/String" "COMPACT_STRINGS" "Z" (.int G)) (P5 : ¬ (G = (0 : Int32))) :
    MetFree l (⟨"java/lang/String", "<init>", "(Ljava/lang/StringBuilder;)V"⟩ : MethodName) (head1 (Jvm.Cond.code (⟨"java/lang/String", "<init>", "(Ljava/lang/StringBuilder;)V"⟩ : MethodName) jdk_42_method_53_code 2 none :: ws) ({ frames := 4, cells := 1, slots := 3, locals := 65 } : Room)) (fun a9 U => a9 = #[(.ref y), (.ref x)] ∧ Z.Warmed39 U.vm ∧ U.heap = h0) (fun _ _ _ _ _ => True) (fun _ U o U' => ∃ v L, o = .returned v ∧ own_Q_sw3 Z y us h0 n0 v U'.heap L ∧ FrameEnd U o U' L ({ frames := 4, cells := 1, slots := 3, locals := 65 } : Room).cells ({ frames := 4, cells := 1, slots := 3, locals := 65 } : Room).slots) := by
  refine MetFree.of_bodySF (plainFor_of_name own_pn1) hisR ?_
  intro p e s m args below meth c s₁ Bd hml0 hP hK
  obtain ⟨rfl, hZ, hh⟩ := hP
  have hx := Bd.exec
  have hby := Bd.bytes
  have hml : c.maxLocals = 2 := hml0
  have hown : s.vm.findClass "java/lang/String" = some m.cls := findClass_of_methodNamed Bd.named
  have hnm := (name_of_methodNamed Bd.named Bd.method).1
  have hlk : meth.locks = false := Bd.notSynchronized
  have X0 : Stand p l e ({ frames := 4, cells := 1, slots := 3, locals := 65 } : Room) s m #[(.ref y), (.ref x)] below meth c s₁ [] 0 0 := Stand.of_body Bd
  have e0 : s₁.heap = h0 := by rw [← hh, Bd.state]; rfl
  have N0 := Fr.nil n0
  show own_Go p e below s (own_Q_sw3 Z y us h0 n0) ({ frames := 4, cells := 1, slots := 3, locals := 65 } : Room).cells ({ frames := 4, cells := 1, slots := 3, locals := 65 } : Room).slots (s₁.setTop (entryFrame m #[(.ref y), (.ref x)] 2))
  refine own_st (fun t9 k9 => castTop (own_ef_sw3 m y x) k9) ?_
  show own_Go p e below s _ _ _ (s₁.setTop (mkF m 0 #[.val (.ref y), .val (.ref x)] []))
  have ne_x_y : x ≠ y := Exa.ne E_x E_y (by decide)
  have Kp : Keep h0 h0 [y] := Keep.refl h0 [y]
  refine own_st (fun t9 k9 => XS.aloadN X0.here hx rfl (hb hby own_d_jdk_42_method_53_0) rfl rfl k9) ?_
  show own_Go p e below s _ _ _ (s₁.setTop (mkF m 1 #[.val (.ref y), .val (.ref x)] [(.ref y)]))
  refine own_st (fun t9 k9 => XS.aloadN X0.here hx rfl (hb hby own_d_jdk_42_method_53_1) rfl rfl k9) ?_
  show own_Go p e below s _ _ _ (s₁.setTop (mkF m 2 #[.val (.ref y), .val (.ref x)] [(.ref x), (.ref y)]))
  refine own_st (fun t9 k9 => XS.aconstNull X0.here hx rfl (hb hby own_d_jdk_42_method_53_2) k9) ?_
  show own_Go p e below s _ _ _ (s₁.setTop (mkF m 3 #[.val (.ref y), .val (.ref x)] [.null, (.ref x), (.ref y)]))
  obtain ⟨_, T61, h61, L61, X61, e61, ⟨rfl, Nc, Kc, E_q, W_l, tb, kb, W_w, V_t⟩, st61⟩ := own_callI X0 hx hZ hown rfl (hw _ (List.mem_of_getElem? (i := 153) rfl)) (hw _ (List.mem_of_getElem? (i := 154) rfl)) (hw _ (List.mem_of_getElem? (i := 2) rfl)) (hw _ (List.mem_of_getElem? (i := 155) rfl)) (by decide) (own_rm_sv3 l Z a0 hw [] y x vb kv vd us G h0 n0 Od E_y W_v W_k ge_y ne_vb_y E_x F_v F_k F_c V_b hus O2 P5) (by decide) (by decide) e0 (a := y) (W := 0) (g := (mkF m 3 #[.val (.ref y), .val (.ref x)] [.null, (.ref x), (.ref y)])) rfl (by rw [hml]; rfl) (argsL := [(.ref x), .null]) (rest := []) rfl (lenOf own_pd15 rfl) rfl (by show 2 * 0 + _ ≤ _; exact Nat.le_of_eq rfl) (hb hby own_d_jdk_42_method_53_3) (by decide) (by decide)
  have N61 := Fr.app N0 Nc
  have E_y := E_y.keep Kc
  have E_x := E_x.keep Kc
  have F_v := F_v.keep Kc (ninS ne_x_y nin0)
  have F_k := F_k.keep Kc (ninS ne_x_y nin0)
  have F_c := F_c.keep Kc (ninS ne_x_y nin0)
  have V_b := V_b.keep Kc (ninS ne_vb_y nin0)
  have Od := Od.keep Kc (allS ge_y all0)
  have Kp := Kp.trans Kc (allS (Or.inl (List.mem_of_getElem? (i := 0) rfl)) all0)
  refine own_st st61 ?_
  show own_Go p e below s _ _ _ (T61.setTop (mkF m 6 #[.val (.ref y), .val (.ref x)] []))
  exact own_retV X61 hx hlk Bd.returns (hb hby own_d_jdk_42_method_53_6) (by decide) (by decide) (by rw [e61]; exact ⟨rfl, N61, Kp, E_q, W_l, tb, kb, W_w, V_t⟩)
theorem own_d_jdk_67_method_42_0 : decode jdk_67_method_42_code 0 = .ok (.new 18, 3) := by decide +kernel
theorem own_d_jdk_67_method_42_3 : decode jdk_67_method_42_code 3 = .ok (.dup, 1) := by decide +kernel
theorem own_d_jdk_67_method_42_4 : decode jdk_67_method_42_code 4 = .ok (.aload_n 0, 1) := by decide +kernel
theorem own_pd16 : parseMethodDescriptor "(Ljava/lang/StringBuilder;)V" = some ⟨[(.object "java/lang/StringBuilder")], none⟩ := by decide +kernel
theorem own_d_jdk_67_method_42_5 : decode jdk_67_method_42_code 5 = .ok (.invokespecial 137, 3) := by decide +kernel
theorem own_d_jdk_67_method_42_8 : decode jdk_67_method_42_code 8 = .ok (.areturn, 1) := by decide +kernel
theorem own_ef_tos3 (m : MethodId) (x0 : Addr) : entryFrame m #[(.ref x0)] 1 = mkF m 0 #[.val (.ref x0)] [] := by first | (simp [entryFrame, mkF, argsToLocals, Value.category]; done) | rfl
def own_Q_tos3 (Z : State) (us : List Value) (h0 : Heap) (n0 : Nat) (v : Option Value) (h : Heap) (L : List Loc) : Prop := Fr n0 L ∧ Keep h0 h [] ∧ ∃ y tb k, v = some (.ref y) ∧ h0.size ≤ y ∧ Exa Z h y "java/lang/String" ∧ Fld Z h y "java/lang/String" "coder" "B" (.int (0 : Int32)) ∧ Fld Z h y "java/lang/String" "value" "[B" (.ref tb) ∧ Arv Z h tb k .byte (3 : Int32) us (.int (0 : Int32))
set_option maxRecDepth 65536 in
set_option maxHeartbeats 40000000 in
theorem own_rm_tos3 (l : Launch) (Z : State) (a0 : Array Value) (hw : ∀ d ∈ tables_1, d.before a0 Z = true) (ws : List Jvm.Cond) (x vb : Addr) (kv : ClassId) (vd us : List Value) (G : Int32) (h0 : Heap) (n0 : Nat) (Od : Old Z n0 h0) (E_x : Exa Z h0 x "java/lang/StringBuilder") (F_v : Fld Z h0 x "java/lang/AbstractStringBuilder" "value" "[B" (.ref vb)) (F_k : Fld Z h0 x "java/lang/AbstractStringBuilder" "coder" "B" (.int (0 : Int32))) (F_c : Fld Z h0 x "java/lang/AbstractStringBuilder" "count" "I" (.int (3 : Int32))) (V_b : Arv Z h0 vb kv .byte (16 : Int32) vd (.int (0 : Int32))) (hus : us = (List.range (3 : Int32).toNatClampNeg).map fun i => vd.getD ((0 : Int32).toNatClampNeg + i) (.int (0 : Int32))) (O2 : Sta Z Z.heap "java/lang/String" "COMPACT_STRINGS" "Z" (.int G)) (P5 : ¬ (G = (0 : Int32))) :
    MetFree l (⟨"java/lang/StringBuilder", "toString", "()Ljava/lang/String;"⟩ : MethodName) (head1 (Jvm.Cond.code (⟨"java/lang/StringBuilder", "toString", "()Ljava/lang/String;"⟩ : MethodName) jdk_67_method_42_code 1 (some (.object "java/lang/String")) :: ws) ({ frames := 5, cells := 2, slots := 7, locals := 79 } : Room)) (fun a9 U => a9 = #[(.ref x)] ∧ Z.Warmed39 U.vm ∧ U.heap = h0) (fun _ _ _ _ _ => True) (fun _ U o U' => ∃ v L, o = .returned v ∧ own_Q_tos3 Z us h0 n0 v U'.heap L ∧ FrameEnd U o U' L ({ frames := 5, cells := 2, slots := 7, locals := 79 } : Room).cells ({ frames := 5, cells := 2, slots := 7, locals := 79 } : Room).slots) := by
  refine MetFree.of_bodySF (plainFor_of_name own_pn5) hisR ?_
  intro p e s m args below meth c s₁ Bd hml0 hP hK
  obtain ⟨rfl, hZ, hh⟩ := hP
  have hx := Bd.exec
  have hby := Bd.bytes
  have hml : c.maxLocals = 1 := hml0
  have hown : s.vm.findClass "java/lang/StringBuilder" = some m.cls := findClass_of_methodNamed Bd.named
  have hnm := (name_of_methodNamed Bd.named Bd.method).1
  have hlk : meth.locks = false := Bd.notSynchronized
  have X0 : Stand p l e ({ frames := 5, cells := 2, slots := 7, locals := 79 } : Room) s m #[(.ref x)] below meth c s₁ [] 0 0 := Stand.of_body Bd
  have e0 : s₁.heap = h0 := by rw [← hh, Bd.state]; rfl
  have N0 := Fr.nil n0
  show own_Go p e below s (own_Q_tos3 Z us h0 n0) ({ frames := 5, cells := 2, slots := 7, locals := 79 } : Room).cells ({ frames := 5, cells := 2, slots := 7, locals := 79 } : Room).slots (s₁.setTop (entryFrame m #[(.ref x)] 1))
  refine own_st (fun t9 k9 => castTop (own_ef_tos3 m x) k9) ?_
  show own_Go p e below s _ _ _ (s₁.setTop (mkF m 0 #[.val (.ref x)] []))
  have Kp : Keep h0 h0 [] := Keep.refl h0 []
  obtain ⟨T62, h62, X62, e62, E62, A62, D62, U62, st62⟩ := newO X0 hx hZ hown (hw _ (List.mem_of_getElem? (i := 149) rfl)) (hw _ (List.mem_of_getElem? (i := 10) rfl)) (hw _ (List.mem_of_getElem? (i := 2) rfl)) e0 (g := (mkF m 0 #[.val (.ref x)] [])) rfl (hb hby own_d_jdk_67_method_42_0) (by decide) (by decide)
  obtain ⟨y, g62⟩ : ∃ z, z = h0.size := ⟨_, rfl⟩
  rw [← g62] at A62 D62 st62 U62
  have ne_x_y : x ≠ y := Nat.ne_of_lt (Nat.lt_of_lt_of_le E_x.lt (Nat.le_of_eq g62.symm))
  have ne_vb_y : vb ≠ y := Nat.ne_of_lt (Nat.lt_of_lt_of_le V_b.lt (Nat.le_of_eq g62.symm))
  have ge_y : n0 ≤ y := Nat.le_trans (own_z0 Od) (Nat.le_of_eq g62.symm)
  have gz_y : h0.size ≤ y := Nat.le_trans Kp.1 (Nat.le_of_eq g62.symm)
  have E_x := E_x.ext E62
  have F_v := F_v.ext E62
  have F_k := F_k.ext E62
  have F_c := F_c.ext E62
  have V_b := V_b.ext E62
  have Od := Od.ext E62
  have Kp := Kp.ext E62
  refine own_st st62 ?_
  show own_Go p e below s _ _ _ (T62.setTop (mkF m 3 #[.val (.ref x)] [(.ref y)]))
  have E_y : Exa Z h62 y "java/lang/String" := A62
  have W_v : Fld Z h62 y "java/lang/String" "value" "[B" .null := D62 (Or.inr (hw _ (List.mem_of_getElem? (i := 23) rfl))) (ty := (.array .byte)) (by decide)
  have W_k : Fld Z h62 y "java/lang/String" "coder" "B" (.int (0 : Int32)) := D62 (Or.inr (hw _ (List.mem_of_getElem? (i := 25) rfl))) (ty := .byte) (by decide)
  refine own_st (fun t9 k9 => XS.dup X62.here hx rfl (hb hby own_d_jdk_67_method_42_3) rfl rfl k9) ?_
  show own_Go p e below s _ _ _ (T62.setTop (mkF m 4 #[.val (.ref x)] [(.ref y), (.ref y)]))
  refine own_st (fun t9 k9 => XS.aloadN X62.here hx rfl (hb hby own_d_jdk_67_method_42_4) rfl rfl k9) ?_
  show own_Go p e below s _ _ _ (T62.setTop (mkF m 5 #[.val (.ref x)] [(.ref x), (.ref y), (.ref y)]))
  obtain ⟨_, T63, h63, L63, X63, e63, ⟨rfl, Nc, Kc, E_q, W_l, tb, kb, W_w, V_t⟩, st63⟩ := own_callI X62 hx hZ hown rfl (hw _ (List.mem_of_getElem? (i := 150) rfl)) (hw _ (List.mem_of_getElem? (i := 151) rfl)) (hw _ (List.mem_of_getElem? (i := 2) rfl)) (hw _ (List.mem_of_getElem? (i := 152) rfl)) (by decide) (own_rm_sw3 l Z a0 hw [] y x vb kv vd us G h62 n0 Od E_y W_v W_k ge_y ne_vb_y E_x F_v F_k F_c V_b hus O2 P5) (by decide) (by decide) e62 (a := y) (W := 1) (g := (mkF m 5 #[.val (.ref x)] [(.ref x), (.ref y), (.ref y)])) rfl (by rw [hml]; rfl) (argsL := [(.ref x)]) (rest := [(.ref y)]) rfl (lenOf own_pd16 rfl) rfl (by show 2 * 0 + _ ≤ _; exact Nat.le_of_eq rfl) (hb hby own_d_jdk_67_method_42_5) (by decide) (by decide)
  have N63 := Fr.app N0 Nc
  have E_x := E_x.keep Kc
  have F_v := F_v.keep Kc (ninS ne_x_y nin0)
  have F_k := F_k.keep Kc (ninS ne_x_y nin0)
  have F_c := F_c.keep Kc (ninS ne_x_y nin0)
  have V_b := V_b.keep Kc (ninS ne_vb_y nin0)
  have E_y := E_y.keep Kc
  have Od := Od.keep Kc (allS ge_y all0)
  have Kp := Kp.trans Kc (allS (Or.inr gz_y) all0)
  refine own_st st63 ?_
  show own_Go p e below s _ _ _ (T63.setTop (mkF m 8 #[.val (.ref x)] [(.ref y)]))
  exact own_retR X63 hx hlk Bd.returns rfl rfl (hb hby own_d_jdk_67_method_42_8) (by decide) (by decide) (by rw [e63]; exact ⟨N63, Kp, y, tb, kb, rfl, gz_y, E_q, W_l, W_w, V_t⟩)
theorem own_ef_mn4 (m : MethodId) (x0 : Int32) (x1 : Int32) : entryFrame m #[(.int x0), (.int x1)] 2 = mkF m 0 #[.val (.int x0), .val (.int x1)] [] := by first | (simp [entryFrame, mkF, argsToLocals, Value.category]; done) | rfl
def own_Q_mn4 (Z : State)  (h0 : Heap) (n0 : Nat) (v : Option Value) (h : Heap) (L : List Loc) : Prop := v = some (.int (4 : Int32)) ∧ Fr n0 L ∧ h = h0
set_option maxRecDepth 65536 in
set_option maxHeartbeats 40000000 in
theorem own_rm_mn4 (l : Launch) (Z : State) (a0 : Array Value) (hw : ∀ d ∈ tables_1, d.before a0 Z = true) (ws : List Jvm.Cond)  (h0 : Heap) (n0 : Nat) (Od : Old Z n0 h0) :
    MetFree l (⟨"java/lang/Math", "min", "(II)I"⟩ : MethodName) (head1 (Jvm.Cond.code (⟨"java/lang/Math", "min", "(II)I"⟩ : MethodName) jdk_29_method_69_code 2 (some .int) :: ws) ({ frames := 0, cells := 0, slots := 0, locals := 0 } : Room)) (fun a9 U => a9 = #[(.int (16 : Int32)), (.int (4 : Int32))] ∧ Z.Warmed39 U.vm ∧ U.heap = h0) (fun _ _ _ _ _ => True) (fun _ U o U' => ∃ v L, o = .returned v ∧ own_Q_mn4 Z  h0 n0 v U'.heap L ∧ FrameEnd U o U' L ({ frames := 0, cells := 0, slots := 0, locals := 0 } : Room).cells ({ frames := 0, cells := 0, slots := 0, locals := 0 } : Room).slots) := by
  refine MetFree.of_bodySF (by decide +kernel) hisR ?_
  intro p e s m args below meth c s₁ Bd hml0 hP hK
  obtain ⟨rfl, hZ, hh⟩ := hP
  have hx := Bd.exec
  have hby := Bd.bytes
  have hml : c.maxLocals = 2 := hml0
  have hown : s.vm.findClass "java/lang/Math" = some m.cls := findClass_of_methodNamed Bd.named
  have hnm := (name_of_methodNamed Bd.named Bd.method).1
  have hlk : meth.locks = false := Bd.notSynchronized
  have X0 : Stand p l e ({ frames := 0, cells := 0, slots := 0, locals := 0 } : Room) s m #[(.int (16 : Int32)), (.int (4 : Int32))] below meth c s₁ [] 0 0 := Stand.of_body Bd
  have e0 : s₁.heap = h0 := by rw [← hh, Bd.state]; rfl
  have N0 := Fr.nil n0
  show own_Go p e below s (own_Q_mn4 Z  h0 n0) ({ frames := 0, cells := 0, slots := 0, locals := 0 } : Room).cells ({ frames := 0, cells := 0, slots := 0, locals := 0 } : Room).slots (s₁.setTop (entryFrame m #[(.int (16 : Int32)), (.int (4 : Int32))] 2))
  refine own_st (fun t9 k9 => castTop (own_ef_mn4 m (16 : Int32) (4 : Int32)) k9) ?_
  show own_Go p e below s _ _ _ (s₁.setTop (mkF m 0 #[.val (.int (16 : Int32)), .val (.int (4 : Int32))] []))
  refine own_st (fun t9 k9 => XS.iloadN X0.here hx rfl (hb hby own_d_jdk_29_method_69_0) rfl  k9) ?_
  show own_Go p e below s _ _ _ (s₁.setTop (mkF m 1 #[.val (.int (16 : Int32)), .val (.int (4 : Int32))] [(.int (16 : Int32))]))
  refine own_st (fun t9 k9 => XS.iloadN X0.here hx rfl (hb hby own_d_jdk_29_method_69_1) rfl  k9) ?_
  show own_Go p e below s _ _ _ (s₁.setTop (mkF m 2 #[.val (.int (16 : Int32)), .val (.int (4 : Int32))] [(.int (4 : Int32)), (.int (16 : Int32))]))
  refine own_st (fun t9 k9 => XS.icmpYes X0.here hx rfl (pc0 := 2) (pc' := 9) rfl (hb hby own_d_jdk_29_method_69_2) rfl (by decide) (by decide) (by decide) k9) ?_
  show own_Go p e below s _ _ _ (s₁.setTop (mkF m 9 #[.val (.int (16 : Int32)), .val (.int (4 : Int32))] []))
  refine own_st (fun t9 k9 => XS.iloadN X0.here hx rfl (hb hby own_d_jdk_29_method_69_9) rfl  k9) ?_
  show own_Go p e below s _ _ _ (s₁.setTop (mkF m 10 #[.val (.int (16 : Int32)), .val (.int (4 : Int32))] [(.int (4 : Int32))]))
  exact own_retI X0 hx hlk Bd.returns (hb hby own_d_jdk_29_method_69_10) (by decide) (by decide) (by rw [e0]; exact ⟨rfl, N0, rfl⟩)
theorem own_ef_chk4 (m : MethodId) (x0 : Int32) (x1 : Int32) : entryFrame m #[(.int x0), (.int x1)] 2 = mkF m 0 #[.val (.int x0), .val (.int x1)] [] := by first | (simp [entryFrame, mkF, argsToLocals, Value.category]; done) | rfl
def own_Q_chk4 (Z : State)  (h0 : Heap) (n0 : Nat) (v : Option Value) (h : Heap) (L : List Loc) : Prop := v = none ∧ Fr n0 L ∧ h = h0
set_option maxRecDepth 65536 in
set_option maxHeartbeats 40000000 in
theorem own_rm_chk4 (l : Launch) (Z : State) (a0 : Array Value) (hw : ∀ d ∈ tables_1, d.before a0 Z = true) (ws : List Jvm.Cond)  (h0 : Heap) (n0 : Nat) (Od : Old Z n0 h0) :
    MetFree l (⟨"java/util/Arrays", "checkLength", "(II)V"⟩ : MethodName) (head1 (Jvm.Cond.code (⟨"java/util/Arrays", "checkLength", "(II)V"⟩ : MethodName) jdk_65_method_131_code 2 none :: ws) ({ frames := 0, cells := 0, slots := 0, locals := 0 } : Room)) (fun a9 U => a9 = #[(.int (0 : Int32)), (.int (4 : Int32))] ∧ Z.Warmed39 U.vm ∧ U.heap = h0) (fun _ _ _ _ _ => True) (fun _ U o U' => ∃ v L, o = .returned v ∧ own_Q_chk4 Z  h0 n0 v U'.heap L ∧ FrameEnd U o U' L ({ frames := 0, cells := 0, slots := 0, locals := 0 } : Room).cells ({ frames := 0, cells := 0, slots := 0, locals := 0 } : Room).slots) := by
  refine MetFree.of_bodySF (plainFor_of_name own_pn6) hisR ?_
  intro p e s m args below meth c s₁ Bd hml0 hP hK
  obtain ⟨rfl, hZ, hh⟩ := hP
  have hx := Bd.exec
  have hby := Bd.bytes
  have hml : c.maxLocals = 2 := hml0
  have hown : s.vm.findClass "java/util/Arrays" = some m.cls := findClass_of_methodNamed Bd.named
  have hnm := (name_of_methodNamed Bd.named Bd.method).1
  have hlk : meth.locks = false := Bd.notSynchronized
  have X0 : Stand p l e ({ frames := 0, cells := 0, slots := 0, locals := 0 } : Room) s m #[(.int (0 : Int32)), (.int (4 : Int32))] below meth c s₁ [] 0 0 := Stand.of_body Bd
  have e0 : s₁.heap = h0 := by rw [← hh, Bd.state]; rfl
  have N0 := Fr.nil n0
  show own_Go p e below s (own_Q_chk4 Z  h0 n0) ({ frames := 0, cells := 0, slots := 0, locals := 0 } : Room).cells ({ frames := 0, cells := 0, slots := 0, locals := 0 } : Room).slots (s₁.setTop (entryFrame m #[(.int (0 : Int32)), (.int (4 : Int32))] 2))
  refine own_st (fun t9 k9 => castTop (own_ef_chk4 m (0 : Int32) (4 : Int32)) k9) ?_
  show own_Go p e below s _ _ _ (s₁.setTop (mkF m 0 #[.val (.int (0 : Int32)), .val (.int (4 : Int32))] []))
  refine own_st (fun t9 k9 => XS.iloadN X0.here hx rfl (hb hby own_d_jdk_65_method_131_0) rfl  k9) ?_
  show own_Go p e below s _ _ _ (s₁.setTop (mkF m 1 #[.val (.int (0 : Int32)), .val (.int (4 : Int32))] [(.int (4 : Int32))]))
  refine own_st (fun t9 k9 => XS.iloadN X0.here hx rfl (hb hby own_d_jdk_65_method_131_1) rfl  k9) ?_
  show own_Go p e below s _ _ _ (s₁.setTop (mkF m 2 #[.val (.int (0 : Int32)), .val (.int (4 : Int32))] [(.int (0 : Int32)), (.int (4 : Int32))]))
  refine own_st (fun t9 k9 => XS.icmpYes X0.here hx rfl (pc0 := 2) (pc' := 37) rfl (hb hby own_d_jdk_65_method_131_2) rfl (by decide) (by decide) (by decide) k9) ?_
  show own_Go p e below s _ _ _ (s₁.setTop (mkF m 37 #[.val (.int (0 : Int32)), .val (.int (4 : Int32))] []))
  exact own_retV X0 hx hlk Bd.returns (hb hby own_d_jdk_65_method_131_37) (by decide) (by decide) (by rw [e0]; exact ⟨rfl, N0, rfl⟩)
theorem own_ef_crb4 (m : MethodId) (x0 : Addr) (x1 : Int32) (x2 : Int32) : entryFrame m #[(.ref x0), (.int x1), (.int x2)] 5 = mkF m 0 #[.val (.ref x0), .val (.int x1), .val (.int x2), .unset, .unset] [] := by first | (simp [entryFrame, mkF, argsToLocals, Value.category]; done) | rfl
def own_Q_crb4 (Z : State) (us : List Value) (h0 : Heap) (n0 : Nat) (v : Option Value) (h : Heap) (L : List Loc) : Prop := Fr n0 L ∧ Keep h0 h [] ∧ ∃ tb k, v = some (.ref tb) ∧ h0.size ≤ tb ∧ Arv Z h tb k .byte (4 : Int32) us (.int (0 : Int32))
set_option maxRecDepth 65536 in
set_option maxHeartbeats 40000000 in
theorem own_rm_crb4 (l : Launch) (Z : State) (a0 : Array Value) (hw : ∀ d ∈ tables_1, d.before a0 Z = true) (ws : List Jvm.Cond) (vb : Addr) (kv : ClassId) (vd us : List Value) (h0 : Heap) (n0 : Nat) (Od : Old Z n0 h0) (V_b : Arv Z h0 vb kv .byte (16 : Int32) vd (.int (0 : Int32))) (hus : us = (List.range (4 : Int32).toNatClampNeg).map fun i => vd.getD ((0 : Int32).toNatClampNeg + i) (.int (0 : Int32))) :
    MetFree l (⟨"java/util/Arrays", "copyOfRangeByte", "([BII)[B"⟩ : MethodName) (head1 (Jvm.Cond.code (⟨"java/util/Arrays", "copyOfRangeByte", "([BII)[B"⟩ : MethodName) jdk_65_method_133_code 5 (some (.array .byte)) :: ws) ({ frames := 1, cells := 1, slots := 4, locals := 18 } : Room)) (fun a9 U => a9 = #[(.ref vb), (.int (0 : Int32)), (.int (4 : Int32))] ∧ Z.Warmed39 U.vm ∧ U.heap = h0) (fun _ _ _ _ _ => True) (fun _ U o U' => ∃ v L, o = .returned v ∧ own_Q_crb4 Z us h0 n0 v U'.heap L ∧ FrameEnd U o U' L ({ frames := 1, cells := 1, slots := 4, locals := 18 } : Room).cells ({ frames := 1, cells := 1, slots := 4, locals := 18 } : Room).slots) := by
  refine MetFree.of_bodySF (plainFor_of_name own_pn6) hisR ?_
  intro p e s m args below meth c s₁ Bd hml0 hP hK
  obtain ⟨rfl, hZ, hh⟩ := hP
  have hx := Bd.exec
  have hby := Bd.bytes
  have hml : c.maxLocals = 5 := hml0
  have hown : s.vm.findClass "java/util/Arrays" = some m.cls := findClass_of_methodNamed Bd.named
  have hnm := (name_of_methodNamed Bd.named Bd.method).1
  have hlk : meth.locks = false := Bd.notSynchronized
  have X0 : Stand p l e ({ frames := 1, cells := 1, slots := 4, locals := 18 } : Room) s m #[(.ref vb), (.int (0 : Int32)), (.int (4 : Int32))] below meth c s₁ [] 0 0 := Stand.of_body Bd
  have e0 : s₁.heap = h0 := by rw [← hh, Bd.state]; rfl
  have N0 := Fr.nil n0
  show own_Go p e below s (own_Q_crb4 Z us h0 n0) ({ frames := 1, cells := 1, slots := 4, locals := 18 } : Room).cells ({ frames := 1, cells := 1, slots := 4, locals := 18 } : Room).slots (s₁.setTop (entryFrame m #[(.ref vb), (.int (0 : Int32)), (.int (4 : Int32))] 5))
  refine own_st (fun t9 k9 => castTop (own_ef_crb4 m vb (0 : Int32) (4 : Int32)) k9) ?_
  show own_Go p e below s _ _ _ (s₁.setTop (mkF m 0 #[.val (.ref vb), .val (.int (0 : Int32)), .val (.int (4 : Int32)), .unset, .unset] []))
  have Kp : Keep h0 h0 [] := Keep.refl h0 []
  refine own_st (fun t9 k9 => XS.iloadN X0.here hx rfl (hb hby own_d_jdk_65_method_133_0) rfl  k9) ?_
  show own_Go p e below s _ _ _ (s₁.setTop (mkF m 1 #[.val (.ref vb), .val (.int (0 : Int32)), .val (.int (4 : Int32)), .unset, .unset] [(.int (0 : Int32))]))
  refine own_st (fun t9 k9 => XS.iloadN X0.here hx rfl (hb hby own_d_jdk_65_method_133_1) rfl  k9) ?_
  show own_Go p e below s _ _ _ (s₁.setTop (mkF m 2 #[.val (.ref vb), .val (.int (0 : Int32)), .val (.int (4 : Int32)), .unset, .unset] [(.int (4 : Int32)), (.int (0 : Int32))]))
  obtain ⟨_, T64, h64, L64, X64, e64, ⟨rfl, Nc, hu⟩, st64⟩ := own_callS X0 hx hZ hown (hw _ (List.mem_of_getElem? (i := 181) rfl)) (hw _ (List.mem_of_getElem? (i := 182) rfl)) (hw _ (List.mem_of_getElem? (i := 176) rfl)) (hw _ (List.mem_of_getElem? (i := 183) rfl)) (by decide) (own_rm_chk4 l Z a0 hw [] h0 n0 Od) (by decide) (by decide) e0 (W := 0) (g := (mkF m 2 #[.val (.ref vb), .val (.int (0 : Int32)), .val (.int (4 : Int32)), .unset, .unset] [(.int (4 : Int32)), (.int (0 : Int32))])) rfl (by rw [hml]; rfl) (argsL := [(.int (0 : Int32)), (.int (4 : Int32))]) (rest := []) rfl (lenOf own_pd10 rfl) rfl (by show 2 * 0 + _ ≤ _; exact Nat.le_of_eq rfl) (hb hby own_d_jdk_65_method_133_2) (by decide) (by decide)
  have N64 := Fr.app N0 Nc
  refine own_st st64 ?_
  show own_Go p e below s _ _ _ (T64.setTop (mkF m 5 #[.val (.ref vb), .val (.int (0 : Int32)), .val (.int (4 : Int32)), .unset, .unset] []))
  refine own_st (fun t9 k9 => XS.iloadN X64.here hx rfl (hb hby own_d_jdk_65_method_133_5) rfl  k9) ?_
  show own_Go p e below s _ _ _ (T64.setTop (mkF m 6 #[.val (.ref vb), .val (.int (0 : Int32)), .val (.int (4 : Int32)), .unset, .unset] [(.int (4 : Int32))]))
  refine own_st (fun t9 k9 => XS.iloadN X64.here hx rfl (hb hby own_d_jdk_65_method_133_6) rfl  k9) ?_
  show own_Go p e below s _ _ _ (T64.setTop (mkF m 7 #[.val (.ref vb), .val (.int (0 : Int32)), .val (.int (4 : Int32)), .unset, .unset] [(.int (0 : Int32)), (.int (4 : Int32))]))
  refine own_st (fun t9 k9 => XS.isub X64.here hx rfl (hb hby own_d_jdk_65_method_133_7) rfl k9) ?_
  show own_Go p e below s _ _ _ (T64.setTop (mkF m 8 #[.val (.ref vb), .val (.int (0 : Int32)), .val (.int (4 : Int32)), .unset, .unset] [(.int ((4 : Int32) - (0 : Int32)))]))
  rw [own_sub0]
  show own_Go p e below s _ _ _ (T64.setTop (mkF m 8 #[.val (.ref vb), .val (.int (0 : Int32)), .val (.int (4 : Int32)), .unset, .unset] [(.int (4 : Int32))]))
  refine own_st (fun t9 k9 => XS.istoreN X64.here hx rfl (hb hby own_d_jdk_65_method_133_8) rfl (l' := #[.val (.ref vb), .val (.int (0 : Int32)), .val (.int (4 : Int32)), .val (.int (4 : Int32)), .unset]) rfl k9) ?_
  show own_Go p e below s _ _ _ (T64.setTop (mkF m 9 #[.val (.ref vb), .val (.int (0 : Int32)), .val (.int (4 : Int32)), .val (.int (4 : Int32)), .unset] []))
  refine own_st (fun t9 k9 => XS.iloadN X64.here hx rfl (hb hby own_d_jdk_65_method_133_9) rfl  k9) ?_
  show own_Go p e below s _ _ _ (T64.setTop (mkF m 10 #[.val (.ref vb), .val (.int (0 : Int32)), .val (.int (4 : Int32)), .val (.int (4 : Int32)), .unset] [(.int (4 : Int32))]))
  obtain ⟨T65, h65, k65, X65, e65, E65, A65, st65⟩ := newP X64 hx hZ (hw _ (List.mem_of_getElem? (i := 14) rfl)) (e64.trans hu) (g := (mkF m 10 #[.val (.ref vb), .val (.int (0 : Int32)), .val (.int (4 : Int32)), .val (.int (4 : Int32)), .unset] [(.int (4 : Int32))])) rfl (hb hby own_d_jdk_65_method_133_10) rfl (by decide) (cap := 4) (by decide) (by decide) (by decide) (by decide)
  obtain ⟨tb, g65⟩ : ∃ z, z = h0.size := ⟨_, rfl⟩
  rw [← g65] at A65 st65
  have ne_vb_tb : vb ≠ tb := Nat.ne_of_lt (Nat.lt_of_lt_of_le V_b.lt (Nat.le_of_eq g65.symm))
  have ge_tb : n0 ≤ tb := Nat.le_trans (own_z0 Od) (Nat.le_of_eq g65.symm)
  have gz_tb : h0.size ≤ tb := Nat.le_trans Kp.1 (Nat.le_of_eq g65.symm)
  have V_b := V_b.ext E65
  have Od := Od.ext E65
  have Kp := Kp.ext E65
  refine own_st st65 ?_
  show own_Go p e below s _ _ _ (T65.setTop (mkF m 12 #[.val (.ref vb), .val (.int (0 : Int32)), .val (.int (4 : Int32)), .val (.int (4 : Int32)), .unset] [(.ref tb)]))
  have V_t : Arv Z h65 tb k65 .byte (4 : Int32) [(.int (0 : Int32)), (.int (0 : Int32)), (.int (0 : Int32)), (.int (0 : Int32))] (.int (0 : Int32)) := (Arv.new A65 (by decide)).pad (pad_rep [] (.int (0 : Int32)) 4)
  refine own_st (fun t9 k9 => XS.astore X65.here hx rfl (hb hby own_d_jdk_65_method_133_12) rfl rfl (l' := #[.val (.ref vb), .val (.int (0 : Int32)), .val (.int (4 : Int32)), .val (.int (4 : Int32)), .val (.ref tb)]) rfl k9) ?_
  show own_Go p e below s _ _ _ (T65.setTop (mkF m 14 #[.val (.ref vb), .val (.int (0 : Int32)), .val (.int (4 : Int32)), .val (.int (4 : Int32)), .val (.ref tb)] []))
  refine own_st (fun t9 k9 => XS.aloadN X65.here hx rfl (hb hby own_d_jdk_65_method_133_14) rfl rfl k9) ?_
  show own_Go p e below s _ _ _ (T65.setTop (mkF m 15 #[.val (.ref vb), .val (.int (0 : Int32)), .val (.int (4 : Int32)), .val (.int (4 : Int32)), .val (.ref tb)] [(.ref vb)]))
  refine own_st (fun t9 k9 => XS.iloadN X65.here hx rfl (hb hby own_d_jdk_65_method_133_15) rfl  k9) ?_
  show own_Go p e below s _ _ _ (T65.setTop (mkF m 16 #[.val (.ref vb), .val (.int (0 : Int32)), .val (.int (4 : Int32)), .val (.int (4 : Int32)), .val (.ref tb)] [(.int (0 : Int32)), (.ref vb)]))
  refine own_st (fun t9 k9 => XS.aload X65.here hx rfl (hb hby own_d_jdk_65_method_133_16) rfl rfl k9) ?_
  show own_Go p e below s _ _ _ (T65.setTop (mkF m 18 #[.val (.ref vb), .val (.int (0 : Int32)), .val (.int (4 : Int32)), .val (.int (4 : Int32)), .val (.ref tb)] [(.ref tb), (.int (0 : Int32)), (.ref vb)]))
  refine own_st (fun t9 k9 => XS.iconst X65.here hx rfl (hb hby own_d_jdk_65_method_133_18) k9) ?_
  show own_Go p e below s _ _ _ (T65.setTop (mkF m 19 #[.val (.ref vb), .val (.int (0 : Int32)), .val (.int (4 : Int32)), .val (.int (4 : Int32)), .val (.ref tb)] [(.int (0 : Int32)), (.ref tb), (.int (0 : Int32)), (.ref vb)]))
  refine own_st (fun t9 k9 => XS.aloadN X65.here hx rfl (hb hby own_d_jdk_65_method_133_19) rfl rfl k9) ?_
  show own_Go p e below s _ _ _ (T65.setTop (mkF m 20 #[.val (.ref vb), .val (.int (0 : Int32)), .val (.int (4 : Int32)), .val (.int (4 : Int32)), .val (.ref tb)] [(.ref vb), (.int (0 : Int32)), (.ref tb), (.int (0 : Int32)), (.ref vb)]))
  refine own_st (fun t9 k9 => own_alen X65 hx hZ e65 V_b (g := (mkF m 20 #[.val (.ref vb), .val (.int (0 : Int32)), .val (.int (4 : Int32)), .val (.int (4 : Int32)), .val (.ref tb)] [(.ref vb), (.int (0 : Int32)), (.ref tb), (.int (0 : Int32)), (.ref vb)])) rfl rfl (hb hby own_d_jdk_65_method_133_20) t9 k9) ?_
  show own_Go p e below s _ _ _ (T65.setTop (mkF m 21 #[.val (.ref vb), .val (.int (0 : Int32)), .val (.int (4 : Int32)), .val (.int (4 : Int32)), .val (.ref tb)] [(.int (16 : Int32)), (.int (0 : Int32)), (.ref tb), (.int (0 : Int32)), (.ref vb)]))
  refine own_st (fun t9 k9 => XS.iloadN X65.here hx rfl (hb hby own_d_jdk_65_method_133_21) rfl  k9) ?_
  show own_Go p e below s _ _ _ (T65.setTop (mkF m 22 #[.val (.ref vb), .val (.int (0 : Int32)), .val (.int (4 : Int32)), .val (.int (4 : Int32)), .val (.ref tb)] [(.int (0 : Int32)), (.int (16 : Int32)), (.int (0 : Int32)), (.ref tb), (.int (0 : Int32)), (.ref vb)]))
  refine own_st (fun t9 k9 => XS.isub X65.here hx rfl (hb hby own_d_jdk_65_method_133_22) rfl k9) ?_
  show own_Go p e below s _ _ _ (T65.setTop (mkF m 23 #[.val (.ref vb), .val (.int (0 : Int32)), .val (.int (4 : Int32)), .val (.int (4 : Int32)), .val (.ref tb)] [(.int ((16 : Int32) - (0 : Int32))), (.int (0 : Int32)), (.ref tb), (.int (0 : Int32)), (.ref vb)]))
  rw [own_sub0]
  show own_Go p e below s _ _ _ (T65.setTop (mkF m 23 #[.val (.ref vb), .val (.int (0 : Int32)), .val (.int (4 : Int32)), .val (.int (4 : Int32)), .val (.ref tb)] [(.int (16 : Int32)), (.int (0 : Int32)), (.ref tb), (.int (0 : Int32)), (.ref vb)]))
  refine own_st (fun t9 k9 => XS.iloadN X65.here hx rfl (hb hby own_d_jdk_65_method_133_23) rfl  k9) ?_
  show own_Go p e below s _ _ _ (T65.setTop (mkF m 24 #[.val (.ref vb), .val (.int (0 : Int32)), .val (.int (4 : Int32)), .val (.int (4 : Int32)), .val (.ref tb)] [(.int (4 : Int32)), (.int (16 : Int32)), (.int (0 : Int32)), (.ref tb), (.int (0 : Int32)), (.ref vb)]))
  obtain ⟨_, T66, h66, L66, X66, e66, ⟨rfl, Nd, hv⟩, st66⟩ := own_callS X65 hx hZ hown (hw _ (List.mem_of_getElem? (i := 184) rfl)) (hw _ (List.mem_of_getElem? (i := 185) rfl)) (hw _ (List.mem_of_getElem? (i := 186) rfl)) (hw _ (List.mem_of_getElem? (i := 187) rfl)) (by decide) (own_rm_mn4 l Z a0 hw [] h65 n0 Od) (by decide) (by decide) e65 (W := 4) (g := (mkF m 24 #[.val (.ref vb), .val (.int (0 : Int32)), .val (.int (4 : Int32)), .val (.int (4 : Int32)), .val (.ref tb)] [(.int (4 : Int32)), (.int (16 : Int32)), (.int (0 : Int32)), (.ref tb), (.int (0 : Int32)), (.ref vb)])) rfl (by rw [hml]; rfl) (argsL := [(.int (16 : Int32)), (.int (4 : Int32))]) (rest := [(.int (0 : Int32)), (.ref tb), (.int (0 : Int32)), (.ref vb)]) rfl (lenOf own_pd11 rfl) rfl (by show 2 * 0 + _ ≤ _; exact Nat.le_of_eq rfl) (hb hby own_d_jdk_65_method_133_24) (by decide) (by decide)
  have N66 := Fr.app N64 Nd
  refine own_st st66 ?_
  show own_Go p e below s _ _ _ (T66.setTop (mkF m 27 #[.val (.ref vb), .val (.int (0 : Int32)), .val (.int (4 : Int32)), .val (.int (4 : Int32)), .val (.ref tb)] [(.int (4 : Int32)), (.int (0 : Int32)), (.ref tb), (.int (0 : Int32)), (.ref vb)]))
  obtain ⟨T67, h67, L67, X67, e67, N67, Kq67, V_u, st67⟩ := cpA X66 hx hZ hown (hw _ (List.mem_of_getElem? (i := 188) rfl)) (hw _ (List.mem_of_getElem? (i := 142) rfl)) (hw _ (List.mem_of_getElem? (i := 140) rfl)) (hw _ (List.mem_of_getElem? (i := 141) rfl)) (e66.trans hv) V_b V_t (Or.inl ⟨rfl, rfl⟩) (by decide) (by decide) (by decide) (by decide) (by decide) (us := us) hus (by decide) N66 ge_tb (g := (mkF m 27 #[.val (.ref vb), .val (.int (0 : Int32)), .val (.int (4 : Int32)), .val (.int (4 : Int32)), .val (.ref tb)] [(.int (4 : Int32)), (.int (0 : Int32)), (.ref tb), (.int (0 : Int32)), (.ref vb)])) rfl (by rw [hml]; rfl) (rest := []) rfl (hb hby own_d_jdk_65_method_133_27) (by decide) (W := 0) (by show 2 * 0 + _ ≤ _; exact Nat.le_of_eq rfl) (by decide)
  have V_b := V_b.keep Kq67 (ninS ne_vb_tb nin0)
  have Od := Od.keep Kq67 (allS ge_tb all0)
  have Kp := Kp.trans Kq67 (allS (Or.inr gz_tb) all0)
  refine own_st st67 ?_
  show own_Go p e below s _ _ _ (T67.setTop (mkF m 30 #[.val (.ref vb), .val (.int (0 : Int32)), .val (.int (4 : Int32)), .val (.int (4 : Int32)), .val (.ref tb)] []))
  have V_w : Arv Z h67 tb k65 .byte (4 : Int32) us (.int (0 : Int32)) := by
    have q : Arv Z h67 tb k65 .byte (4 : Int32) ([] ++ us ++ []) (.int (0 : Int32)) := V_u
    rw [List.append_nil, List.nil_append] at q
    exact q
  refine own_st (fun t9 k9 => XS.aload X67.here hx rfl (hb hby own_d_jdk_65_method_133_30) rfl rfl k9) ?_
  show own_Go p e below s _ _ _ (T67.setTop (mkF m 32 #[.val (.ref vb), .val (.int (0 : Int32)), .val (.int (4 : Int32)), .val (.int (4 : Int32)), .val (.ref tb)] [(.ref tb)]))
  exact own_retR X67 hx hlk Bd.returns rfl rfl (hb hby own_d_jdk_65_method_133_32) (by decide) (by decide) (by rw [e67]; exact ⟨N67, Kp, tb, _, rfl, gz_tb, V_w⟩)
theorem own_ef_cor4 (m : MethodId) (x0 : Addr) (x1 : Int32) (x2 : Int32) : entryFrame m #[(.ref x0), (.int x1), (.int x2)] 3 = mkF m 0 #[.val (.ref x0), .val (.int x1), .val (.int x2)] [] := by first | (simp [entryFrame, mkF, argsToLocals, Value.category]; done) | rfl
def own_Q_cor4 (Z : State) (us : List Value) (h0 : Heap) (n0 : Nat) (v : Option Value) (h : Heap) (L : List Loc) : Prop := Fr n0 L ∧ Keep h0 h [] ∧ ∃ tb k, v = some (.ref tb) ∧ h0.size ≤ tb ∧ Arv Z h tb k .byte (4 : Int32) us (.int (0 : Int32))
set_option maxRecDepth 65536 in
set_option maxHeartbeats 40000000 in
theorem own_rm_cor4 (l : Launch) (Z : State) (a0 : Array Value) (hw : ∀ d ∈ tables_1, d.before a0 Z = true) (ws : List Jvm.Cond) (vb : Addr) (kv : ClassId) (vd us : List Value) (h0 : Heap) (n0 : Nat) (Od : Old Z n0 h0) (V_b : Arv Z h0 vb kv .byte (16 : Int32) vd (.int (0 : Int32))) (hus : us = (List.range (4 : Int32).toNatClampNeg).map fun i => vd.getD ((0 : Int32).toNatClampNeg + i) (.int (0 : Int32))) :
    MetFree l (⟨"java/util/Arrays", "copyOfRange", "([BII)[B"⟩ : MethodName) (head1 (Jvm.Cond.code (⟨"java/util/Arrays", "copyOfRange", "([BII)[B"⟩ : MethodName) jdk_65_method_132_code 3 (some (.array .byte)) :: ws) ({ frames := 2, cells := 1, slots := 4, locals := 34 } : Room)) (fun a9 U => a9 = #[(.ref vb), (.int (0 : Int32)), (.int (4 : Int32))] ∧ Z.Warmed39 U.vm ∧ U.heap = h0) (fun _ _ _ _ _ => True) (fun _ U o U' => ∃ v L, o = .returned v ∧ own_Q_cor4 Z us h0 n0 v U'.heap L ∧ FrameEnd U o U' L ({ frames := 2, cells := 1, slots := 4, locals := 34 } : Room).cells ({ frames := 2, cells := 1, slots := 4, locals := 34 } : Room).slots) := by
  refine MetFree.of_bodySF (plainFor_of_name own_pn6) hisR ?_
  intro p e s m args below meth c s₁ Bd hml0 hP hK
  obtain ⟨rfl, hZ, hh⟩ := hP
  have hx := Bd.exec
  have hby := Bd.bytes
  have hml : c.maxLocals = 3 := hml0
  have hown : s.vm.findClass "java/util/Arrays" = some m.cls := findClass_of_methodNamed Bd.named
  have hnm := (name_of_methodNamed Bd.named Bd.method).1
  have hlk : meth.locks = false := Bd.notSynchronized
  have X0 : Stand p l e ({ frames := 2, cells := 1, slots := 4, locals := 34 } : Room) s m #[(.ref vb), (.int (0 : Int32)), (.int (4 : Int32))] below meth c s₁ [] 0 0 := Stand.of_body Bd
  have e0 : s₁.heap = h0 := by rw [← hh, Bd.state]; rfl
  have N0 := Fr.nil n0
  show own_Go p e below s (own_Q_cor4 Z us h0 n0) ({ frames := 2, cells := 1, slots := 4, locals := 34 } : Room).cells ({ frames := 2, cells := 1, slots := 4, locals := 34 } : Room).slots (s₁.setTop (entryFrame m #[(.ref vb), (.int (0 : Int32)), (.int (4 : Int32))] 3))
  refine own_st (fun t9 k9 => castTop (own_ef_cor4 m vb (0 : Int32) (4 : Int32)) k9) ?_
  show own_Go p e below s _ _ _ (s₁.setTop (mkF m 0 #[.val (.ref vb), .val (.int (0 : Int32)), .val (.int (4 : Int32))] []))
  have Kp : Keep h0 h0 [] := Keep.refl h0 []
  refine own_st (fun t9 k9 => XS.iloadN X0.here hx rfl (hb hby own_d_jdk_65_method_132_0) rfl  k9) ?_
  show own_Go p e below s _ _ _ (s₁.setTop (mkF m 1 #[.val (.ref vb), .val (.int (0 : Int32)), .val (.int (4 : Int32))] [(.int (0 : Int32))]))
  refine own_st (fun t9 k9 => XS.ifNo X0.here hx rfl (hb hby own_d_jdk_65_method_132_1) rfl (by decide) k9) ?_
  show own_Go p e below s _ _ _ (s₁.setTop (mkF m 4 #[.val (.ref vb), .val (.int (0 : Int32)), .val (.int (4 : Int32))] []))
  refine own_st (fun t9 k9 => XS.iloadN X0.here hx rfl (hb hby own_d_jdk_65_method_132_4) rfl  k9) ?_
  show own_Go p e below s _ _ _ (s₁.setTop (mkF m 5 #[.val (.ref vb), .val (.int (0 : Int32)), .val (.int (4 : Int32))] [(.int (4 : Int32))]))
  refine own_st (fun t9 k9 => XS.aloadN X0.here hx rfl (hb hby own_d_jdk_65_method_132_5) rfl rfl k9) ?_
  show own_Go p e below s _ _ _ (s₁.setTop (mkF m 6 #[.val (.ref vb), .val (.int (0 : Int32)), .val (.int (4 : Int32))] [(.ref vb), (.int (4 : Int32))]))
  refine own_st (fun t9 k9 => own_alen X0 hx hZ e0 V_b (g := (mkF m 6 #[.val (.ref vb), .val (.int (0 : Int32)), .val (.int (4 : Int32))] [(.ref vb), (.int (4 : Int32))])) rfl rfl (hb hby own_d_jdk_65_method_132_6) t9 k9) ?_
  show own_Go p e below s _ _ _ (s₁.setTop (mkF m 7 #[.val (.ref vb), .val (.int (0 : Int32)), .val (.int (4 : Int32))] [(.int (16 : Int32)), (.int (4 : Int32))]))
  refine own_st (fun t9 k9 => XS.icmpNo X0.here hx rfl (hb hby own_d_jdk_65_method_132_7) rfl (by decide) k9) ?_
  show own_Go p e below s _ _ _ (s₁.setTop (mkF m 10 #[.val (.ref vb), .val (.int (0 : Int32)), .val (.int (4 : Int32))] []))
  refine own_st (fun t9 k9 => XS.aloadN X0.here hx rfl (hb hby own_d_jdk_65_method_132_10) rfl rfl k9) ?_
  show own_Go p e below s _ _ _ (s₁.setTop (mkF m 11 #[.val (.ref vb), .val (.int (0 : Int32)), .val (.int (4 : Int32))] [(.ref vb)]))
  refine own_st (fun t9 k9 => XS.iloadN X0.here hx rfl (hb hby own_d_jdk_65_method_132_11) rfl  k9) ?_
  show own_Go p e below s _ _ _ (s₁.setTop (mkF m 12 #[.val (.ref vb), .val (.int (0 : Int32)), .val (.int (4 : Int32))] [(.int (0 : Int32)), (.ref vb)]))
  refine own_st (fun t9 k9 => XS.iloadN X0.here hx rfl (hb hby own_d_jdk_65_method_132_12) rfl  k9) ?_
  show own_Go p e below s _ _ _ (s₁.setTop (mkF m 13 #[.val (.ref vb), .val (.int (0 : Int32)), .val (.int (4 : Int32))] [(.int (4 : Int32)), (.int (0 : Int32)), (.ref vb)]))
  obtain ⟨_, T68, h68, L68, X68, e68, ⟨Nc, Kc, tb, kb, rfl, gtb, V_t⟩, st68⟩ := own_callS X0 hx hZ hown (hw _ (List.mem_of_getElem? (i := 178) rfl)) (hw _ (List.mem_of_getElem? (i := 179) rfl)) (hw _ (List.mem_of_getElem? (i := 176) rfl)) (hw _ (List.mem_of_getElem? (i := 180) rfl)) (by decide) (own_rm_crb4 l Z a0 hw [] vb kv vd us h0 n0 Od V_b hus) (by decide) (by decide) e0 (W := 0) (g := (mkF m 13 #[.val (.ref vb), .val (.int (0 : Int32)), .val (.int (4 : Int32))] [(.int (4 : Int32)), (.int (0 : Int32)), (.ref vb)])) rfl (by rw [hml]; rfl) (argsL := [(.ref vb), (.int (0 : Int32)), (.int (4 : Int32))]) (rest := []) rfl (lenOf own_pd12 rfl) rfl (by show 2 * 0 + _ ≤ _; exact Nat.le_of_eq rfl) (hb hby own_d_jdk_65_method_132_13) (by decide) (by decide)
  have N68 := Fr.app N0 Nc
  have V_b := V_b.keep Kc nin0
  have Od := Od.keep Kc all0
  have Kp := Kp.trans Kc all0
  refine own_st st68 ?_
  show own_Go p e below s _ _ _ (T68.setTop (mkF m 16 #[.val (.ref vb), .val (.int (0 : Int32)), .val (.int (4 : Int32))] [(.ref tb)]))
  exact own_retR X68 hx hlk Bd.returns rfl rfl (hb hby own_d_jdk_65_method_132_16) (by decide) (by decide) (by rw [e68]; exact ⟨N68, Kp, tb, kb, rfl, gtb, V_t⟩)
theorem own_ef_sv4 (m : MethodId) (x0 : Addr) (x1 : Addr) : entryFrame m #[(.ref x0), (.ref x1), .null] 5 = mkF m 0 #[.val (.ref x0), .val (.ref x1), .val .null, .unset, .unset] [] := by first | (simp [entryFrame, mkF, argsToLocals, Value.category]; done) | rfl
def own_Q_sv4 (Z : State) (y : Addr) (us : List Value) (h0 : Heap) (n0 : Nat) (v : Option Value) (h : Heap) (L : List Loc) : Prop := v = none ∧ Fr n0 L ∧ Keep h0 h [y] ∧ Exa Z h y "java/lang/String" ∧ Fld Z h y "java/lang/String" "coder" "B" (.int (0 : Int32)) ∧ ∃ tb k, Fld Z h y "java/lang/String" "value" "[B" (.ref tb) ∧ Arv Z h tb k .byte (4 : Int32) us (.int (0 : Int32))
set_option maxRecDepth 65536 in
set_option maxHeartbeats 40000000 in
theorem own_rm_sv4 (l : Launch) (Z : State) (a0 : Array Value) (hw : ∀ d ∈ tables_1, d.before a0 Z = true) (ws : List Jvm.Cond) (y x vb : Addr) (kv : ClassId) (vd us : List Value) (G : Int32) (h0 : Heap) (n0 : Nat) (Od : Old Z n0 h0) (E_y : Exa Z h0 y "java/lang/String") (W_v : Fld Z h0 y "java/lang/String" "value" "[B" .null) (W_k : Fld Z h0 y "java/lang/String" "coder" "B" (.int (0 : Int32))) (ge_y : n0 ≤ y) (ne_vb_y : vb ≠ y) (E_x : Exa Z h0 x "java/lang/StringBuilder") (F_v : Fld Z h0 x "java/lang/AbstractStringBuilder" "value" "[B" (.ref vb)) (F_k : Fld Z h0 x "java/lang/AbstractStringBuilder" "coder" "B" (.int (0 : Int32))) (F_c : Fld Z h0 x "java/lang/AbstractStringBuilder" "count" "I" (.int (4 : Int32))) (V_b : Arv Z h0 vb kv .byte (16 : Int32) vd (.int (0 : Int32))) (hus : us = (List.range (4 : Int32).toNatClampNeg).map fun i => vd.getD ((0 : Int32).toNatClampNeg + i) (.int (0 : Int32))) (O2 : Sta Z Z.heap "java/lang/String" "COMPACT_STRINGS" "Z" (.int G)) (P5 : ¬ (G = (0 : Int32))) :
    MetFree l (⟨"java/lang/String", "<init>", "(Ljava/lang/AbstractStringBuilder;Ljava/lang/Void;)V"⟩ : MethodName) (head1 (Jvm.Cond.code (⟨"java/lang/String", "<init>", "(Ljava/lang/AbstractStringBuilder;Ljava/lang/Void;)V"⟩ : MethodName) jdk_42_method_150_code 5 none :: ws) ({ frames := 3, cells := 1, slots := 4, locals := 49 } : Room)) (fun a9 U => a9 = #[(.ref y), (.ref x), .null] ∧ Z.Warmed39 U.vm ∧ U.heap = h0) (fun _ _ _ _ _ => True) (fun _ U o U' => ∃ v L, o = .returned v ∧ own_Q_sv4 Z y us h0 n0 v U'.heap L ∧ FrameEnd U o U' L ({ frames := 3, cells := 1, slots := 4, locals := 49 } : Room).cells ({ frames := 3, cells := 1, slots := 4, locals := 49 } : Room).slots) := by
  refine MetFree.of_bodySF (plainFor_of_name own_pn1) hisR ?_
  intro p e s m args below meth c s₁ Bd hml0 hP hK
  obtain ⟨rfl, hZ, hh⟩ := hP
  have hx := Bd.exec
  have hby := Bd.bytes
  have hml : c.maxLocals = 5 := hml0
  have hown : s.vm.findClass "java/lang/String" = some m.cls := findClass_of_methodNamed Bd.named
  have hnm := (name_of_methodNamed Bd.named Bd.method).1
  have hlk : meth.locks = false := Bd.notSynchronized
  have X0 : Stand p l e ({ frames := 3, cells := 1, slots := 4, locals := 49 } : Room) s m #[(.ref y), (.ref x), .null] below meth c s₁ [] 0 0 := Stand.of_body Bd
  have e0 : s₁.heap = h0 := by rw [← hh, Bd.state]; rfl
  have N0 := Fr.nil n0
  show own_Go p e below s (own_Q_sv4 Z y us h0 n0) ({ frames := 3, cells := 1, slots := 4, locals := 49 } : Room).cells ({ frames := 3, cells := 1, slots := 4, locals := 49 } : Room).slots (s₁.setTop (entryFrame m #[(.ref y), (.ref x), .null] 5))
  refine own_st (fun t9 k9 => castTop (own_ef_sv4 m y x) k9) ?_
  show own_Go p e below s _ _ _ (s₁.setTop (mkF m 0 #[.val (.ref y), .val (.ref x), .val .null, .unset, .unset] []))
  have ne_x_y : x ≠ y := Exa.ne E_x E_y (by decide)
  have Kp : Keep h0 h0 [y] := Keep.refl h0 [y]
  refine own_st (fun t9 k9 => XS.aloadN X0.here hx rfl (hb hby own_d_jdk_42_method_150_0) rfl rfl k9) ?_
  show own_Go p e below s _ _ _ (s₁.setTop (mkF m 1 #[.val (.ref y), .val (.ref x), .val .null, .unset, .unset] [(.ref y)]))
  obtain ⟨T69, X69, e69, st69⟩ := initO X0 hx hZ hown (hw _ (List.mem_of_getElem? (i := 19) rfl)) (hw _ (List.mem_of_getElem? (i := 20) rfl)) (hw _ (List.mem_of_getElem? (i := 21) rfl)) e0 (g := (mkF m 1 #[.val (.ref y), .val (.ref x), .val .null, .unset, .unset] [(.ref y)])) rfl (by rw [hml]; rfl) rfl (hb hby own_d_jdk_42_method_150_1) (by decide) (W := 0) (by show 2 * 0 + _ ≤ _; exact Nat.le_of_eq rfl) (by decide)
  refine own_st st69 ?_
  show own_Go p e below s _ _ _ (T69.setTop (mkF m 4 #[.val (.ref y), .val (.ref x), .val .null, .unset, .unset] []))
  refine own_st (fun t9 k9 => XS.aloadN X69.here hx rfl (hb hby own_d_jdk_42_method_150_4) rfl rfl k9) ?_
  show own_Go p e below s _ _ _ (T69.setTop (mkF m 5 #[.val (.ref y), .val (.ref x), .val .null, .unset, .unset] [(.ref x)]))
  obtain ⟨_, T70, h70, L70, X70, e70, ⟨rfl, Nc, hu⟩, st70⟩ := own_callV X69 hx hZ hown (hw _ (List.mem_of_getElem? (i := 156) rfl)) (hw _ (List.mem_of_getElem? (i := 157) rfl)) (hw _ (List.mem_of_getElem? (i := 159) rfl)) (hw _ (List.mem_of_getElem? (i := 158) rfl)) (hw _ (List.mem_of_getElem? (i := 88) rfl)) (hw _ (List.mem_of_getElem? (i := 160) rfl)) (by decide) (own_rm_gv l Z a0 hw [] x vb h0 n0 Od F_v) (by decide) (by decide) e69 (b := x) E_x (W := 0) (g := (mkF m 5 #[.val (.ref y), .val (.ref x), .val .null, .unset, .unset] [(.ref x)])) rfl (by rw [hml]; rfl) (argsL := []) (rest := []) rfl (lenOf own_pd13 rfl) rfl (by show 2 * 0 + _ ≤ _; exact Nat.le_of_eq rfl) (hb hby own_d_jdk_42_method_150_5) (by decide) (by decide)
  have N70 := Fr.app N0 Nc
  refine own_st st70 ?_
  show own_Go p e below s _ _ _ (T70.setTop (mkF m 8 #[.val (.ref y), .val (.ref x), .val .null, .unset, .unset] [(.ref vb)]))
  refine own_st (fun t9 k9 => XS.astoreN X70.here hx rfl (hb hby own_d_jdk_42_method_150_8) rfl rfl (l' := #[.val (.ref y), .val (.ref x), .val .null, .val (.ref vb), .unset]) rfl k9) ?_
  show own_Go p e below s _ _ _ (T70.setTop (mkF m 9 #[.val (.ref y), .val (.ref x), .val .null, .val (.ref vb), .unset] []))
  refine own_st (fun t9 k9 => XS.aloadN X70.here hx rfl (hb hby own_d_jdk_42_method_150_9) rfl rfl k9) ?_
  show own_Go p e below s _ _ _ (T70.setTop (mkF m 10 #[.val (.ref y), .val (.ref x), .val .null, .val (.ref vb), .unset] [(.ref x)]))
  obtain ⟨_, T71, h71, L71, X71, e71, ⟨rfl, Nd, hv⟩, st71⟩ := own_callVZ X70 hx hZ hown (hw _ (List.mem_of_getElem? (i := 161) rfl)) (hw _ (List.mem_of_getElem? (i := 162) rfl)) (hw _ (List.mem_of_getElem? (i := 121) rfl)) rfl (hw _ (List.mem_of_getElem? (i := 163) rfl)) (hw _ (List.mem_of_getElem? (i := 164) rfl)) (hw _ (List.mem_of_getElem? (i := 165) rfl)) (hw _ (List.mem_of_getElem? (i := 80) rfl)) (hw _ (List.mem_of_getElem? (i := 166) rfl)) (by decide) (own_rm_sln l Z a0 hw [] x (4 : Int32) h0 n0 Od E_x F_c) (by decide) (by decide) (e70.trans hu) (b := x) E_x (W := 0) (g := (mkF m 10 #[.val (.ref y), .val (.ref x), .val .null, .val (.ref vb), .unset] [(.ref x)])) rfl (by rw [hml]; rfl) (argsL := []) (rest := []) rfl (lenOf own_pd7 rfl) rfl (by show 2 * 0 + _ ≤ _; exact Nat.le_of_eq rfl) (hb hby own_d_jdk_42_method_150_10) (by decide) (by decide)
  have N71 := Fr.app N70 Nd
  refine own_st st71 ?_
  show own_Go p e below s _ _ _ (T71.setTop (mkF m 13 #[.val (.ref y), .val (.ref x), .val .null, .val (.ref vb), .unset] [(.int (4 : Int32))]))
  refine own_st (fun t9 k9 => XS.istore X71.here hx rfl (hb hby own_d_jdk_42_method_150_13) rfl (l' := #[.val (.ref y), .val (.ref x), .val .null, .val (.ref vb), .val (.int (4 : Int32))]) rfl k9) ?_
  show own_Go p e below s _ _ _ (T71.setTop (mkF m 15 #[.val (.ref y), .val (.ref x), .val .null, .val (.ref vb), .val (.int (4 : Int32))] []))
  refine own_st (fun t9 k9 => XS.aloadN X71.here hx rfl (hb hby own_d_jdk_42_method_150_15) rfl rfl k9) ?_
  show own_Go p e below s _ _ _ (T71.setTop (mkF m 16 #[.val (.ref y), .val (.ref x), .val .null, .val (.ref vb), .val (.int (4 : Int32))] [(.ref x)]))
  obtain ⟨_, T72, h72, L72, X72, e72, ⟨rfl, Nq, hq⟩, st72⟩ := own_callV X71 hx hZ hown (hw _ (List.mem_of_getElem? (i := 169) rfl)) (hw _ (List.mem_of_getElem? (i := 170) rfl)) (hw _ (List.mem_of_getElem? (i := 172) rfl)) (hw _ (List.mem_of_getElem? (i := 171) rfl)) (hw _ (List.mem_of_getElem? (i := 88) rfl)) (hw _ (List.mem_of_getElem? (i := 173) rfl)) (by decide) (own_rm_isl l Z a0 hw [] x G h0 n0 Od O2 P5 F_k) (by decide) (by decide) (e71.trans hv) (b := x) E_x (W := 0) (g := (mkF m 16 #[.val (.ref y), .val (.ref x), .val .null, .val (.ref vb), .val (.int (4 : Int32))] [(.ref x)])) rfl (by rw [hml]; rfl) (argsL := []) (rest := []) rfl (lenOf own_pd14 rfl) rfl (by show 2 * 0 + _ ≤ _; exact Nat.le_of_eq rfl) (hb hby own_d_jdk_42_method_150_16) (by decide) (by decide)
  have N72 := Fr.app N71 Nq
  refine own_st st72 ?_
  show own_Go p e below s _ _ _ (T72.setTop (mkF m 19 #[.val (.ref y), .val (.ref x), .val .null, .val (.ref vb), .val (.int (4 : Int32))] [(.int (1 : Int32))]))
  refine own_st (fun t9 k9 => XS.ifNo X72.here hx rfl (hb hby own_d_jdk_42_method_150_19) rfl (by decide) k9) ?_
  show own_Go p e below s _ _ _ (T72.setTop (mkF m 22 #[.val (.ref y), .val (.ref x), .val .null, .val (.ref vb), .val (.int (4 : Int32))] []))
  refine own_st (fun t9 k9 => XS.aloadN X72.here hx rfl (hb hby own_d_jdk_42_method_150_22) rfl rfl k9) ?_
  show own_Go p e below s _ _ _ (T72.setTop (mkF m 23 #[.val (.ref y), .val (.ref x), .val .null, .val (.ref vb), .val (.int (4 : Int32))] [(.ref y)]))
  refine own_st (fun t9 k9 => XS.iconst X72.here hx rfl (hb hby own_d_jdk_42_method_150_23) k9) ?_
  show own_Go p e below s _ _ _ (T72.setTop (mkF m 24 #[.val (.ref y), .val (.ref x), .val .null, .val (.ref vb), .val (.int (4 : Int32))] [(.int (0 : Int32)), (.ref y)]))
  obtain ⟨T73, h73, X73, e73, W73, st73⟩ := putFN X72 hx hZ hown (hw _ (List.mem_of_getElem? (i := 24) rfl)) Via.refl (e72.trans hq) W_k E_y (Or.inr ⟨(hw _ (List.mem_of_getElem? (i := 25) rfl)), rfl, hnm⟩) (hw _ (List.mem_of_getElem? (i := 10) rfl)) (ty := .byte) (v' := (.int (0 : Int32))) (by decide) rfl rfl (g := (mkF m 24 #[.val (.ref y), .val (.ref x), .val .null, .val (.ref vb), .val (.int (4 : Int32))] [(.int (0 : Int32)), (.ref y)])) rfl rfl (hb hby own_d_jdk_42_method_150_24)
  have N73 := Fr.snoc X73 N72 ge_y
  have E_y := E_y.wr W73
  have W_v := W_v.other W73 (Or.inr (RoadKit.slot_ne (Or.inr (hw _ (List.mem_of_getElem? (i := 23) rfl))) (Or.inr (hw _ (List.mem_of_getElem? (i := 25) rfl))) (by decide) (t := (.array .byte)) (t' := .byte) (by decide) (by decide)))
  have W_k := W_k.same W73
  have E_x := E_x.wr W73
  have F_v := F_v.other W73 (Or.inl ne_x_y)
  have F_k := F_k.other W73 (Or.inl ne_x_y)
  have F_c := F_c.other W73 (Or.inl ne_x_y)
  have V_b := V_b.other W73 ne_vb_y
  have Od := Od.wr W73 ge_y
  have Kp := Kp.wr W73 (Or.inl (List.mem_of_getElem? (i := 0) rfl))
  refine own_st st73 ?_
  show own_Go p e below s _ _ _ (T73.setTop (mkF m 27 #[.val (.ref y), .val (.ref x), .val .null, .val (.ref vb), .val (.int (4 : Int32))] []))
  refine own_st (fun t9 k9 => XS.aloadN X73.here hx rfl (hb hby own_d_jdk_42_method_150_27) rfl rfl k9) ?_
  show own_Go p e below s _ _ _ (T73.setTop (mkF m 28 #[.val (.ref y), .val (.ref x), .val .null, .val (.ref vb), .val (.int (4 : Int32))] [(.ref y)]))
  refine own_st (fun t9 k9 => XS.aloadN X73.here hx rfl (hb hby own_d_jdk_42_method_150_28) rfl rfl k9) ?_
  show own_Go p e below s _ _ _ (T73.setTop (mkF m 29 #[.val (.ref y), .val (.ref x), .val .null, .val (.ref vb), .val (.int (4 : Int32))] [(.ref vb), (.ref y)]))
  refine own_st (fun t9 k9 => XS.iconst X73.here hx rfl (hb hby own_d_jdk_42_method_150_29) k9) ?_
  show own_Go p e below s _ _ _ (T73.setTop (mkF m 30 #[.val (.ref y), .val (.ref x), .val .null, .val (.ref vb), .val (.int (4 : Int32))] [(.int (0 : Int32)), (.ref vb), (.ref y)]))
  refine own_st (fun t9 k9 => XS.iload X73.here hx rfl (hb hby own_d_jdk_42_method_150_30) rfl  k9) ?_
  show own_Go p e below s _ _ _ (T73.setTop (mkF m 32 #[.val (.ref y), .val (.ref x), .val .null, .val (.ref vb), .val (.int (4 : Int32))] [(.int (4 : Int32)), (.int (0 : Int32)), (.ref vb), (.ref y)]))
  obtain ⟨_, T74, h74, L74, X74, e74, ⟨Nr, Kr, tb, kb, rfl, gtb, V_t⟩, st74⟩ := own_callS X73 hx hZ hown (hw _ (List.mem_of_getElem? (i := 174) rfl)) (hw _ (List.mem_of_getElem? (i := 175) rfl)) (hw _ (List.mem_of_getElem? (i := 176) rfl)) (hw _ (List.mem_of_getElem? (i := 177) rfl)) (by decide) (own_rm_cor4 l Z a0 hw [] vb kv vd us h73 n0 Od V_b hus) (by decide) (by decide) e73 (W := 1) (g := (mkF m 32 #[.val (.ref y), .val (.ref x), .val .null, .val (.ref vb), .val (.int (4 : Int32))] [(.int (4 : Int32)), (.int (0 : Int32)), (.ref vb), (.ref y)])) rfl (by rw [hml]; rfl) (argsL := [(.ref vb), (.int (0 : Int32)), (.int (4 : Int32))]) (rest := [(.ref y)]) rfl (lenOf own_pd12 rfl) rfl (by show 2 * 0 + _ ≤ _; exact Nat.le_of_eq rfl) (hb hby own_d_jdk_42_method_150_32) (by decide) (by decide)
  have N74 := Fr.app N73 Nr
  have ne_y_tb : y ≠ tb := Nat.ne_of_lt (Nat.lt_of_lt_of_le E_y.lt gtb)
  have ne_x_tb : x ≠ tb := Nat.ne_of_lt (Nat.lt_of_lt_of_le E_x.lt gtb)
  have ne_vb_tb : vb ≠ tb := Nat.ne_of_lt (Nat.lt_of_lt_of_le V_b.lt gtb)
  have ge_tb : n0 ≤ tb := Nat.le_trans (own_z0 Od) gtb
  have gz_tb : h0.size ≤ tb := Nat.le_trans Kp.1 gtb
  have E_y := E_y.keep Kr
  have W_v := W_v.keep Kr nin0
  have W_k := W_k.keep Kr nin0
  have E_x := E_x.keep Kr
  have F_v := F_v.keep Kr nin0
  have F_k := F_k.keep Kr nin0
  have F_c := F_c.keep Kr nin0
  have V_b := V_b.keep Kr nin0
  have Od := Od.keep Kr all0
  have Kp := Kp.trans Kr all0
  refine own_st st74 ?_
  show own_Go p e below s _ _ _ (T74.setTop (mkF m 35 #[.val (.ref y), .val (.ref x), .val .null, .val (.ref vb), .val (.int (4 : Int32))] [(.ref tb), (.ref y)]))
  obtain ⟨T75, h75, X75, e75, W75, st75⟩ := putF X74 hx hZ hown (host := "") (Or.inl (hw _ (List.mem_of_getElem? (i := 22) rfl))) Via.refl e74 W_v E_y (Or.inr ⟨(hw _ (List.mem_of_getElem? (i := 23) rfl)), rfl, hnm⟩) (hw _ (List.mem_of_getElem? (i := 10) rfl)) (ty := (.array .byte)) (by decide) rfl rfl (g := (mkF m 35 #[.val (.ref y), .val (.ref x), .val .null, .val (.ref vb), .val (.int (4 : Int32))] [(.ref tb), (.ref y)])) rfl rfl (hb hby own_d_jdk_42_method_150_35)
  have N75 := Fr.snoc X75 N74 ge_y
  have E_y := E_y.wr W75
  have W_v := W_v.same W75
  have W_k := W_k.other W75 (Or.inr (RoadKit.slot_ne (Or.inr (hw _ (List.mem_of_getElem? (i := 25) rfl))) (Or.inr (hw _ (List.mem_of_getElem? (i := 23) rfl))) (by decide) (t := .byte) (t' := (.array .byte)) (by decide) (by decide)))
  have E_x := E_x.wr W75
  have F_v := F_v.other W75 (Or.inl ne_x_y)
  have F_k := F_k.other W75 (Or.inl ne_x_y)
  have F_c := F_c.other W75 (Or.inl ne_x_y)
  have V_b := V_b.other W75 ne_vb_y
  have V_t := V_t.other W75 (Ne.symm ne_y_tb)
  have Od := Od.wr W75 ge_y
  have Kp := Kp.wr W75 (Or.inl (List.mem_of_getElem? (i := 0) rfl))
  refine own_st st75 ?_
  show own_Go p e below s _ _ _ (T75.setTop (mkF m 38 #[.val (.ref y), .val (.ref x), .val .null, .val (.ref vb), .val (.int (4 : Int32))] []))
  refine own_st (fun t9 k9 => XS.goto X75.here hx rfl (pc0 := 38) (pc' := 97) rfl (hb hby own_d_jdk_42_method_150_38) (by decide) (by decide) k9) ?_
  show own_Go p e below s _ _ _ (T75.setTop (mkF m 97 #[.val (.ref y), .val (.ref x), .val .null, .val (.ref vb), .val (.int (4 : Int32))] []))
  exact own_retV X75 hx hlk Bd.returns (hb hby own_d_jdk_42_method_150_97) (by decide) (by decide) (by rw [e75]; exact ⟨rfl, N75, Kp, E_y, W_k, tb, kb, W_v, V_t⟩)
theorem own_ef_sw4 (m : MethodId) (x0 : Addr) (x1 : Addr) : entryFrame m #[(.ref x0), (.ref x1)] 2 = mkF m 0 #[.val (.ref x0), .val (.ref x1)] [] := by first | (simp [entryFrame, mkF, argsToLocals, Value.category]; done) | rfl
def own_Q_sw4 (Z : State) (y : Addr) (us : List Value) (h0 : Heap) (n0 : Nat) (v : Option Value) (h : Heap) (L : List Loc) : Prop := v = none ∧ Fr n0 L ∧ Keep h0 h [y] ∧ Exa Z h y "java/lang/String" ∧ Fld Z h y "java/lang/String" "coder" "B" (.int (0 : Int32)) ∧ ∃ tb k, Fld Z h y "java/lang/String" "value" "[B" (.ref tb) ∧ Arv Z h tb k .byte (4 : Int32) us (.int (0 : Int32))
set_option maxRecDepth 65536 in
set_option maxHeartbeats 40000000 in
theorem own_rm_sw4 (l : Launch) (Z : State) (a0 : Array Value) (hw : ∀ d ∈ tables_1, d.before a0 Z = true) (ws : List Jvm.Cond) (y x vb : Addr) (kv : ClassId) (vd us : List Value) (G : Int32) (h0 : Heap) (n0 : Nat) (Od : Old Z n0 h0) (E_y : Exa Z h0 y "java/lang/String") (W_v : Fld Z h0 y "java/lang/String" "value" "[B" .null) (W_k : Fld Z h0 y "java/lang/String" "coder" "B" (.int (0 : Int32))) (ge_y : n0 ≤ y) (ne_vb_y : vb ≠ y) (E_x : Exa Z h0 x "java/lang/StringBuilder") (F_v : Fld Z h0 x "java/lang/AbstractStringBuilder" "value" "[B" (.ref vb)) (F_k : Fld Z h0 x "java/lang/AbstractStringBuilder" "coder" "B" (.int (0 : Int32))) (F_c : Fld Z h0 x "java/lang/AbstractStringBuilder" "count" "I" (.int (4 : Int32))) (V_b : Arv Z h0 vb kv .byte (16 : Int32) vd (.int (0 : Int32))) (hus : us = (List.range (4 : Int32).toNatClampNeg).map fun i => vd.getD ((0 : Int32).toNatClampNeg + i) (.int (0 : Int32))) (O2 : Sta Z Z.heap "java/lang/String" "COMPACT_STRINGS" "Z" (.int G)) (P5 : ¬ (G = (0 : Int32))) :
    MetFree l (⟨"java/lang/String", "<init>", "(Ljava/lang/StringBuilder;)V"⟩ : MethodName) (head1 (Jvm.Cond.code (⟨"java/lang/String", "<init>", "(Ljava/lang/StringBuilder;)V"⟩ : MethodName) jdk_42_method_53_code 2 none :: ws) ({ frames := 4, cells := 1, slots := 4, locals := 65 } : Room)) (fun a9 U => a9 = #[(.ref y), (.ref x)] ∧ Z.Warmed39 U.vm ∧ U.heap = h0) (fun _ _ _ _ _ => True) (fun _ U o U' => ∃ v L, o = .returned v ∧ own_Q_sw4 Z y us h0 n0 v U'.heap L ∧ FrameEnd U o U' L ({ frames := 4, cells := 1, slots := 4, locals := 65 } : Room).cells ({ frames := 4, cells := 1, slots := 4, locals := 65 } : Room).slots) := by
  refine MetFree.of_bodySF (plainFor_of_name own_pn1) hisR ?_
  intro p e s m args below meth c s₁ Bd hml0 hP hK
  obtain ⟨rfl, hZ, hh⟩ := hP
  have hx := Bd.exec
  have hby := Bd.bytes
  have hml : c.maxLocals = 2 := hml0
  have hown : s.vm.findClass "java/lang/String" = some m.cls := findClass_of_methodNamed Bd.named
  have hnm := (name_of_methodNamed Bd.named Bd.method).1
  have hlk : meth.locks = false := Bd.notSynchronized
  have X0 : Stand p l e ({ frames := 4, cells := 1, slots := 4, locals := 65 } : Room) s m #[(.ref y), (.ref x)] below meth c s₁ [] 0 0 := Stand.of_body Bd
  have e0 : s₁.heap = h0 := by rw [← hh, Bd.state]; rfl
  have N0 := Fr.nil n0
  show own_Go p e below s (own_Q_sw4 Z y us h0 n0) ({ frames := 4, cells := 1, slots := 4, locals := 65 } : Room).cells ({ frames := 4, cells := 1, slots := 4, locals := 65 } : Room).slots (s₁.setTop (entryFrame m #[(.ref y), (.ref x)] 2))
  refine own_st (fun t9 k9 => castTop (own_ef_sw4 m y x) k9) ?_
  show own_Go p e below s _ _ _ (s₁.setTop (mkF m 0 #[.val (.ref y), .val (.ref x)] []))
  have ne_x_y : x ≠ y := Exa.ne E_x E_y (by decide)
  have Kp : Keep h0 h0 [y] := Keep.refl h0 [y]
  refine own_st (fun t9 k9 => XS.aloadN X0.here hx rfl (hb hby own_d_jdk_42_method_53_0) rfl rfl k9) ?_
  show own_Go p e below s _ _ _ (s₁.setTop (mkF m 1 #[.val (.ref y), .val (.ref x)] [(.ref y)]))
  refine own_st (fun t9 k9 => XS.aloadN X0.here hx rfl (hb hby own_d_jdk_42_method_53_1) rfl rfl k9) ?_
  show own_Go p e below s _ _ _ (s₁.setTop (mkF m 2 #[.val (.ref y), .val (.ref x)] [(.ref x), (.ref y)]))
  refine own_st (fun t9 k9 => XS.aconstNull X0.here hx rfl (hb hby own_d_jdk_42_method_53_2) k9) ?_
  show own_Go p e below s _ _ _ (s₁.setTop (mkF m 3 #[.val (.ref y), .val (.ref x)] [.null, (.ref x), (.ref y)]))
  obtain ⟨_, T76, h76, L76, X76, e76, ⟨rfl, Nc, Kc, E_q, W_l, tb, kb, W_w, V_t⟩, st76⟩ := own_callI X0 hx hZ hown rfl (hw _ (List.mem_of_getElem? (i := 153) rfl)) (hw _ (List.mem_of_getElem? (i := 154) rfl)) (hw _ (List.mem_of_getElem? (i := 2) rfl)) (hw _ (List.mem_of_getElem? (i := 155) rfl)) (by decide) (own_rm_sv4 l Z a0 hw [] y x vb kv vd us G h0 n0 Od E_y W_v W_k ge_y ne_vb_y E_x F_v F_k F_c V_b hus O2 P5) (by decide) (by decide) e0 (a := y) (W := 0) (g := (mkF m 3 #[.val (.ref y), .val (.ref x)] [.null, (.ref x), (.ref y)])) rfl (by rw [hml]; rfl) (argsL := [(.ref x), .null]) (rest := []) rfl (lenOf own_pd15 rfl) rfl (by show 2 * 0 + _ ≤ _; exact Nat.le_of_eq rfl) (hb hby own_d_jdk_42_method_53_3) (by decide) (by decide)
  have N76 := Fr.app N0 Nc
  have E_y := E_y.keep Kc
  have E_x := E_x.keep Kc
  have F_v := F_v.keep Kc (ninS ne_x_y nin0)
  have F_k := F_k.keep Kc (ninS ne_x_y nin0)
  have F_c := F_c.keep Kc (ninS ne_x_y nin0)
  have V_b := V_b.keep Kc (ninS ne_vb_y nin0)
  have Od := Od.keep Kc (allS ge_y all0)
  have Kp := Kp.trans Kc (allS (Or.inl (List.mem_of_getElem? (i := 0) rfl)) all0)
  refine own_st st76 ?_
  show own_Go p e below s _ _ _ (T76.setTop (mkF m 6 #[.val (.ref y), .val (.ref x)] []))
  exact own_retV X76 hx hlk Bd.returns (hb hby own_d_jdk_42_method_53_6) (by decide) (by decide) (by rw [e76]; exact ⟨rfl, N76, Kp, E_q, W_l, tb, kb, W_w, V_t⟩)
theorem own_ef_tos4 (m : MethodId) (x0 : Addr) : entryFrame m #[(.ref x0)] 1 = mkF m 0 #[.val (.ref x0)] [] := by first | (simp [entryFrame, mkF, argsToLocals, Value.category]; done) | rfl
def own_Q_tos4 (Z : State) (us : List Value) (h0 : Heap) (n0 : Nat) (v : Option Value) (h : Heap) (L : List Loc) : Prop := Fr n0 L ∧ Keep h0 h [] ∧ ∃ y tb k, v = some (.ref y) ∧ h0.size ≤ y ∧ Exa Z h y "java/lang/String" ∧ Fld Z h y "java/lang/String" "coder" "B" (.int (0 : Int32)) ∧ Fld Z h y "java/lang/String" "value" "[B" (.ref tb) ∧ Arv Z h tb k .byte (4 : Int32) us (.int (0 : Int32))
set_option maxRecDepth 65536 in
set_option maxHeartbeats 40000000 in
theorem own_rm_tos4 (l : Launch) (Z : State) (a0 : Array Value) (hw : ∀ d ∈ tables_1, d.before a0 Z = true) (ws : List Jvm.Cond) (x vb : Addr) (kv : ClassId) (vd us : List Value) (G : Int32) (h0 : Heap) (n0 : Nat) (Od : Old Z n0 h0) (E_x : Exa Z h0 x "java/lang/StringBuilder") (F_v : Fld Z h0 x "java/lang/AbstractStringBuilder" "value" "[B" (.ref vb)) (F_k : Fld Z h0 x "java/lang/AbstractStringBuilder" "coder" "B" (.int (0 : Int32))) (F_c : Fld Z h0 x "java/lang/AbstractStringBuilder" "count" "I" (.int (4 : Int32))) (V_b : Arv Z h0 vb kv .byte (16 : Int32) vd (.int (0 : Int32))) (hus : us = (List.range (4 : Int32).toNatClampNeg).map fun i => vd.getD ((0 : Int32).toNatClampNeg + i) (.int (0 : Int32))) (O2 : Sta Z Z.heap "java/lang/String" "COMPACT_STRINGS" "Z" (.int G)) (P5 : ¬ (G = (0 : Int32))) :
    MetFree l (⟨"java/lang/StringBuilder", "toString", "()Ljava/lang/String;"⟩ : MethodName) (head1 (Jvm.Cond.code (⟨"java/lang/StringBuilder", "toString", "()Ljava/lang/String;"⟩ : MethodName) jdk_67_method_42_code 1 (some (.object "java/lang/String")) :: ws) ({ frames := 5, cells := 2, slots := 8, locals := 79 } : Room)) (fun a9 U => a9 = #[(.ref x)] ∧ Z.Warmed39 U.vm ∧ U.heap = h0) (fun _ _ _ _ _ => True) (fun _ U o U' => ∃ v L, o = .returned v ∧ own_Q_tos4 Z us h0 n0 v U'.heap L ∧ FrameEnd U o U' L ({ frames := 5, cells := 2, slots := 8, locals := 79 } : Room).cells ({ frames := 5, cells := 2, slots := 8, locals := 79 } : Room).slots) := by
  refine MetFree.of_bodySF (plainFor_of_name own_pn5) hisR ?_
  intro p e s m args below meth c s₁ Bd hml0 hP hK
  obtain ⟨rfl, hZ, hh⟩ := hP
  have hx := Bd.exec
  have hby := Bd.bytes
  have hml : c.maxLocals = 1 := hml0
  have hown : s.vm.findClass "java/lang/StringBuilder" = some m.cls := findClass_of_methodNamed Bd.named
  have hnm := (name_of_methodNamed Bd.named Bd.method).1
  have hlk : meth.locks = false := Bd.notSynchronized
  have X0 : Stand p l e ({ frames := 5, cells := 2, slots := 8, locals := 79 } : Room) s m #[(.ref x)] below meth c s₁ [] 0 0 := Stand.of_body Bd
  have e0 : s₁.heap = h0 := by rw [← hh, Bd.state]; rfl
  have N0 := Fr.nil n0
  show own_Go p e below s (own_Q_tos4 Z us h0 n0) ({ frames := 5, cells := 2, slots := 8, locals := 79 } : Room).cells ({ frames := 5, cells := 2, slots := 8, locals := 79 } : Room).slots (s₁.setTop (entryFrame m #[(.ref x)] 1))
  refine own_st (fun t9 k9 => castTop (own_ef_tos4 m x) k9) ?_
  show own_Go p e below s _ _ _ (s₁.setTop (mkF m 0 #[.val (.ref x)] []))
  have Kp : Keep h0 h0 [] := Keep.refl h0 []
  obtain ⟨T77, h77, X77, e77, E77, A77, D77, U77, st77⟩ := newO X0 hx hZ hown (hw _ (List.mem_of_getElem? (i := 149) rfl)) (hw _ (List.mem_of_getElem? (i := 10) rfl)) (hw _ (List.mem_of_getElem? (i := 2) rfl)) e0 (g := (mkF m 0 #[.val (.ref x)] [])) rfl (hb hby own_d_jdk_67_method_42_0) (by decide) (by decide)
  obtain ⟨y, g77⟩ : ∃ z, z = h0.size := ⟨_, rfl⟩
  rw [← g77] at A77 D77 st77 U77
  have ne_x_y : x ≠ y := Nat.ne_of_lt (Nat.lt_of_lt_of_le E_x.lt (Nat.le_of_eq g77.symm))
  have ne_vb_y : vb ≠ y := Nat.ne_of_lt (Nat.lt_of_lt_of_le V_b.lt (Nat.le_of_eq g77.symm))
  have ge_y : n0 ≤ y := Nat.le_trans (own_z0 Od) (Nat.le_of_eq g77.symm)
  have gz_y : h0.size ≤ y := Nat.le_trans Kp.1 (Nat.le_of_eq g77.symm)
  have E_x := E_x.ext E77
  have F_v := F_v.ext E77
  have F_k := F_k.ext E77
  have F_c := F_c.ext E77
  have V_b := V_b.ext E77
  have Od := Od.ext E77
  have Kp := Kp.ext E77
  refine own_st st77 ?_
  show own_Go p e below s _ _ _ (T77.setTop (mkF m 3 #[.val (.ref x)] [(.ref y)]))
  have E_y : Exa Z h77 y "java/lang/String" := A77
  have W_v : Fld Z h77 y "java/lang/String" "value" "[B" .null := D77 (Or.inr (hw _ (List.mem_of_getElem? (i := 23) rfl))) (ty := (.array .byte)) (by decide)
  have W_k : Fld Z h77 y "java/lang/String" "coder" "B" (.int (0 : Int32)) := D77 (Or.inr (hw _ (List.mem_of_getElem? (i := 25) rfl))) (ty := .byte) (by decide)
  refine own_st (fun t9 k9 => XS.dup X77.here hx rfl (hb hby own_d_jdk_67_method_42_3) rfl rfl k9) ?_
  show own_Go p e below s _ _ _ (T77.setTop (mkF m 4 #[.val (.ref x)] [(.ref y), (.ref y)]))
  refine own_st (fun t9 k9 => XS.aloadN X77.here hx rfl (hb hby own_d_jdk_67_method_42_4) rfl rfl k9) ?_
  show own_Go p e below s _ _ _ (T77.setTop (mkF m 5 #[.val (.ref x)] [(.ref x), (.ref y), (.ref y)]))
  obtain ⟨_, T78, h78, L78, X78, e78, ⟨rfl, Nc, Kc, E_q, W_l, tb, kb, W_w, V_t⟩, st78⟩ := own_callI X77 hx hZ hown rfl (hw _ (List.mem_of_getElem? (i := 150) rfl)) (hw _ (List.mem_of_getElem? (i := 151) rfl)) (hw _ (List.mem_of_getElem? (i := 2) rfl)) (hw _ (List.mem_of_getElem? (i := 152) rfl)) (by decide) (own_rm_sw4 l Z a0 hw [] y x vb kv vd us G h77 n0 Od E_y W_v W_k ge_y ne_vb_y E_x F_v F_k F_c V_b hus O2 P5) (by decide) (by decide) e77 (a := y) (W := 1) (g := (mkF m 5 #[.val (.ref x)] [(.ref x), (.ref y), (.ref y)])) rfl (by rw [hml]; rfl) (argsL := [(.ref x)]) (rest := [(.ref y)]) rfl (lenOf own_pd16 rfl) rfl (by show 2 * 0 + _ ≤ _; exact Nat.le_of_eq rfl) (hb hby own_d_jdk_67_method_42_5) (by decide) (by decide)
  have N78 := Fr.app N0 Nc
  have E_x := E_x.keep Kc
  have F_v := F_v.keep Kc (ninS ne_x_y nin0)
  have F_k := F_k.keep Kc (ninS ne_x_y nin0)
  have F_c := F_c.keep Kc (ninS ne_x_y nin0)
  have V_b := V_b.keep Kc (ninS ne_vb_y nin0)
  have E_y := E_y.keep Kc
  have Od := Od.keep Kc (allS ge_y all0)
  have Kp := Kp.trans Kc (allS (Or.inr gz_y) all0)
  refine own_st st78 ?_
  show own_Go p e below s _ _ _ (T78.setTop (mkF m 8 #[.val (.ref x)] [(.ref y)]))
  exact own_retR X78 hx hlk Bd.returns rfl rfl (hb hby own_d_jdk_67_method_42_8) (by decide) (by decide) (by rw [e78]; exact ⟨N78, Kp, y, tb, kb, rfl, gz_y, E_q, W_l, W_w, V_t⟩)
theorem own_ef_mn5 (m : MethodId) (x0 : Int32) (x1 : Int32) : entryFrame m #[(.int x0), (.int x1)] 2 = mkF m 0 #[.val (.int x0), .val (.int x1)] [] := by first | (simp [entryFrame, mkF, argsToLocals, Value.category]; done) | rfl
def own_Q_mn5 (Z : State)  (h0 : Heap) (n0 : Nat) (v : Option Value) (h : Heap) (L : List Loc) : Prop := v = some (.int (5 : Int32)) ∧ Fr n0 L ∧ h = h0
set_option maxRecDepth 65536 in
set_option maxHeartbeats 40000000 in
theorem own_rm_mn5 (l : Launch) (Z : State) (a0 : Array Value) (hw : ∀ d ∈ tables_1, d.before a0 Z = true) (ws : List Jvm.Cond)  (h0 : Heap) (n0 : Nat) (Od : Old Z n0 h0) :
    MetFree l (⟨"java/lang/Math", "min", "(II)I"⟩ : MethodName) (head1 (Jvm.Cond.code (⟨"java/lang/Math", "min", "(II)I"⟩ : MethodName) jdk_29_method_69_code 2 (some .int) :: ws) ({ frames := 0, cells := 0, slots := 0, locals := 0 } : Room)) (fun a9 U => a9 = #[(.int (16 : Int32)), (.int (5 : Int32))] ∧ Z.Warmed39 U.vm ∧ U.heap = h0) (fun _ _ _ _ _ => True) (fun _ U o U' => ∃ v L, o = .returned v ∧ own_Q_mn5 Z  h0 n0 v U'.heap L ∧ FrameEnd U o U' L ({ frames := 0, cells := 0, slots := 0, locals := 0 } : Room).cells ({ frames := 0, cells := 0, slots := 0, locals := 0 } : Room).slots) := by
  refine MetFree.of_bodySF (by decide +kernel) hisR ?_
  intro p e s m args below meth c s₁ Bd hml0 hP hK
  obtain ⟨rfl, hZ, hh⟩ := hP
  have hx := Bd.exec
  have hby := Bd.bytes
  have hml : c.maxLocals = 2 := hml0
  have hown : s.vm.findClass "java/lang/Math" = some m.cls := findClass_of_methodNamed Bd.named
  have hnm := (name_of_methodNamed Bd.named Bd.method).1
  have hlk : meth.locks = false := Bd.notSynchronized
  have X0 : Stand p l e ({ frames := 0, cells := 0, slots := 0, locals := 0 } : Room) s m #[(.int (16 : Int32)), (.int (5 : Int32))] below meth c s₁ [] 0 0 := Stand.of_body Bd
  have e0 : s₁.heap = h0 := by rw [← hh, Bd.state]; rfl
  have N0 := Fr.nil n0
  show own_Go p e below s (own_Q_mn5 Z  h0 n0) ({ frames := 0, cells := 0, slots := 0, locals := 0 } : Room).cells ({ frames := 0, cells := 0, slots := 0, locals := 0 } : Room).slots (s₁.setTop (entryFrame m #[(.int (16 : Int32)), (.int (5 : Int32))] 2))
  refine own_st (fun t9 k9 => castTop (own_ef_mn5 m (16 : Int32) (5 : Int32)) k9) ?_
  show own_Go p e below s _ _ _ (s₁.setTop (mkF m 0 #[.val (.int (16 : Int32)), .val (.int (5 : Int32))] []))
  refine own_st (fun t9 k9 => XS.iloadN X0.here hx rfl (hb hby own_d_jdk_29_method_69_0) rfl  k9) ?_
  show own_Go p e below s _ _ _ (s₁.setTop (mkF m 1 #[.val (.int (16 : Int32)), .val (.int (5 : Int32))] [(.int (16 : Int32))]))
  refine own_st (fun t9 k9 => XS.iloadN X0.here hx rfl (hb hby own_d_jdk_29_method_69_1) rfl  k9) ?_
  show own_Go p e below s _ _ _ (s₁.setTop (mkF m 2 #[.val (.int (16 : Int32)), .val (.int (5 : Int32))] [(.int (5 : Int32)), (.int (16 : Int32))]))
  refine own_st (fun t9 k9 => XS.icmpYes X0.here hx rfl (pc0 := 2) (pc' := 9) rfl (hb hby own_d_jdk_29_method_69_2) rfl (by decide) (by decide) (by decide) k9) ?_
  show own_Go p e below s _ _ _ (s₁.setTop (mkF m 9 #[.val (.int (16 : Int32)), .val (.int (5 : Int32))] []))
  refine own_st (fun t9 k9 => XS.iloadN X0.here hx rfl (hb hby own_d_jdk_29_method_69_9) rfl  k9) ?_
  show own_Go p e below s _ _ _ (s₁.setTop (mkF m 10 #[.val (.int (16 : Int32)), .val (.int (5 : Int32))] [(.int (5 : Int32))]))
  exact own_retI X0 hx hlk Bd.returns (hb hby own_d_jdk_29_method_69_10) (by decide) (by decide) (by rw [e0]; exact ⟨rfl, N0, rfl⟩)
theorem own_ef_chk5 (m : MethodId) (x0 : Int32) (x1 : Int32) : entryFrame m #[(.int x0), (.int x1)] 2 = mkF m 0 #[.val (.int x0), .val (.int x1)] [] := by first | (simp [entryFrame, mkF, argsToLocals, Value.category]; done) | rfl
def own_Q_chk5 (Z : State)  (h0 : Heap) (n0 : Nat) (v : Option Value) (h : Heap) (L : List Loc) : Prop := v = none ∧ Fr n0 L ∧ h = h0
set_option maxRecDepth 65536 in
set_option maxHeartbeats 40000000 in
theorem own_rm_chk5 (l : Launch) (Z : State) (a0 : Array Value) (hw : ∀ d ∈ tables_1, d.before a0 Z = true) (ws : List Jvm.Cond)  (h0 : Heap) (n0 : Nat) (Od : Old Z n0 h0) :
    MetFree l (⟨"java/util/Arrays", "checkLength", "(II)V"⟩ : MethodName) (head1 (Jvm.Cond.code (⟨"java/util/Arrays", "checkLength", "(II)V"⟩ : MethodName) jdk_65_method_131_code 2 none :: ws) ({ frames := 0, cells := 0, slots := 0, locals := 0 } : Room)) (fun a9 U => a9 = #[(.int (0 : Int32)), (.int (5 : Int32))] ∧ Z.Warmed39 U.vm ∧ U.heap = h0) (fun _ _ _ _ _ => True) (fun _ U o U' => ∃ v L, o = .returned v ∧ own_Q_chk5 Z  h0 n0 v U'.heap L ∧ FrameEnd U o U' L ({ frames := 0, cells := 0, slots := 0, locals := 0 } : Room).cells ({ frames := 0, cells := 0, slots := 0, locals := 0 } : Room).slots) := by
  refine MetFree.of_bodySF (plainFor_of_name own_pn6) hisR ?_
  intro p e s m args below meth c s₁ Bd hml0 hP hK
  obtain ⟨rfl, hZ, hh⟩ := hP
  have hx := Bd.exec
  have hby := Bd.bytes
  have hml : c.maxLocals = 2 := hml0
  have hown : s.vm.findClass "java/util/Arrays" = some m.cls := findClass_of_methodNamed Bd.named
  have hnm := (name_of_methodNamed Bd.named Bd.method).1
  have hlk : meth.locks = false := Bd.notSynchronized
  have X0 : Stand p l e ({ frames := 0, cells := 0, slots := 0, locals := 0 } : Room) s m #[(.int (0 : Int32)), (.int (5 : Int32))] below meth c s₁ [] 0 0 := Stand.of_body Bd
  have e0 : s₁.heap = h0 := by rw [← hh, Bd.state]; rfl
  have N0 := Fr.nil n0
  show own_Go p e below s (own_Q_chk5 Z  h0 n0) ({ frames := 0, cells := 0, slots := 0, locals := 0 } : Room).cells ({ frames := 0, cells := 0, slots := 0, locals := 0 } : Room).slots (s₁.setTop (entryFrame m #[(.int (0 : Int32)), (.int (5 : Int32))] 2))
  refine own_st (fun t9 k9 => castTop (own_ef_chk5 m (0 : Int32) (5 : Int32)) k9) ?_
  show own_Go p e below s _ _ _ (s₁.setTop (mkF m 0 #[.val (.int (0 : Int32)), .val (.int (5 : Int32))] []))
  refine own_st (fun t9 k9 => XS.iloadN X0.here hx rfl (hb hby own_d_jdk_65_method_131_0) rfl  k9) ?_
  show own_Go p e below s _ _ _ (s₁.setTop (mkF m 1 #[.val (.int (0 : Int32)), .val (.int (5 : Int32))] [(.int (5 : Int32))]))
  refine own_st (fun t9 k9 => XS.iloadN X0.here hx rfl (hb hby own_d_jdk_65_method_131_1) rfl  k9) ?_
  show own_Go p e below s _ _ _ (s₁.setTop (mkF m 2 #[.val (.int (0 : Int32)), .val (.int (5 : Int32))] [(.int (0 : Int32)), (.int (5 : Int32))]))
  refine own_st (fun t9 k9 => XS.icmpYes X0.here hx rfl (pc0 := 2) (pc' := 37) rfl (hb hby own_d_jdk_65_method_131_2) rfl (by decide) (by decide) (by decide) k9) ?_
  show own_Go p e below s _ _ _ (s₁.setTop (mkF m 37 #[.val (.int (0 : Int32)), .val (.int (5 : Int32))] []))
  exact own_retV X0 hx hlk Bd.returns (hb hby own_d_jdk_65_method_131_37) (by decide) (by decide) (by rw [e0]; exact ⟨rfl, N0, rfl⟩)
theorem own_ef_crb5 (m : MethodId) (x0 : Addr) (x1 : Int32) (x2 : Int32) : entryFrame m #[(.ref x0), (.int x1), (.int x2)] 5 = mkF m 0 #[.val (.ref x0), .val (.int x1), .val (.int x2), .unset, .unset] [] := by first | (simp [entryFrame, mkF, argsToLocals, Value.category]; done) | rfl
def own_Q_crb5 (Z : State) (us : List Value) (h0 : Heap) (n0 : Nat) (v : Option Value) (h : Heap) (L : List Loc) : Prop := Fr n0 L ∧ Keep h0 h [] ∧ ∃ tb k, v = some (.ref tb) ∧ h0.size ≤ tb ∧ Arv Z h tb k .byte (5 : Int32) us (.int (0 : Int32))
set_option maxRecDepth 65536 in
set_option maxHeartbeats 40000000 in
theorem own_rm_crb5 (l : Launch) (Z : State) (a0 : Array Value) (hw : ∀ d ∈ tables_1, d.before a0 Z = true) (ws : List Jvm.Cond) (vb : Addr) (kv : ClassId) (vd us : List Value) (h0 : Heap) (n0 : Nat) (Od : Old Z n0 h0) (V_b : Arv Z h0 vb kv .byte (16 : Int32) vd (.int (0 : Int32))) (hus : us = (List.range (5 : Int32).toNatClampNeg).map fun i => vd.getD ((0 : Int32).toNatClampNeg + i) (.int (0 : Int32))) :
    MetFree l (⟨"java/util/Arrays", "copyOfRangeByte", "([BII)[B"⟩ : MethodName) (head1 (Jvm.Cond.code (⟨"java/util/Arrays", "copyOfRangeByte", "([BII)[B"⟩ : MethodName) jdk_65_method_133_code 5 (some (.array .byte)) :: ws) ({ frames := 1, cells := 1, slots := 5, locals := 18 } : Room)) (fun a9 U => a9 = #[(.ref vb), (.int (0 : Int32)), (.int (5 : Int32))] ∧ Z.Warmed39 U.vm ∧ U.heap = h0) (fun _ _ _ _ _ => True) (fun _ U o U' => ∃ v L, o = .returned v ∧ own_Q_crb5 Z us h0 n0 v U'.heap L ∧ FrameEnd U o U' L ({ frames := 1, cells := 1, slots := 5, locals := 18 } : Room).cells ({ frames := 1, cells := 1, slots := 5, locals := 18 } : Room).slots) := by
  refine MetFree.of_bodySF (plainFor_of_name own_pn6) hisR ?_
  intro p e s m args below meth c s₁ Bd hml0 hP hK
  obtain ⟨rfl, hZ, hh⟩ := hP
  have hx := Bd.exec
  have hby := Bd.bytes
  have hml : c.maxLocals = 5 := hml0
  have hown : s.vm.findClass "java/util/Arrays" = some m.cls := findClass_of_methodNamed Bd.named
  have hnm := (name_of_methodNamed Bd.named Bd.method).1
  have hlk : meth.locks = false := Bd.notSynchronized
  have X0 : Stand p l e ({ frames := 1, cells := 1, slots := 5, locals := 18 } : Room) s m #[(.ref vb), (.int (0 : Int32)), (.int (5 : Int32))] below meth c s₁ [] 0 0 := Stand.of_body Bd
  have e0 : s₁.heap = h0 := by rw [← hh, Bd.state]; rfl
  have N0 := Fr.nil n0
  show own_Go p e below s (own_Q_crb5 Z us h0 n0) ({ frames := 1, cells := 1, slots := 5, locals := 18 } : Room).cells ({ frames := 1, cells := 1, slots := 5, locals := 18 } : Room).slots (s₁.setTop (entryFrame m #[(.ref vb), (.int (0 : Int32)), (.int (5 : Int32))] 5))
  refine own_st (fun t9 k9 => castTop (own_ef_crb5 m vb (0 : Int32) (5 : Int32)) k9) ?_
  show own_Go p e below s _ _ _ (s₁.setTop (mkF m 0 #[.val (.ref vb), .val (.int (0 : Int32)), .val (.int (5 : Int32)), .unset, .unset] []))
  have Kp : Keep h0 h0 [] := Keep.refl h0 []
  refine own_st (fun t9 k9 => XS.iloadN X0.here hx rfl (hb hby own_d_jdk_65_method_133_0) rfl  k9) ?_
  show own_Go p e below s _ _ _ (s₁.setTop (mkF m 1 #[.val (.ref vb), .val (.int (0 : Int32)), .val (.int (5 : Int32)), .unset, .unset] [(.int (0 : Int32))]))
  refine own_st (fun t9 k9 => XS.iloadN X0.here hx rfl (hb hby own_d_jdk_65_method_133_1) rfl  k9) ?_
  show own_Go p e below s _ _ _ (s₁.setTop (mkF m 2 #[.val (.ref vb), .val (.int (0 : Int32)), .val (.int (5 : Int32)), .unset, .unset] [(.int (5 : Int32)), (.int (0 : Int32))]))
  obtain ⟨_, T79, h79, L79, X79, e79, ⟨rfl, Nc, hu⟩, st79⟩ := own_callS X0 hx hZ hown (hw _ (List.mem_of_getElem? (i := 181) rfl)) (hw _ (List.mem_of_getElem? (i := 182) rfl)) (hw _ (List.mem_of_getElem? (i := 176) rfl)) (hw _ (List.mem_of_getElem? (i := 183) rfl)) (by decide) (own_rm_chk5 l Z a0 hw [] h0 n0 Od) (by decide) (by decide) e0 (W := 0) (g := (mkF m 2 #[.val (.ref vb), .val (.int (0 : Int32)), .val (.int (5 : Int32)), .unset, .unset] [(.int (5 : Int32)), (.int (0 : Int32))])) rfl (by rw [hml]; rfl) (argsL := [(.int (0 : Int32)), (.int (5 : Int32))]) (rest := []) rfl (lenOf own_pd10 rfl) rfl (by show 2 * 0 + _ ≤ _; exact Nat.le_of_eq rfl) (hb hby own_d_jdk_65_method_133_2) (by decide) (by decide)
  have N79 := Fr.app N0 Nc
  refine own_st st79 ?_
  show own_Go p e below s _ _ _ (T79.setTop (mkF m 5 #[.val (.ref vb), .val (.int (0 : Int32)), .val (.int (5 : Int32)), .unset, .unset] []))
  refine own_st (fun t9 k9 => XS.iloadN X79.here hx rfl (hb hby own_d_jdk_65_method_133_5) rfl  k9) ?_
  show own_Go p e below s _ _ _ (T79.setTop (mkF m 6 #[.val (.ref vb), .val (.int (0 : Int32)), .val (.int (5 : Int32)), .unset, .unset] [(.int (5 : Int32))]))
  refine own_st (fun t9 k9 => XS.iloadN X79.here hx rfl (hb hby own_d_jdk_65_method_133_6) rfl  k9) ?_
  show own_Go p e below s _ _ _ (T79.setTop (mkF m 7 #[.val (.ref vb), .val (.int (0 : Int32)), .val (.int (5 : Int32)), .unset, .unset] [(.int (0 : Int32)), (.int (5 : Int32))]))
  refine own_st (fun t9 k9 => XS.isub X79.here hx rfl (hb hby own_d_jdk_65_method_133_7) rfl k9) ?_
  show own_Go p e below s _ _ _ (T79.setTop (mkF m 8 #[.val (.ref vb), .val (.int (0 : Int32)), .val (.int (5 : Int32)), .unset, .unset] [(.int ((5 : Int32) - (0 : Int32)))]))
  rw [own_sub0]
  show own_Go p e below s _ _ _ (T79.setTop (mkF m 8 #[.val (.ref vb), .val (.int (0 : Int32)), .val (.int (5 : Int32)), .unset, .unset] [(.int (5 : Int32))]))
  refine own_st (fun t9 k9 => XS.istoreN X79.here hx rfl (hb hby own_d_jdk_65_method_133_8) rfl (l' := #[.val (.ref vb), .val (.int (0 : Int32)), .val (.int (5 : Int32)), .val (.int (5 : Int32)), .unset]) rfl k9) ?_
  show own_Go p e below s _ _ _ (T79.setTop (mkF m 9 #[.val (.ref vb), .val (.int (0 : Int32)), .val (.int (5 : Int32)), .val (.int (5 : Int32)), .unset] []))
  refine own_st (fun t9 k9 => XS.iloadN X79.here hx rfl (hb hby own_d_jdk_65_method_133_9) rfl  k9) ?_
  show own_Go p e below s _ _ _ (T79.setTop (mkF m 10 #[.val (.ref vb), .val (.int (0 : Int32)), .val (.int (5 : Int32)), .val (.int (5 : Int32)), .unset] [(.int (5 : Int32))]))
  obtain ⟨T80, h80, k80, X80, e80, E80, A80, st80⟩ := newP X79 hx hZ (hw _ (List.mem_of_getElem? (i := 14) rfl)) (e79.trans hu) (g := (mkF m 10 #[.val (.ref vb), .val (.int (0 : Int32)), .val (.int (5 : Int32)), .val (.int (5 : Int32)), .unset] [(.int (5 : Int32))])) rfl (hb hby own_d_jdk_65_method_133_10) rfl (by decide) (cap := 5) (by decide) (by decide) (by decide) (by decide)
  obtain ⟨tb, g80⟩ : ∃ z, z = h0.size := ⟨_, rfl⟩
  rw [← g80] at A80 st80
  have ne_vb_tb : vb ≠ tb := Nat.ne_of_lt (Nat.lt_of_lt_of_le V_b.lt (Nat.le_of_eq g80.symm))
  have ge_tb : n0 ≤ tb := Nat.le_trans (own_z0 Od) (Nat.le_of_eq g80.symm)
  have gz_tb : h0.size ≤ tb := Nat.le_trans Kp.1 (Nat.le_of_eq g80.symm)
  have V_b := V_b.ext E80
  have Od := Od.ext E80
  have Kp := Kp.ext E80
  refine own_st st80 ?_
  show own_Go p e below s _ _ _ (T80.setTop (mkF m 12 #[.val (.ref vb), .val (.int (0 : Int32)), .val (.int (5 : Int32)), .val (.int (5 : Int32)), .unset] [(.ref tb)]))
  have V_t : Arv Z h80 tb k80 .byte (5 : Int32) [(.int (0 : Int32)), (.int (0 : Int32)), (.int (0 : Int32)), (.int (0 : Int32)), (.int (0 : Int32))] (.int (0 : Int32)) := (Arv.new A80 (by decide)).pad (pad_rep [] (.int (0 : Int32)) 5)
  refine own_st (fun t9 k9 => XS.astore X80.here hx rfl (hb hby own_d_jdk_65_method_133_12) rfl rfl (l' := #[.val (.ref vb), .val (.int (0 : Int32)), .val (.int (5 : Int32)), .val (.int (5 : Int32)), .val (.ref tb)]) rfl k9) ?_
  show own_Go p e below s _ _ _ (T80.setTop (mkF m 14 #[.val (.ref vb), .val (.int (0 : Int32)), .val (.int (5 : Int32)), .val (.int (5 : Int32)), .val (.ref tb)] []))
  refine own_st (fun t9 k9 => XS.aloadN X80.here hx rfl (hb hby own_d_jdk_65_method_133_14) rfl rfl k9) ?_
  show own_Go p e below s _ _ _ (T80.setTop (mkF m 15 #[.val (.ref vb), .val (.int (0 : Int32)), .val (.int (5 : Int32)), .val (.int (5 : Int32)), .val (.ref tb)] [(.ref vb)]))
  refine own_st (fun t9 k9 => XS.iloadN X80.here hx rfl (hb hby own_d_jdk_65_method_133_15) rfl  k9) ?_
  show own_Go p e below s _ _ _ (T80.setTop (mkF m 16 #[.val (.ref vb), .val (.int (0 : Int32)), .val (.int (5 : Int32)), .val (.int (5 : Int32)), .val (.ref tb)] [(.int (0 : Int32)), (.ref vb)]))
  refine own_st (fun t9 k9 => XS.aload X80.here hx rfl (hb hby own_d_jdk_65_method_133_16) rfl rfl k9) ?_
  show own_Go p e below s _ _ _ (T80.setTop (mkF m 18 #[.val (.ref vb), .val (.int (0 : Int32)), .val (.int (5 : Int32)), .val (.int (5 : Int32)), .val (.ref tb)] [(.ref tb), (.int (0 : Int32)), (.ref vb)]))
  refine own_st (fun t9 k9 => XS.iconst X80.here hx rfl (hb hby own_d_jdk_65_method_133_18) k9) ?_
  show own_Go p e below s _ _ _ (T80.setTop (mkF m 19 #[.val (.ref vb), .val (.int (0 : Int32)), .val (.int (5 : Int32)), .val (.int (5 : Int32)), .val (.ref tb)] [(.int (0 : Int32)), (.ref tb), (.int (0 : Int32)), (.ref vb)]))
  refine own_st (fun t9 k9 => XS.aloadN X80.here hx rfl (hb hby own_d_jdk_65_method_133_19) rfl rfl k9) ?_
  show own_Go p e below s _ _ _ (T80.setTop (mkF m 20 #[.val (.ref vb), .val (.int (0 : Int32)), .val (.int (5 : Int32)), .val (.int (5 : Int32)), .val (.ref tb)] [(.ref vb), (.int (0 : Int32)), (.ref tb), (.int (0 : Int32)), (.ref vb)]))
  refine own_st (fun t9 k9 => own_alen X80 hx hZ e80 V_b (g := (mkF m 20 #[.val (.ref vb), .val (.int (0 : Int32)), .val (.int (5 : Int32)), .val (.int (5 : Int32)), .val (.ref tb)] [(.ref vb), (.int (0 : Int32)), (.ref tb), (.int (0 : Int32)), (.ref vb)])) rfl rfl (hb hby own_d_jdk_65_method_133_20) t9 k9) ?_
  show own_Go p e below s _ _ _ (T80.setTop (mkF m 21 #[.val (.ref vb), .val (.int (0 : Int32)), .val (.int (5 : Int32)), .val (.int (5 : Int32)), .val (.ref tb)] [(.int (16 : Int32)), (.int (0 : Int32)), (.ref tb), (.int (0 : Int32)), (.ref vb)]))
  refine own_st (fun t9 k9 => XS.iloadN X80.here hx rfl (hb hby own_d_jdk_65_method_133_21) rfl  k9) ?_
  show own_Go p e below s _ _ _ (T80.setTop (mkF m 22 #[.val (.ref vb), .val (.int (0 : Int32)), .val (.int (5 : Int32)), .val (.int (5 : Int32)), .val (.ref tb)] [(.int (0 : Int32)), (.int (16 : Int32)), (.int (0 : Int32)), (.ref tb), (.int (0 : Int32)), (.ref vb)]))
  refine own_st (fun t9 k9 => XS.isub X80.here hx rfl (hb hby own_d_jdk_65_method_133_22) rfl k9) ?_
  show own_Go p e below s _ _ _ (T80.setTop (mkF m 23 #[.val (.ref vb), .val (.int (0 : Int32)), .val (.int (5 : Int32)), .val (.int (5 : Int32)), .val (.ref tb)] [(.int ((16 : Int32) - (0 : Int32))), (.int (0 : Int32)), (.ref tb), (.int (0 : Int32)), (.ref vb)]))
  rw [own_sub0]
  show own_Go p e below s _ _ _ (T80.setTop (mkF m 23 #[.val (.ref vb), .val (.int (0 : Int32)), .val (.int (5 : Int32)), .val (.int (5 : Int32)), .val (.ref tb)] [(.int (16 : Int32)), (.int (0 : Int32)), (.ref tb), (.int (0 : Int32)), (.ref vb)]))
  refine own_st (fun t9 k9 => XS.iloadN X80.here hx rfl (hb hby own_d_jdk_65_method_133_23) rfl  k9) ?_
  show own_Go p e below s _ _ _ (T80.setTop (mkF m 24 #[.val (.ref vb), .val (.int (0 : Int32)), .val (.int (5 : Int32)), .val (.int (5 : Int32)), .val (.ref tb)] [(.int (5 : Int32)), (.int (16 : Int32)), (.int (0 : Int32)), (.ref tb), (.int (0 : Int32)), (.ref vb)]))
  obtain ⟨_, T81, h81, L81, X81, e81, ⟨rfl, Nd, hv⟩, st81⟩ := own_callS X80 hx hZ hown (hw _ (List.mem_of_getElem? (i := 184) rfl)) (hw _ (List.mem_of_getElem? (i := 185) rfl)) (hw _ (List.mem_of_getElem? (i := 186) rfl)) (hw _ (List.mem_of_getElem? (i := 187) rfl)) (by decide) (own_rm_mn5 l Z a0 hw [] h80 n0 Od) (by decide) (by decide) e80 (W := 4) (g := (mkF m 24 #[.val (.ref vb), .val (.int (0 : Int32)), .val (.int (5 : Int32)), .val (.int (5 : Int32)), .val (.ref tb)] [(.int (5 : Int32)), (.int (16 : Int32)), (.int (0 : Int32)), (.ref tb), (.int (0 : Int32)), (.ref vb)])) rfl (by rw [hml]; rfl) (argsL := [(.int (16 : Int32)), (.int (5 : Int32))]) (rest := [(.int (0 : Int32)), (.ref tb), (.int (0 : Int32)), (.ref vb)]) rfl (lenOf own_pd11 rfl) rfl (by show 2 * 0 + _ ≤ _; exact Nat.le_of_eq rfl) (hb hby own_d_jdk_65_method_133_24) (by decide) (by decide)
  have N81 := Fr.app N79 Nd
  refine own_st st81 ?_
  show own_Go p e below s _ _ _ (T81.setTop (mkF m 27 #[.val (.ref vb), .val (.int (0 : Int32)), .val (.int (5 : Int32)), .val (.int (5 : Int32)), .val (.ref tb)] [(.int (5 : Int32)), (.int (0 : Int32)), (.ref tb), (.int (0 : Int32)), (.ref vb)]))
  obtain ⟨T82, h82, L82, X82, e82, N82, Kq82, V_u, st82⟩ := cpA X81 hx hZ hown (hw _ (List.mem_of_getElem? (i := 188) rfl)) (hw _ (List.mem_of_getElem? (i := 142) rfl)) (hw _ (List.mem_of_getElem? (i := 140) rfl)) (hw _ (List.mem_of_getElem? (i := 141) rfl)) (e81.trans hv) V_b V_t (Or.inl ⟨rfl, rfl⟩) (by decide) (by decide) (by decide) (by decide) (by decide) (us := us) hus (by decide) N81 ge_tb (g := (mkF m 27 #[.val (.ref vb), .val (.int (0 : Int32)), .val (.int (5 : Int32)), .val (.int (5 : Int32)), .val (.ref tb)] [(.int (5 : Int32)), (.int (0 : Int32)), (.ref tb), (.int (0 : Int32)), (.ref vb)])) rfl (by rw [hml]; rfl) (rest := []) rfl (hb hby own_d_jdk_65_method_133_27) (by decide) (W := 0) (by show 2 * 0 + _ ≤ _; exact Nat.le_of_eq rfl) (by decide)
  have V_b := V_b.keep Kq82 (ninS ne_vb_tb nin0)
  have Od := Od.keep Kq82 (allS ge_tb all0)
  have Kp := Kp.trans Kq82 (allS (Or.inr gz_tb) all0)
  refine own_st st82 ?_
  show own_Go p e below s _ _ _ (T82.setTop (mkF m 30 #[.val (.ref vb), .val (.int (0 : Int32)), .val (.int (5 : Int32)), .val (.int (5 : Int32)), .val (.ref tb)] []))
  have V_w : Arv Z h82 tb k80 .byte (5 : Int32) us (.int (0 : Int32)) := by
    have q : Arv Z h82 tb k80 .byte (5 : Int32) ([] ++ us ++ []) (.int (0 : Int32)) := V_u
    rw [List.append_nil, List.nil_append] at q
    exact q
  refine own_st (fun t9 k9 => XS.aload X82.here hx rfl (hb hby own_d_jdk_65_method_133_30) rfl rfl k9) ?_
  show own_Go p e below s _ _ _ (T82.setTop (mkF m 32 #[.val (.ref vb), .val (.int (0 : Int32)), .val (.int (5 : Int32)), .val (.int (5 : Int32)), .val (.ref tb)] [(.ref tb)]))
  exact own_retR X82 hx hlk Bd.returns rfl rfl (hb hby own_d_jdk_65_method_133_32) (by decide) (by decide) (by rw [e82]; exact ⟨N82, Kp, tb, _, rfl, gz_tb, V_w⟩)
theorem own_ef_cor5 (m : MethodId) (x0 : Addr) (x1 : Int32) (x2 : Int32) : entryFrame m #[(.ref x0), (.int x1), (.int x2)] 3 = mkF m 0 #[.val (.ref x0), .val (.int x1), .val (.int x2)] [] := by first | (simp [entryFrame, mkF, argsToLocals, Value.category]; done) | rfl
def own_Q_cor5 (Z : State) (us : List Value) (h0 : Heap) (n0 : Nat) (v : Option Value) (h : Heap) (L : List Loc) : Prop := Fr n0 L ∧ Keep h0 h [] ∧ ∃ tb k, v = some (.ref tb) ∧ h0.size ≤ tb ∧ Arv Z h tb k .byte (5 : Int32) us (.int (0 : Int32))
set_option maxRecDepth 65536 in
set_option maxHeartbeats 40000000 in
theorem own_rm_cor5 (l : Launch) (Z : State) (a0 : Array Value) (hw : ∀ d ∈ tables_1, d.before a0 Z = true) (ws : List Jvm.Cond) (vb : Addr) (kv : ClassId) (vd us : List Value) (h0 : Heap) (n0 : Nat) (Od : Old Z n0 h0) (V_b : Arv Z h0 vb kv .byte (16 : Int32) vd (.int (0 : Int32))) (hus : us = (List.range (5 : Int32).toNatClampNeg).map fun i => vd.getD ((0 : Int32).toNatClampNeg + i) (.int (0 : Int32))) :
    MetFree l (⟨"java/util/Arrays", "copyOfRange", "([BII)[B"⟩ : MethodName) (head1 (Jvm.Cond.code (⟨"java/util/Arrays", "copyOfRange", "([BII)[B"⟩ : MethodName) jdk_65_method_132_code 3 (some (.array .byte)) :: ws) ({ frames := 2, cells := 1, slots := 5, locals := 34 } : Room)) (fun a9 U => a9 = #[(.ref vb), (.int (0 : Int32)), (.int (5 : Int32))] ∧ Z.Warmed39 U.vm ∧ U.heap = h0) (fun _ _ _ _ _ => True) (fun _ U o U' => ∃ v L, o = .returned v ∧ own_Q_cor5 Z us h0 n0 v U'.heap L ∧ FrameEnd U o U' L ({ frames := 2, cells := 1, slots := 5, locals := 34 } : Room).cells ({ frames := 2, cells := 1, slots := 5, locals := 34 } : Room).slots) := by
  refine MetFree.of_bodySF (plainFor_of_name own_pn6) hisR ?_
  intro p e s m args below meth c s₁ Bd hml0 hP hK
  obtain ⟨rfl, hZ, hh⟩ := hP
  have hx := Bd.exec
  have hby := Bd.bytes
  have hml : c.maxLocals = 3 := hml0
  have hown : s.vm.findClass "java/util/Arrays" = some m.cls := findClass_of_methodNamed Bd.named
  have hnm := (name_of_methodNamed Bd.named Bd.method).1
  have hlk : meth.locks = false := Bd.notSynchronized
  have X0 : Stand p l e ({ frames := 2, cells := 1, slots := 5, locals := 34 } : Room) s m #[(.ref vb), (.int (0 : Int32)), (.int (5 : Int32))] below meth c s₁ [] 0 0 := Stand.of_body Bd
  have e0 : s₁.heap = h0 := by rw [← hh, Bd.state]; rfl
  have N0 := Fr.nil n0
  show own_Go p e below s (own_Q_cor5 Z us h0 n0) ({ frames := 2, cells := 1, slots := 5, locals := 34 } : Room).cells ({ frames := 2, cells := 1, slots := 5, locals := 34 } : Room).slots (s₁.setTop (entryFrame m #[(.ref vb), (.int (0 : Int32)), (.int (5 : Int32))] 3))
  refine own_st (fun t9 k9 => castTop (own_ef_cor5 m vb (0 : Int32) (5 : Int32)) k9) ?_
  show own_Go p e below s _ _ _ (s₁.setTop (mkF m 0 #[.val (.ref vb), .val (.int (0 : Int32)), .val (.int (5 : Int32))] []))
  have Kp : Keep h0 h0 [] := Keep.refl h0 []
  refine own_st (fun t9 k9 => XS.iloadN X0.here hx rfl (hb hby own_d_jdk_65_method_132_0) rfl  k9) ?_
  show own_Go p e below s _ _ _ (s₁.setTop (mkF m 1 #[.val (.ref vb), .val (.int (0 : Int32)), .val (.int (5 : Int32))] [(.int (0 : Int32))]))
  refine own_st (fun t9 k9 => XS.ifNo X0.here hx rfl (hb hby own_d_jdk_65_method_132_1) rfl (by decide) k9) ?_
  show own_Go p e below s _ _ _ (s₁.setTop (mkF m 4 #[.val (.ref vb), .val (.int (0 : Int32)), .val (.int (5 : Int32))] []))
  refine own_st (fun t9 k9 => XS.iloadN X0.here hx rfl (hb hby own_d_jdk_65_method_132_4) rfl  k9) ?_
  show own_Go p e below s _ _ _ (s₁.setTop (mkF m 5 #[.val (.ref vb), .val (.int (0 : Int32)), .val (.int (5 : Int32))] [(.int (5 : Int32))]))
  refine own_st (fun t9 k9 => XS.aloadN X0.here hx rfl (hb hby own_d_jdk_65_method_132_5) rfl rfl k9) ?_
  show own_Go p e below s _ _ _ (s₁.setTop (mkF m 6 #[.val (.ref vb), .val (.int (0 : Int32)), .val (.int (5 : Int32))] [(.ref vb), (.int (5 : Int32))]))
  refine own_st (fun t9 k9 => own_alen X0 hx hZ e0 V_b (g := (mkF m 6 #[.val (.ref vb), .val (.int (0 : Int32)), .val (.int (5 : Int32))] [(.ref vb), (.int (5 : Int32))])) rfl rfl (hb hby own_d_jdk_65_method_132_6) t9 k9) ?_
  show own_Go p e below s _ _ _ (s₁.setTop (mkF m 7 #[.val (.ref vb), .val (.int (0 : Int32)), .val (.int (5 : Int32))] [(.int (16 : Int32)), (.int (5 : Int32))]))
  refine own_st (fun t9 k9 => XS.icmpNo X0.here hx rfl (hb hby own_d_jdk_65_method_132_7) rfl (by decide) k9) ?_
  show own_Go p e below s _ _ _ (s₁.setTop (mkF m 10 #[.val (.ref vb), .val (.int (0 : Int32)), .val (.int (5 : Int32))] []))
  refine own_st (fun t9 k9 => XS.aloadN X0.here hx rfl (hb hby own_d_jdk_65_method_132_10) rfl rfl k9) ?_
  show own_Go p e below s _ _ _ (s₁.setTop (mkF m 11 #[.val (.ref vb), .val (.int (0 : Int32)), .val (.int (5 : Int32))] [(.ref vb)]))
  refine own_st (fun t9 k9 => XS.iloadN X0.here hx rfl (hb hby own_d_jdk_65_method_132_11) rfl  k9) ?_
  show own_Go p e below s _ _ _ (s₁.setTop (mkF m 12 #[.val (.ref vb), .val (.int (0 : Int32)), .val (.int (5 : Int32))] [(.int (0 : Int32)), (.ref vb)]))
  refine own_st (fun t9 k9 => XS.iloadN X0.here hx rfl (hb hby own_d_jdk_65_method_132_12) rfl  k9) ?_
  show own_Go p e below s _ _ _ (s₁.setTop (mkF m 13 #[.val (.ref vb), .val (.int (0 : Int32)), .val (.int (5 : Int32))] [(.int (5 : Int32)), (.int (0 : Int32)), (.ref vb)]))
  obtain ⟨_, T83, h83, L83, X83, e83, ⟨Nc, Kc, tb, kb, rfl, gtb, V_t⟩, st83⟩ := own_callS X0 hx hZ hown (hw _ (List.mem_of_getElem? (i := 178) rfl)) (hw _ (List.mem_of_getElem? (i := 179) rfl)) (hw _ (List.mem_of_getElem? (i := 176) rfl)) (hw _ (List.mem_of_getElem? (i := 180) rfl)) (by decide) (own_rm_crb5 l Z a0 hw [] vb kv vd us h0 n0 Od V_b hus) (by decide) (by decide) e0 (W := 0) (g := (mkF m 13 #[.val (.ref vb), .val (.int (0 : Int32)), .val (.int (5 : Int32))] [(.int (5 : Int32)), (.int (0 : Int32)), (.ref vb)])) rfl (by rw [hml]; rfl) (argsL := [(.ref vb), (.int (0 : Int32)), (.int (5 : Int32))]) (rest := []) rfl (lenOf own_pd12 rfl) rfl (by show 2 * 0 + _ ≤ _; exact Nat.le_of_eq rfl) (hb hby own_d_jdk_65_method_132_13) (by decide) (by decide)
  have N83 := Fr.app N0 Nc
  have V_b := V_b.keep Kc nin0
  have Od := Od.keep Kc all0
  have Kp := Kp.trans Kc all0
  refine own_st st83 ?_
  show own_Go p e below s _ _ _ (T83.setTop (mkF m 16 #[.val (.ref vb), .val (.int (0 : Int32)), .val (.int (5 : Int32))] [(.ref tb)]))
  exact own_retR X83 hx hlk Bd.returns rfl rfl (hb hby own_d_jdk_65_method_132_16) (by decide) (by decide) (by rw [e83]; exact ⟨N83, Kp, tb, kb, rfl, gtb, V_t⟩)
theorem own_ef_sv5 (m : MethodId) (x0 : Addr) (x1 : Addr) : entryFrame m #[(.ref x0), (.ref x1), .null] 5 = mkF m 0 #[.val (.ref x0), .val (.ref x1), .val .null, .unset, .unset] [] := by first | (simp [entryFrame, mkF, argsToLocals, Value.category]; done) | rfl
def own_Q_sv5 (Z : State) (y : Addr) (us : List Value) (h0 : Heap) (n0 : Nat) (v : Option Value) (h : Heap) (L : List Loc) : Prop := v = none ∧ Fr n0 L ∧ Keep h0 h [y] ∧ Exa Z h y "java/lang/String" ∧ Fld Z h y "java/lang/String" "coder" "B" (.int (0 : Int32)) ∧ ∃ tb k, Fld Z h y "java/lang/String" "value" "[B" (.ref tb) ∧ Arv Z h tb k .byte (5 : Int32) us (.int (0 : Int32))
set_option maxRecDepth 65536 in
set_option maxHeartbeats 40000000 in
theorem own_rm_sv5 (l : Launch) (Z : State) (a0 : Array Value) (hw : ∀ d ∈ tables_1, d.before a0 Z = true) (ws : List Jvm.Cond) (y x vb : Addr) (kv : ClassId) (vd us : List Value) (G : Int32) (h0 : Heap) (n0 : Nat) (Od : Old Z n0 h0) (E_y : Exa Z h0 y "java/lang/String") (W_v : Fld Z h0 y "java/lang/String" "value" "[B" .null) (W_k : Fld Z h0 y "java/lang/String" "coder" "B" (.int (0 : Int32))) (ge_y : n0 ≤ y) (ne_vb_y : vb ≠ y) (E_x : Exa Z h0 x "java/lang/StringBuilder") (F_v : Fld Z h0 x "java/lang/AbstractStringBuilder" "value" "[B" (.ref vb)) (F_k : Fld Z h0 x "java/lang/AbstractStringBuilder" "coder" "B" (.int (0 : Int32))) (F_c : Fld Z h0 x "java/lang/AbstractStringBuilder" "count" "I" (.int (5 : Int32))) (V_b : Arv Z h0 vb kv .byte (16 : Int32) vd (.int (0 : Int32))) (hus : us = (List.range (5 : Int32).toNatClampNeg).map fun i => vd.getD ((0 : Int32).toNatClampNeg + i) (.int (0 : Int32))) (O2 : Sta Z Z.heap "java/lang/String" "COMPACT_STRINGS" "Z" (.int G)) (P5 : ¬ (G = (0 : Int32))) :
    MetFree l (⟨"java/lang/String", "<init>", "(Ljava/lang/AbstractStringBuilder;Ljava/lang/Void;)V"⟩ : MethodName) (head1 (Jvm.Cond.code (⟨"java/lang/String", "<init>", "(Ljava/lang/AbstractStringBuilder;Ljava/lang/Void;)V"⟩ : MethodName) jdk_42_method_150_code 5 none :: ws) ({ frames := 3, cells := 1, slots := 5, locals := 49 } : Room)) (fun a9 U => a9 = #[(.ref y), (.ref x), .null] ∧ Z.Warmed39 U.vm ∧ U.heap = h0) (fun _ _ _ _ _ => True) (fun _ U o U' => ∃ v L, o = .returned v ∧ own_Q_sv5 Z y us h0 n0 v U'.heap L ∧ FrameEnd U o U' L ({ frames := 3, cells := 1, slots := 5, locals := 49 } : Room).cells ({ frames := 3, cells := 1, slots := 5, locals := 49 } : Room).slots) := by
  refine MetFree.of_bodySF (plainFor_of_name own_pn1) hisR ?_
  intro p e s m args below meth c s₁ Bd hml0 hP hK
  obtain ⟨rfl, hZ, hh⟩ := hP
  have hx := Bd.exec
  have hby := Bd.bytes
  have hml : c.maxLocals = 5 := hml0
  have hown : s.vm.findClass "java/lang/String" = some m.cls := findClass_of_methodNamed Bd.named
  have hnm := (name_of_methodNamed Bd.named Bd.method).1
  have hlk : meth.locks = false := Bd.notSynchronized
  have X0 : Stand p l e ({ frames := 3, cells := 1, slots := 5, locals := 49 } : Room) s m #[(.ref y), (.ref x), .null] below meth c s₁ [] 0 0 := Stand.of_body Bd
  have e0 : s₁.heap = h0 := by rw [← hh, Bd.state]; rfl
  have N0 := Fr.nil n0
  show own_Go p e below s (own_Q_sv5 Z y us h0 n0) ({ frames := 3, cells := 1, slots := 5, locals := 49 } : Room).cells ({ frames := 3, cells := 1, slots := 5, locals := 49 } : Room).slots (s₁.setTop (entryFrame m #[(.ref y), (.ref x), .null] 5))
  refine own_st (fun t9 k9 => castTop (own_ef_sv5 m y x) k9) ?_
  show own_Go p e below s _ _ _ (s₁.setTop (mkF m 0 #[.val (.ref y), .val (.ref x), .val .null, .unset, .unset] []))
  have ne_x_y : x ≠ y := Exa.ne E_x E_y (by decide)
  have Kp : Keep h0 h0 [y] := Keep.refl h0 [y]
  refine own_st (fun t9 k9 => XS.aloadN X0.here hx rfl (hb hby own_d_jdk_42_method_150_0) rfl rfl k9) ?_
  show own_Go p e below s _ _ _ (s₁.setTop (mkF m 1 #[.val (.ref y), .val (.ref x), .val .null, .unset, .unset] [(.ref y)]))
  obtain ⟨T84, X84, e84, st84⟩ := initO X0 hx hZ hown (hw _ (List.mem_of_getElem? (i := 19) rfl)) (hw _ (List.mem_of_getElem? (i := 20) rfl)) (hw _ (List.mem_of_getElem? (i := 21) rfl)) e0 (g := (mkF m 1 #[.val (.ref y), .val (.ref x), .val .null, .unset, .unset] [(.ref y)])) rfl (by rw [hml]; rfl) rfl (hb hby own_d_jdk_42_method_150_1) (by decide) (W := 0) (by show 2 * 0 + _ ≤ _; exact Nat.le_of_eq rfl) (by decide)
  refine own_st st84 ?_
  show own_Go p e below s _ _ _ (T84.setTop (mkF m 4 #[.val (.ref y), .val (.ref x), .val .null, .unset, .unset] []))
  refine own_st (fun t9 k9 => XS.aloadN X84.here hx rfl (hb hby own_d_jdk_42_method_150_4) rfl rfl k9) ?_
  show own_Go p e below s _ _ _ (T84.setTop (mkF m 5 #[.val (.ref y), .val (.ref x), .val .null, .unset, .unset] [(.ref x)]))
  obtain ⟨_, T85, h85, L85, X85, e85, ⟨rfl, Nc, hu⟩, st85⟩ := own_callV X84 hx hZ hown (hw _ (List.mem_of_getElem? (i := 156) rfl)) (hw _ (List.mem_of_getElem? (i := 157) rfl)) (hw _ (List.mem_of_getElem? (i := 159) rfl)) (hw _ (List.mem_of_getElem? (i := 158) rfl)) (hw _ (List.mem_of_getElem? (i := 88) rfl)) (hw _ (List.mem_of_getElem? (i := 160) rfl)) (by decide) (own_rm_gv l Z a0 hw [] x vb h0 n0 Od F_v) (by decide) (by decide) e84 (b := x) E_x (W := 0) (g := (mkF m 5 #[.val (.ref y), .val (.ref x), .val .null, .unset, .unset] [(.ref x)])) rfl (by rw [hml]; rfl) (argsL := []) (rest := []) rfl (lenOf own_pd13 rfl) rfl (by show 2 * 0 + _ ≤ _; exact Nat.le_of_eq rfl) (hb hby own_d_jdk_42_method_150_5) (by decide) (by decide)
  have N85 := Fr.app N0 Nc
  refine own_st st85 ?_
  show own_Go p e below s _ _ _ (T85.setTop (mkF m 8 #[.val (.ref y), .val (.ref x), .val .null, .unset, .unset] [(.ref vb)]))
  refine own_st (fun t9 k9 => XS.astoreN X85.here hx rfl (hb hby own_d_jdk_42_method_150_8) rfl rfl (l' := #[.val (.ref y), .val (.ref x), .val .null, .val (.ref vb), .unset]) rfl k9) ?_
  show own_Go p e below s _ _ _ (T85.setTop (mkF m 9 #[.val (.ref y), .val (.ref x), .val .null, .val (.ref vb), .unset] []))
  refine own_st (fun t9 k9 => XS.aloadN X85.here hx rfl (hb hby own_d_jdk_42_method_150_9) rfl rfl k9) ?_
  show own_Go p e below s _ _ _ (T85.setTop (mkF m 10 #[.val (.ref y), .val (.ref x), .val .null, .val (.ref vb), .unset] [(.ref x)]))
  obtain ⟨_, T86, h86, L86, X86, e86, ⟨rfl, Nd, hv⟩, st86⟩ := own_callVZ X85 hx hZ hown (hw _ (List.mem_of_getElem? (i := 161) rfl)) (hw _ (List.mem_of_getElem? (i := 162) rfl)) (hw _ (List.mem_of_getElem? (i := 121) rfl)) rfl (hw _ (List.mem_of_getElem? (i := 163) rfl)) (hw _ (List.mem_of_getElem? (i := 164) rfl)) (hw _ (List.mem_of_getElem? (i := 165) rfl)) (hw _ (List.mem_of_getElem? (i := 80) rfl)) (hw _ (List.mem_of_getElem? (i := 166) rfl)) (by decide) (own_rm_sln l Z a0 hw [] x (5 : Int32) h0 n0 Od E_x F_c) (by decide) (by decide) (e85.trans hu) (b := x) E_x (W := 0) (g := (mkF m 10 #[.val (.ref y), .val (.ref x), .val .null, .val (.ref vb), .unset] [(.ref x)])) rfl (by rw [hml]; rfl) (argsL := []) (rest := []) rfl (lenOf own_pd7 rfl) rfl (by show 2 * 0 + _ ≤ _; exact Nat.le_of_eq rfl) (hb hby own_d_jdk_42_method_150_10) (by decide) (by decide)
  have N86 := Fr.app N85 Nd
  refine own_st st86 ?_
  show own_Go p e below s _ _ _ (T86.setTop (mkF m 13 #[.val (.ref y), .val (.ref x), .val .null, .val (.ref vb), .unset] [(.int (5 : Int32))]))
  refine own_st (fun t9 k9 => XS.istore X86.here hx rfl (hb hby own_d_jdk_42_method_150_13) rfl (l' := #[.val (.ref y), .val (.ref x), .val .null, .val (.ref vb), .val (.int (5 : Int32))]) rfl k9) ?_
  show own_Go p e below s _ _ _ (T86.setTop (mkF m 15 #[.val (.ref y), .val (.ref x), .val .null, .val (.ref vb), .val (.int (5 : Int32))] []))
  refine own_st (fun t9 k9 => XS.aloadN X86.here hx rfl (hb hby own_d_jdk_42_method_150_15) rfl rfl k9) ?_
  show own_Go p e below s _ _ _ (T86.setTop (mkF m 16 #[.val (.ref y), .val (.ref x), .val .null, .val (.ref vb), .val (.int (5 : Int32))] [(.ref x)]))
  obtain ⟨_, T87, h87, L87, X87, e87, ⟨rfl, Nq, hq⟩, st87⟩ := own_callV X86 hx hZ hown (hw _ (List.mem_of_getElem? (i := 169) rfl)) (hw _ (List.mem_of_getElem? (i := 170) rfl)) (hw _ (List.mem_of_getElem? (i := 172) rfl)) (hw _ (List.mem_of_getElem? (i := 171) rfl)) (hw _ (List.mem_of_getElem? (i := 88) rfl)) (hw _ (List.mem_of_getElem? (i := 173) rfl)) (by decide) (own_rm_isl l Z a0 hw [] x G h0 n0 Od O2 P5 F_k) (by decide) (by decide) (e86.trans hv) (b := x) E_x (W := 0) (g := (mkF m 16 #[.val (.ref y), .val (.ref x), .val .null, .val (.ref vb), .val (.int (5 : Int32))] [(.ref x)])) rfl (by rw [hml]; rfl) (argsL := []) (rest := []) rfl (lenOf own_pd14 rfl) rfl (by show 2 * 0 + _ ≤ _; exact Nat.le_of_eq rfl) (hb hby own_d_jdk_42_method_150_16) (by decide) (by decide)
  have N87 := Fr.app N86 Nq
  refine own_st st87 ?_
  show own_Go p e below s _ _ _ (T87.setTop (mkF m 19 #[.val (.ref y), .val (.ref x), .val .null, .val (.ref vb), .val (.int (5 : Int32))] [(.int (1 : Int32))]))
  refine own_st (fun t9 k9 => XS.ifNo X87.here hx rfl (hb hby own_d_jdk_42_method_150_19) rfl (by decide) k9) ?_
  show own_Go p e below s _ _ _ (T87.setTop (mkF m 22 #[.val (.ref y), .val (.ref x), .val .null, .val (.ref vb), .val (.int (5 : Int32))] []))
  refine own_st (fun t9 k9 => XS.aloadN X87.here hx rfl (hb hby own_d_jdk_42_method_150_22) rfl rfl k9) ?_
  show own_Go p e below s _ _ _ (T87.setTop (mkF m 23 #[.val (.ref y), .val (.ref x), .val .null, .val (.ref vb), .val (.int (5 : Int32))] [(.ref y)]))
  refine own_st (fun t9 k9 => XS.iconst X87.here hx rfl (hb hby own_d_jdk_42_method_150_23) k9) ?_
  show own_Go p e below s _ _ _ (T87.setTop (mkF m 24 #[.val (.ref y), .val (.ref x), .val .null, .val (.ref vb), .val (.int (5 : Int32))] [(.int (0 : Int32)), (.ref y)]))
  obtain ⟨T88, h88, X88, e88, W88, st88⟩ := putFN X87 hx hZ hown (hw _ (List.mem_of_getElem? (i := 24) rfl)) Via.refl (e87.trans hq) W_k E_y (Or.inr ⟨(hw _ (List.mem_of_getElem? (i := 25) rfl)), rfl, hnm⟩) (hw _ (List.mem_of_getElem? (i := 10) rfl)) (ty := .byte) (v' := (.int (0 : Int32))) (by decide) rfl rfl (g := (mkF m 24 #[.val (.ref y), .val (.ref x), .val .null, .val (.ref vb), .val (.int (5 : Int32))] [(.int (0 : Int32)), (.ref y)])) rfl rfl (hb hby own_d_jdk_42_method_150_24)
  have N88 := Fr.snoc X88 N87 ge_y
  have E_y := E_y.wr W88
  have W_v := W_v.other W88 (Or.inr (RoadKit.slot_ne (Or.inr (hw _ (List.mem_of_getElem? (i := 23) rfl))) (Or.inr (hw _ (List.mem_of_getElem? (i := 25) rfl))) (by decide) (t := (.array .byte)) (t' := .byte) (by decide) (by decide)))
  have W_k := W_k.same W88
  have E_x := E_x.wr W88
  have F_v := F_v.other W88 (Or.inl ne_x_y)
  have F_k := F_k.other W88 (Or.inl ne_x_y)
  have F_c := F_c.other W88 (Or.inl ne_x_y)
  have V_b := V_b.other W88 ne_vb_y
  have Od := Od.wr W88 ge_y
  have Kp := Kp.wr W88 (Or.inl (List.mem_of_getElem? (i := 0) rfl))
  refine own_st st88 ?_
  show own_Go p e below s _ _ _ (T88.setTop (mkF m 27 #[.val (.ref y), .val (.ref x), .val .null, .val (.ref vb), .val (.int (5 : Int32))] []))
  refine own_st (fun t9 k9 => XS.aloadN X88.here hx rfl (hb hby own_d_jdk_42_method_150_27) rfl rfl k9) ?_
  show own_Go p e below s _ _ _ (T88.setTop (mkF m 28 #[.val (.ref y), .val (.ref x), .val .null, .val (.ref vb), .val (.int (5 : Int32))] [(.ref y)]))
  refine own_st (fun t9 k9 => XS.aloadN X88.here hx rfl (hb hby own_d_jdk_42_method_150_28) rfl rfl k9) ?_
  show own_Go p e below s _ _ _ (T88.setTop (mkF m 29 #[.val (.ref y), .val (.ref x), .val .null, .val (.ref vb), .val (.int (5 : Int32))] [(.ref vb), (.ref y)]))
  refine own_st (fun t9 k9 => XS.iconst X88.here hx rfl (hb hby own_d_jdk_42_method_150_29) k9) ?_
  show own_Go p e below s _ _ _ (T88.setTop (mkF m 30 #[.val (.ref y), .val (.ref x), .val .null, .val (.ref vb), .val (.int (5 : Int32))] [(.int (0 : Int32)), (.ref vb), (.ref y)]))
  refine own_st (fun t9 k9 => XS.iload X88.here hx rfl (hb hby own_d_jdk_42_method_150_30) rfl  k9) ?_
  show own_Go p e below s _ _ _ (T88.setTop (mkF m 32 #[.val (.ref y), .val (.ref x), .val .null, .val (.ref vb), .val (.int (5 : Int32))] [(.int (5 : Int32)), (.int (0 : Int32)), (.ref vb), (.ref y)]))
  obtain ⟨_, T89, h89, L89, X89, e89, ⟨Nr, Kr, tb, kb, rfl, gtb, V_t⟩, st89⟩ := own_callS X88 hx hZ hown (hw _ (List.mem_of_getElem? (i := 174) rfl)) (hw _ (List.mem_of_getElem? (i := 175) rfl)) (hw _ (List.mem_of_getElem? (i := 176) rfl)) (hw _ (List.mem_of_getElem? (i := 177) rfl)) (by decide) (own_rm_cor5 l Z a0 hw [] vb kv vd us h88 n0 Od V_b hus) (by decide) (by decide) e88 (W := 1) (g := (mkF m 32 #[.val (.ref y), .val (.ref x), .val .null, .val (.ref vb), .val (.int (5 : Int32))] [(.int (5 : Int32)), (.int (0 : Int32)), (.ref vb), (.ref y)])) rfl (by rw [hml]; rfl) (argsL := [(.ref vb), (.int (0 : Int32)), (.int (5 : Int32))]) (rest := [(.ref y)]) rfl (lenOf own_pd12 rfl) rfl (by show 2 * 0 + _ ≤ _; exact Nat.le_of_eq rfl) (hb hby own_d_jdk_42_method_150_32) (by decide) (by decide)
  have N89 := Fr.app N88 Nr
  have ne_y_tb : y ≠ tb := Nat.ne_of_lt (Nat.lt_of_lt_of_le E_y.lt gtb)
  have ne_x_tb : x ≠ tb := Nat.ne_of_lt (Nat.lt_of_lt_of_le E_x.lt gtb)
  have ne_vb_tb : vb ≠ tb := Nat.ne_of_lt (Nat.lt_of_lt_of_le V_b.lt gtb)
  have ge_tb : n0 ≤ tb := Nat.le_trans (own_z0 Od) gtb
  have gz_tb : h0.size ≤ tb := Nat.le_trans Kp.1 gtb
  have E_y := E_y.keep Kr
  have W_v := W_v.keep Kr nin0
  have W_k := W_k.keep Kr nin0
  have E_x := E_x.keep Kr
  have F_v := F_v.keep Kr nin0
  have F_k := F_k.keep Kr nin0
  have F_c := F_c.keep Kr nin0
  have V_b := V_b.keep Kr nin0
  have Od := Od.keep Kr all0
  have Kp := Kp.trans Kr all0
  refine own_st st89 ?_
  show own_Go p e below s _ _ _ (T89.setTop (mkF m 35 #[.val (.ref y), .val (.ref x), .val .null, .val (.ref vb), .val (.int (5 : Int32))] [(.ref tb), (.ref y)]))
  obtain ⟨T90, h90, X90, e90, W90, st90⟩ := putF X89 hx hZ hown (host := "") (Or.inl (hw _ (List.mem_of_getElem? (i := 22) rfl))) Via.refl e89 W_v E_y (Or.inr ⟨(hw _ (List.mem_of_getElem? (i := 23) rfl)), rfl, hnm⟩) (hw _ (List.mem_of_getElem? (i := 10) rfl)) (ty := (.array .byte)) (by decide) rfl rfl (g := (mkF m 35 #[.val (.ref y), .val (.ref x), .val .null, .val (.ref vb), .val (.int (5 : Int32))] [(.ref tb), (.ref y)])) rfl rfl (hb hby own_d_jdk_42_method_150_35)
  have N90 := Fr.snoc X90 N89 ge_y
  have E_y := E_y.wr W90
  have W_v := W_v.same W90
  have W_k := W_k.other W90 (Or.inr (RoadKit.slot_ne (Or.inr (hw _ (List.mem_of_getElem? (i := 25) rfl))) (Or.inr (hw _ (List.mem_of_getElem? (i := 23) rfl))) (by decide) (t := .byte) (t' := (.array .byte)) (by decide) (by decide)))
  have E_x := E_x.wr W90
  have F_v := F_v.other W90 (Or.inl ne_x_y)
  have F_k := F_k.other W90 (Or.inl ne_x_y)
  have F_c := F_c.other W90 (Or.inl ne_x_y)
  have V_b := V_b.other W90 ne_vb_y
  have V_t := V_t.other W90 (Ne.symm ne_y_tb)
  have Od := Od.wr W90 ge_y
  have Kp := Kp.wr W90 (Or.inl (List.mem_of_getElem? (i := 0) rfl))
  refine own_st st90 ?_
  show own_Go p e below s _ _ _ (T90.setTop (mkF m 38 #[.val (.ref y), .val (.ref x), .val .null, .val (.ref vb), .val (.int (5 : Int32))] []))
  refine own_st (fun t9 k9 => XS.goto X90.here hx rfl (pc0 := 38) (pc' := 97) rfl (hb hby own_d_jdk_42_method_150_38) (by decide) (by decide) k9) ?_
  show own_Go p e below s _ _ _ (T90.setTop (mkF m 97 #[.val (.ref y), .val (.ref x), .val .null, .val (.ref vb), .val (.int (5 : Int32))] []))
  exact own_retV X90 hx hlk Bd.returns (hb hby own_d_jdk_42_method_150_97) (by decide) (by decide) (by rw [e90]; exact ⟨rfl, N90, Kp, E_y, W_k, tb, kb, W_v, V_t⟩)
theorem own_ef_sw5 (m : MethodId) (x0 : Addr) (x1 : Addr) : entryFrame m #[(.ref x0), (.ref x1)] 2 = mkF m 0 #[.val (.ref x0), .val (.ref x1)] [] := by first | (simp [entryFrame, mkF, argsToLocals, Value.category]; done) | rfl
def own_Q_sw5 (Z : State) (y : Addr) (us : List Value) (h0 : Heap) (n0 : Nat) (v : Option Value) (h : Heap) (L : List Loc) : Prop := v = none ∧ Fr n0 L ∧ Keep h0 h [y] ∧ Exa Z h y "java/lang/String" ∧ Fld Z h y "java/lang/String" "coder" "B" (.int (0 : Int32)) ∧ ∃ tb k, Fld Z h y "java/lang/String" "value" "[B" (.ref tb) ∧ Arv Z h tb k .byte (5 : Int32) us (.int (0 : Int32))
set_option maxRecDepth 65536 in
set_option maxHeartbeats 40000000 in
theorem own_rm_sw5 (l : Launch) (Z : State) (a0 : Array Value) (hw : ∀ d ∈ tables_1, d.before a0 Z = true) (ws : List Jvm.Cond) (y x vb : Addr) (kv : ClassId) (vd us : List Value) (G : Int32) (h0 : Heap) (n0 : Nat) (Od : Old Z n0 h0) (E_y : Exa Z h0 y "java/lang/String") (W_v : Fld Z h0 y "java/lang/String" "value" "[B" .null) (W_k : Fld Z h0 y "java/lang/String" "coder" "B" (.int (0 : Int32))) (ge_y : n0 ≤ y) (ne_vb_y : vb ≠ y) (E_x : Exa Z h0 x "java/lang/StringBuilder") (F_v : Fld Z h0 x "java/lang/AbstractStringBuilder" "value" "[B" (.ref vb)) (F_k : Fld Z h0 x "java/lang/AbstractStringBuilder" "coder" "B" (.int (0 : Int32))) (F_c : Fld Z h0 x "java/lang/AbstractStringBuilder" "count" "I" (.int (5 : Int32))) (V_b : Arv Z h0 vb kv .byte (16 : Int32) vd (.int (0 : Int32))) (hus : us = (List.range (5 : Int32).toNatClampNeg).map fun i => vd.getD ((0 : Int32).toNatClampNeg + i) (.int (0 : Int32))) (O2 : Sta Z Z.heap "java/lang/String" "COMPACT_STRINGS" "Z" (.int G)) (P5 : ¬ (G = (0 : Int32))) :
    MetFree l (⟨"java/lang/String", "<init>", "(Ljava/lang/StringBuilder;)V"⟩ : MethodName) (head1 (Jvm.Cond.code (⟨"java/lang/String", "<init>", "(Ljava/lang/StringBuilder;)V"⟩ : MethodName) jdk_42_method_53_code 2 none :: ws) ({ frames := 4, cells := 1, slots := 5, locals := 65 } : Room)) (fun a9 U => a9 = #[(.ref y), (.ref x)] ∧ Z.Warmed39 U.vm ∧ U.heap = h0) (fun _ _ _ _ _ => True) (fun _ U o U' => ∃ v L, o = .returned v ∧ own_Q_sw5 Z y us h0 n0 v U'.heap L ∧ FrameEnd U o U' L ({ frames := 4, cells := 1, slots := 5, locals := 65 } : Room).cells ({ frames := 4, cells := 1, slots := 5, locals := 65 } : Room).slots) := by
  refine MetFree.of_bodySF (plainFor_of_name own_pn1) hisR ?_
  intro p e s m args below meth c s₁ Bd hml0 hP hK
  obtain ⟨rfl, hZ, hh⟩ := hP
  have hx := Bd.exec
  have hby := Bd.bytes
  have hml : c.maxLocals = 2 := hml0
  have hown : s.vm.findClass "java/lang/String" = some m.cls := findClass_of_methodNamed Bd.named
  have hnm := (name_of_methodNamed Bd.named Bd.method).1
  have hlk : meth.locks = false := Bd.notSynchronized
  have X0 : Stand p l e ({ frames := 4, cells := 1, slots := 5, locals := 65 } : Room) s m #[(.ref y), (.ref x)] below meth c s₁ [] 0 0 := Stand.of_body Bd
  have e0 : s₁.heap = h0 := by rw [← hh, Bd.state]; rfl
  have N0 := Fr.nil n0
  show own_Go p e below s (own_Q_sw5 Z y us h0 n0) ({ frames := 4, cells := 1, slots := 5, locals := 65 } : Room).cells ({ frames := 4, cells := 1, slots := 5, locals := 65 } : Room).slots (s₁.setTop (entryFrame m #[(.ref y), (.ref x)] 2))
  refine own_st (fun t9 k9 => castTop (own_ef_sw5 m y x) k9) ?_
  show own_Go p e below s _ _ _ (s₁.setTop (mkF m 0 #[.val (.ref y), .val (.ref x)] []))
  have ne_x_y : x ≠ y := Exa.ne E_x E_y (by decide)
  have Kp : Keep h0 h0 [y] := Keep.refl h0 [y]
  refine own_st (fun t9 k9 => XS.aloadN X0.here hx rfl (hb hby own_d_jdk_42_method_53_0) rfl rfl k9) ?_
  show own_Go p e below s _ _ _ (s₁.setTop (mkF m 1 #[.val (.ref y), .val (.ref x)] [(.ref y)]))
  refine own_st (fun t9 k9 => XS.aloadN X0.here hx rfl (hb hby own_d_jdk_42_method_53_1) rfl rfl k9) ?_
  show own_Go p e below s _ _ _ (s₁.setTop (mkF m 2 #[.val (.ref y), .val (.ref x)] [(.ref x), (.ref y)]))
  refine own_st (fun t9 k9 => XS.aconstNull X0.here hx rfl (hb hby own_d_jdk_42_method_53_2) k9) ?_
  show own_Go p e below s _ _ _ (s₁.setTop (mkF m 3 #[.val (.ref y), .val (.ref x)] [.null, (.ref x), (.ref y)]))
  obtain ⟨_, T91, h91, L91, X91, e91, ⟨rfl, Nc, Kc, E_q, W_l, tb, kb, W_w, V_t⟩, st91⟩ := own_callI X0 hx hZ hown rfl (hw _ (List.mem_of_getElem? (i := 153) rfl)) (hw _ (List.mem_of_getElem? (i := 154) rfl)) (hw _ (List.mem_of_getElem? (i := 2) rfl)) (hw _ (List.mem_of_getElem? (i := 155) rfl)) (by decide) (own_rm_sv5 l Z a0 hw [] y x vb kv vd us G h0 n0 Od E_y W_v W_k ge_y ne_vb_y E_x F_v F_k F_c V_b hus O2 P5) (by decide) (by decide) e0 (a := y) (W := 0) (g := (mkF m 3 #[.val (.ref y), .val (.ref x)] [.null, (.ref x), (.ref y)])) rfl (by rw [hml]; rfl) (argsL := [(.ref x), .null]) (rest := []) rfl (lenOf own_pd15 rfl) rfl (by show 2 * 0 + _ ≤ _; exact Nat.le_of_eq rfl) (hb hby own_d_jdk_42_method_53_3) (by decide) (by decide)
  have N91 := Fr.app N0 Nc
  have E_y := E_y.keep Kc
  have E_x := E_x.keep Kc
  have F_v := F_v.keep Kc (ninS ne_x_y nin0)
  have F_k := F_k.keep Kc (ninS ne_x_y nin0)
  have F_c := F_c.keep Kc (ninS ne_x_y nin0)
  have V_b := V_b.keep Kc (ninS ne_vb_y nin0)
  have Od := Od.keep Kc (allS ge_y all0)
  have Kp := Kp.trans Kc (allS (Or.inl (List.mem_of_getElem? (i := 0) rfl)) all0)
  refine own_st st91 ?_
  show own_Go p e below s _ _ _ (T91.setTop (mkF m 6 #[.val (.ref y), .val (.ref x)] []))
  exact own_retV X91 hx hlk Bd.returns (hb hby own_d_jdk_42_method_53_6) (by decide) (by decide) (by rw [e91]; exact ⟨rfl, N91, Kp, E_q, W_l, tb, kb, W_w, V_t⟩)
theorem own_ef_tos5 (m : MethodId) (x0 : Addr) : entryFrame m #[(.ref x0)] 1 = mkF m 0 #[.val (.ref x0)] [] := by first | (simp [entryFrame, mkF, argsToLocals, Value.category]; done) | rfl
def own_Q_tos5 (Z : State) (us : List Value) (h0 : Heap) (n0 : Nat) (v : Option Value) (h : Heap) (L : List Loc) : Prop := Fr n0 L ∧ Keep h0 h [] ∧ ∃ y tb k, v = some (.ref y) ∧ h0.size ≤ y ∧ Exa Z h y "java/lang/String" ∧ Fld Z h y "java/lang/String" "coder" "B" (.int (0 : Int32)) ∧ Fld Z h y "java/lang/String" "value" "[B" (.ref tb) ∧ Arv Z h tb k .byte (5 : Int32) us (.int (0 : Int32))
set_option maxRecDepth 65536 in
set_option maxHeartbeats 40000000 in
theorem own_rm_tos5 (l : Launch) (Z : State) (a0 : Array Value) (hw : ∀ d ∈ tables_1, d.before a0 Z = true) (ws : List Jvm.Cond) (x vb : Addr) (kv : ClassId) (vd us : List Value) (G : Int32) (h0 : Heap) (n0 : Nat) (Od : Old Z n0 h0) (E_x : Exa Z h0 x "java/lang/StringBuilder") (F_v : Fld Z h0 x "java/lang/AbstractStringBuilder" "value" "[B" (.ref vb)) (F_k : Fld Z h0 x "java/lang/AbstractStringBuilder" "coder" "B" (.int (0 : Int32))) (F_c : Fld Z h0 x "java/lang/AbstractStringBuilder" "count" "I" (.int (5 : Int32))) (V_b : Arv Z h0 vb kv .byte (16 : Int32) vd (.int (0 : Int32))) (hus : us = (List.range (5 : Int32).toNatClampNeg).map fun i => vd.getD ((0 : Int32).toNatClampNeg + i) (.int (0 : Int32))) (O2 : Sta Z Z.heap "java/lang/String" "COMPACT_STRINGS" "Z" (.int G)) (P5 : ¬ (G = (0 : Int32))) :
    MetFree l (⟨"java/lang/StringBuilder", "toString", "()Ljava/lang/String;"⟩ : MethodName) (head1 (Jvm.Cond.code (⟨"java/lang/StringBuilder", "toString", "()Ljava/lang/String;"⟩ : MethodName) jdk_67_method_42_code 1 (some (.object "java/lang/String")) :: ws) ({ frames := 5, cells := 2, slots := 9, locals := 79 } : Room)) (fun a9 U => a9 = #[(.ref x)] ∧ Z.Warmed39 U.vm ∧ U.heap = h0) (fun _ _ _ _ _ => True) (fun _ U o U' => ∃ v L, o = .returned v ∧ own_Q_tos5 Z us h0 n0 v U'.heap L ∧ FrameEnd U o U' L ({ frames := 5, cells := 2, slots := 9, locals := 79 } : Room).cells ({ frames := 5, cells := 2, slots := 9, locals := 79 } : Room).slots) := by
  refine MetFree.of_bodySF (plainFor_of_name own_pn5) hisR ?_
  intro p e s m args below meth c s₁ Bd hml0 hP hK
  obtain ⟨rfl, hZ, hh⟩ := hP
  have hx := Bd.exec
  have hby := Bd.bytes
  have hml : c.maxLocals = 1 := hml0
  have hown : s.vm.findClass "java/lang/StringBuilder" = some m.cls := findClass_of_methodNamed Bd.named
  have hnm := (name_of_methodNamed Bd.named Bd.method).1
  have hlk : meth.locks = false := Bd.notSynchronized
  have X0 : Stand p l e ({ frames := 5, cells := 2, slots := 9, locals := 79 } : Room) s m #[(.ref x)] below meth c s₁ [] 0 0 := Stand.of_body Bd
  have e0 : s₁.heap = h0 := by rw [← hh, Bd.state]; rfl
  have N0 := Fr.nil n0
  show own_Go p e below s (own_Q_tos5 Z us h0 n0) ({ frames := 5, cells := 2, slots := 9, locals := 79 } : Room).cells ({ frames := 5, cells := 2, slots := 9, locals := 79 } : Room).slots (s₁.setTop (entryFrame m #[(.ref x)] 1))
  refine own_st (fun t9 k9 => castTop (own_ef_tos5 m x) k9) ?_
  show own_Go p e below s _ _ _ (s₁.setTop (mkF m 0 #[.val (.ref x)] []))
  have Kp : Keep h0 h0 [] := Keep.refl h0 []
  obtain ⟨T92, h92, X92, e92, E92, A92, D92, U92, st92⟩ := newO X0 hx hZ hown (hw _ (List.mem_of_getElem? (i := 149) rfl)) (hw _ (List.mem_of_getElem? (i := 10) rfl)) (hw _ (List.mem_of_getElem? (i := 2) rfl)) e0 (g := (mkF m 0 #[.val (.ref x)] [])) rfl (hb hby own_d_jdk_67_method_42_0) (by decide) (by decide)
  obtain ⟨y, g92⟩ : ∃ z, z = h0.size := ⟨_, rfl⟩
  rw [← g92] at A92 D92 st92 U92
  have ne_x_y : x ≠ y := Nat.ne_of_lt (Nat.lt_of_lt_of_le E_x.lt (Nat.le_of_eq g92.symm))
  have ne_vb_y : vb ≠ y := Nat.ne_of_lt (Nat.lt_of_lt_of_le V_b.lt (Nat.le_of_eq g92.symm))
  have ge_y : n0 ≤ y := Nat.le_trans (own_z0 Od) (Nat.le_of_eq g92.symm)
  have gz_y : h0.size ≤ y := Nat.le_trans Kp.1 (Nat.le_of_eq g92.symm)
  have E_x := E_x.ext E92
  have F_v := F_v.ext E92
  have F_k := F_k.ext E92
  have F_c := F_c.ext E92
  have V_b := V_b.ext E92
  have Od := Od.ext E92
  have Kp := Kp.ext E92
  refine own_st st92 ?_
  show own_Go p e below s _ _ _ (T92.setTop (mkF m 3 #[.val (.ref x)] [(.ref y)]))
  have E_y : Exa Z h92 y "java/lang/String" := A92
  have W_v : Fld Z h92 y "java/lang/String" "value" "[B" .null := D92 (Or.inr (hw _ (List.mem_of_getElem? (i := 23) rfl))) (ty := (.array .byte)) (by decide)
  have W_k : Fld Z h92 y "java/lang/String" "coder" "B" (.int (0 : Int32)) := D92 (Or.inr (hw _ (List.mem_of_getElem? (i := 25) rfl))) (ty := .byte) (by decide)
  refine own_st (fun t9 k9 => XS.dup X92.here hx rfl (hb hby own_d_jdk_67_method_42_3) rfl rfl k9) ?_
  show own_Go p e below s _ _ _ (T92.setTop (mkF m 4 #[.val (.ref x)] [(.ref y), (.ref y)]))
  refine own_st (fun t9 k9 => XS.aloadN X92.here hx rfl (hb hby own_d_jdk_67_method_42_4) rfl rfl k9) ?_
  show own_Go p e below s _ _ _ (T92.setTop (mkF m 5 #[.val (.ref x)] [(.ref x), (.ref y), (.ref y)]))
  obtain ⟨_, T93, h93, L93, X93, e93, ⟨rfl, Nc, Kc, E_q, W_l, tb, kb, W_w, V_t⟩, st93⟩ := own_callI X92 hx hZ hown rfl (hw _ (List.mem_of_getElem? (i := 150) rfl)) (hw _ (List.mem_of_getElem? (i := 151) rfl)) (hw _ (List.mem_of_getElem? (i := 2) rfl)) (hw _ (List.mem_of_getElem? (i := 152) rfl)) (by decide) (own_rm_sw5 l Z a0 hw [] y x vb kv vd us G h92 n0 Od E_y W_v W_k ge_y ne_vb_y E_x F_v F_k F_c V_b hus O2 P5) (by decide) (by decide) e92 (a := y) (W := 1) (g := (mkF m 5 #[.val (.ref x)] [(.ref x), (.ref y), (.ref y)])) rfl (by rw [hml]; rfl) (argsL := [(.ref x)]) (rest := [(.ref y)]) rfl (lenOf own_pd16 rfl) rfl (by show 2 * 0 + _ ≤ _; exact Nat.le_of_eq rfl) (hb hby own_d_jdk_67_method_42_5) (by decide) (by decide)
  have N93 := Fr.app N0 Nc
  have E_x := E_x.keep Kc
  have F_v := F_v.keep Kc (ninS ne_x_y nin0)
  have F_k := F_k.keep Kc (ninS ne_x_y nin0)
  have F_c := F_c.keep Kc (ninS ne_x_y nin0)
  have V_b := V_b.keep Kc (ninS ne_vb_y nin0)
  have E_y := E_y.keep Kc
  have Od := Od.keep Kc (allS ge_y all0)
  have Kp := Kp.trans Kc (allS (Or.inr gz_y) all0)
  refine own_st st93 ?_
  show own_Go p e below s _ _ _ (T93.setTop (mkF m 8 #[.val (.ref x)] [(.ref y)]))
  exact own_retR X93 hx hlk Bd.returns rfl rfl (hb hby own_d_jdk_67_method_42_8) (by decide) (by decide) (by rw [e93]; exact ⟨N93, Kp, y, tb, kb, rfl, gz_y, E_q, W_l, W_w, V_t⟩)
theorem own_pn7 : plainName "com/example/bluehead/bluehead/net/GroupName" = true := by first | (simp [plainName, overriddenIn]; done) | decide +kernel
theorem own_d_prog_25_method_1_0 : decode prog_25_method_1_code 0 = .ok (.aload_n 0, 1) := by decide +kernel
theorem own_pd17 : parseMethodDescriptor "()V" = some ⟨[], none⟩ := by decide +kernel
theorem own_d_prog_25_method_1_1 : decode prog_25_method_1_code 1 = .ok (.invokespecial 1, 3) := by decide +kernel
theorem own_d_prog_25_method_1_4 : decode prog_25_method_1_code 4 = .ok (.aload_n 1, 1) := by decide +kernel
theorem own_d_prog_25_method_1_5 : decode prog_25_method_1_code 5 = .ok (.ldc 7, 2) := by decide +kernel
theorem own_pd18 : parseMethodDescriptor "(Ljava/lang/Object;Ljava/lang/String;)Ljava/lang/Object;" = some ⟨[(.object "java/lang/Object"), (.object "java/lang/String")], some (.object "java/lang/Object")⟩ := by decide +kernel
theorem own_d_prog_25_method_1_7 : decode prog_25_method_1_code 7 = .ok (.invokestatic 9, 3) := by decide +kernel
theorem own_d_prog_25_method_1_10 : decode prog_25_method_1_code 10 = .ok (.pop, 1) := by decide +kernel
theorem own_d_prog_25_method_1_11 : decode prog_25_method_1_code 11 = .ok (.aload_n 2, 1) := by decide +kernel
theorem own_d_prog_25_method_1_12 : decode prog_25_method_1_code 12 = .ok (.ldc 15, 2) := by decide +kernel
theorem own_d_prog_25_method_1_14 : decode prog_25_method_1_code 14 = .ok (.invokestatic 9, 3) := by decide +kernel
theorem own_d_prog_25_method_1_17 : decode prog_25_method_1_code 17 = .ok (.pop, 1) := by decide +kernel
theorem own_d_prog_25_method_1_18 : decode prog_25_method_1_code 18 = .ok (.aload_n 1, 1) := by decide +kernel
theorem own_d_prog_25_method_1_19 : decode prog_25_method_1_code 19 = .ok (.invokevirtual 17, 3) := by decide +kernel
theorem own_d_prog_25_method_1_22 : decode prog_25_method_1_code 22 = .ok (.ifCond .ne 10, 3) := by decide +kernel
theorem own_d_prog_25_method_1_25 : decode prog_25_method_1_code 25 = .ok (.aload_n 2, 1) := by decide +kernel
theorem own_d_prog_25_method_1_26 : decode prog_25_method_1_code 26 = .ok (.invokevirtual 17, 3) := by decide +kernel
theorem own_d_prog_25_method_1_29 : decode prog_25_method_1_code 29 = .ok (.ifCond .eq 13, 3) := by decide +kernel
theorem own_d_prog_25_method_1_42 : decode prog_25_method_1_code 42 = .ok (.aload_n 0, 1) := by decide +kernel
theorem own_d_prog_25_method_1_43 : decode prog_25_method_1_code 43 = .ok (.aload_n 1, 1) := by decide +kernel
theorem own_d_prog_25_method_1_44 : decode prog_25_method_1_code 44 = .ok (.putfield 30, 3) := by decide +kernel
theorem own_d_prog_25_method_1_47 : decode prog_25_method_1_code 47 = .ok (.aload_n 0, 1) := by decide +kernel
theorem own_d_prog_25_method_1_48 : decode prog_25_method_1_code 48 = .ok (.aload_n 2, 1) := by decide +kernel
theorem own_d_prog_25_method_1_49 : decode prog_25_method_1_code 49 = .ok (.putfield 35, 3) := by decide +kernel
theorem own_d_prog_25_method_1_52 : decode prog_25_method_1_code 52 = .ok (.return_, 1) := by decide +kernel
theorem own_ef_gni (m : MethodId) (x0 : Addr) (x1 : Addr) (x2 : Addr) : entryFrame m #[(.ref x0), (.ref x1), (.ref x2)] 3 = mkF m 0 #[.val (.ref x0), .val (.ref x1), .val (.ref x2)] [] := by first | (simp [entryFrame, mkF, argsToLocals, Value.category]; done) | rfl
def own_Q_gni (Z : State) (x g1 g2 : Addr) (h0 : Heap) (n0 : Nat) (v : Option Value) (h : Heap) (L : List Loc) : Prop := v = none ∧ Fr n0 L ∧ Keep h0 h [x] ∧ Exa Z h x "com/example/bluehead/bluehead/net/GroupName" ∧ Fld Z h x "com/example/bluehead/bluehead/net/GroupName" "cluster" "Ljava/lang/String;" (.ref g1) ∧ Fld Z h x "com/example/bluehead/bluehead/net/GroupName" "group" "Ljava/lang/String;" (.ref g2)
set_option maxRecDepth 65536 in
set_option maxHeartbeats 40000000 in
theorem own_rm_gni (l : Launch) (Z : State) (a0 : Array Value) (hw : ∀ d ∈ tables_1, d.before a0 Z = true) (hEL : EW Z a0 consts_1) (ws : List Jvm.Cond) (x g1 g2 t1 t2 : Addr) (k1 k2 : ClassId) (z1 z2 : Int32) (vs1 vs2 : List Value) (h0 : Heap) (n0 : Nat) (Od : Old Z n0 h0) (E_x : Exa Z h0 x "com/example/bluehead/bluehead/net/GroupName") (A_c : Fld Z h0 x "com/example/bluehead/bluehead/net/GroupName" "cluster" "Ljava/lang/String;" .null) (A_g : Fld Z h0 x "com/example/bluehead/bluehead/net/GroupName" "group" "Ljava/lang/String;" .null) (ge_x : n0 ≤ x) (E_1 : Exa Z h0 g1 "java/lang/String") (G_1 : Fld Z h0 g1 "java/lang/String" "value" "[B" (.ref t1)) (V_1 : Arv Z h0 t1 k1 .byte z1 vs1 (.int (0 : Int32))) (hz1 : ¬ (z1 = (0 : Int32))) (E_2 : Exa Z h0 g2 "java/lang/String") (G_2 : Fld Z h0 g2 "java/lang/String" "value" "[B" (.ref t2)) (V_2 : Arv Z h0 t2 k2 .byte z2 vs2 (.int (0 : Int32))) (hz2 : ¬ (z2 = (0 : Int32))) :
    MetFree l (⟨"com/example/bluehead/bluehead/net/GroupName", "<init>", "(Ljava/lang/String;Ljava/lang/String;)V"⟩ : MethodName) (head1 (Jvm.Cond.code (⟨"com/example/bluehead/bluehead/net/GroupName", "<init>", "(Ljava/lang/String;Ljava/lang/String;)V"⟩ : MethodName) prog_25_method_1_code 3 none :: ws) ({ frames := 2, cells := 4, slots := 56, locals := 24 } : Room)) (fun a9 U => a9 = #[(.ref x), (.ref g1), (.ref g2)] ∧ Z.Warmed39 U.vm ∧ U.heap = h0 ∧ CHv Z consts_1 U.vm h0 ∧ ∀ x9 ∈ ([x] : List Addr), Safe Z consts_1 U.vm h0 x9) (fun _ _ _ _ _ => True) (fun _ U o U' => ∃ v L, o = .returned v ∧ own_Q_gni Z x g1 g2 h0 n0 v U'.heap L ∧ CHr Z consts_1 U.vm U.heap U'.vm U'.heap ∧ ReturnedEndW U o U' L ({ frames := 2, cells := 4, slots := 56, locals := 24 } : Room).cells ({ frames := 2, cells := 4, slots := 56, locals := 24 } : Room).slots) := by
  refine MetFree.of_bodySF (plainFor_of_name own_pn7) hisR ?_
  intro p e s m args below meth c s₁ Bd hml0 hP hK
  obtain ⟨rfl, hZ, hh, Hc, Hs⟩ := hP
  have hx := Bd.exec
  have hby := Bd.bytes
  have hml : c.maxLocals = 3 := hml0
  have hown : s.vm.findClass "com/example/bluehead/bluehead/net/GroupName" = some m.cls := findClass_of_methodNamed Bd.named
  have hnm := (name_of_methodNamed Bd.named Bd.method).1
  have hlk : meth.locks = false := Bd.notSynchronized
  have X0 : Stand p l e ({ frames := 2, cells := 4, slots := 56, locals := 24 } : Room) (s.setVm s.vm) m #[(.ref x), (.ref g1), (.ref g2)] below meth c s₁ [] 0 0 := Stand.of_body Bd
  have e0 : s₁.heap = h0 := by rw [← hh, Bd.state]; rfl
  have N0 := Fr.nil n0
  have hS : s.Since s.vm h0.size := (State.WarmedH.refl s).since _
  have hk : h0.size ≤ h0.size := Nat.le_refl _
  have Hr : CHr Z consts_1 s.vm h0 s.vm h0 := CHr.refl Hc
  skip
  have Sf_x : Safe Z consts_1 s.vm h0 x := Hs _ (List.mem_of_getElem? (i := 0) rfl)
  show own_GoW p e below s Z consts_1 (own_Q_gni Z x g1 g2 h0 n0) ({ frames := 2, cells := 4, slots := 56, locals := 24 } : Room).cells ({ frames := 2, cells := 4, slots := 56, locals := 24 } : Room).slots (s₁.setTop (entryFrame m #[(.ref x), (.ref g1), (.ref g2)] 3))
  refine own_stW (fun t9 k9 => castTop (own_ef_gni m x g1 g2) k9) ?_
  show own_GoW p e below s Z consts_1 _ _ _ (s₁.setTop (mkF m 0 #[.val (.ref x), .val (.ref g1), .val (.ref g2)] []))
  have hwS : ∀ d ∈ Bundle.stringAtoms, d.before a0 Z = true := fun d hd => hw d ((by decide +kernel : ∀ d ∈ Bundle.stringAtoms, d ∈ tables_1) d hd)
  have Kp : Keep h0 h0 [x] := Keep.refl h0 [x]
  refine own_stW (fun t9 k9 => XS.aloadN X0.here hx rfl (hb hby own_d_prog_25_method_1_0) rfl rfl k9) ?_
  show own_GoW p e below s Z consts_1 _ _ _ (s₁.setTop (mkF m 1 #[.val (.ref x), .val (.ref g1), .val (.ref g2)] [(.ref x)]))
  obtain ⟨_, T94, h94, L94, X94, e94, ⟨rfl, Nc, hu⟩, st94⟩ := own_callI X0 hx hZ hown rfl (hw _ (List.mem_of_getElem? (i := 50) rfl)) (hw _ (List.mem_of_getElem? (i := 51) rfl)) (hw _ (List.mem_of_getElem? (i := 53) rfl)) (hw _ (List.mem_of_getElem? (i := 54) rfl)) (by decide) (own_rm_rec l Z a0 hw [] x h0 n0 Od) (by decide) (by decide) e0 (a := x) (W := 0) (g := (mkF m 1 #[.val (.ref x), .val (.ref g1), .val (.ref g2)] [(.ref x)])) rfl (by rw [hml]; rfl) (argsL := []) (rest := []) rfl (lenOf own_pd17 rfl) rfl (by show 2 * 0 + _ ≤ _; exact Nat.le_of_eq rfl) (hb hby own_d_prog_25_method_1_1) (by decide) (by decide)
  have N94 := Fr.app N0 Nc
  refine own_stW st94 ?_
  show own_GoW p e below s Z consts_1 _ _ _ (T94.setTop (mkF m 4 #[.val (.ref x), .val (.ref g1), .val (.ref g2)] []))
  refine own_stW (fun t9 k9 => XS.aloadN X94.here hx rfl (hb hby own_d_prog_25_method_1_4) rfl rfl k9) ?_
  show own_GoW p e below s Z consts_1 _ _ _ (T94.setTop (mkF m 5 #[.val (.ref x), .val (.ref g1), .val (.ref g2)] [(.ref g1)]))
  obtain ⟨la, T95, h95, k95, X95, e95, E95, hS95, hk95, hZ95, hown95, R95, Li95, st95⟩ := ldcOH X94 hx hZ hown (hw _ (List.mem_of_getElem? (i := 56) rfl)) hwS (e94.trans hu) hS hk hEL Hr.1 (g := (mkF m 5 #[.val (.ref x), .val (.ref g1), .val (.ref g2)] [(.ref g1)])) rfl (hb hby own_d_prog_25_method_1_5) (n := 28) (by decide) (by decide) (by decide) (by decide)
  have QSf_x := CHr.safe R95 E_x.lt Sf_x
  have E_x := E_x.ext E95
  have A_c := A_c.ext E95
  have A_g := A_g.ext E95
  have E_1 := E_1.ext E95
  have G_1 := G_1.ext E95
  have V_1 := V_1.ext E95
  have E_2 := E_2.ext E95
  have G_2 := G_2.ext E95
  have V_2 := V_2.ext E95
  have Od := Od.ext E95
  have Kp := Kp.ext E95
  have Sf_x := QSf_x
  have Hr := Hr.trans R95
  have hS := hS95
  have hk := hk95
  have hZ := hZ95
  have hown := hown95
  refine own_stW st95 ?_
  show own_GoW p e below s Z consts_1 _ _ _ (T95.setTop (mkF m 7 #[.val (.ref x), .val (.ref g1), .val (.ref g2)] [(.ref la), (.ref g1)]))
  obtain ⟨_, T96, h96, L96, X96, e96, ⟨rfl, Nd, hu1⟩, st96⟩ := own_callS X95 hx hZ hown (hw _ (List.mem_of_getElem? (i := 59) rfl)) (hw _ (List.mem_of_getElem? (i := 60) rfl)) (hw _ (List.mem_of_getElem? (i := 61) rfl)) (hw _ (List.mem_of_getElem? (i := 62) rfl)) (by decide) (own_rm_rnn l Z a0 hw [] g1 la h95 n0 Od) (by decide) (by decide) e95 (W := 0) (g := (mkF m 7 #[.val (.ref x), .val (.ref g1), .val (.ref g2)] [(.ref la), (.ref g1)])) rfl (by rw [hml]; rfl) (argsL := [(.ref g1), (.ref la)]) (rest := []) rfl (lenOf own_pd18 rfl) rfl (by show 2 * 0 + _ ≤ _; exact Nat.le_of_eq rfl) (hb hby own_d_prog_25_method_1_7) (by decide) (by decide)
  have N96 := Fr.app N94 Nd
  refine own_stW st96 ?_
  show own_GoW p e below s Z consts_1 _ _ _ (T96.setTop (mkF m 10 #[.val (.ref x), .val (.ref g1), .val (.ref g2)] [(.ref g1)]))
  refine own_stW (fun t9 k9 => XT.pop X96.here hx rfl (hb hby own_d_prog_25_method_1_10) rfl rfl k9) ?_
  show own_GoW p e below s Z consts_1 _ _ _ (T96.setTop (mkF m 11 #[.val (.ref x), .val (.ref g1), .val (.ref g2)] []))
  refine own_stW (fun t9 k9 => XS.aloadN X96.here hx rfl (hb hby own_d_prog_25_method_1_11) rfl rfl k9) ?_
  show own_GoW p e below s Z consts_1 _ _ _ (T96.setTop (mkF m 12 #[.val (.ref x), .val (.ref g1), .val (.ref g2)] [(.ref g2)]))
  obtain ⟨lb, T97, h97, k97, X97, e97, E97, hS97, hk97, hZ97, hown97, R97, Li97, st97⟩ := ldcOH X96 hx hZ hown (hw _ (List.mem_of_getElem? (i := 63) rfl)) hwS (e96.trans hu1) hS hk hEL Hr.1 (g := (mkF m 12 #[.val (.ref x), .val (.ref g1), .val (.ref g2)] [(.ref g2)])) rfl (hb hby own_d_prog_25_method_1_12) (n := 20) (by decide) (by decide) (by decide) (by decide)
  have QSf_x := CHr.safe R97 E_x.lt Sf_x
  have E_x := E_x.ext E97
  have A_c := A_c.ext E97
  have A_g := A_g.ext E97
  have E_1 := E_1.ext E97
  have G_1 := G_1.ext E97
  have V_1 := V_1.ext E97
  have E_2 := E_2.ext E97
  have G_2 := G_2.ext E97
  have V_2 := V_2.ext E97
  have Od := Od.ext E97
  have Kp := Kp.ext E97
  have Sf_x := QSf_x
  have Hr := Hr.trans R97
  have hS := hS97
  have hk := hk97
  have hZ := hZ97
  have hown := hown97
  refine own_stW st97 ?_
  show own_GoW p e below s Z consts_1 _ _ _ (T97.setTop (mkF m 14 #[.val (.ref x), .val (.ref g1), .val (.ref g2)] [(.ref lb), (.ref g2)]))
  obtain ⟨_, T98, h98, L98, X98, e98, ⟨rfl, Nf, hu2⟩, st98⟩ := own_callS X97 hx hZ hown (hw _ (List.mem_of_getElem? (i := 59) rfl)) (hw _ (List.mem_of_getElem? (i := 60) rfl)) (hw _ (List.mem_of_getElem? (i := 61) rfl)) (hw _ (List.mem_of_getElem? (i := 62) rfl)) (by decide) (own_rm_rnn l Z a0 hw [] g2 lb h97 n0 Od) (by decide) (by decide) e97 (W := 0) (g := (mkF m 14 #[.val (.ref x), .val (.ref g1), .val (.ref g2)] [(.ref lb), (.ref g2)])) rfl (by rw [hml]; rfl) (argsL := [(.ref g2), (.ref lb)]) (rest := []) rfl (lenOf own_pd18 rfl) rfl (by show 2 * 0 + _ ≤ _; exact Nat.le_of_eq rfl) (hb hby own_d_prog_25_method_1_14) (by decide) (by decide)
  have N98 := Fr.app N96 Nf
  refine own_stW st98 ?_
  show own_GoW p e below s Z consts_1 _ _ _ (T98.setTop (mkF m 17 #[.val (.ref x), .val (.ref g1), .val (.ref g2)] [(.ref g2)]))
  refine own_stW (fun t9 k9 => XT.pop X98.here hx rfl (hb hby own_d_prog_25_method_1_17) rfl rfl k9) ?_
  show own_GoW p e below s Z consts_1 _ _ _ (T98.setTop (mkF m 18 #[.val (.ref x), .val (.ref g1), .val (.ref g2)] []))
  refine own_stW (fun t9 k9 => XS.aloadN X98.here hx rfl (hb hby own_d_prog_25_method_1_18) rfl rfl k9) ?_
  show own_GoW p e below s Z consts_1 _ _ _ (T98.setTop (mkF m 19 #[.val (.ref x), .val (.ref g1), .val (.ref g2)] [(.ref g1)]))
  obtain ⟨_, T99, h99, L99, X99, e99, ⟨rfl, Ng, hu3⟩, st99⟩ := own_callV X98 hx hZ hown (hw _ (List.mem_of_getElem? (i := 64) rfl)) (hw _ (List.mem_of_getElem? (i := 65) rfl)) (hw _ (List.mem_of_getElem? (i := 67) rfl)) (hw _ (List.mem_of_getElem? (i := 66) rfl)) (hw _ (List.mem_of_getElem? (i := 2) rfl)) (hw _ (List.mem_of_getElem? (i := 68) rfl)) (by decide) (own_rm_emp l Z a0 hw [] g1 t1 k1 z1 vs1 h97 n0 Od G_1 V_1 hz1) (by decide) (by decide) (e98.trans hu2) (b := g1) E_1 (W := 0) (g := (mkF m 19 #[.val (.ref x), .val (.ref g1), .val (.ref g2)] [(.ref g1)])) rfl (by rw [hml]; rfl) (argsL := []) (rest := []) rfl (lenOf own_pd14 rfl) rfl (by show 2 * 0 + _ ≤ _; exact Nat.le_of_eq rfl) (hb hby own_d_prog_25_method_1_19) (by decide) (by decide)
  have N99 := Fr.app N98 Ng
  refine own_stW st99 ?_
  show own_GoW p e below s Z consts_1 _ _ _ (T99.setTop (mkF m 22 #[.val (.ref x), .val (.ref g1), .val (.ref g2)] [(.int (0 : Int32))]))
  refine own_stW (fun t9 k9 => XS.ifNo X99.here hx rfl (hb hby own_d_prog_25_method_1_22) rfl (by decide) k9) ?_
  show own_GoW p e below s Z consts_1 _ _ _ (T99.setTop (mkF m 25 #[.val (.ref x), .val (.ref g1), .val (.ref g2)] []))
  refine own_stW (fun t9 k9 => XS.aloadN X99.here hx rfl (hb hby own_d_prog_25_method_1_25) rfl rfl k9) ?_
  show own_GoW p e below s Z consts_1 _ _ _ (T99.setTop (mkF m 26 #[.val (.ref x), .val (.ref g1), .val (.ref g2)] [(.ref g2)]))
  obtain ⟨_, T100, h100, L100, X100, e100, ⟨rfl, Ni, hu4⟩, st100⟩ := own_callV X99 hx hZ hown (hw _ (List.mem_of_getElem? (i := 64) rfl)) (hw _ (List.mem_of_getElem? (i := 65) rfl)) (hw _ (List.mem_of_getElem? (i := 67) rfl)) (hw _ (List.mem_of_getElem? (i := 66) rfl)) (hw _ (List.mem_of_getElem? (i := 2) rfl)) (hw _ (List.mem_of_getElem? (i := 68) rfl)) (by decide) (own_rm_emp l Z a0 hw [] g2 t2 k2 z2 vs2 h97 n0 Od G_2 V_2 hz2) (by decide) (by decide) (e99.trans hu3) (b := g2) E_2 (W := 0) (g := (mkF m 26 #[.val (.ref x), .val (.ref g1), .val (.ref g2)] [(.ref g2)])) rfl (by rw [hml]; rfl) (argsL := []) (rest := []) rfl (lenOf own_pd14 rfl) rfl (by show 2 * 0 + _ ≤ _; exact Nat.le_of_eq rfl) (hb hby own_d_prog_25_method_1_26) (by decide) (by decide)
  have N100 := Fr.app N99 Ni
  refine own_stW st100 ?_
  show own_GoW p e below s Z consts_1 _ _ _ (T100.setTop (mkF m 29 #[.val (.ref x), .val (.ref g1), .val (.ref g2)] [(.int (0 : Int32))]))
  refine own_stW (fun t9 k9 => XS.ifYes X100.here hx rfl (pc0 := 29) (pc' := 42) rfl (hb hby own_d_prog_25_method_1_29) rfl (by decide) (by decide) (by decide) k9) ?_
  show own_GoW p e below s Z consts_1 _ _ _ (T100.setTop (mkF m 42 #[.val (.ref x), .val (.ref g1), .val (.ref g2)] []))
  refine own_stW (fun t9 k9 => XS.aloadN X100.here hx rfl (hb hby own_d_prog_25_method_1_42) rfl rfl k9) ?_
  show own_GoW p e below s Z consts_1 _ _ _ (T100.setTop (mkF m 43 #[.val (.ref x), .val (.ref g1), .val (.ref g2)] [(.ref x)]))
  refine own_stW (fun t9 k9 => XS.aloadN X100.here hx rfl (hb hby own_d_prog_25_method_1_43) rfl rfl k9) ?_
  show own_GoW p e below s Z consts_1 _ _ _ (T100.setTop (mkF m 44 #[.val (.ref x), .val (.ref g1), .val (.ref g2)] [(.ref g1), (.ref x)]))
  obtain ⟨T101, h101, X101, e101, W101, st101⟩ := putF X100 hx hZ hown (host := "") (Or.inl (hw _ (List.mem_of_getElem? (i := 69) rfl))) Via.refl (e100.trans hu4) A_c E_x (Or.inr ⟨(hw _ (List.mem_of_getElem? (i := 70) rfl)), rfl, hnm⟩) (hw _ (List.mem_of_getElem? (i := 45) rfl)) (ty := (.object "java/lang/String")) (by decide) rfl rfl (g := (mkF m 44 #[.val (.ref x), .val (.ref g1), .val (.ref g2)] [(.ref g1), (.ref x)])) rfl rfl (hb hby own_d_prog_25_method_1_44)
  have N101 := Fr.snoc X101 N100 ge_x
  have QSf_x := Safe.wr W101 Sf_x Hr.1 Sf_x
  have E_x := E_x.wr W101
  have A_c := A_c.same W101
  have A_g := A_g.other W101 (Or.inr (RoadKit.slot_ne (Or.inr (hw _ (List.mem_of_getElem? (i := 72) rfl))) (Or.inr (hw _ (List.mem_of_getElem? (i := 70) rfl))) (by decide) (t := (.object "java/lang/String")) (t' := (.object "java/lang/String")) (by decide) (by decide)))
  have E_1 := E_1.wr W101
  have E_2 := E_2.wr W101
  have Od := Od.wr W101 ge_x
  have Kp := Kp.wr W101 (Or.inl (List.mem_of_getElem? (i := 0) rfl))
  have Hr := Hr.trans (CHr.wr W101 Sf_x Hr.1)
  have hk := Nat.le_trans hk (Keep.of_wr W101).1
  have Sf_x := QSf_x
  refine own_stW st101 ?_
  show own_GoW p e below s Z consts_1 _ _ _ (T101.setTop (mkF m 47 #[.val (.ref x), .val (.ref g1), .val (.ref g2)] []))
  refine own_stW (fun t9 k9 => XS.aloadN X101.here hx rfl (hb hby own_d_prog_25_method_1_47) rfl rfl k9) ?_
  show own_GoW p e below s Z consts_1 _ _ _ (T101.setTop (mkF m 48 #[.val (.ref x), .val (.ref g1), .val (.ref g2)] [(.ref x)]))
  refine own_stW (fun t9 k9 => XS.aloadN X101.here hx rfl (hb hby own_d_prog_25_method_1_48) rfl rfl k9) ?_
  show own_GoW p e below s Z consts_1 _ _ _ (T101.setTop (mkF m 49 #[.val (.ref x), .val (.ref g1), .val (.ref g2)] [(.ref g2), (.ref x)]))
  obtain ⟨T102, h102, X102, e102, W102, st102⟩ := putF X101 hx hZ hown (host := "") (Or.inl (hw _ (List.mem_of_getElem? (i := 71) rfl))) Via.refl e101 A_g E_x (Or.inr ⟨(hw _ (List.mem_of_getElem? (i := 72) rfl)), rfl, hnm⟩) (hw _ (List.mem_of_getElem? (i := 45) rfl)) (ty := (.object "java/lang/String")) (by decide) rfl rfl (g := (mkF m 49 #[.val (.ref x), .val (.ref g1), .val (.ref g2)] [(.ref g2), (.ref x)])) rfl rfl (hb hby own_d_prog_25_method_1_49)
  have N102 := Fr.snoc X102 N101 ge_x
  have QSf_x := Safe.wr W102 Sf_x Hr.1 Sf_x
  have E_x := E_x.wr W102
  have A_c := A_c.other W102 (Or.inr (RoadKit.slot_ne (Or.inr (hw _ (List.mem_of_getElem? (i := 70) rfl))) (Or.inr (hw _ (List.mem_of_getElem? (i := 72) rfl))) (by decide) (t := (.object "java/lang/String")) (t' := (.object "java/lang/String")) (by decide) (by decide)))
  have A_g := A_g.same W102
  have E_1 := E_1.wr W102
  have E_2 := E_2.wr W102
  have Od := Od.wr W102 ge_x
  have Kp := Kp.wr W102 (Or.inl (List.mem_of_getElem? (i := 0) rfl))
  have Hr := Hr.trans (CHr.wr W102 Sf_x Hr.1)
  have hk := Nat.le_trans hk (Keep.of_wr W102).1
  have Sf_x := QSf_x
  refine own_stW st102 ?_
  show own_GoW p e below s Z consts_1 _ _ _ (T102.setTop (mkF m 52 #[.val (.ref x), .val (.ref g1), .val (.ref g2)] []))
  exact own_retVW X102 hx hlk hS (by rw [e102]; exact hk) hZ hEL (by rw [hh, e102]; exact Hr) Bd.returns (hb hby own_d_prog_25_method_1_52) (by decide) (by decide) (by rw [e102]; exact ⟨rfl, N102, Kp, E_x, A_c, A_g⟩)
theorem own_d_prog_25_method_3_0 : decode prog_25_method_3_code 0 = .ok (.new 47, 3) := by decide +kernel
theorem own_d_prog_25_method_3_3 : decode prog_25_method_3_code 3 = .ok (.dup, 1) := by decide +kernel
theorem own_d_prog_25_method_3_4 : decode prog_25_method_3_code 4 = .ok (.invokespecial 49, 3) := by decide +kernel
theorem own_d_prog_25_method_3_7 : decode prog_25_method_3_code 7 = .ok (.aload_n 0, 1) := by decide +kernel
theorem own_d_prog_25_method_3_8 : decode prog_25_method_3_code 8 = .ok (.getfield 30, 3) := by decide +kernel
theorem own_pd19 : parseMethodDescriptor "(Ljava/lang/String;)Ljava/lang/StringBuilder;" = some ⟨[(.object "java/lang/String")], some (.object "java/lang/StringBuilder")⟩ := by decide +kernel
theorem own_d_prog_25_method_3_11 : decode prog_25_method_3_code 11 = .ok (.invokevirtual 50, 3) := by decide +kernel
theorem own_d_prog_25_method_3_14 : decode prog_25_method_3_code 14 = .ok (.ldc 54, 2) := by decide +kernel
theorem own_d_prog_25_method_3_16 : decode prog_25_method_3_code 16 = .ok (.invokevirtual 50, 3) := by decide +kernel
theorem own_d_prog_25_method_3_19 : decode prog_25_method_3_code 19 = .ok (.aload_n 0, 1) := by decide +kernel
theorem own_d_prog_25_method_3_20 : decode prog_25_method_3_code 20 = .ok (.getfield 35, 3) := by decide +kernel
theorem own_d_prog_25_method_3_23 : decode prog_25_method_3_code 23 = .ok (.invokevirtual 50, 3) := by decide +kernel
theorem own_pd20 : parseMethodDescriptor "()Ljava/lang/String;" = some ⟨[], some (.object "java/lang/String")⟩ := by decide +kernel
theorem own_d_prog_25_method_3_26 : decode prog_25_method_3_code 26 = .ok (.invokevirtual 56, 3) := by decide +kernel
theorem own_d_prog_25_method_3_29 : decode prog_25_method_3_code 29 = .ok (.areturn, 1) := by decide +kernel
theorem own_ef_gts11 (m : MethodId) (x0 : Addr) : entryFrame m #[(.ref x0)] 1 = mkF m 0 #[.val (.ref x0)] [] := by first | (simp [entryFrame, mkF, argsToLocals, Value.category]; done) | rfl
def own_Q_gts11 (Z : State) (w0 w2 : Value) (h0 : Heap) (n0 : Nat) (v : Option Value) (h : Heap) (L : List Loc) : Prop := Fr n0 L ∧ Keep h0 h [] ∧ ∃ y tb k, v = some (.ref y) ∧ h0.size ≤ y ∧ Exa Z h y "java/lang/String" ∧ Fld Z h y "java/lang/String" "coder" "B" (.int (0 : Int32)) ∧ Fld Z h y "java/lang/String" "value" "[B" (.ref tb) ∧ Arv Z h tb k .byte (3 : Int32) [w0, (.int (47 : Int32)), w2] (.int (0 : Int32))
set_option maxRecDepth 65536 in
set_option maxHeartbeats 40000000 in
theorem own_rm_gts11 (l : Launch) (Z : State) (a0 : Array Value) (hw : ∀ d ∈ tables_1, d.before a0 Z = true) (hEL : EW Z a0 consts_1) (ws : List Jvm.Cond) (x g1 g2 t1 t2 : Addr) (k1 k2 : ClassId) (w0 w2 : Value) (G : Int32) (h0 : Heap) (n0 : Nat) (Od : Old Z n0 h0) (A_c : Fld Z h0 x "com/example/bluehead/bluehead/net/GroupName" "cluster" "Ljava/lang/String;" (.ref g1)) (A_g : Fld Z h0 x "com/example/bluehead/bluehead/net/GroupName" "group" "Ljava/lang/String;" (.ref g2)) (E_1 : Exa Z h0 g1 "java/lang/String") (G_1 : Fld Z h0 g1 "java/lang/String" "value" "[B" (.ref t1)) (H_1 : Fld Z h0 g1 "java/lang/String" "coder" "B" (.int (0 : Int32))) (V_1 : Arv Z h0 t1 k1 .byte (1 : Int32) [w0] (.int (0 : Int32))) (E_2 : Exa Z h0 g2 "java/lang/String") (G_2 : Fld Z h0 g2 "java/lang/String" "value" "[B" (.ref t2)) (H_2 : Fld Z h0 g2 "java/lang/String" "coder" "B" (.int (0 : Int32))) (V_2 : Arv Z h0 t2 k2 .byte (1 : Int32) [w2] (.int (0 : Int32))) (O2 : Sta Z Z.heap "java/lang/String" "COMPACT_STRINGS" "Z" (.int G)) (P5 : ¬ (G = (0 : Int32))) :
    MetFree l (⟨"com/example/bluehead/bluehead/net/GroupName", "toString", "()Ljava/lang/String;"⟩ : MethodName) (head1 (Jvm.Cond.code (⟨"com/example/bluehead/bluehead/net/GroupName", "toString", "()Ljava/lang/String;"⟩ : MethodName) prog_25_method_3_code 1 (some (.object "java/lang/String")) :: ws) ({ frames := 6, cells := 6, slots := 35, locals := 91 } : Room)) (fun a9 U => a9 = #[(.ref x)] ∧ Z.Warmed39 U.vm ∧ U.heap = h0 ∧ CHv Z consts_1 U.vm h0 ∧ ∀ x9 ∈ ([] : List Addr), Safe Z consts_1 U.vm h0 x9) (fun _ _ _ _ _ => True) (fun _ U o U' => ∃ v L, o = .returned v ∧ own_Q_gts11 Z w0 w2 h0 n0 v U'.heap L ∧ CHr Z consts_1 U.vm U.heap U'.vm U'.heap ∧ ReturnedEndW U o U' L ({ frames := 6, cells := 6, slots := 35, locals := 91 } : Room).cells ({ frames := 6, cells := 6, slots := 35, locals := 91 } : Room).slots) := by
  refine MetFree.of_bodySF (plainFor_of_name own_pn7) hisR ?_
  intro p e s m args below meth c s₁ Bd hml0 hP hK
  obtain ⟨rfl, hZ, hh, Hc, Hs⟩ := hP
  have hx := Bd.exec
  have hby := Bd.bytes
  have hml : c.maxLocals = 1 := hml0
  have hown : s.vm.findClass "com/example/bluehead/bluehead/net/GroupName" = some m.cls := findClass_of_methodNamed Bd.named
  have hnm := (name_of_methodNamed Bd.named Bd.method).1
  have hlk : meth.locks = false := Bd.notSynchronized
  have X0 : Stand p l e ({ frames := 6, cells := 6, slots := 35, locals := 91 } : Room) (s.setVm s.vm) m #[(.ref x)] below meth c s₁ [] 0 0 := Stand.of_body Bd
  have e0 : s₁.heap = h0 := by rw [← hh, Bd.state]; rfl
  have N0 := Fr.nil n0
  have hS : s.Since s.vm h0.size := (State.WarmedH.refl s).since _
  have hk : h0.size ≤ h0.size := Nat.le_refl _
  have Hr : CHr Z consts_1 s.vm h0 s.vm h0 := CHr.refl Hc
  skip
  show own_GoW p e below s Z consts_1 (own_Q_gts11 Z w0 w2 h0 n0) ({ frames := 6, cells := 6, slots := 35, locals := 91 } : Room).cells ({ frames := 6, cells := 6, slots := 35, locals := 91 } : Room).slots (s₁.setTop (entryFrame m #[(.ref x)] 1))
  refine own_stW (fun t9 k9 => castTop (own_ef_gts11 m x) k9) ?_
  show own_GoW p e below s Z consts_1 _ _ _ (s₁.setTop (mkF m 0 #[.val (.ref x)] []))
  have hwS : ∀ d ∈ Bundle.stringAtoms, d.before a0 Z = true := fun d hd => hw d ((by decide +kernel : ∀ d ∈ Bundle.stringAtoms, d ∈ tables_1) d hd)
  have Kp : Keep h0 h0 [] := Keep.refl h0 []
  obtain ⟨T103, h103, X103, e103, E103, A103, D103, U103, st103⟩ := newO X0 hx hZ hown (hw _ (List.mem_of_getElem? (i := 78) rfl)) (hw _ (List.mem_of_getElem? (i := 79) rfl)) (hw _ (List.mem_of_getElem? (i := 80) rfl)) e0 (g := (mkF m 0 #[.val (.ref x)] [])) rfl (hb hby own_d_prog_25_method_3_0) (by decide) (by decide)
  obtain ⟨b, g103⟩ : ∃ z, z = h0.size := ⟨_, rfl⟩
  rw [← g103] at A103 D103 st103 U103
  have ne_x_b : x ≠ b := Nat.ne_of_lt (Nat.lt_of_lt_of_le A_c.lt (Nat.le_of_eq g103.symm))
  have ne_g1_b : g1 ≠ b := Nat.ne_of_lt (Nat.lt_of_lt_of_le E_1.lt (Nat.le_of_eq g103.symm))
  have ne_t1_b : t1 ≠ b := Nat.ne_of_lt (Nat.lt_of_lt_of_le V_1.lt (Nat.le_of_eq g103.symm))
  have ne_g2_b : g2 ≠ b := Nat.ne_of_lt (Nat.lt_of_lt_of_le E_2.lt (Nat.le_of_eq g103.symm))
  have ne_t2_b : t2 ≠ b := Nat.ne_of_lt (Nat.lt_of_lt_of_le V_2.lt (Nat.le_of_eq g103.symm))
  have ge_b : n0 ≤ b := Nat.le_trans (own_z0 Od) (Nat.le_of_eq g103.symm)
  have gz_b : h0.size ≤ b := Nat.le_trans Kp.1 (Nat.le_of_eq g103.symm)
  have Sf_b : Safe Z consts_1 s.vm h0 b := Safe.new (Nat.le_of_eq g103.symm)
  have A_c := A_c.ext E103
  have A_g := A_g.ext E103
  have E_1 := E_1.ext E103
  have G_1 := G_1.ext E103
  have H_1 := H_1.ext E103
  have V_1 := V_1.ext E103
  have E_2 := E_2.ext E103
  have G_2 := G_2.ext E103
  have H_2 := H_2.ext E103
  have V_2 := V_2.ext E103
  have Sf_b := Safe.ext E103 Hr.1 Sf_b
  have Od := Od.ext E103
  have Kp := Kp.ext E103
  have Hr := Hr.trans (CHr.ext E103 Hr.1)
  have hk := Nat.le_trans hk E103.1
  refine own_stW st103 ?_
  show own_GoW p e below s Z consts_1 _ _ _ (T103.setTop (mkF m 3 #[.val (.ref x)] [(.ref b)]))
  have E_b : Exa Z h103 b "java/lang/StringBuilder" := A103
  have F_v : Fld Z h103 b "java/lang/AbstractStringBuilder" "value" "[B" .null := D103 (Or.inl (hw _ (List.mem_of_getElem? (i := 93) rfl))) (ty := (.array .byte)) (by decide)
  have F_k : Fld Z h103 b "java/lang/AbstractStringBuilder" "coder" "B" (.int (0 : Int32)) := D103 (Or.inl (hw _ (List.mem_of_getElem? (i := 95) rfl))) (ty := .byte) (by decide)
  have F_c : Fld Z h103 b "java/lang/AbstractStringBuilder" "count" "I" (.int (0 : Int32)) := D103 (Or.inl (hw _ (List.mem_of_getElem? (i := 117) rfl))) (ty := .int) (by decide)
  refine own_stW (fun t9 k9 => XS.dup X103.here hx rfl (hb hby own_d_prog_25_method_3_3) rfl rfl k9) ?_
  show own_GoW p e below s Z consts_1 _ _ _ (T103.setTop (mkF m 4 #[.val (.ref x)] [(.ref b), (.ref b)]))
  obtain ⟨_, T104, h104, L104, X104, e104, ⟨rfl, Nc, Kc, E_q, vb, kv, gvb, F_v, F_k, F_c, V_b⟩, st104⟩ := own_callI X103 hx hZ hown rfl (hw _ (List.mem_of_getElem? (i := 81) rfl)) (hw _ (List.mem_of_getElem? (i := 82) rfl)) (hw _ (List.mem_of_getElem? (i := 80) rfl)) (hw _ (List.mem_of_getElem? (i := 83) rfl)) (by decide) (own_rm_sb0 l Z a0 hw [] b G h103 n0 Od E_b F_v F_k F_c ge_b O2 P5) (by decide) (by decide) e103 (a := b) (W := 1) (g := (mkF m 4 #[.val (.ref x)] [(.ref b), (.ref b)])) rfl (by rw [hml]; rfl) (argsL := []) (rest := [(.ref b)]) rfl (lenOf own_pd17 rfl) rfl (by show 2 * 0 + _ ≤ _; exact Nat.le_of_eq rfl) (hb hby own_d_prog_25_method_3_4) (by decide) (by decide)
  have N104 := Fr.app N0 Nc
  have ne_x_vb : x ≠ vb := Nat.ne_of_lt (Nat.lt_of_lt_of_le A_c.lt gvb)
  have ne_g1_vb : g1 ≠ vb := Nat.ne_of_lt (Nat.lt_of_lt_of_le E_1.lt gvb)
  have ne_t1_vb : t1 ≠ vb := Nat.ne_of_lt (Nat.lt_of_lt_of_le V_1.lt gvb)
  have ne_g2_vb : g2 ≠ vb := Nat.ne_of_lt (Nat.lt_of_lt_of_le E_2.lt gvb)
  have ne_t2_vb : t2 ≠ vb := Nat.ne_of_lt (Nat.lt_of_lt_of_le V_2.lt gvb)
  have ne_b_vb : b ≠ vb := Nat.ne_of_lt (Nat.lt_of_lt_of_le E_b.lt gvb)
  have ge_vb : n0 ≤ vb := Nat.le_trans (own_z0 Od) gvb
  have gz_vb : h0.size ≤ vb := Nat.le_trans Kp.1 gvb
  have A_c := A_c.keep Kc (ninS ne_x_b nin0)
  have A_g := A_g.keep Kc (ninS ne_x_b nin0)
  have E_1 := E_1.keep Kc
  have G_1 := G_1.keep Kc (ninS ne_g1_b nin0)
  have H_1 := H_1.keep Kc (ninS ne_g1_b nin0)
  have V_1 := V_1.keep Kc (ninS ne_t1_b nin0)
  have E_2 := E_2.keep Kc
  have G_2 := G_2.keep Kc (ninS ne_g2_b nin0)
  have H_2 := H_2.keep Kc (ninS ne_g2_b nin0)
  have V_2 := V_2.keep Kc (ninS ne_t2_b nin0)
  have QSf_b := Safe.keep Kc (sfS Sf_b sf0) Hr.1 Sf_b
  have E_b := E_b.keep Kc
  have Od := Od.keep Kc (allS ge_b all0)
  have Kp := Kp.trans Kc (allS (Or.inr gz_b) all0)
  have Hr0 := Hr.1
  have Hr := Hr.trans (CHr.keep Kc (sfS Sf_b sf0) Hr.1)
  have hk := Nat.le_trans hk Kc.1
  have SFL := (sfS Sf_b sf0)
  have Sf_b := QSf_b
  have Sf_vb := Safe.keep Kc SFL Hr0 (Safe.new gvb)
  refine own_stW st104 ?_
  show own_GoW p e below s Z consts_1 _ _ _ (T104.setTop (mkF m 7 #[.val (.ref x)] [(.ref b)]))
  refine own_stW (fun t9 k9 => XS.aloadN X104.here hx rfl (hb hby own_d_prog_25_method_3_7) rfl rfl k9) ?_
  show own_GoW p e below s Z consts_1 _ _ _ (T104.setTop (mkF m 8 #[.val (.ref x)] [(.ref x), (.ref b)]))
  obtain ⟨T105, X105, e105, st105⟩ := getF X104 hx hZ hown (host := "") (Or.inl (hw _ (List.mem_of_getElem? (i := 69) rfl))) Via.refl e104 A_c (g := (mkF m 8 #[.val (.ref x)] [(.ref x), (.ref b)])) rfl rfl (hb hby own_d_prog_25_method_3_8)
  refine own_stW st105 ?_
  show own_GoW p e below s Z consts_1 _ _ _ (T105.setTop (mkF m 11 #[.val (.ref x)] [(.ref g1), (.ref b)]))
  obtain ⟨_, T106, h106, L106, X106, e106, ⟨rfl, Na1, Kc, E_q, F_v, F_k, F_c, V_b⟩, st106⟩ := own_callV X105 hx hZ hown (hw _ (List.mem_of_getElem? (i := 96) rfl)) (hw _ (List.mem_of_getElem? (i := 97) rfl)) (hw _ (List.mem_of_getElem? (i := 99) rfl)) (hw _ (List.mem_of_getElem? (i := 98) rfl)) (hw _ (List.mem_of_getElem? (i := 80) rfl)) (hw _ (List.mem_of_getElem? (i := 100) rfl)) (by decide) (own_rm_sap l Z a0 hw [] b g1 vb t1 kv k1 (0 : Int32) (1 : Int32) [w0] [(.int (0 : Int32)), (.int (0 : Int32)), (.int (0 : Int32)), (.int (0 : Int32)), (.int (0 : Int32)), (.int (0 : Int32)), (.int (0 : Int32)), (.int (0 : Int32)), (.int (0 : Int32)), (.int (0 : Int32)), (.int (0 : Int32)), (.int (0 : Int32)), (.int (0 : Int32)), (.int (0 : Int32)), (.int (0 : Int32)), (.int (0 : Int32))] [w0] [w0, (.int (0 : Int32)), (.int (0 : Int32)), (.int (0 : Int32)), (.int (0 : Int32)), (.int (0 : Int32)), (.int (0 : Int32)), (.int (0 : Int32)), (.int (0 : Int32)), (.int (0 : Int32)), (.int (0 : Int32)), (.int (0 : Int32)), (.int (0 : Int32)), (.int (0 : Int32)), (.int (0 : Int32)), (.int (0 : Int32))] G (1 : Int32) h104 n0 Od O2 P5 E_b F_v F_k F_c E_1 G_1 H_1 V_1 V_b ge_vb ne_g1_vb ne_t1_vb ge_b ne_b_vb ne_t1_b (by decide) (by decide) (by decide) (show (0 : Int32).toNatClampNeg + (1 : Int32).toNatClampNeg ≤ 16 by decide) rfl rfl (by decide) (by decide)) (by decide) (by decide) e105 (b := b) E_b (W := 0) (g := (mkF m 11 #[.val (.ref x)] [(.ref g1), (.ref b)])) rfl (by rw [hml]; rfl) (argsL := [(.ref g1)]) (rest := []) rfl (lenOf own_pd19 rfl) rfl (by show 2 * 0 + _ ≤ _; exact Nat.le_of_eq rfl) (hb hby own_d_prog_25_method_3_11) (by decide) (by decide)
  have N106 := Fr.app N104 Na1
  have A_c := A_c.keep Kc (ninS ne_x_vb (ninS ne_x_b nin0))
  have A_g := A_g.keep Kc (ninS ne_x_vb (ninS ne_x_b nin0))
  have E_1 := E_1.keep Kc
  have G_1 := G_1.keep Kc (ninS ne_g1_vb (ninS ne_g1_b nin0))
  have H_1 := H_1.keep Kc (ninS ne_g1_vb (ninS ne_g1_b nin0))
  have V_1 := V_1.keep Kc (ninS ne_t1_vb (ninS ne_t1_b nin0))
  have E_2 := E_2.keep Kc
  have G_2 := G_2.keep Kc (ninS ne_g2_vb (ninS ne_g2_b nin0))
  have H_2 := H_2.keep Kc (ninS ne_g2_vb (ninS ne_g2_b nin0))
  have V_2 := V_2.keep Kc (ninS ne_t2_vb (ninS ne_t2_b nin0))
  have QSf_b := Safe.keep Kc (sfS Sf_vb (sfS Sf_b sf0)) Hr.1 Sf_b
  have E_b := E_b.keep Kc
  have QSf_vb := Safe.keep Kc (sfS Sf_vb (sfS Sf_b sf0)) Hr.1 Sf_vb
  have Od := Od.keep Kc (allS ge_vb (allS ge_b all0))
  have Kp := Kp.trans Kc (allS (Or.inr gz_vb) (allS (Or.inr gz_b) all0))
  have Hr0 := Hr.1
  have Hr := Hr.trans (CHr.keep Kc (sfS Sf_vb (sfS Sf_b sf0)) Hr.1)
  have hk := Nat.le_trans hk Kc.1
  have SFL := (sfS Sf_vb (sfS Sf_b sf0))
  have Sf_b := QSf_b
  have Sf_vb := QSf_vb
  refine own_stW st106 ?_
  show own_GoW p e below s Z consts_1 _ _ _ (T106.setTop (mkF m 14 #[.val (.ref x)] [(.ref b)]))
  obtain ⟨sl, T107, h107, k107, slb, kl107, X107, e107, E107, hS107, hk107, hZ107, hown107, El107, Kl107, Vl107, Bl107, lta107, ltb107, R107, Li107, Sn107, st107⟩ := ldcCH X106 hx hZ hown (hw _ (List.mem_of_getElem? (i := 143) rfl)) hwS e106 hS hk hEL (by decide) Hr.1 (vs := [(.int (47 : Int32))]) (z := (1 : Int32)) (by decide) (by decide) rfl (g := (mkF m 14 #[.val (.ref x)] [(.ref b)])) rfl (hb hby own_d_prog_25_method_3_14) (n := 4) (by decide) (by decide) (by decide) (by decide)
  have QSf_b := CHr.safe R107 E_b.lt Sf_b
  have QSf_vb := CHr.safe R107 V_b.lt Sf_vb
  have A_c := A_c.ext E107
  have A_g := A_g.ext E107
  have E_1 := E_1.ext E107
  have G_1 := G_1.ext E107
  have H_1 := H_1.ext E107
  have V_1 := V_1.ext E107
  have E_2 := E_2.ext E107
  have G_2 := G_2.ext E107
  have H_2 := H_2.ext E107
  have V_2 := V_2.ext E107
  have E_b := E_b.ext E107
  have F_v := F_v.ext E107
  have F_k := F_k.ext E107
  have F_c := F_c.ext E107
  have V_b := V_b.ext E107
  have Od := Od.ext E107
  have Kp := Kp.ext E107
  have Sf_b := QSf_b
  have Sf_vb := QSf_vb
  have Hr := Hr.trans R107
  have hS := hS107
  have hk := hk107
  have hZ := hZ107
  have hown := hown107
  have ne_b_sl := (Sn107 _ Sf_b).1
  have ne_b_slb := (Sn107 _ Sf_b).2
  have ne_vb_sl := (Sn107 _ Sf_vb).1
  have ne_vb_slb := (Sn107 _ Sf_vb).2
  refine own_stW st107 ?_
  show own_GoW p e below s Z consts_1 _ _ _ (T107.setTop (mkF m 16 #[.val (.ref x)] [(.ref sl), (.ref b)]))
  have E_sl := El107
  have K_sl := Kl107
  have V_sl := Vl107
  have B_sl := Bl107
  obtain ⟨_, T108, h108, L108, X108, e108, ⟨rfl, Na2, Kc, E_q, F_v, F_k, F_c, V_b⟩, st108⟩ := own_callV X107 hx hZ hown (hw _ (List.mem_of_getElem? (i := 96) rfl)) (hw _ (List.mem_of_getElem? (i := 97) rfl)) (hw _ (List.mem_of_getElem? (i := 99) rfl)) (hw _ (List.mem_of_getElem? (i := 98) rfl)) (hw _ (List.mem_of_getElem? (i := 80) rfl)) (hw _ (List.mem_of_getElem? (i := 100) rfl)) (by decide) (own_rm_sap l Z a0 hw [] b sl vb slb kv _ (1 : Int32) (1 : Int32) [(.int (47 : Int32))] [w0, (.int (0 : Int32)), (.int (0 : Int32)), (.int (0 : Int32)), (.int (0 : Int32)), (.int (0 : Int32)), (.int (0 : Int32)), (.int (0 : Int32)), (.int (0 : Int32)), (.int (0 : Int32)), (.int (0 : Int32)), (.int (0 : Int32)), (.int (0 : Int32)), (.int (0 : Int32)), (.int (0 : Int32)), (.int (0 : Int32))] [(.int (47 : Int32))] [w0, (.int (47 : Int32)), (.int (0 : Int32)), (.int (0 : Int32)), (.int (0 : Int32)), (.int (0 : Int32)), (.int (0 : Int32)), (.int (0 : Int32)), (.int (0 : Int32)), (.int (0 : Int32)), (.int (0 : Int32)), (.int (0 : Int32)), (.int (0 : Int32)), (.int (0 : Int32)), (.int (0 : Int32)), (.int (0 : Int32))] G (2 : Int32) h107 n0 Od O2 P5 E_b F_v F_k F_c E_sl V_sl K_sl B_sl V_b ge_vb (Ne.symm ne_vb_sl) (Ne.symm ne_vb_slb) ge_b ne_b_vb (Ne.symm ne_b_slb) (by decide) (by decide) (by decide) (show (1 : Int32).toNatClampNeg + (1 : Int32).toNatClampNeg ≤ 16 by decide) rfl rfl (by decide) (by decide)) (by decide) (by decide) e107 (b := b) E_b (W := 0) (g := (mkF m 16 #[.val (.ref x)] [(.ref sl), (.ref b)])) rfl (by rw [hml]; rfl) (argsL := [(.ref sl)]) (rest := []) rfl (lenOf own_pd19 rfl) rfl (by show 2 * 0 + _ ≤ _; exact Nat.le_of_eq rfl) (hb hby own_d_prog_25_method_3_16) (by decide) (by decide)
  have N108 := Fr.app N106 Na2
  have A_c := A_c.keep Kc (ninS ne_x_vb (ninS ne_x_b nin0))
  have A_g := A_g.keep Kc (ninS ne_x_vb (ninS ne_x_b nin0))
  have E_1 := E_1.keep Kc
  have G_1 := G_1.keep Kc (ninS ne_g1_vb (ninS ne_g1_b nin0))
  have H_1 := H_1.keep Kc (ninS ne_g1_vb (ninS ne_g1_b nin0))
  have V_1 := V_1.keep Kc (ninS ne_t1_vb (ninS ne_t1_b nin0))
  have E_2 := E_2.keep Kc
  have G_2 := G_2.keep Kc (ninS ne_g2_vb (ninS ne_g2_b nin0))
  have H_2 := H_2.keep Kc (ninS ne_g2_vb (ninS ne_g2_b nin0))
  have V_2 := V_2.keep Kc (ninS ne_t2_vb (ninS ne_t2_b nin0))
  have QSf_b := Safe.keep Kc (sfS Sf_vb (sfS Sf_b sf0)) Hr.1 Sf_b
  have E_b := E_b.keep Kc
  have QSf_vb := Safe.keep Kc (sfS Sf_vb (sfS Sf_b sf0)) Hr.1 Sf_vb
  have E_sl := E_sl.keep Kc
  have K_sl := K_sl.keep Kc (ninS (Ne.symm ne_vb_sl) (ninS (Ne.symm ne_b_sl) nin0))
  have V_sl := V_sl.keep Kc (ninS (Ne.symm ne_vb_sl) (ninS (Ne.symm ne_b_sl) nin0))
  have B_sl := B_sl.keep Kc (ninS (Ne.symm ne_vb_slb) (ninS (Ne.symm ne_b_slb) nin0))
  have Od := Od.keep Kc (allS ge_vb (allS ge_b all0))
  have Kp := Kp.trans Kc (allS (Or.inr gz_vb) (allS (Or.inr gz_b) all0))
  have Hr0 := Hr.1
  have Hr := Hr.trans (CHr.keep Kc (sfS Sf_vb (sfS Sf_b sf0)) Hr.1)
  have hk := Nat.le_trans hk Kc.1
  have SFL := (sfS Sf_vb (sfS Sf_b sf0))
  have Sf_b := QSf_b
  have Sf_vb := QSf_vb
  refine own_stW st108 ?_
  show own_GoW p e below s Z consts_1 _ _ _ (T108.setTop (mkF m 19 #[.val (.ref x)] [(.ref b)]))
  refine own_stW (fun t9 k9 => XS.aloadN X108.here hx rfl (hb hby own_d_prog_25_method_3_19) rfl rfl k9) ?_
  show own_GoW p e below s Z consts_1 _ _ _ (T108.setTop (mkF m 20 #[.val (.ref x)] [(.ref x), (.ref b)]))
  obtain ⟨T109, X109, e109, st109⟩ := getF X108 hx hZ hown (host := "") (Or.inl (hw _ (List.mem_of_getElem? (i := 71) rfl))) Via.refl e108 A_g (g := (mkF m 20 #[.val (.ref x)] [(.ref x), (.ref b)])) rfl rfl (hb hby own_d_prog_25_method_3_20)
  refine own_stW st109 ?_
  show own_GoW p e below s Z consts_1 _ _ _ (T109.setTop (mkF m 23 #[.val (.ref x)] [(.ref g2), (.ref b)]))
  obtain ⟨_, T110, h110, L110, X110, e110, ⟨rfl, Na3, Kc, E_q, F_v, F_k, F_c, V_b⟩, st110⟩ := own_callV X109 hx hZ hown (hw _ (List.mem_of_getElem? (i := 96) rfl)) (hw _ (List.mem_of_getElem? (i := 97) rfl)) (hw _ (List.mem_of_getElem? (i := 99) rfl)) (hw _ (List.mem_of_getElem? (i := 98) rfl)) (hw _ (List.mem_of_getElem? (i := 80) rfl)) (hw _ (List.mem_of_getElem? (i := 100) rfl)) (by decide) (own_rm_sap l Z a0 hw [] b g2 vb t2 kv k2 (2 : Int32) (1 : Int32) [w2] [w0, (.int (47 : Int32)), (.int (0 : Int32)), (.int (0 : Int32)), (.int (0 : Int32)), (.int (0 : Int32)), (.int (0 : Int32)), (.int (0 : Int32)), (.int (0 : Int32)), (.int (0 : Int32)), (.int (0 : Int32)), (.int (0 : Int32)), (.int (0 : Int32)), (.int (0 : Int32)), (.int (0 : Int32)), (.int (0 : Int32))] [w2] [w0, (.int (47 : Int32)), w2, (.int (0 : Int32)), (.int (0 : Int32)), (.int (0 : Int32)), (.int (0 : Int32)), (.int (0 : Int32)), (.int (0 : Int32)), (.int (0 : Int32)), (.int (0 : Int32)), (.int (0 : Int32)), (.int (0 : Int32)), (.int (0 : Int32)), (.int (0 : Int32)), (.int (0 : Int32))] G (3 : Int32) h108 n0 Od O2 P5 E_b F_v F_k F_c E_2 G_2 H_2 V_2 V_b ge_vb ne_g2_vb ne_t2_vb ge_b ne_b_vb ne_t2_b (by decide) (by decide) (by decide) (show (2 : Int32).toNatClampNeg + (1 : Int32).toNatClampNeg ≤ 16 by decide) rfl rfl (by decide) (by decide)) (by decide) (by decide) e109 (b := b) E_b (W := 0) (g := (mkF m 23 #[.val (.ref x)] [(.ref g2), (.ref b)])) rfl (by rw [hml]; rfl) (argsL := [(.ref g2)]) (rest := []) rfl (lenOf own_pd19 rfl) rfl (by show 2 * 0 + _ ≤ _; exact Nat.le_of_eq rfl) (hb hby own_d_prog_25_method_3_23) (by decide) (by decide)
  have N110 := Fr.app N108 Na3
  have A_c := A_c.keep Kc (ninS ne_x_vb (ninS ne_x_b nin0))
  have A_g := A_g.keep Kc (ninS ne_x_vb (ninS ne_x_b nin0))
  have E_1 := E_1.keep Kc
  have G_1 := G_1.keep Kc (ninS ne_g1_vb (ninS ne_g1_b nin0))
  have H_1 := H_1.keep Kc (ninS ne_g1_vb (ninS ne_g1_b nin0))
  have V_1 := V_1.keep Kc (ninS ne_t1_vb (ninS ne_t1_b nin0))
  have E_2 := E_2.keep Kc
  have G_2 := G_2.keep Kc (ninS ne_g2_vb (ninS ne_g2_b nin0))
  have H_2 := H_2.keep Kc (ninS ne_g2_vb (ninS ne_g2_b nin0))
  have V_2 := V_2.keep Kc (ninS ne_t2_vb (ninS ne_t2_b nin0))
  have QSf_b := Safe.keep Kc (sfS Sf_vb (sfS Sf_b sf0)) Hr.1 Sf_b
  have E_b := E_b.keep Kc
  have QSf_vb := Safe.keep Kc (sfS Sf_vb (sfS Sf_b sf0)) Hr.1 Sf_vb
  have E_sl := E_sl.keep Kc
  have K_sl := K_sl.keep Kc (ninS (Ne.symm ne_vb_sl) (ninS (Ne.symm ne_b_sl) nin0))
  have V_sl := V_sl.keep Kc (ninS (Ne.symm ne_vb_sl) (ninS (Ne.symm ne_b_sl) nin0))
  have B_sl := B_sl.keep Kc (ninS (Ne.symm ne_vb_slb) (ninS (Ne.symm ne_b_slb) nin0))
  have Od := Od.keep Kc (allS ge_vb (allS ge_b all0))
  have Kp := Kp.trans Kc (allS (Or.inr gz_vb) (allS (Or.inr gz_b) all0))
  have Hr0 := Hr.1
  have Hr := Hr.trans (CHr.keep Kc (sfS Sf_vb (sfS Sf_b sf0)) Hr.1)
  have hk := Nat.le_trans hk Kc.1
  have SFL := (sfS Sf_vb (sfS Sf_b sf0))
  have Sf_b := QSf_b
  have Sf_vb := QSf_vb
  refine own_stW st110 ?_
  show own_GoW p e below s Z consts_1 _ _ _ (T110.setTop (mkF m 26 #[.val (.ref x)] [(.ref b)]))
  have gK := Kp.1
  obtain ⟨_, T111, h111, L111, X111, e111, ⟨Nt, Kt, y, tb, kb, rfl, gy, E_y, Y_k, Y_v, V_y⟩, st111⟩ := own_callV X110 hx hZ hown (hw _ (List.mem_of_getElem? (i := 144) rfl)) (hw _ (List.mem_of_getElem? (i := 145) rfl)) (hw _ (List.mem_of_getElem? (i := 147) rfl)) (hw _ (List.mem_of_getElem? (i := 146) rfl)) (hw _ (List.mem_of_getElem? (i := 80) rfl)) (hw _ (List.mem_of_getElem? (i := 148) rfl)) (by decide) (own_rm_tos3 l Z a0 hw [] b vb kv [w0, (.int (47 : Int32)), w2, (.int (0 : Int32)), (.int (0 : Int32)), (.int (0 : Int32)), (.int (0 : Int32)), (.int (0 : Int32)), (.int (0 : Int32)), (.int (0 : Int32)), (.int (0 : Int32)), (.int (0 : Int32)), (.int (0 : Int32)), (.int (0 : Int32)), (.int (0 : Int32)), (.int (0 : Int32))] [w0, (.int (47 : Int32)), w2] G h110 n0 Od E_b F_v F_k F_c V_b rfl O2 P5) (by decide) (by decide) e110 (b := b) E_b (W := 0) (g := (mkF m 26 #[.val (.ref x)] [(.ref b)])) rfl (by rw [hml]; rfl) (argsL := []) (rest := []) rfl (lenOf own_pd20 rfl) rfl (by show 2 * 0 + _ ≤ _; exact Nat.le_of_eq rfl) (hb hby own_d_prog_25_method_3_26) (by decide) (by decide)
  have N111 := Fr.app N110 Nt
  have A_c := A_c.keep Kt nin0
  have A_g := A_g.keep Kt nin0
  have E_1 := E_1.keep Kt
  have G_1 := G_1.keep Kt nin0
  have H_1 := H_1.keep Kt nin0
  have V_1 := V_1.keep Kt nin0
  have E_2 := E_2.keep Kt
  have G_2 := G_2.keep Kt nin0
  have H_2 := H_2.keep Kt nin0
  have V_2 := V_2.keep Kt nin0
  have QSf_b := Safe.keep Kt sf0 Hr.1 Sf_b
  have E_b := E_b.keep Kt
  have QSf_vb := Safe.keep Kt sf0 Hr.1 Sf_vb
  have E_sl := E_sl.keep Kt
  have K_sl := K_sl.keep Kt nin0
  have V_sl := V_sl.keep Kt nin0
  have B_sl := B_sl.keep Kt nin0
  have F_v := F_v.keep Kt nin0
  have F_k := F_k.keep Kt nin0
  have F_c := F_c.keep Kt nin0
  have V_b := V_b.keep Kt nin0
  have Od := Od.keep Kt all0
  have Kp := Kp.trans Kt all0
  have Hr0 := Hr.1
  have Hr := Hr.trans (CHr.keep Kt sf0 Hr.1)
  have hk := Nat.le_trans hk Kt.1
  have Sf_b := QSf_b
  have Sf_vb := QSf_vb
  refine own_stW st111 ?_
  show own_GoW p e below s Z consts_1 _ _ _ (T111.setTop (mkF m 29 #[.val (.ref x)] [(.ref y)]))
  exact own_retRW X111 hx hlk hS (by rw [e111]; exact hk) hZ hEL (by rw [hh, e111]; exact Hr) Bd.returns rfl rfl (hb hby own_d_prog_25_method_3_29) (by decide) (by decide) (by rw [e111]; exact ⟨N111, Kp, y, tb, kb, rfl, Nat.le_trans gK gy, E_y, Y_k, Y_v, V_y⟩)
theorem own_ef_gts12 (m : MethodId) (x0 : Addr) : entryFrame m #[(.ref x0)] 1 = mkF m 0 #[.val (.ref x0)] [] := by first | (simp [entryFrame, mkF, argsToLocals, Value.category]; done) | rfl
def own_Q_gts12 (Z : State) (w0 w2 w3 : Value) (h0 : Heap) (n0 : Nat) (v : Option Value) (h : Heap) (L : List Loc) : Prop := Fr n0 L ∧ Keep h0 h [] ∧ ∃ y tb k, v = some (.ref y) ∧ h0.size ≤ y ∧ Exa Z h y "java/lang/String" ∧ Fld Z h y "java/lang/String" "coder" "B" (.int (0 : Int32)) ∧ Fld Z h y "java/lang/String" "value" "[B" (.ref tb) ∧ Arv Z h tb k .byte (4 : Int32) [w0, (.int (47 : Int32)), w2, w3] (.int (0 : Int32))
set_option maxRecDepth 65536 in
set_option maxHeartbeats 40000000 in
theorem own_rm_gts12 (l : Launch) (Z : State) (a0 : Array Value) (hw : ∀ d ∈ tables_1, d.before a0 Z = true) (hEL : EW Z a0 consts_1) (ws : List Jvm.Cond) (x g1 g2 t1 t2 : Addr) (k1 k2 : ClassId) (w0 w2 w3 : Value) (G : Int32) (h0 : Heap) (n0 : Nat) (Od : Old Z n0 h0) (A_c : Fld Z h0 x "com/example/bluehead/bluehead/net/GroupName" "cluster" "Ljava/lang/String;" (.ref g1)) (A_g : Fld Z h0 x "com/example/bluehead/bluehead/net/GroupName" "group" "Ljava/lang/String;" (.ref g2)) (E_1 : Exa Z h0 g1 "java/lang/String") (G_1 : Fld Z h0 g1 "java/lang/String" "value" "[B" (.ref t1)) (H_1 : Fld Z h0 g1 "java/lang/String" "coder" "B" (.int (0 : Int32))) (V_1 : Arv Z h0 t1 k1 .byte (1 : Int32) [w0] (.int (0 : Int32))) (E_2 : Exa Z h0 g2 "java/lang/String") (G_2 : Fld Z h0 g2 "java/lang/String" "value" "[B" (.ref t2)) (H_2 : Fld Z h0 g2 "java/lang/String" "coder" "B" (.int (0 : Int32))) (V_2 : Arv Z h0 t2 k2 .byte (2 : Int32) [w2, w3] (.int (0 : Int32))) (O2 : Sta Z Z.heap "java/lang/String" "COMPACT_STRINGS" "Z" (.int G)) (P5 : ¬ (G = (0 : Int32))) :
    MetFree l (⟨"com/example/bluehead/bluehead/net/GroupName", "toString", "()Ljava/lang/String;"⟩ : MethodName) (head1 (Jvm.Cond.code (⟨"com/example/bluehead/bluehead/net/GroupName", "toString", "()Ljava/lang/String;"⟩ : MethodName) prog_25_method_3_code 1 (some (.object "java/lang/String")) :: ws) ({ frames := 6, cells := 6, slots := 36, locals := 91 } : Room)) (fun a9 U => a9 = #[(.ref x)] ∧ Z.Warmed39 U.vm ∧ U.heap = h0 ∧ CHv Z consts_1 U.vm h0 ∧ ∀ x9 ∈ ([] : List Addr), Safe Z consts_1 U.vm h0 x9) (fun _ _ _ _ _ => True) (fun _ U o U' => ∃ v L, o = .returned v ∧ own_Q_gts12 Z w0 w2 w3 h0 n0 v U'.heap L ∧ CHr Z consts_1 U.vm U.heap U'.vm U'.heap ∧ ReturnedEndW U o U' L ({ frames := 6, cells := 6, slots := 36, locals := 91 } : Room).cells ({ frames := 6, cells := 6, slots := 36, locals := 91 } : Room).slots) := by
  refine MetFree.of_bodySF (plainFor_of_name own_pn7) hisR ?_
  intro p e s m args below meth c s₁ Bd hml0 hP hK
  obtain ⟨rfl, hZ, hh, Hc, Hs⟩ := hP
  have hx := Bd.exec
  have hby := Bd.bytes
  have hml : c.maxLocals = 1 := hml0
  have hown : s.vm.findClass "com/example/bluehead/bluehead/net/GroupName" = some m.cls := findClass_of_methodNamed Bd.named
  have hnm := (name_of_methodNamed Bd.named Bd.method).1
  have hlk : meth.locks = false := Bd.notSynchronized
  have X0 : Stand p l e ({ frames := 6, cells := 6, slots := 36, locals := 91 } : Room) (s.setVm s.vm) m #[(.ref x)] below meth c s₁ [] 0 0 := Stand.of_body Bd
  have e0 : s₁.heap = h0 := by rw [← hh, Bd.state]; rfl
  have N0 := Fr.nil n0
  have hS : s.Since s.vm h0.size := (State.WarmedH.refl s).since _
  have hk : h0.size ≤ h0.size := Nat.le_refl _
  have Hr : CHr Z consts_1 s.vm h0 s.vm h0 := CHr.refl Hc
  skip
  show own_GoW p e below s Z consts_1 (own_Q_gts12 Z w0 w2 w3 h0 n0) ({ frames := 6, cells := 6, slots := 36, locals := 91 } : Room).cells ({ frames := 6, cells := 6, slots := 36, locals := 91 } : Room).slots (s₁.setTop (entryFrame m #[(.ref x)] 1))
  refine own_stW (fun t9 k9 => castTop (own_ef_gts12 m x) k9) ?_
  show own_GoW p e below s Z consts_1 _ _ _ (s₁.setTop (mkF m 0 #[.val (.ref x)] []))
  have hwS : ∀ d ∈ Bundle.stringAtoms, d.before a0 Z = true := fun d hd => hw d ((by decide +kernel : ∀ d ∈ Bundle.stringAtoms, d ∈ tables_1) d hd)
  have Kp : Keep h0 h0 [] := Keep.refl h0 []
  obtain ⟨T112, h112, X112, e112, E112, A112, D112, U112, st112⟩ := newO X0 hx hZ hown (hw _ (List.mem_of_getElem? (i := 78) rfl)) (hw _ (List.mem_of_getElem? (i := 79) rfl)) (hw _ (List.mem_of_getElem? (i := 80) rfl)) e0 (g := (mkF m 0 #[.val (.ref x)] [])) rfl (hb hby own_d_prog_25_method_3_0) (by decide) (by decide)
  obtain ⟨b, g112⟩ : ∃ z, z = h0.size := ⟨_, rfl⟩
  rw [← g112] at A112 D112 st112 U112
  have ne_x_b : x ≠ b := Nat.ne_of_lt (Nat.lt_of_lt_of_le A_c.lt (Nat.le_of_eq g112.symm))
  have ne_g1_b : g1 ≠ b := Nat.ne_of_lt (Nat.lt_of_lt_of_le E_1.lt (Nat.le_of_eq g112.symm))
  have ne_t1_b : t1 ≠ b := Nat.ne_of_lt (Nat.lt_of_lt_of_le V_1.lt (Nat.le_of_eq g112.symm))
  have ne_g2_b : g2 ≠ b := Nat.ne_of_lt (Nat.lt_of_lt_of_le E_2.lt (Nat.le_of_eq g112.symm))
  have ne_t2_b : t2 ≠ b := Nat.ne_of_lt (Nat.lt_of_lt_of_le V_2.lt (Nat.le_of_eq g112.symm))
  have ge_b : n0 ≤ b := Nat.le_trans (own_z0 Od) (Nat.le_of_eq g112.symm)
  have gz_b : h0.size ≤ b := Nat.le_trans Kp.1 (Nat.le_of_eq g112.symm)
  have Sf_b : Safe Z consts_1 s.vm h0 b := Safe.new (Nat.le_of_eq g112.symm)
  have A_c := A_c.ext E112
  have A_g := A_g.ext E112
  have E_1 := E_1.ext E112
  have G_1 := G_1.ext E112
  have H_1 := H_1.ext E112
  have V_1 := V_1.ext E112
  have E_2 := E_2.ext E112
  have G_2 := G_2.ext E112
  have H_2 := H_2.ext E112
  have V_2 := V_2.ext E112
  have Sf_b := Safe.ext E112 Hr.1 Sf_b
  have Od := Od.ext E112
  have Kp := Kp.ext E112
  have Hr := Hr.trans (CHr.ext E112 Hr.1)
  have hk := Nat.le_trans hk E112.1
  refine own_stW st112 ?_
  show own_GoW p e below s Z consts_1 _ _ _ (T112.setTop (mkF m 3 #[.val (.ref x)] [(.ref b)]))
  have E_b : Exa Z h112 b "java/lang/StringBuilder" := A112
  have F_v : Fld Z h112 b "java/lang/AbstractStringBuilder" "value" "[B" .null := D112 (Or.inl (hw _ (List.mem_of_getElem? (i := 93) rfl))) (ty := (.array .byte)) (by decide)
  have F_k : Fld Z h112 b "java/lang/AbstractStringBuilder" "coder" "B" (.int (0 : Int32)) := D112 (Or.inl (hw _ (List.mem_of_getElem? (i := 95) rfl))) (ty := .byte) (by decide)
  have F_c : Fld Z h112 b "java/lang/AbstractStringBuilder" "count" "I" (.int (0 : Int32)) := D112 (Or.inl (hw _ (List.mem_of_getElem? (i := 117) rfl))) (ty := .int) (by decide)
  refine own_stW (fun t9 k9 => XS.dup X112.here hx rfl (hb hby own_d_prog_25_method_3_3) rfl rfl k9) ?_
  show own_GoW p e below s Z consts_1 _ _ _ (T112.setTop (mkF m 4 #[.val (.ref x)] [(.ref b), (.ref b)]))
  obtain ⟨_, T113, h113, L113, X113, e113, ⟨rfl, Nc, Kc, E_q, vb, kv, gvb, F_v, F_k, F_c, V_b⟩, st113⟩ := own_callI X112 hx hZ hown rfl (hw _ (List.mem_of_getElem? (i := 81) rfl)) (hw _ (List.mem_of_getElem? (i := 82) rfl)) (hw _ (List.mem_of_getElem? (i := 80) rfl)) (hw _ (List.mem_of_getElem? (i := 83) rfl)) (by decide) (own_rm_sb0 l Z a0 hw [] b G h112 n0 Od E_b F_v F_k F_c ge_b O2 P5) (by decide) (by decide) e112 (a := b) (W := 1) (g := (mkF m 4 #[.val (.ref x)] [(.ref b), (.ref b)])) rfl (by rw [hml]; rfl) (argsL := []) (rest := [(.ref b)]) rfl (lenOf own_pd17 rfl) rfl (by show 2 * 0 + _ ≤ _; exact Nat.le_of_eq rfl) (hb hby own_d_prog_25_method_3_4) (by decide) (by decide)
  have N113 := Fr.app N0 Nc
  have ne_x_vb : x ≠ vb := Nat.ne_of_lt (Nat.lt_of_lt_of_le A_c.lt gvb)
  have ne_g1_vb : g1 ≠ vb := Nat.ne_of_lt (Nat.lt_of_lt_of_le E_1.lt gvb)
  have ne_t1_vb : t1 ≠ vb := Nat.ne_of_lt (Nat.lt_of_lt_of_le V_1.lt gvb)
  have ne_g2_vb : g2 ≠ vb := Nat.ne_of_lt (Nat.lt_of_lt_of_le E_2.lt gvb)
  have ne_t2_vb : t2 ≠ vb := Nat.ne_of_lt (Nat.lt_of_lt_of_le V_2.lt gvb)
  have ne_b_vb : b ≠ vb := Nat.ne_of_lt (Nat.lt_of_lt_of_le E_b.lt gvb)
  have ge_vb : n0 ≤ vb := Nat.le_trans (own_z0 Od) gvb
  have gz_vb : h0.size ≤ vb := Nat.le_trans Kp.1 gvb
  have A_c := A_c.keep Kc (ninS ne_x_b nin0)
  have A_g := A_g.keep Kc (ninS ne_x_b nin0)
  have E_1 := E_1.keep Kc
  have G_1 := G_1.keep Kc (ninS ne_g1_b nin0)
  have H_1 := H_1.keep Kc (ninS ne_g1_b nin0)
  have V_1 := V_1.keep Kc (ninS ne_t1_b nin0)
  have E_2 := E_2.keep Kc
  have G_2 := G_2.keep Kc (ninS ne_g2_b nin0)
  have H_2 := H_2.keep Kc (ninS ne_g2_b nin0)
  have V_2 := V_2.keep Kc (ninS ne_t2_b nin0)
  have QSf_b := Safe.keep Kc (sfS Sf_b sf0) Hr.1 Sf_b
  have E_b := E_b.keep Kc
  have Od := Od.keep Kc (allS ge_b all0)
  have Kp := Kp.trans Kc (allS (Or.inr gz_b) all0)
  have Hr0 := Hr.1
  have Hr := Hr.trans (CHr.keep Kc (sfS Sf_b sf0) Hr.1)
  have hk := Nat.le_trans hk Kc.1
  have SFL := (sfS Sf_b sf0)
  have Sf_b := QSf_b
  have Sf_vb := Safe.keep Kc SFL Hr0 (Safe.new gvb)
  refine own_stW st113 ?_
  show own_GoW p e below s Z consts_1 _ _ _ (T113.setTop (mkF m 7 #[.val (.ref x)] [(.ref b)]))
  refine own_stW (fun t9 k9 => XS.aloadN X113.here hx rfl (hb hby own_d_prog_25_method_3_7) rfl rfl k9) ?_
  show own_GoW p e below s Z consts_1 _ _ _ (T113.setTop (mkF m 8 #[.val (.ref x)] [(.ref x), (.ref b)]))
  obtain ⟨T114, X114, e114, st114⟩ := getF X113 hx hZ hown (host := "") (Or.inl (hw _ (List.mem_of_getElem? (i := 69) rfl))) Via.refl e113 A_c (g := (mkF m 8 #[.val (.ref x)] [(.ref x), (.ref b)])) rfl rfl (hb hby own_d_prog_25_method_3_8)
  refine own_stW st114 ?_
  show own_GoW p e below s Z consts_1 _ _ _ (T114.setTop (mkF m 11 #[.val (.ref x)] [(.ref g1), (.ref b)]))
  obtain ⟨_, T115, h115, L115, X115, e115, ⟨rfl, Na1, Kc, E_q, F_v, F_k, F_c, V_b⟩, st115⟩ := own_callV X114 hx hZ hown (hw _ (List.mem_of_getElem? (i := 96) rfl)) (hw _ (List.mem_of_getElem? (i := 97) rfl)) (hw _ (List.mem_of_getElem? (i := 99) rfl)) (hw _ (List.mem_of_getElem? (i := 98) rfl)) (hw _ (List.mem_of_getElem? (i := 80) rfl)) (hw _ (List.mem_of_getElem? (i := 100) rfl)) (by decide) (own_rm_sap l Z a0 hw [] b g1 vb t1 kv k1 (0 : Int32) (1 : Int32) [w0] [(.int (0 : Int32)), (.int (0 : Int32)), (.int (0 : Int32)), (.int (0 : Int32)), (.int (0 : Int32)), (.int (0 : Int32)), (.int (0 : Int32)), (.int (0 : Int32)), (.int (0 : Int32)), (.int (0 : Int32)), (.int (0 : Int32)), (.int (0 : Int32)), (.int (0 : Int32)), (.int (0 : Int32)), (.int (0 : Int32)), (.int (0 : Int32))] [w0] [w0, (.int (0 : Int32)), (.int (0 : Int32)), (.int (0 : Int32)), (.int (0 : Int32)), (.int (0 : Int32)), (.int (0 : Int32)), (.int (0 : Int32)), (.int (0 : Int32)), (.int (0 : Int32)), (.int (0 : Int32)), (.int (0 : Int32)), (.int (0 : Int32)), (.int (0 : Int32)), (.int (0 : Int32)), (.int (0 : Int32))] G (1 : Int32) h113 n0 Od O2 P5 E_b F_v F_k F_c E_1 G_1 H_1 V_1 V_b ge_vb ne_g1_vb ne_t1_vb ge_b ne_b_vb ne_t1_b (by decide) (by decide) (by decide) (show (0 : Int32).toNatClampNeg + (1 : Int32).toNatClampNeg ≤ 16 by decide) rfl rfl (by decide) (by decide)) (by decide) (by decide) e114 (b := b) E_b (W := 0) (g := (mkF m 11 #[.val (.ref x)] [(.ref g1), (.ref b)])) rfl (by rw [hml]; rfl) (argsL := [(.ref g1)]) (rest := []) rfl (lenOf own_pd19 rfl) rfl (by show 2 * 0 + _ ≤ _; exact Nat.le_of_eq rfl) (hb hby own_d_prog_25_method_3_11) (by decide) (by decide)
  have N115 := Fr.app N113 Na1
  have A_c := A_c.keep Kc (ninS ne_x_vb (ninS ne_x_b nin0))
  have A_g := A_g.keep Kc (ninS ne_x_vb (ninS ne_x_b nin0))
  have E_1 := E_1.keep Kc
  have G_1 := G_1.keep Kc (ninS ne_g1_vb (ninS ne_g1_b nin0))
  have H_1 := H_1.keep Kc (ninS ne_g1_vb (ninS ne_g1_b nin0))
  have V_1 := V_1.keep Kc (ninS ne_t1_vb (ninS ne_t1_b nin0))
  have E_2 := E_2.keep Kc
  have G_2 := G_2.keep Kc (ninS ne_g2_vb (ninS ne_g2_b nin0))
  have H_2 := H_2.keep Kc (ninS ne_g2_vb (ninS ne_g2_b nin0))
  have V_2 := V_2.keep Kc (ninS ne_t2_vb (ninS ne_t2_b nin0))
  have QSf_b := Safe.keep Kc (sfS Sf_vb (sfS Sf_b sf0)) Hr.1 Sf_b
  have E_b := E_b.keep Kc
  have QSf_vb := Safe.keep Kc (sfS Sf_vb (sfS Sf_b sf0)) Hr.1 Sf_vb
  have Od := Od.keep Kc (allS ge_vb (allS ge_b all0))
  have Kp := Kp.trans Kc (allS (Or.inr gz_vb) (allS (Or.inr gz_b) all0))
  have Hr0 := Hr.1
  have Hr := Hr.trans (CHr.keep Kc (sfS Sf_vb (sfS Sf_b sf0)) Hr.1)
  have hk := Nat.le_trans hk Kc.1
  have SFL := (sfS Sf_vb (sfS Sf_b sf0))
  have Sf_b := QSf_b
  have Sf_vb := QSf_vb
  refine own_stW st115 ?_
  show own_GoW p e below s Z consts_1 _ _ _ (T115.setTop (mkF m 14 #[.val (.ref x)] [(.ref b)]))
  obtain ⟨sl, T116, h116, k116, slb, kl116, X116, e116, E116, hS116, hk116, hZ116, hown116, El116, Kl116, Vl116, Bl116, lta116, ltb116, R116, Li116, Sn116, st116⟩ := ldcCH X115 hx hZ hown (hw _ (List.mem_of_getElem? (i := 143) rfl)) hwS e115 hS hk hEL (by decide) Hr.1 (vs := [(.int (47 : Int32))]) (z := (1 : Int32)) (by decide) (by decide) rfl (g := (mkF m 14 #[.val (.ref x)] [(.ref b)])) rfl (hb hby own_d_prog_25_method_3_14) (n := 4) (by decide) (by decide) (by decide) (by decide)
  have QSf_b := CHr.safe R116 E_b.lt Sf_b
  have QSf_vb := CHr.safe R116 V_b.lt Sf_vb
  have A_c := A_c.ext E116
  have A_g := A_g.ext E116
  have E_1 := E_1.ext E116
  have G_1 := G_1.ext E116
  have H_1 := H_1.ext E116
  have V_1 := V_1.ext E116
  have E_2 := E_2.ext E116
  have G_2 := G_2.ext E116
  have H_2 := H_2.ext E116
  have V_2 := V_2.ext E116
  have E_b := E_b.ext E116
  have F_v := F_v.ext E116
  have F_k := F_k.ext E116
  have F_c := F_c.ext E116
  have V_b := V_b.ext E116
  have Od := Od.ext E116
  have Kp := Kp.ext E116
  have Sf_b := QSf_b
  have Sf_vb := QSf_vb
  have Hr := Hr.trans R116
  have hS := hS116
  have hk := hk116
  have hZ := hZ116
  have hown := hown116
  have ne_b_sl := (Sn116 _ Sf_b).1
  have ne_b_slb := (Sn116 _ Sf_b).2
  have ne_vb_sl := (Sn116 _ Sf_vb).1
  have ne_vb_slb := (Sn116 _ Sf_vb).2
  refine own_stW st116 ?_
  show own_GoW p e below s Z consts_1 _ _ _ (T116.setTop (mkF m 16 #[.val (.ref x)] [(.ref sl), (.ref b)]))
  have E_sl := El116
  have K_sl := Kl116
  have V_sl := Vl116
  have B_sl := Bl116
  obtain ⟨_, T117, h117, L117, X117, e117, ⟨rfl, Na2, Kc, E_q, F_v, F_k, F_c, V_b⟩, st117⟩ := own_callV X116 hx hZ hown (hw _ (List.mem_of_getElem? (i := 96) rfl)) (hw _ (List.mem_of_getElem? (i := 97) rfl)) (hw _ (List.mem_of_getElem? (i := 99) rfl)) (hw _ (List.mem_of_getElem? (i := 98) rfl)) (hw _ (List.mem_of_getElem? (i := 80) rfl)) (hw _ (List.mem_of_getElem? (i := 100) rfl)) (by decide) (own_rm_sap l Z a0 hw [] b sl vb slb kv _ (1 : Int32) (1 : Int32) [(.int (47 : Int32))] [w0, (.int (0 : Int32)), (.int (0 : Int32)), (.int (0 : Int32)), (.int (0 : Int32)), (.int (0 : Int32)), (.int (0 : Int32)), (.int (0 : Int32)), (.int (0 : Int32)), (.int (0 : Int32)), (.int (0 : Int32)), (.int (0 : Int32)), (.int (0 : Int32)), (.int (0 : Int32)), (.int (0 : Int32)), (.int (0 : Int32))] [(.int (47 : Int32))] [w0, (.int (47 : Int32)), (.int (0 : Int32)), (.int (0 : Int32)), (.int (0 : Int32)), (.int (0 : Int32)), (.int (0 : Int32)), (.int (0 : Int32)), (.int (0 : Int32)), (.int (0 : Int32)), (.int (0 : Int32)), (.int (0 : Int32)), (.int (0 : Int32)), (.int (0 : Int32)), (.int (0 : Int32)), (.int (0 : Int32))] G (2 : Int32) h116 n0 Od O2 P5 E_b F_v F_k F_c E_sl V_sl K_sl B_sl V_b ge_vb (Ne.symm ne_vb_sl) (Ne.symm ne_vb_slb) ge_b ne_b_vb (Ne.symm ne_b_slb) (by decide) (by decide) (by decide) (show (1 : Int32).toNatClampNeg + (1 : Int32).toNatClampNeg ≤ 16 by decide) rfl rfl (by decide) (by decide)) (by decide) (by decide) e116 (b := b) E_b (W := 0) (g := (mkF m 16 #[.val (.ref x)] [(.ref sl), (.ref b)])) rfl (by rw [hml]; rfl) (argsL := [(.ref sl)]) (rest := []) rfl (lenOf own_pd19 rfl) rfl (by show 2 * 0 + _ ≤ _; exact Nat.le_of_eq rfl) (hb hby own_d_prog_25_method_3_16) (by decide) (by decide)
  have N117 := Fr.app N115 Na2
  have A_c := A_c.keep Kc (ninS ne_x_vb (ninS ne_x_b nin0))
  have A_g := A_g.keep Kc (ninS ne_x_vb (ninS ne_x_b nin0))
  have E_1 := E_1.keep Kc
  have G_1 := G_1.keep Kc (ninS ne_g1_vb (ninS ne_g1_b nin0))
  have H_1 := H_1.keep Kc (ninS ne_g1_vb (ninS ne_g1_b nin0))
  have V_1 := V_1.keep Kc (ninS ne_t1_vb (ninS ne_t1_b nin0))
  have E_2 := E_2.keep Kc
  have G_2 := G_2.keep Kc (ninS ne_g2_vb (ninS ne_g2_b nin0))
  have H_2 := H_2.keep Kc (ninS ne_g2_vb (ninS ne_g2_b nin0))
  have V_2 := V_2.keep Kc (ninS ne_t2_vb (ninS ne_t2_b nin0))
  have QSf_b := Safe.keep Kc (sfS Sf_vb (sfS Sf_b sf0)) Hr.1 Sf_b
  have E_b := E_b.keep Kc
  have QSf_vb := Safe.keep Kc (sfS Sf_vb (sfS Sf_b sf0)) Hr.1 Sf_vb
  have E_sl := E_sl.keep Kc
  have K_sl := K_sl.keep Kc (ninS (Ne.symm ne_vb_sl) (ninS (Ne.symm ne_b_sl) nin0))
  have V_sl := V_sl.keep Kc (ninS (Ne.symm ne_vb_sl) (ninS (Ne.symm ne_b_sl) nin0))
  have B_sl := B_sl.keep Kc (ninS (Ne.symm ne_vb_slb) (ninS (Ne.symm ne_b_slb) nin0))
  have Od := Od.keep Kc (allS ge_vb (allS ge_b all0))
  have Kp := Kp.trans Kc (allS (Or.inr gz_vb) (allS (Or.inr gz_b) all0))
  have Hr0 := Hr.1
  have Hr := Hr.trans (CHr.keep Kc (sfS Sf_vb (sfS Sf_b sf0)) Hr.1)
  have hk := Nat.le_trans hk Kc.1
  have SFL := (sfS Sf_vb (sfS Sf_b sf0))
  have Sf_b := QSf_b
  have Sf_vb := QSf_vb
  refine own_stW st117 ?_
  show own_GoW p e below s Z consts_1 _ _ _ (T117.setTop (mkF m 19 #[.val (.ref x)] [(.ref b)]))
  refine own_stW (fun t9 k9 => XS.aloadN X117.here hx rfl (hb hby own_d_prog_25_method_3_19) rfl rfl k9) ?_
  show own_GoW p e below s Z consts_1 _ _ _ (T117.setTop (mkF m 20 #[.val (.ref x)] [(.ref x), (.ref b)]))
  obtain ⟨T118, X118, e118, st118⟩ := getF X117 hx hZ hown (host := "") (Or.inl (hw _ (List.mem_of_getElem? (i := 71) rfl))) Via.refl e117 A_g (g := (mkF m 20 #[.val (.ref x)] [(.ref x), (.ref b)])) rfl rfl (hb hby own_d_prog_25_method_3_20)
  refine own_stW st118 ?_
  show own_GoW p e below s Z consts_1 _ _ _ (T118.setTop (mkF m 23 #[.val (.ref x)] [(.ref g2), (.ref b)]))
  obtain ⟨_, T119, h119, L119, X119, e119, ⟨rfl, Na3, Kc, E_q, F_v, F_k, F_c, V_b⟩, st119⟩ := own_callV X118 hx hZ hown (hw _ (List.mem_of_getElem? (i := 96) rfl)) (hw _ (List.mem_of_getElem? (i := 97) rfl)) (hw _ (List.mem_of_getElem? (i := 99) rfl)) (hw _ (List.mem_of_getElem? (i := 98) rfl)) (hw _ (List.mem_of_getElem? (i := 80) rfl)) (hw _ (List.mem_of_getElem? (i := 100) rfl)) (by decide) (own_rm_sap l Z a0 hw [] b g2 vb t2 kv k2 (2 : Int32) (2 : Int32) [w2, w3] [w0, (.int (47 : Int32)), (.int (0 : Int32)), (.int (0 : Int32)), (.int (0 : Int32)), (.int (0 : Int32)), (.int (0 : Int32)), (.int (0 : Int32)), (.int (0 : Int32)), (.int (0 : Int32)), (.int (0 : Int32)), (.int (0 : Int32)), (.int (0 : Int32)), (.int (0 : Int32)), (.int (0 : Int32)), (.int (0 : Int32))] [w2, w3] [w0, (.int (47 : Int32)), w2, w3, (.int (0 : Int32)), (.int (0 : Int32)), (.int (0 : Int32)), (.int (0 : Int32)), (.int (0 : Int32)), (.int (0 : Int32)), (.int (0 : Int32)), (.int (0 : Int32)), (.int (0 : Int32)), (.int (0 : Int32)), (.int (0 : Int32)), (.int (0 : Int32))] G (4 : Int32) h117 n0 Od O2 P5 E_b F_v F_k F_c E_2 G_2 H_2 V_2 V_b ge_vb ne_g2_vb ne_t2_vb ge_b ne_b_vb ne_t2_b (by decide) (by decide) (by decide) (show (2 : Int32).toNatClampNeg + (2 : Int32).toNatClampNeg ≤ 16 by decide) rfl rfl (by decide) (by decide)) (by decide) (by decide) e118 (b := b) E_b (W := 0) (g := (mkF m 23 #[.val (.ref x)] [(.ref g2), (.ref b)])) rfl (by rw [hml]; rfl) (argsL := [(.ref g2)]) (rest := []) rfl (lenOf own_pd19 rfl) rfl (by show 2 * 0 + _ ≤ _; exact Nat.le_of_eq rfl) (hb hby own_d_prog_25_method_3_23) (by decide) (by decide)
  have N119 := Fr.app N117 Na3
  have A_c := A_c.keep Kc (ninS ne_x_vb (ninS ne_x_b nin0))
  have A_g := A_g.keep Kc (ninS ne_x_vb (ninS ne_x_b nin0))
  have E_1 := E_1.keep Kc
  have G_1 := G_1.keep Kc (ninS ne_g1_vb (ninS ne_g1_b nin0))
  have H_1 := H_1.keep Kc (ninS ne_g1_vb (ninS ne_g1_b nin0))
  have V_1 := V_1.keep Kc (ninS ne_t1_vb (ninS ne_t1_b nin0))
  have E_2 := E_2.keep Kc
  have G_2 := G_2.keep Kc (ninS ne_g2_vb (ninS ne_g2_b nin0))
  have H_2 := H_2.keep Kc (ninS ne_g2_vb (ninS ne_g2_b nin0))
  have V_2 := V_2.keep Kc (ninS ne_t2_vb (ninS ne_t2_b nin0))
  have QSf_b := Safe.keep Kc (sfS Sf_vb (sfS Sf_b sf0)) Hr.1 Sf_b
  have E_b := E_b.keep Kc
  have QSf_vb := Safe.keep Kc (sfS Sf_vb (sfS Sf_b sf0)) Hr.1 Sf_vb
  have E_sl := E_sl.keep Kc
  have K_sl := K_sl.keep Kc (ninS (Ne.symm ne_vb_sl) (ninS (Ne.symm ne_b_sl) nin0))
  have V_sl := V_sl.keep Kc (ninS (Ne.symm ne_vb_sl) (ninS (Ne.symm ne_b_sl) nin0))
  have B_sl := B_sl.keep Kc (ninS (Ne.symm ne_vb_slb) (ninS (Ne.symm ne_b_slb) nin0))
  have Od := Od.keep Kc (allS ge_vb (allS ge_b all0))
  have Kp := Kp.trans Kc (allS (Or.inr gz_vb) (allS (Or.inr gz_b) all0))
  have Hr0 := Hr.1
  have Hr := Hr.trans (CHr.keep Kc (sfS Sf_vb (sfS Sf_b sf0)) Hr.1)
  have hk := Nat.le_trans hk Kc.1
  have SFL := (sfS Sf_vb (sfS Sf_b sf0))
  have Sf_b := QSf_b
  have Sf_vb := QSf_vb
  refine own_stW st119 ?_
  show own_GoW p e below s Z consts_1 _ _ _ (T119.setTop (mkF m 26 #[.val (.ref x)] [(.ref b)]))
  have gK := Kp.1
  obtain ⟨_, T120, h120, L120, X120, e120, ⟨Nt, Kt, y, tb, kb, rfl, gy, E_y, Y_k, Y_v, V_y⟩, st120⟩ := own_callV X119 hx hZ hown (hw _ (List.mem_of_getElem? (i := 144) rfl)) (hw _ (List.mem_of_getElem? (i := 145) rfl)) (hw _ (List.mem_of_getElem? (i := 147) rfl)) (hw _ (List.mem_of_getElem? (i := 146) rfl)) (hw _ (List.mem_of_getElem? (i := 80) rfl)) (hw _ (List.mem_of_getElem? (i := 148) rfl)) (by decide) (own_rm_tos4 l Z a0 hw [] b vb kv [w0, (.int (47 : Int32)), w2, w3, (.int (0 : Int32)), (.int (0 : Int32)), (.int (0 : Int32)), (.int (0 : Int32)), (.int (0 : Int32)), (.int (0 : Int32)), (.int (0 : Int32)), (.int (0 : Int32)), (.int (0 : Int32)), (.int (0 : Int32)), (.int (0 : Int32)), (.int (0 : Int32))] [w0, (.int (47 : Int32)), w2, w3] G h119 n0 Od E_b F_v F_k F_c V_b rfl O2 P5) (by decide) (by decide) e119 (b := b) E_b (W := 0) (g := (mkF m 26 #[.val (.ref x)] [(.ref b)])) rfl (by rw [hml]; rfl) (argsL := []) (rest := []) rfl (lenOf own_pd20 rfl) rfl (by show 2 * 0 + _ ≤ _; exact Nat.le_of_eq rfl) (hb hby own_d_prog_25_method_3_26) (by decide) (by decide)
  have N120 := Fr.app N119 Nt
  have A_c := A_c.keep Kt nin0
  have A_g := A_g.keep Kt nin0
  have E_1 := E_1.keep Kt
  have G_1 := G_1.keep Kt nin0
  have H_1 := H_1.keep Kt nin0
  have V_1 := V_1.keep Kt nin0
  have E_2 := E_2.keep Kt
  have G_2 := G_2.keep Kt nin0
  have H_2 := H_2.keep Kt nin0
  have V_2 := V_2.keep Kt nin0
  have QSf_b := Safe.keep Kt sf0 Hr.1 Sf_b
  have E_b := E_b.keep Kt
  have QSf_vb := Safe.keep Kt sf0 Hr.1 Sf_vb
  have E_sl := E_sl.keep Kt
  have K_sl := K_sl.keep Kt nin0
  have V_sl := V_sl.keep Kt nin0
  have B_sl := B_sl.keep Kt nin0
  have F_v := F_v.keep Kt nin0
  have F_k := F_k.keep Kt nin0
  have F_c := F_c.keep Kt nin0
  have V_b := V_b.keep Kt nin0
  have Od := Od.keep Kt all0
  have Kp := Kp.trans Kt all0
  have Hr0 := Hr.1
  have Hr := Hr.trans (CHr.keep Kt sf0 Hr.1)
  have hk := Nat.le_trans hk Kt.1
  have Sf_b := QSf_b
  have Sf_vb := QSf_vb
  refine own_stW st120 ?_
  show own_GoW p e below s Z consts_1 _ _ _ (T120.setTop (mkF m 29 #[.val (.ref x)] [(.ref y)]))
  exact own_retRW X120 hx hlk hS (by rw [e120]; exact hk) hZ hEL (by rw [hh, e120]; exact Hr) Bd.returns rfl rfl (hb hby own_d_prog_25_method_3_29) (by decide) (by decide) (by rw [e120]; exact ⟨N120, Kp, y, tb, kb, rfl, Nat.le_trans gK gy, E_y, Y_k, Y_v, V_y⟩)
theorem own_ef_gts21 (m : MethodId) (x0 : Addr) : entryFrame m #[(.ref x0)] 1 = mkF m 0 #[.val (.ref x0)] [] := by first | (simp [entryFrame, mkF, argsToLocals, Value.category]; done) | rfl
def own_Q_gts21 (Z : State) (w0 w1 w2 : Value) (h0 : Heap) (n0 : Nat) (v : Option Value) (h : Heap) (L : List Loc) : Prop := Fr n0 L ∧ Keep h0 h [] ∧ ∃ y tb k, v = some (.ref y) ∧ h0.size ≤ y ∧ Exa Z h y "java/lang/String" ∧ Fld Z h y "java/lang/String" "coder" "B" (.int (0 : Int32)) ∧ Fld Z h y "java/lang/String" "value" "[B" (.ref tb) ∧ Arv Z h tb k .byte (4 : Int32) [w0, w1, (.int (47 : Int32)), w2] (.int (0 : Int32))
set_option maxRecDepth 65536 in
set_option maxHeartbeats 40000000 in
theorem own_rm_gts21 (l : Launch) (Z : State) (a0 : Array Value) (hw : ∀ d ∈ tables_1, d.before a0 Z = true) (hEL : EW Z a0 consts_1) (ws : List Jvm.Cond) (x g1 g2 t1 t2 : Addr) (k1 k2 : ClassId) (w0 w1 w2 : Value) (G : Int32) (h0 : Heap) (n0 : Nat) (Od : Old Z n0 h0) (A_c : Fld Z h0 x "com/example/bluehead/bluehead/net/GroupName" "cluster" "Ljava/lang/String;" (.ref g1)) (A_g : Fld Z h0 x "com/example/bluehead/bluehead/net/GroupName" "group" "Ljava/lang/String;" (.ref g2)) (E_1 : Exa Z h0 g1 "java/lang/String") (G_1 : Fld Z h0 g1 "java/lang/String" "value" "[B" (.ref t1)) (H_1 : Fld Z h0 g1 "java/lang/String" "coder" "B" (.int (0 : Int32))) (V_1 : Arv Z h0 t1 k1 .byte (2 : Int32) [w0, w1] (.int (0 : Int32))) (E_2 : Exa Z h0 g2 "java/lang/String") (G_2 : Fld Z h0 g2 "java/lang/String" "value" "[B" (.ref t2)) (H_2 : Fld Z h0 g2 "java/lang/String" "coder" "B" (.int (0 : Int32))) (V_2 : Arv Z h0 t2 k2 .byte (1 : Int32) [w2] (.int (0 : Int32))) (O2 : Sta Z Z.heap "java/lang/String" "COMPACT_STRINGS" "Z" (.int G)) (P5 : ¬ (G = (0 : Int32))) :
    MetFree l (⟨"com/example/bluehead/bluehead/net/GroupName", "toString", "()Ljava/lang/String;"⟩ : MethodName) (head1 (Jvm.Cond.code (⟨"com/example/bluehead/bluehead/net/GroupName", "toString", "()Ljava/lang/String;"⟩ : MethodName) prog_25_method_3_code 1 (some (.object "java/lang/String")) :: ws) ({ frames := 6, cells := 6, slots := 36, locals := 91 } : Room)) (fun a9 U => a9 = #[(.ref x)] ∧ Z.Warmed39 U.vm ∧ U.heap = h0 ∧ CHv Z consts_1 U.vm h0 ∧ ∀ x9 ∈ ([] : List Addr), Safe Z consts_1 U.vm h0 x9) (fun _ _ _ _ _ => True) (fun _ U o U' => ∃ v L, o = .returned v ∧ own_Q_gts21 Z w0 w1 w2 h0 n0 v U'.heap L ∧ CHr Z consts_1 U.vm U.heap U'.vm U'.heap ∧ ReturnedEndW U o U' L ({ frames := 6, cells := 6, slots := 36, locals := 91 } : Room).cells ({ frames := 6, cells := 6, slots := 36, locals := 91 } : Room).slots) := by
  refine MetFree.of_bodySF (plainFor_of_name own_pn7) hisR ?_
  intro p e s m args below meth c s₁ Bd hml0 hP hK
  obtain ⟨rfl, hZ, hh, Hc, Hs⟩ := hP
  have hx := Bd.exec
  have hby := Bd.bytes
  have hml : c.maxLocals = 1 := hml0
  have hown : s.vm.findClass "com/example/bluehead/bluehead/net/GroupName" = some m.cls := findClass_of_methodNamed Bd.named
  have hnm := (name_of_methodNamed Bd.named Bd.method).1
  have hlk : meth.locks = false := Bd.notSynchronized
  have X0 : Stand p l e ({ frames := 6, cells := 6, slots := 36, locals := 91 } : Room) (s.setVm s.vm) m #[(.ref x)] below meth c s₁ [] 0 0 := Stand.of_body Bd
  have e0 : s₁.heap = h0 := by rw [← hh, Bd.state]; rfl
  have N0 := Fr.nil n0
  have hS : s.Since s.vm h0.size := (State.WarmedH.refl s).since _
  have hk : h0.size ≤ h0.size := Nat.le_refl _
  have Hr : CHr Z consts_1 s.vm h0 s.vm h0 := CHr.refl Hc
  skip
  show own_GoW p e below s Z consts_1 (own_Q_gts21 Z w0 w1 w2 h0 n0) ({ frames := 6, cells := 6, slots := 36, locals := 91 } : Room).cells ({ frames := 6, cells := 6, slots := 36, locals := 91 } : Room).slots (s₁.setTop (entryFrame m #[(.ref x)] 1))
  refine own_stW (fun t9 k9 => castTop (own_ef_gts21 m x) k9) ?_
  show own_GoW p e below s Z consts_1 _ _ _ (s₁.setTop (mkF m 0 #[.val (.ref x)] []))
  have hwS : ∀ d ∈ Bundle.stringAtoms, d.before a0 Z = true := fun d hd => hw d ((by decide +kernel : ∀ d ∈ Bundle.stringAtoms, d ∈ tables_1) d hd)
  have Kp : Keep h0 h0 [] := Keep.refl h0 []
  obtain ⟨T121, h121, X121, e121, E121, A121, D121, U121, st121⟩ := newO X0 hx hZ hown (hw _ (List.mem_of_getElem? (i := 78) rfl)) (hw _ (List.mem_of_getElem? (i := 79) rfl)) (hw _ (List.mem_of_getElem? (i := 80) rfl)) e0 (g := (mkF m 0 #[.val (.ref x)] [])) rfl (hb hby own_d_prog_25_method_3_0) (by decide) (by decide)
  obtain ⟨b, g121⟩ : ∃ z, z = h0.size := ⟨_, rfl⟩
  rw [← g121] at A121 D121 st121 U121
  have ne_x_b : x ≠ b := Nat.ne_of_lt (Nat.lt_of_lt_of_le A_c.lt (Nat.le_of_eq g121.symm))
  have ne_g1_b : g1 ≠ b := Nat.ne_of_lt (Nat.lt_of_lt_of_le E_1.lt (Nat.le_of_eq g121.symm))
  have ne_t1_b : t1 ≠ b := Nat.ne_of_lt (Nat.lt_of_lt_of_le V_1.lt (Nat.le_of_eq g121.symm))
  have ne_g2_b : g2 ≠ b := Nat.ne_of_lt (Nat.lt_of_lt_of_le E_2.lt (Nat.le_of_eq g121.symm))
  have ne_t2_b : t2 ≠ b := Nat.ne_of_lt (Nat.lt_of_lt_of_le V_2.lt (Nat.le_of_eq g121.symm))
  have ge_b : n0 ≤ b := Nat.le_trans (own_z0 Od) (Nat.le_of_eq g121.symm)
  have gz_b : h0.size ≤ b := Nat.le_trans Kp.1 (Nat.le_of_eq g121.symm)
  have Sf_b : Safe Z consts_1 s.vm h0 b := Safe.new (Nat.le_of_eq g121.symm)
  have A_c := A_c.ext E121
  have A_g := A_g.ext E121
  have E_1 := E_1.ext E121
  have G_1 := G_1.ext E121
  have H_1 := H_1.ext E121
  have V_1 := V_1.ext E121
  have E_2 := E_2.ext E121
  have G_2 := G_2.ext E121
  have H_2 := H_2.ext E121
  have V_2 := V_2.ext E121
  have Sf_b := Safe.ext E121 Hr.1 Sf_b
  have Od := Od.ext E121
  have Kp := Kp.ext E121
  have Hr := Hr.trans (CHr.ext E121 Hr.1)
  have hk := Nat.le_trans hk E121.1
  refine own_stW st121 ?_
  show own_GoW p e below s Z consts_1 _ _ _ (T121.setTop (mkF m 3 #[.val (.ref x)] [(.ref b)]))
  have E_b : Exa Z h121 b "java/lang/StringBuilder" := A121
  have F_v : Fld Z h121 b "java/lang/AbstractStringBuilder" "value" "[B" .null := D121 (Or.inl (hw _ (List.mem_of_getElem? (i := 93) rfl))) (ty := (.array .byte)) (by decide)
  have F_k : Fld Z h121 b "java/lang/AbstractStringBuilder" "coder" "B" (.int (0 : Int32)) := D121 (Or.inl (hw _ (List.mem_of_getElem? (i := 95) rfl))) (ty := .byte) (by decide)
  have F_c : Fld Z h121 b "java/lang/AbstractStringBuilder" "count" "I" (.int (0 : Int32)) := D121 (Or.inl (hw _ (List.mem_of_getElem? (i := 117) rfl))) (ty := .int) (by decide)
  refine own_stW (fun t9 k9 => XS.dup X121.here hx rfl (hb hby own_d_prog_25_method_3_3) rfl rfl k9) ?_
  show own_GoW p e below s Z consts_1 _ _ _ (T121.setTop (mkF m 4 #[.val (.ref x)] [(.ref b), (.ref b)]))
  obtain ⟨_, T122, h122, L122, X122, e122, ⟨rfl, Nc, Kc, E_q, vb, kv, gvb, F_v, F_k, F_c, V_b⟩, st122⟩ := own_callI X121 hx hZ hown rfl (hw _ (List.mem_of_getElem? (i := 81) rfl)) (hw _ (List.mem_of_getElem? (i := 82) rfl)) (hw _ (List.mem_of_getElem? (i := 80) rfl)) (hw _ (List.mem_of_getElem? (i := 83) rfl)) (by decide) (own_rm_sb0 l Z a0 hw [] b G h121 n0 Od E_b F_v F_k F_c ge_b O2 P5) (by decide) (by decide) e121 (a := b) (W := 1) (g := (mkF m 4 #[.val (.ref x)] [(.ref b), (.ref b)])) rfl (by rw [hml]; rfl) (argsL := []) (rest := [(.ref b)]) rfl (lenOf own_pd17 rfl) rfl (by show 2 * 0 + _ ≤ _; exact Nat.le_of_eq rfl) (hb hby own_d_prog_25_method_3_4) (by decide) (by decide)
  have N122 := Fr.app N0 Nc
  have ne_x_vb : x ≠ vb := Nat.ne_of_lt (Nat.lt_of_lt_of_le A_c.lt gvb)
  have ne_g1_vb : g1 ≠ vb := Nat.ne_of_lt (Nat.lt_of_lt_of_le E_1.lt gvb)
  have ne_t1_vb : t1 ≠ vb := Nat.ne_of_lt (Nat.lt_of_lt_of_le V_1.lt gvb)
  have ne_g2_vb : g2 ≠ vb := Nat.ne_of_lt (Nat.lt_of_lt_of_le E_2.lt gvb)
  have ne_t2_vb : t2 ≠ vb := Nat.ne_of_lt (Nat.lt_of_lt_of_le V_2.lt gvb)
  have ne_b_vb : b ≠ vb := Nat.ne_of_lt (Nat.lt_of_lt_of_le E_b.lt gvb)
  have ge_vb : n0 ≤ vb := Nat.le_trans (own_z0 Od) gvb
  have gz_vb : h0.size ≤ vb := Nat.le_trans Kp.1 gvb
  have A_c := A_c.keep Kc (ninS ne_x_b nin0)
  have A_g := A_g.keep Kc (ninS ne_x_b nin0)
  have E_1 := E_1.keep Kc
  have G_1 := G_1.keep Kc (ninS ne_g1_b nin0)
  have H_1 := H_1.keep Kc (ninS ne_g1_b nin0)
  have V_1 := V_1.keep Kc (ninS ne_t1_b nin0)
  have E_2 := E_2.keep Kc
  have G_2 := G_2.keep Kc (ninS ne_g2_b nin0)
  have H_2 := H_2.keep Kc (ninS ne_g2_b nin0)
  have V_2 := V_2.keep Kc (ninS ne_t2_b nin0)
  have QSf_b := Safe.keep Kc (sfS Sf_b sf0) Hr.1 Sf_b
  have E_b := E_b.keep Kc
  have Od := Od.keep Kc (allS ge_b all0)
  have Kp := Kp.trans Kc (allS (Or.inr gz_b) all0)
  have Hr0 := Hr.1
  have Hr := Hr.trans (CHr.keep Kc (sfS Sf_b sf0) Hr.1)
  have hk := Nat.le_trans hk Kc.1
  have SFL := (sfS Sf_b sf0)
  have Sf_b := QSf_b
  have Sf_vb := Safe.keep Kc SFL Hr0 (Safe.new gvb)
  refine own_stW st122 ?_
  show own_GoW p e below s Z consts_1 _ _ _ (T122.setTop (mkF m 7 #[.val (.ref x)] [(.ref b)]))
  refine own_stW (fun t9 k9 => XS.aloadN X122.here hx rfl (hb hby own_d_prog_25_method_3_7) rfl rfl k9) ?_
  show own_GoW p e below s Z consts_1 _ _ _ (T122.setTop (mkF m 8 #[.val (.ref x)] [(.ref x), (.ref b)]))
  obtain ⟨T123, X123, e123, st123⟩ := getF X122 hx hZ hown (host := "") (Or.inl (hw _ (List.mem_of_getElem? (i := 69) rfl))) Via.refl e122 A_c (g := (mkF m 8 #[.val (.ref x)] [(.ref x), (.ref b)])) rfl rfl (hb hby own_d_prog_25_method_3_8)
  refine own_stW st123 ?_
  show own_GoW p e below s Z consts_1 _ _ _ (T123.setTop (mkF m 11 #[.val (.ref x)] [(.ref g1), (.ref b)]))
  obtain ⟨_, T124, h124, L124, X124, e124, ⟨rfl, Na1, Kc, E_q, F_v, F_k, F_c, V_b⟩, st124⟩ := own_callV X123 hx hZ hown (hw _ (List.mem_of_getElem? (i := 96) rfl)) (hw _ (List.mem_of_getElem? (i := 97) rfl)) (hw _ (List.mem_of_getElem? (i := 99) rfl)) (hw _ (List.mem_of_getElem? (i := 98) rfl)) (hw _ (List.mem_of_getElem? (i := 80) rfl)) (hw _ (List.mem_of_getElem? (i := 100) rfl)) (by decide) (own_rm_sap l Z a0 hw [] b g1 vb t1 kv k1 (0 : Int32) (2 : Int32) [w0, w1] [(.int (0 : Int32)), (.int (0 : Int32)), (.int (0 : Int32)), (.int (0 : Int32)), (.int (0 : Int32)), (.int (0 : Int32)), (.int (0 : Int32)), (.int (0 : Int32)), (.int (0 : Int32)), (.int (0 : Int32)), (.int (0 : Int32)), (.int (0 : Int32)), (.int (0 : Int32)), (.int (0 : Int32)), (.int (0 : Int32)), (.int (0 : Int32))] [w0, w1] [w0, w1, (.int (0 : Int32)), (.int (0 : Int32)), (.int (0 : Int32)), (.int (0 : Int32)), (.int (0 : Int32)), (.int (0 : Int32)), (.int (0 : Int32)), (.int (0 : Int32)), (.int (0 : Int32)), (.int (0 : Int32)), (.int (0 : Int32)), (.int (0 : Int32)), (.int (0 : Int32)), (.int (0 : Int32))] G (2 : Int32) h122 n0 Od O2 P5 E_b F_v F_k F_c E_1 G_1 H_1 V_1 V_b ge_vb ne_g1_vb ne_t1_vb ge_b ne_b_vb ne_t1_b (by decide) (by decide) (by decide) (show (0 : Int32).toNatClampNeg + (2 : Int32).toNatClampNeg ≤ 16 by decide) rfl rfl (by decide) (by decide)) (by decide) (by decide) e123 (b := b) E_b (W := 0) (g := (mkF m 11 #[.val (.ref x)] [(.ref g1), (.ref b)])) rfl (by rw [hml]; rfl) (argsL := [(.ref g1)]) (rest := []) rfl (lenOf own_pd19 rfl) rfl (by show 2 * 0 + _ ≤ _; exact Nat.le_of_eq rfl) (hb hby own_d_prog_25_method_3_11) (by decide) (by decide)
  have N124 := Fr.app N122 Na1
  have A_c := A_c.keep Kc (ninS ne_x_vb (ninS ne_x_b nin0))
  have A_g := A_g.keep Kc (ninS ne_x_vb (ninS ne_x_b nin0))
  have E_1 := E_1.keep Kc
  have G_1 := G_1.keep Kc (ninS ne_g1_vb (ninS ne_g1_b nin0))
  have H_1 := H_1.keep Kc (ninS ne_g1_vb (ninS ne_g1_b nin0))
  have V_1 := V_1.keep Kc (ninS ne_t1_vb (ninS ne_t1_b nin0))
  have E_2 := E_2.keep Kc
  have G_2 := G_2.keep Kc (ninS ne_g2_vb (ninS ne_g2_b nin0))
  have H_2 := H_2.keep Kc (ninS ne_g2_vb (ninS ne_g2_b nin0))
  have V_2 := V_2.keep Kc (ninS ne_t2_vb (ninS ne_t2_b nin0))
  have QSf_b := Safe.keep Kc (sfS Sf_vb (sfS Sf_b sf0)) Hr.1 Sf_b
  have E_b := E_b.keep Kc
  have QSf_vb := Safe.keep Kc (sfS Sf_vb (sfS Sf_b sf0)) Hr.1 Sf_vb
  have Od := Od.keep Kc (allS ge_vb (allS ge_b all0))
  have Kp := Kp.trans Kc (allS (Or.inr gz_vb) (allS (Or.inr gz_b) all0))
  have Hr0 := Hr.1
  have Hr := Hr.trans (CHr.keep Kc (sfS Sf_vb (sfS Sf_b sf0)) Hr.1)
  have hk := Nat.le_trans hk Kc.1
  have SFL := (sfS Sf_vb (sfS Sf_b sf0))
  have Sf_b := QSf_b
  have Sf_vb := QSf_vb
  refine own_stW st124 ?_
  show own_GoW p e below s Z consts_1 _ _ _ (T124.setTop (mkF m 14 #[.val (.ref x)] [(.ref b)]))
  obtain ⟨sl, T125, h125, k125, slb, kl125, X125, e125, E125, hS125, hk125, hZ125, hown125, El125, Kl125, Vl125, Bl125, lta125, ltb125, R125, Li125, Sn125, st125⟩ := ldcCH X124 hx hZ hown (hw _ (List.mem_of_getElem? (i := 143) rfl)) hwS e124 hS hk hEL (by decide) Hr.1 (vs := [(.int (47 : Int32))]) (z := (1 : Int32)) (by decide) (by decide) rfl (g := (mkF m 14 #[.val (.ref x)] [(.ref b)])) rfl (hb hby own_d_prog_25_method_3_14) (n := 4) (by decide) (by decide) (by decide) (by decide)
  have QSf_b := CHr.safe R125 E_b.lt Sf_b
  have QSf_vb := CHr.safe R125 V_b.lt Sf_vb
  have A_c := A_c.ext E125
  have A_g := A_g.ext E125
  have E_1 := E_1.ext E125
  have G_1 := G_1.ext E125
  have H_1 := H_1.ext E125
  have V_1 := V_1.ext E125
  have E_2 := E_2.ext E125
  have G_2 := G_2.ext E125
  have H_2 := H_2.ext E125
  have V_2 := V_2.ext E125
  have E_b := E_b.ext E125
  have F_v := F_v.ext E125
  have F_k := F_k.ext E125
  have F_c := F_c.ext E125
  have V_b := V_b.ext E125
  have Od := Od.ext E125
  have Kp := Kp.ext E125
  have Sf_b := QSf_b
  have Sf_vb := QSf_vb
  have Hr := Hr.trans R125
  have hS := hS125
  have hk := hk125
  have hZ := hZ125
  have hown := hown125
  have ne_b_sl := (Sn125 _ Sf_b).1
  have ne_b_slb := (Sn125 _ Sf_b).2
  have ne_vb_sl := (Sn125 _ Sf_vb).1
  have ne_vb_slb := (Sn125 _ Sf_vb).2
  refine own_stW st125 ?_
  show own_GoW p e below s Z consts_1 _ _ _ (T125.setTop (mkF m 16 #[.val (.ref x)] [(.ref sl), (.ref b)]))
  have E_sl := El125
  have K_sl := Kl125
  have V_sl := Vl125
  have B_sl := Bl125
  obtain ⟨_, T126, h126, L126, X126, e126, ⟨rfl, Na2, Kc, E_q, F_v, F_k, F_c, V_b⟩, st126⟩ := own_callV X125 hx hZ hown (hw _ (List.mem_of_getElem? (i := 96) rfl)) (hw _ (List.mem_of_getElem? (i := 97) rfl)) (hw _ (List.mem_of_getElem? (i := 99) rfl)) (hw _ (List.mem_of_getElem? (i := 98) rfl)) (hw _ (List.mem_of_getElem? (i := 80) rfl)) (hw _ (List.mem_of_getElem? (i := 100) rfl)) (by decide) (own_rm_sap l Z a0 hw [] b sl vb slb kv _ (2 : Int32) (1 : Int32) [(.int (47 : Int32))] [w0, w1, (.int (0 : Int32)), (.int (0 : Int32)), (.int (0 : Int32)), (.int (0 : Int32)), (.int (0 : Int32)), (.int (0 : Int32)), (.int (0 : Int32)), (.int (0 : Int32)), (.int (0 : Int32)), (.int (0 : Int32)), (.int (0 : Int32)), (.int (0 : Int32)), (.int (0 : Int32)), (.int (0 : Int32))] [(.int (47 : Int32))] [w0, w1, (.int (47 : Int32)), (.int (0 : Int32)), (.int (0 : Int32)), (.int (0 : Int32)), (.int (0 : Int32)), (.int (0 : Int32)), (.int (0 : Int32)), (.int (0 : Int32)), (.int (0 : Int32)), (.int (0 : Int32)), (.int (0 : Int32)), (.int (0 : Int32)), (.int (0 : Int32)), (.int (0 : Int32))] G (3 : Int32) h125 n0 Od O2 P5 E_b F_v F_k F_c E_sl V_sl K_sl B_sl V_b ge_vb (Ne.symm ne_vb_sl) (Ne.symm ne_vb_slb) ge_b ne_b_vb (Ne.symm ne_b_slb) (by decide) (by decide) (by decide) (show (2 : Int32).toNatClampNeg + (1 : Int32).toNatClampNeg ≤ 16 by decide) rfl rfl (by decide) (by decide)) (by decide) (by decide) e125 (b := b) E_b (W := 0) (g := (mkF m 16 #[.val (.ref x)] [(.ref sl), (.ref b)])) rfl (by rw [hml]; rfl) (argsL := [(.ref sl)]) (rest := []) rfl (lenOf own_pd19 rfl) rfl (by show 2 * 0 + _ ≤ _; exact Nat.le_of_eq rfl) (hb hby own_d_prog_25_method_3_16) (by decide) (by decide)
  have N126 := Fr.app N124 Na2
  have A_c := A_c.keep Kc (ninS ne_x_vb (ninS ne_x_b nin0))
  have A_g := A_g.keep Kc (ninS ne_x_vb (ninS ne_x_b nin0))
  have E_1 := E_1.keep Kc
  have G_1 := G_1.keep Kc (ninS ne_g1_vb (ninS ne_g1_b nin0))
  have H_1 := H_1.keep Kc (ninS ne_g1_vb (ninS ne_g1_b nin0))
  have V_1 := V_1.keep Kc (ninS ne_t1_vb (ninS ne_t1_b nin0))
  have E_2 := E_2.keep Kc
  have G_2 := G_2.keep Kc (ninS ne_g2_vb (ninS ne_g2_b nin0))
  have H_2 := H_2.keep Kc (ninS ne_g2_vb (ninS ne_g2_b nin0))
  have V_2 := V_2.keep Kc (ninS ne_t2_vb (ninS ne_t2_b nin0))
  have QSf_b := Safe.keep Kc (sfS Sf_vb (sfS Sf_b sf0)) Hr.1 Sf_b
  have E_b := E_b.keep Kc
  have QSf_vb := Safe.keep Kc (sfS Sf_vb (sfS Sf_b sf0)) Hr.1 Sf_vb
  have E_sl := E_sl.keep Kc
  have K_sl := K_sl.keep Kc (ninS (Ne.symm ne_vb_sl) (ninS (Ne.symm ne_b_sl) nin0))
  have V_sl := V_sl.keep Kc (ninS (Ne.symm ne_vb_sl) (ninS (Ne.symm ne_b_sl) nin0))
  have B_sl := B_sl.keep Kc (ninS (Ne.symm ne_vb_slb) (ninS (Ne.symm ne_b_slb) nin0))
  have Od := Od.keep Kc (allS ge_vb (allS ge_b all0))
  have Kp := Kp.trans Kc (allS (Or.inr gz_vb) (allS (Or.inr gz_b) all0))
  have Hr0 := Hr.1
  have Hr := Hr.trans (CHr.keep Kc (sfS Sf_vb (sfS Sf_b sf0)) Hr.1)
  have hk := Nat.le_trans hk Kc.1
  have SFL := (sfS Sf_vb (sfS Sf_b sf0))
  have Sf_b := QSf_b
  have Sf_vb := QSf_vb
  refine own_stW st126 ?_
  show own_GoW p e below s Z consts_1 _ _ _ (T126.setTop (mkF m 19 #[.val (.ref x)] [(.ref b)]))
  refine own_stW (fun t9 k9 => XS.aloadN X126.here hx rfl (hb hby own_d_prog_25_method_3_19) rfl rfl k9) ?_
  show own_GoW p e below s Z consts_1 _ _ _ (T126.setTop (mkF m 20 #[.val (.ref x)] [(.ref x), (.ref b)]))
  obtain ⟨T127, X127, e127, st127⟩ := getF X126 hx hZ hown (host := "") (Or.inl (hw _ (List.mem_of_getElem? (i := 71) rfl))) Via.refl e126 A_g (g := (mkF m 20 #[.val (.ref x)] [(.ref x), (.ref b)])) rfl rfl (hb hby own_d_prog_25_method_3_20)
  refine own_stW st127 ?_
  show own_GoW p e below s Z consts_1 _ _ _ (T127.setTop (mkF m 23 #[.val (.ref x)] [(.ref g2), (.ref b)]))
  obtain ⟨_, T128, h128, L128, X128, e128, ⟨rfl, Na3, Kc, E_q, F_v, F_k, F_c, V_b⟩, st128⟩ := own_callV X127 hx hZ hown (hw _ (List.mem_of_getElem? (i := 96) rfl)) (hw _ (List.mem_of_getElem? (i := 97) rfl)) (hw _ (List.mem_of_getElem? (i := 99) rfl)) (hw _ (List.mem_of_getElem? (i := 98) rfl)) (hw _ (List.mem_of_getElem? (i := 80) rfl)) (hw _ (List.mem_of_getElem? (i := 100) rfl)) (by decide) (own_rm_sap l Z a0 hw [] b g2 vb t2 kv k2 (3 : Int32) (1 : Int32) [w2] [w0, w1, (.int (47 : Int32)), (.int (0 : Int32)), (.int (0 : Int32)), (.int (0 : Int32)), (.int (0 : Int32)), (.int (0 : Int32)), (.int (0 : Int32)), (.int (0 : Int32)), (.int (0 : Int32)), (.int (0 : Int32)), (.int (0 : Int32)), (.int (0 : Int32)), (.int (0 : Int32)), (.int (0 : Int32))] [w2] [w0, w1, (.int (47 : Int32)), w2, (.int (0 : Int32)), (.int (0 : Int32)), (.int (0 : Int32)), (.int (0 : Int32)), (.int (0 : Int32)), (.int (0 : Int32)), (.int (0 : Int32)), (.int (0 : Int32)), (.int (0 : Int32)), (.int (0 : Int32)), (.int (0 : Int32)), (.int (0 : Int32))] G (4 : Int32) h126 n0 Od O2 P5 E_b F_v F_k F_c E_2 G_2 H_2 V_2 V_b ge_vb ne_g2_vb ne_t2_vb ge_b ne_b_vb ne_t2_b (by decide) (by decide) (by decide) (show (3 : Int32).toNatClampNeg + (1 : Int32).toNatClampNeg ≤ 16 by decide) rfl rfl (by decide) (by decide)) (by decide) (by decide) e127 (b := b) E_b (W := 0) (g := (mkF m 23 #[.val (.ref x)] [(.ref g2), (.ref b)])) rfl (by rw [hml]; rfl) (argsL := [(.ref g2)]) (rest := []) rfl (lenOf own_pd19 rfl) rfl (by show 2 * 0 + _ ≤ _; exact Nat.le_of_eq rfl) (hb hby own_d_prog_25_method_3_23) (by decide) (by decide)
  have N128 := Fr.app N126 Na3
  have A_c := A_c.keep Kc (ninS ne_x_vb (ninS ne_x_b nin0))
  have A_g := A_g.keep Kc (ninS ne_x_vb (ninS ne_x_b nin0))
  have E_1 := E_1.keep Kc
  have G_1 := G_1.keep Kc (ninS ne_g1_vb (ninS ne_g1_b nin0))
  have H_1 := H_1.keep Kc (ninS ne_g1_vb (ninS ne_g1_b nin0))
  have V_1 := V_1.keep Kc (ninS ne_t1_vb (ninS ne_t1_b nin0))
  have E_2 := E_2.keep Kc
  have G_2 := G_2.keep Kc (ninS ne_g2_vb (ninS ne_g2_b nin0))
  have H_2 := H_2.keep Kc (ninS ne_g2_vb (ninS ne_g2_b nin0))
  have V_2 := V_2.keep Kc (ninS ne_t2_vb (ninS ne_t2_b nin0))
  have QSf_b := Safe.keep Kc (sfS Sf_vb (sfS Sf_b sf0)) Hr.1 Sf_b
  have E_b := E_b.keep Kc
  have QSf_vb := Safe.keep Kc (sfS Sf_vb (sfS Sf_b sf0)) Hr.1 Sf_vb
  have E_sl := E_sl.keep Kc
  have K_sl := K_sl.keep Kc (ninS (Ne.symm ne_vb_sl) (ninS (Ne.symm ne_b_sl) nin0))
  have V_sl := V_sl.keep Kc (ninS (Ne.symm ne_vb_sl) (ninS (Ne.symm ne_b_sl) nin0))
  have B_sl := B_sl.keep Kc (ninS (Ne.symm ne_vb_slb) (ninS (Ne.symm ne_b_slb) nin0))
  have Od := Od.keep Kc (allS ge_vb (allS ge_b all0))
  have Kp := Kp.trans Kc (allS (Or.inr gz_vb) (allS (Or.inr gz_b) all0))
  have Hr0 := Hr.1
  have Hr := Hr.trans (CHr.keep Kc (sfS Sf_vb (sfS Sf_b sf0)) Hr.1)
  have hk := Nat.le_trans hk Kc.1
  have SFL := (sfS Sf_vb (sfS Sf_b sf0))
  have Sf_b := QSf_b
  have Sf_vb := QSf_vb
  refine own_stW st128 ?_
  show own_GoW p e below s Z consts_1 _ _ _ (T128.setTop (mkF m 26 #[.val (.ref x)] [(.ref b)]))
  have gK := Kp.1
  obtain ⟨_, T129, h129, L129, X129, e129, ⟨Nt, Kt, y, tb, kb, rfl, gy, E_y, Y_k, Y_v, V_y⟩, st129⟩ := own_callV X128 hx hZ hown (hw _ (List.mem_of_getElem? (i := 144) rfl)) (hw _ (List.mem_of_getElem? (i := 145) rfl)) (hw _ (List.mem_of_getElem? (i := 147) rfl)) (hw _ (List.mem_of_getElem? (i := 146) rfl)) (hw _ (List.mem_of_getElem? (i := 80) rfl)) (hw _ (List.mem_of_getElem? (i := 148) rfl)) (by decide) (own_rm_tos4 l Z a0 hw [] b vb kv [w0, w1, (.int (47 : Int32)), w2, (.int (0 : Int32)), (.int (0 : Int32)), (.int (0 : Int32)), (.int (0 : Int32)), (.int (0 : Int32)), (.int (0 : Int32)), (.int (0 : Int32)), (.int (0 : Int32)), (.int (0 : Int32)), (.int (0 : Int32)), (.int (0 : Int32)), (.int (0 : Int32))] [w0, w1, (.int (47 : Int32)), w2] G h128 n0 Od E_b F_v F_k F_c V_b rfl O2 P5) (by decide) (by decide) e128 (b := b) E_b (W := 0) (g := (mkF m 26 #[.val (.ref x)] [(.ref b)])) rfl (by rw [hml]; rfl) (argsL := []) (rest := []) rfl (lenOf own_pd20 rfl) rfl (by show 2 * 0 + _ ≤ _; exact Nat.le_of_eq rfl) (hb hby own_d_prog_25_method_3_26) (by decide) (by decide)
  have N129 := Fr.app N128 Nt
  have A_c := A_c.keep Kt nin0
  have A_g := A_g.keep Kt nin0
  have E_1 := E_1.keep Kt
  have G_1 := G_1.keep Kt nin0
  have H_1 := H_1.keep Kt nin0
  have V_1 := V_1.keep Kt nin0
  have E_2 := E_2.keep Kt
  have G_2 := G_2.keep Kt nin0
  have H_2 := H_2.keep Kt nin0
  have V_2 := V_2.keep Kt nin0
  have QSf_b := Safe.keep Kt sf0 Hr.1 Sf_b
  have E_b := E_b.keep Kt
  have QSf_vb := Safe.keep Kt sf0 Hr.1 Sf_vb
  have E_sl := E_sl.keep Kt
  have K_sl := K_sl.keep Kt nin0
  have V_sl := V_sl.keep Kt nin0
  have B_sl := B_sl.keep Kt nin0
  have F_v := F_v.keep Kt nin0
  have F_k := F_k.keep Kt nin0
  have F_c := F_c.keep Kt nin0
  have V_b := V_b.keep Kt nin0
  have Od := Od.keep Kt all0
  have Kp := Kp.trans Kt all0
  have Hr0 := Hr.1
  have Hr := Hr.trans (CHr.keep Kt sf0 Hr.1)
  have hk := Nat.le_trans hk Kt.1
  have Sf_b := QSf_b
  have Sf_vb := QSf_vb
  refine own_stW st129 ?_
  show own_GoW p e below s Z consts_1 _ _ _ (T129.setTop (mkF m 29 #[.val (.ref x)] [(.ref y)]))
  exact own_retRW X129 hx hlk hS (by rw [e129]; exact hk) hZ hEL (by rw [hh, e129]; exact Hr) Bd.returns rfl rfl (hb hby own_d_prog_25_method_3_29) (by decide) (by decide) (by rw [e129]; exact ⟨N129, Kp, y, tb, kb, rfl, Nat.le_trans gK gy, E_y, Y_k, Y_v, V_y⟩)
theorem own_ef_gts22 (m : MethodId) (x0 : Addr) : entryFrame m #[(.ref x0)] 1 = mkF m 0 #[.val (.ref x0)] [] := by first | (simp [entryFrame, mkF, argsToLocals, Value.category]; done) | rfl
def own_Q_gts22 (Z : State) (w0 w1 w2 w3 : Value) (h0 : Heap) (n0 : Nat) (v : Option Value) (h : Heap) (L : List Loc) : Prop := Fr n0 L ∧ Keep h0 h [] ∧ ∃ y tb k, v = some (.ref y) ∧ h0.size ≤ y ∧ Exa Z h y "java/lang/String" ∧ Fld Z h y "java/lang/String" "coder" "B" (.int (0 : Int32)) ∧ Fld Z h y "java/lang/String" "value" "[B" (.ref tb) ∧ Arv Z h tb k .byte (5 : Int32) [w0, w1, (.int (47 : Int32)), w2, w3] (.int (0 : Int32))
set_option maxRecDepth 65536 in
set_option maxHeartbeats 40000000 in
theorem own_rm_gts22 (l : Launch) (Z : State) (a0 : Array Value) (hw : ∀ d ∈ tables_1, d.before a0 Z = true) (hEL : EW Z a0 consts_1) (ws : List Jvm.Cond) (x g1 g2 t1 t2 : Addr) (k1 k2 : ClassId) (w0 w1 w2 w3 : Value) (G : Int32) (h0 : Heap) (n0 : Nat) (Od : Old Z n0 h0) (A_c : Fld Z h0 x "com/example/bluehead/bluehead/net/GroupName" "cluster" "Ljava/lang/String;" (.ref g1)) (A_g : Fld Z h0 x "com/example/bluehead/bluehead/net/GroupName" "group" "Ljava/lang/String;" (.ref g2)) (E_1 : Exa Z h0 g1 "java/lang/String") (G_1 : Fld Z h0 g1 "java/lang/String" "value" "[B" (.ref t1)) (H_1 : Fld Z h0 g1 "java/lang/String" "coder" "B" (.int (0 : Int32))) (V_1 : Arv Z h0 t1 k1 .byte (2 : Int32) [w0, w1] (.int (0 : Int32))) (E_2 : Exa Z h0 g2 "java/lang/String") (G_2 : Fld Z h0 g2 "java/lang/String" "value" "[B" (.ref t2)) (H_2 : Fld Z h0 g2 "java/lang/String" "coder" "B" (.int (0 : Int32))) (V_2 : Arv Z h0 t2 k2 .byte (2 : Int32) [w2, w3] (.int (0 : Int32))) (O2 : Sta Z Z.heap "java/lang/String" "COMPACT_STRINGS" "Z" (.int G)) (P5 : ¬ (G = (0 : Int32))) :
    MetFree l (⟨"com/example/bluehead/bluehead/net/GroupName", "toString", "()Ljava/lang/String;"⟩ : MethodName) (head1 (Jvm.Cond.code (⟨"com/example/bluehead/bluehead/net/GroupName", "toString", "()Ljava/lang/String;"⟩ : MethodName) prog_25_method_3_code 1 (some (.object "java/lang/String")) :: ws) ({ frames := 6, cells := 6, slots := 37, locals := 91 } : Room)) (fun a9 U => a9 = #[(.ref x)] ∧ Z.Warmed39 U.vm ∧ U.heap = h0 ∧ CHv Z consts_1 U.vm h0 ∧ ∀ x9 ∈ ([] : List Addr), Safe Z consts_1 U.vm h0 x9) (fun _ _ _ _ _ => True) (fun _ U o U' => ∃ v L, o = .returned v ∧ own_Q_gts22 Z w0 w1 w2 w3 h0 n0 v U'.heap L ∧ CHr Z consts_1 U.vm U.heap U'.vm U'.heap ∧ ReturnedEndW U o U' L ({ frames := 6, cells := 6, slots := 37, locals := 91 } : Room).cells ({ frames := 6, cells := 6, slots := 37, locals := 91 } : Room).slots) := by
  refine MetFree.of_bodySF (plainFor_of_name own_pn7) hisR ?_
  intro p e s m args below meth c s₁ Bd hml0 hP hK
  obtain ⟨rfl, hZ, hh, Hc, Hs⟩ := hP
  have hx := Bd.exec
  have hby := Bd.bytes
  have hml : c.maxLocals = 1 := hml0
  have hown : s.vm.findClass "com/example/bluehead/bluehead/net/GroupName" = some m.cls := findClass_of_methodNamed Bd.named
  have hnm := (name_of_methodNamed Bd.named Bd.method).1
  have hlk : meth.locks = false := Bd.notSynchronized
  have X0 : Stand p l e ({ frames := 6, cells := 6, slots := 37, locals := 91 } : Room) (s.setVm s.vm) m #[(.ref x)] below meth c s₁ [] 0 0 := Stand.of_body Bd
  have e0 : s₁.heap = h0 := by rw [← hh, Bd.state]; rfl
  have N0 := Fr.nil n0
  have hS : s.Since s.vm h0.size := (State.WarmedH.refl s).since _
  have hk : h0.size ≤ h0.size := Nat.le_refl _
  have Hr : CHr Z consts_1 s.vm h0 s.vm h0 := CHr.refl Hc
  skip
  show own_GoW p e below s Z consts_1 (own_Q_gts22 Z w0 w1 w2 w3 h0 n0) ({ frames := 6, cells := 6, slots := 37, locals := 91 } : Room).cells ({ frames := 6, cells := 6, slots := 37, locals := 91 } : Room).slots (s₁.setTop (entryFrame m #[(.ref x)] 1))
  refine own_stW (fun t9 k9 => castTop (own_ef_gts22 m x) k9) ?_
  show own_GoW p e below s Z consts_1 _ _ _ (s₁.setTop (mkF m 0 #[.val (.ref x)] []))
  have hwS : ∀ d ∈ Bundle.stringAtoms, d.before a0 Z = true := fun d hd => hw d ((by decide +kernel : ∀ d ∈ Bundle.stringAtoms, d ∈ tables_1) d hd)
  have Kp : Keep h0 h0 [] := Keep.refl h0 []
  obtain ⟨T130, h130, X130, e130, E130, A130, D130, U130, st130⟩ := newO X0 hx hZ hown (hw _ (List.mem_of_getElem? (i := 78) rfl)) (hw _ (List.mem_of_getElem? (i := 79) rfl)) (hw _ (List.mem_of_getElem? (i := 80) rfl)) e0 (g := (mkF m 0 #[.val (.ref x)] [])) rfl (hb hby own_d_prog_25_method_3_0) (by decide) (by decide)
  obtain ⟨b, g130⟩ : ∃ z, z = h0.size := ⟨_, rfl⟩
  rw [← g130] at A130 D130 st130 U130
  have ne_x_b : x ≠ b := Nat.ne_of_lt (Nat.lt_of_lt_of_le A_c.lt (Nat.le_of_eq g130.symm))
  have ne_g1_b : g1 ≠ b := Nat.ne_of_lt (Nat.lt_of_lt_of_le E_1.lt (Nat.le_of_eq g130.symm))
  have ne_t1_b : t1 ≠ b := Nat.ne_of_lt (Nat.lt_of_lt_of_le V_1.lt (Nat.le_of_eq g130.symm))
  have ne_g2_b : g2 ≠ b := Nat.ne_of_lt (Nat.lt_of_lt_of_le E_2.lt (Nat.le_of_eq g130.symm))
  have ne_t2_b : t2 ≠ b := Nat.ne_of_lt (Nat.lt_of_lt_of_le V_2.lt (Nat.le_of_eq g130.symm))
  have ge_b : n0 ≤ b := Nat.le_trans (own_z0 Od) (Nat.le_of_eq g130.symm)
  have gz_b : h0.size ≤ b := Nat.le_trans Kp.1 (Nat.le_of_eq g130.symm)
  have Sf_b : Safe Z consts_1 s.vm h0 b := Safe.new (Nat.le_of_eq g130.symm)
  have A_c := A_c.ext E130
  have A_g := A_g.ext E130
  have E_1 := E_1.ext E130
  have G_1 := G_1.ext E130
  have H_1 := H_1.ext E130
  have V_1 := V_1.ext E130
  have E_2 := E_2.ext E130
  have G_2 := G_2.ext E130
  have H_2 := H_2.ext E130
  have V_2 := V_2.ext E130
  have Sf_b := Safe.ext E130 Hr.1 Sf_b
  have Od := Od.ext E130
  have Kp := Kp.ext E130
  have Hr := Hr.trans (CHr.ext E130 Hr.1)
  have hk := Nat.le_trans hk E130.1
  refine own_stW st130 ?_
  show own_GoW p e below s Z consts_1 _ _ _ (T130.setTop (mkF m 3 #[.val (.ref x)] [(.ref b)]))
  have E_b : Exa Z h130 b "java/lang/StringBuilder" := A130
  have F_v : Fld Z h130 b "java/lang/AbstractStringBuilder" "value" "[B" .null := D130 (Or.inl (hw _ (List.mem_of_getElem? (i := 93) rfl))) (ty := (.array .byte)) (by decide)
  have F_k : Fld Z h130 b "java/lang/AbstractStringBuilder" "coder" "B" (.int (0 : Int32)) := D130 (Or.inl (hw _ (List.mem_of_getElem? (i := 95) rfl))) (ty := .byte) (by decide)
  have F_c : Fld Z h130 b "java/lang/AbstractStringBuilder" "count" "I" (.int (0 : Int32)) := D130 (Or.inl (hw _ (List.mem_of_getElem? (i := 117) rfl))) (ty := .int) (by decide)
  refine own_stW (fun t9 k9 => XS.dup X130.here hx rfl (hb hby own_d_prog_25_method_3_3) rfl rfl k9) ?_
  show own_GoW p e below s Z consts_1 _ _ _ (T130.setTop (mkF m 4 #[.val (.ref x)] [(.ref b), (.ref b)]))
  obtain ⟨_, T131, h131, L131, X131, e131, ⟨rfl, Nc, Kc, E_q, vb, kv, gvb, F_v, F_k, F_c, V_b⟩, st131⟩ := own_callI X130 hx hZ hown rfl (hw _ (List.mem_of_getElem? (i := 81) rfl)) (hw _ (List.mem_of_getElem? (i := 82) rfl)) (hw _ (List.mem_of_getElem? (i := 80) rfl)) (hw _ (List.mem_of_getElem? (i := 83) rfl)) (by decide) (own_rm_sb0 l Z a0 hw [] b G h130 n0 Od E_b F_v F_k F_c ge_b O2 P5) (by decide) (by decide) e130 (a := b) (W := 1) (g := (mkF m 4 #[.val (.ref x)] [(.ref b), (.ref b)])) rfl (by rw [hml]; rfl) (argsL := []) (rest := [(.ref b)]) rfl (lenOf own_pd17 rfl) rfl (by show 2 * 0 + _ ≤ _; exact Nat.le_of_eq rfl) (hb hby own_d_prog_25_method_3_4) (by decide) (by decide)
  have N131 := Fr.app N0 Nc
  have ne_x_vb : x ≠ vb := Nat.ne_of_lt (Nat.lt_of_lt_of_le A_c.lt gvb)
  have ne_g1_vb : g1 ≠ vb := Nat.ne_of_lt (Nat.lt_of_lt_of_le E_1.lt gvb)
  have ne_t1_vb : t1 ≠ vb := Nat.ne_of_lt (Nat.lt_of_lt_of_le V_1.lt gvb)
  have ne_g2_vb : g2 ≠ vb := Nat.ne_of_lt (Nat.lt_of_lt_of_le E_2.lt gvb)
  have ne_t2_vb : t2 ≠ vb := Nat.ne_of_lt (Nat.lt_of_lt_of_le V_2.lt gvb)
  have ne_b_vb : b ≠ vb := Nat.ne_of_lt (Nat.lt_of_lt_of_le E_b.lt gvb)
  have ge_vb : n0 ≤ vb := Nat.le_trans (own_z0 Od) gvb
  have gz_vb : h0.size ≤ vb := Nat.le_trans Kp.1 gvb
  have A_c := A_c.keep Kc (ninS ne_x_b nin0)
  have A_g := A_g.keep Kc (ninS ne_x_b nin0)
  have E_1 := E_1.keep Kc
  have G_1 := G_1.keep Kc (ninS ne_g1_b nin0)
  have H_1 := H_1.keep Kc (ninS ne_g1_b nin0)
  have V_1 := V_1.keep Kc (ninS ne_t1_b nin0)
  have E_2 := E_2.keep Kc
  have G_2 := G_2.keep Kc (ninS ne_g2_b nin0)
  have H_2 := H_2.keep Kc (ninS ne_g2_b nin0)
  have V_2 := V_2.keep Kc (ninS ne_t2_b nin0)
  have QSf_b := Safe.keep Kc (sfS Sf_b sf0) Hr.1 Sf_b
  have E_b := E_b.keep Kc
  have Od := Od.keep Kc (allS ge_b all0)
  have Kp := Kp.trans Kc (allS (Or.inr gz_b) all0)
  have Hr0 := Hr.1
  have Hr := Hr.trans (CHr.keep Kc (sfS Sf_b sf0) Hr.1)
  have hk := Nat.le_trans hk Kc.1
  have SFL := (sfS Sf_b sf0)
  have Sf_b := QSf_b
  have Sf_vb := Safe.keep Kc SFL Hr0 (Safe.new gvb)
  refine own_stW st131 ?_
  show own_GoW p e below s Z consts_1 _ _ _ (T131.setTop (mkF m 7 #[.val (.ref x)] [(.ref b)]))
  refine own_stW (fun t9 k9 => XS.aloadN X131.here hx rfl (hb hby own_d_prog_25_method_3_7) rfl rfl k9) ?_
  show own_GoW p e below s Z consts_1 _ _ _ (T131.setTop (mkF m 8 #[.val (.ref x)] [(.ref x), (.ref b)]))
  obtain ⟨T132, X132, e132, st132⟩ := getF X131 hx hZ hown (host := "") (Or.inl (hw _ (List.mem_of_getElem? (i := 69) rfl))) Via.refl e131 A_c (g := (mkF m 8 #[.val (.ref x)] [(.ref x), (.ref b)])) rfl rfl (hb hby own_d_prog_25_method_3_8)
  refine own_stW st132 ?_
  show own_GoW p e below s Z consts_1 _ _ _ (T132.setTop (mkF m 11 #[.val (.ref x)] [(.ref g1), (.ref b)]))
  obtain ⟨_, T133, h133, L133, X133, e133, ⟨rfl, Na1, Kc, E_q, F_v, F_k, F_c, V_b⟩, st133⟩ := own_callV X132 hx hZ hown (hw _ (List.mem_of_getElem? (i := 96) rfl)) (hw _ (List.mem_of_getElem? (i := 97) rfl)) (hw _ (List.mem_of_getElem? (i := 99) rfl)) (hw _ (List.mem_of_getElem? (i := 98) rfl)) (hw _ (List.mem_of_getElem? (i := 80) rfl)) (hw _ (List.mem_of_getElem? (i := 100) rfl)) (by decide) (own_rm_sap l Z a0 hw [] b g1 vb t1 kv k1 (0 : Int32) (2 : Int32) [w0, w1] [(.int (0 : Int32)), (.int (0 : Int32)), (.int (0 : Int32)), (.int (0 : Int32)), (.int (0 : Int32)), (.int (0 : Int32)), (.int (0 : Int32)), (.int (0 : Int32)), (.int (0 : Int32)), (.int (0 : Int32)), (.int (0 : Int32)), (.int (0 : Int32)), (.int (0 : Int32)), (.int (0 : Int32)), (.int (0 : Int32)), (.int (0 : Int32))] [w0, w1] [w0, w1, (.int (0 : Int32)), (.int (0 : Int32)), (.int (0 : Int32)), (.int (0 : Int32)), (.int (0 : Int32)), (.int (0 : Int32)), (.int (0 : Int32)), (.int (0 : Int32)), (.int (0 : Int32)), (.int (0 : Int32)), (.int (0 : Int32)), (.int (0 : Int32)), (.int (0 : Int32)), (.int (0 : Int32))] G (2 : Int32) h131 n0 Od O2 P5 E_b F_v F_k F_c E_1 G_1 H_1 V_1 V_b ge_vb ne_g1_vb ne_t1_vb ge_b ne_b_vb ne_t1_b (by decide) (by decide) (by decide) (show (0 : Int32).toNatClampNeg + (2 : Int32).toNatClampNeg ≤ 16 by decide) rfl rfl (by decide) (by decide)) (by decide) (by decide) e132 (b := b) E_b (W := 0) (g := (mkF m 11 #[.val (.ref x)] [(.ref g1), (.ref b)])) rfl (by rw [hml]; rfl) (argsL := [(.ref g1)]) (rest := []) rfl (lenOf own_pd19 rfl) rfl (by show 2 * 0 + _ ≤ _; exact Nat.le_of_eq rfl) (hb hby own_d_prog_25_method_3_11) (by decide) (by decide)
  have N133 := Fr.app N131 Na1
  have A_c := A_c.keep Kc (ninS ne_x_vb (ninS ne_x_b nin0))
  have A_g := A_g.keep Kc (ninS ne_x_vb (ninS ne_x_b nin0))
  have E_1 := E_1.keep Kc
  have G_1 := G_1.keep Kc (ninS ne_g1_vb (ninS ne_g1_b nin0))
  have H_1 := H_1.keep Kc (ninS ne_g1_vb (ninS ne_g1_b nin0))
  have V_1 := V_1.keep Kc (ninS ne_t1_vb (ninS ne_t1_b nin0))
  have E_2 := E_2.keep Kc
  have G_2 := G_2.keep Kc (ninS ne_g2_vb (ninS ne_g2_b nin0))
  have H_2 := H_2.keep Kc (ninS ne_g2_vb (ninS ne_g2_b nin0))
  have V_2 := V_2.keep Kc (ninS ne_t2_vb (ninS ne_t2_b nin0))
  have QSf_b := Safe.keep Kc (sfS Sf_vb (sfS Sf_b sf0)) Hr.1 Sf_b
  have E_b := E_b.keep Kc
  have QSf_vb := Safe.keep Kc (sfS Sf_vb (sfS Sf_b sf0)) Hr.1 Sf_vb
  have Od := Od.keep Kc (allS ge_vb (allS ge_b all0))
  have Kp := Kp.trans Kc (allS (Or.inr gz_vb) (allS (Or.inr gz_b) all0))
  have Hr0 := Hr.1
  have Hr := Hr.trans (CHr.keep Kc (sfS Sf_vb (sfS Sf_b sf0)) Hr.1)
  have hk := Nat.le_trans hk Kc.1
  have SFL := (sfS Sf_vb (sfS Sf_b sf0))
  have Sf_b := QSf_b
  have Sf_vb := QSf_vb
  refine own_stW st133 ?_
  show own_GoW p e below s Z consts_1 _ _ _ (T133.setTop (mkF m 14 #[.val (.ref x)] [(.ref b)]))
  obtain ⟨sl, T134, h134, k134, slb, kl134, X134, e134, E134, hS134, hk134, hZ134, hown134, El134, Kl134, Vl134, Bl134, lta134, ltb134, R134, Li134, Sn134, st134⟩ := ldcCH X133 hx hZ hown (hw _ (List.mem_of_getElem? (i := 143) rfl)) hwS e133 hS hk hEL (by decide) Hr.1 (vs := [(.int (47 : Int32))]) (z := (1 : Int32)) (by decide) (by decide) rfl (g := (mkF m 14 #[.val (.ref x)] [(.ref b)])) rfl (hb hby own_d_prog_25_method_3_14) (n := 4) (by decide) (by decide) (by decide) (by decide)
  have QSf_b := CHr.safe R134 E_b.lt Sf_b
  have QSf_vb := CHr.safe R134 V_b.lt Sf_vb
  have A_c := A_c.ext E134
  have A_g := A_g.ext E134
  have E_1 := E_1.ext E134
  have G_1 := G_1.ext E134
  have H_1 := H_1.ext E134
  have V_1 := V_1.ext E134
  have E_2 := E_2.ext E134
  have G_2 := G_2.ext E134
  have H_2 := H_2.ext E134
  have V_2 := V_2.ext E134
  have E_b := E_b.ext E134
  have F_v := F_v.ext E134
  have F_k := F_k.ext E134
  have F_c := F_c.ext E134
  have V_b := V_b.ext E134
  have Od := Od.ext E134
  have Kp := Kp.ext E134
  have Sf_b := QSf_b
  have Sf_vb := QSf_vb
  have Hr := Hr.trans R134
  have hS := hS134
  have hk := hk134
  have hZ := hZ134
  have hown := hown134
  have ne_b_sl := (Sn134 _ Sf_b).1
  have ne_b_slb := (Sn134 _ Sf_b).2
  have ne_vb_sl := (Sn134 _ Sf_vb).1
  have ne_vb_slb := (Sn134 _ Sf_vb).2
  refine own_stW st134 ?_
  show own_GoW p e below s Z consts_1 _ _ _ (T134.setTop (mkF m 16 #[.val (.ref x)] [(.ref sl), (.ref b)]))
  have E_sl := El134
  have K_sl := Kl134
  have V_sl := Vl134
  have B_sl := Bl134
  obtain ⟨_, T135, h135, L135, X135, e135, ⟨rfl, Na2, Kc, E_q, F_v, F_k, F_c, V_b⟩, st135⟩ := own_callV X134 hx hZ hown (hw _ (List.mem_of_getElem? (i := 96) rfl)) (hw _ (List.mem_of_getElem? (i := 97) rfl)) (hw _ (List.mem_of_getElem? (i := 99) rfl)) (hw _ (List.mem_of_getElem? (i := 98) rfl)) (hw _ (List.mem_of_getElem? (i := 80) rfl)) (hw _ (List.mem_of_getElem? (i := 100) rfl)) (by decide) (own_rm_sap l Z a0 hw [] b sl vb slb kv _ (2 : Int32) (1 : Int32) [(.int (47 : Int32))] [w0, w1, (.int (0 : Int32)), (.int (0 : Int32)), (.int (0 : Int32)), (.int (0 : Int32)), (.int (0 : Int32)), (.int (0 : Int32)), (.int (0 : Int32)), (.int (0 : Int32)), (.int (0 : Int32)), (.int (0 : Int32)), (.int (0 : Int32)), (.int (0 : Int32)), (.int (0 : Int32)), (.int (0 : Int32))] [(.int (47 : Int32))] [w0, w1, (.int (47 : Int32)), (.int (0 : Int32)), (.int (0 : Int32)), (.int (0 : Int32)), (.int (0 : Int32)), (.int (0 : Int32)), (.int (0 : Int32)), (.int (0 : Int32)), (.int (0 : Int32)), (.int (0 : Int32)), (.int (0 : Int32)), (.int (0 : Int32)), (.int (0 : Int32)), (.int (0 : Int32))] G (3 : Int32) h134 n0 Od O2 P5 E_b F_v F_k F_c E_sl V_sl K_sl B_sl V_b ge_vb (Ne.symm ne_vb_sl) (Ne.symm ne_vb_slb) ge_b ne_b_vb (Ne.symm ne_b_slb) (by decide) (by decide) (by decide) (show (2 : Int32).toNatClampNeg + (1 : Int32).toNatClampNeg ≤ 16 by decide) rfl rfl (by decide) (by decide)) (by decide) (by decide) e134 (b := b) E_b (W := 0) (g := (mkF m 16 #[.val (.ref x)] [(.ref sl), (.ref b)])) rfl (by rw [hml]; rfl) (argsL := [(.ref sl)]) (rest := []) rfl (lenOf own_pd19 rfl) rfl (by show 2 * 0 + _ ≤ _; exact Nat.le_of_eq rfl) (hb hby own_d_prog_25_method_3_16) (by decide) (by decide)
  have N135 := Fr.app N133 Na2
  have A_c := A_c.keep Kc (ninS ne_x_vb (ninS ne_x_b nin0))
  have A_g := A_g.keep Kc (ninS ne_x_vb (ninS ne_x_b nin0))
  have E_1 := E_1.keep Kc
  have G_1 := G_1.keep Kc (ninS ne_g1_vb (ninS ne_g1_b nin0))
  have H_1 := H_1.keep Kc (ninS ne_g1_vb (ninS ne_g1_b nin0))
  have V_1 := V_1.keep Kc (ninS ne_t1_vb (ninS ne_t1_b nin0))
  have E_2 := E_2.keep Kc
  have G_2 := G_2.keep Kc (ninS ne_g2_vb (ninS ne_g2_b nin0))
  have H_2 := H_2.keep Kc (ninS ne_g2_vb (ninS ne_g2_b nin0))
  have V_2 := V_2.keep Kc (ninS ne_t2_vb (ninS ne_t2_b nin0))
  have QSf_b := Safe.keep Kc (sfS Sf_vb (sfS Sf_b sf0)) Hr.1 Sf_b
  have E_b := E_b.keep Kc
  have QSf_vb := Safe.keep Kc (sfS Sf_vb (sfS Sf_b sf0)) Hr.1 Sf_vb
  have E_sl := E_sl.keep Kc
  have K_sl := K_sl.keep Kc (ninS (Ne.symm ne_vb_sl) (ninS (Ne.symm ne_b_sl) nin0))
  have V_sl := V_sl.keep Kc (ninS (Ne.symm ne_vb_sl) (ninS (Ne.symm ne_b_sl) nin0))
  have B_sl := B_sl.keep Kc (ninS (Ne.symm ne_vb_slb) (ninS (Ne.symm ne_b_slb) nin0))
  have Od := Od.keep Kc (allS ge_vb (allS ge_b all0))
  have Kp := Kp.trans Kc (allS (Or.inr gz_vb) (allS (Or.inr gz_b) all0))
  have Hr0 := Hr.1
  have Hr := Hr.trans (CHr.keep Kc (sfS Sf_vb (sfS Sf_b sf0)) Hr.1)
  have hk := Nat.le_trans hk Kc.1
  have SFL := (sfS Sf_vb (sfS Sf_b sf0))
  have Sf_b := QSf_b
  have Sf_vb := QSf_vb
  refine own_stW st135 ?_
  show own_GoW p e below s Z consts_1 _ _ _ (T135.setTop (mkF m 19 #[.val (.ref x)] [(.ref b)]))
  refine own_stW (fun t9 k9 => XS.aloadN X135.here hx rfl (hb hby own_d_prog_25_method_3_19) rfl rfl k9) ?_
  show own_GoW p e below s Z consts_1 _ _ _ (T135.setTop (mkF m 20 #[.val (.ref x)] [(.ref x), (.ref b)]))
  obtain ⟨T136, X136, e136, st136⟩ := getF X135 hx hZ hown (host := "") (Or.inl (hw _ (List.mem_of_getElem? (i := 71) rfl))) Via.refl e135 A_g (g := (mkF m 20 #[.val (.ref x)] [(.ref x), (.ref b)])) rfl rfl (hb hby own_d_prog_25_method_3_20)
  refine own_stW st136 ?_
  show own_GoW p e below s Z consts_1 _ _ _ (T136.setTop (mkF m 23 #[.val (.ref x)] [(.ref g2), (.ref b)]))
  obtain ⟨_, T137, h137, L137, X137, e137, ⟨rfl, Na3, Kc, E_q, F_v, F_k, F_c, V_b⟩, st137⟩ := own_callV X136 hx hZ hown (hw _ (List.mem_of_getElem? (i := 96) rfl)) (hw _ (List.mem_of_getElem? (i := 97) rfl)) (hw _ (List.mem_of_getElem? (i := 99) rfl)) (hw _ (List.mem_of_getElem? (i := 98) rfl)) (hw _ (List.mem_of_getElem? (i := 80) rfl)) (hw _ (List.mem_of_getElem? (i := 100) rfl)) (by decide) (own_rm_sap l Z a0 hw [] b g2 vb t2 kv k2 (3 : Int32) (2 : Int32) [w2, w3] [w0, w1, (.int (47 : Int32)), (.int (0 : Int32)), (.int (0 : Int32)), (.int (0 : Int32)), (.int (0 : Int32)), (.int (0 : Int32)), (.int (0 : Int32)), (.int (0 : Int32)), (.int (0 : Int32)), (.int (0 : Int32)), (.int (0 : Int32)), (.int (0 : Int32)), (.int (0 : Int32)), (.int (0 : Int32))] [w2, w3] [w0, w1, (.int (47 : Int32)), w2, w3, (.int (0 : Int32)), (.int (0 : Int32)), (.int (0 : Int32)), (.int (0 : Int32)), (.int (0 : Int32)), (.int (0 : Int32)), (.int (0 : Int32)), (.int (0 : Int32)), (.int (0 : Int32)), (.int (0 : Int32)), (.int (0 : Int32))] G (5 : Int32) h135 n0 Od O2 P5 E_b F_v F_k F_c E_2 G_2 H_2 V_2 V_b ge_vb ne_g2_vb ne_t2_vb ge_b ne_b_vb ne_t2_b (by decide) (by decide) (by decide) (show (3 : Int32).toNatClampNeg + (2 : Int32).toNatClampNeg ≤ 16 by decide) rfl rfl (by decide) (by decide)) (by decide) (by decide) e136 (b := b) E_b (W := 0) (g := (mkF m 23 #[.val (.ref x)] [(.ref g2), (.ref b)])) rfl (by rw [hml]; rfl) (argsL := [(.ref g2)]) (rest := []) rfl (lenOf own_pd19 rfl) rfl (by show 2 * 0 + _ ≤ _; exact Nat.le_of_eq rfl) (hb hby own_d_prog_25_method_3_23) (by decide) (by decide)
  have N137 := Fr.app N135 Na3
  have A_c := A_c.keep Kc (ninS ne_x_vb (ninS ne_x_b nin0))
  have A_g := A_g.keep Kc (ninS ne_x_vb (ninS ne_x_b nin0))
  have E_1 := E_1.keep Kc
  have G_1 := G_1.keep Kc (ninS ne_g1_vb (ninS ne_g1_b nin0))
  have H_1 := H_1.keep Kc (ninS ne_g1_vb (ninS ne_g1_b nin0))
  have V_1 := V_1.keep Kc (ninS ne_t1_vb (ninS ne_t1_b nin0))
  have E_2 := E_2.keep Kc
  have G_2 := G_2.keep Kc (ninS ne_g2_vb (ninS ne_g2_b nin0))
  have H_2 := H_2.keep Kc (ninS ne_g2_vb (ninS ne_g2_b nin0))
  have V_2 := V_2.keep Kc (ninS ne_t2_vb (ninS ne_t2_b nin0))
  have QSf_b := Safe.keep Kc (sfS Sf_vb (sfS Sf_b sf0)) Hr.1 Sf_b
  have E_b := E_b.keep Kc
  have QSf_vb := Safe.keep Kc (sfS Sf_vb (sfS Sf_b sf0)) Hr.1 Sf_vb
  have E_sl := E_sl.keep Kc
  have K_sl := K_sl.keep Kc (ninS (Ne.symm ne_vb_sl) (ninS (Ne.symm ne_b_sl) nin0))
  have V_sl := V_sl.keep Kc (ninS (Ne.symm ne_vb_sl) (ninS (Ne.symm ne_b_sl) nin0))
  have B_sl := B_sl.keep Kc (ninS (Ne.symm ne_vb_slb) (ninS (Ne.symm ne_b_slb) nin0))
  have Od := Od.keep Kc (allS ge_vb (allS ge_b all0))
  have Kp := Kp.trans Kc (allS (Or.inr gz_vb) (allS (Or.inr gz_b) all0))
  have Hr0 := Hr.1
  have Hr := Hr.trans (CHr.keep Kc (sfS Sf_vb (sfS Sf_b sf0)) Hr.1)
  have hk := Nat.le_trans hk Kc.1
  have SFL := (sfS Sf_vb (sfS Sf_b sf0))
  have Sf_b := QSf_b
  have Sf_vb := QSf_vb
  refine own_stW st137 ?_
  show own_GoW p e below s Z consts_1 _ _ _ (T137.setTop (mkF m 26 #[.val (.ref x)] [(.ref b)]))
  have gK := Kp.1
  obtain ⟨_, T138, h138, L138, X138, e138, ⟨Nt, Kt, y, tb, kb, rfl, gy, E_y, Y_k, Y_v, V_y⟩, st138⟩ := own_callV X137 hx hZ hown (hw _ (List.mem_of_getElem? (i := 144) rfl)) (hw _ (List.mem_of_getElem? (i := 145) rfl)) (hw _ (List.mem_of_getElem? (i := 147) rfl)) (hw _ (List.mem_of_getElem? (i := 146) rfl)) (hw _ (List.mem_of_getElem? (i := 80) rfl)) (hw _ (List.mem_of_getElem? (i := 148) rfl)) (by decide) (own_rm_tos5 l Z a0 hw [] b vb kv [w0, w1, (.int (47 : Int32)), w2, w3, (.int (0 : Int32)), (.int (0 : Int32)), (.int (0 : Int32)), (.int (0 : Int32)), (.int (0 : Int32)), (.int (0 : Int32)), (.int (0 : Int32)), (.int (0 : Int32)), (.int (0 : Int32)), (.int (0 : Int32)), (.int (0 : Int32))] [w0, w1, (.int (47 : Int32)), w2, w3] G h137 n0 Od E_b F_v F_k F_c V_b rfl O2 P5) (by decide) (by decide) e137 (b := b) E_b (W := 0) (g := (mkF m 26 #[.val (.ref x)] [(.ref b)])) rfl (by rw [hml]; rfl) (argsL := []) (rest := []) rfl (lenOf own_pd20 rfl) rfl (by show 2 * 0 + _ ≤ _; exact Nat.le_of_eq rfl) (hb hby own_d_prog_25_method_3_26) (by decide) (by decide)
  have N138 := Fr.app N137 Nt
  have A_c := A_c.keep Kt nin0
  have A_g := A_g.keep Kt nin0
  have E_1 := E_1.keep Kt
  have G_1 := G_1.keep Kt nin0
  have H_1 := H_1.keep Kt nin0
  have V_1 := V_1.keep Kt nin0
  have E_2 := E_2.keep Kt
  have G_2 := G_2.keep Kt nin0
  have H_2 := H_2.keep Kt nin0
  have V_2 := V_2.keep Kt nin0
  have QSf_b := Safe.keep Kt sf0 Hr.1 Sf_b
  have E_b := E_b.keep Kt
  have QSf_vb := Safe.keep Kt sf0 Hr.1 Sf_vb
  have E_sl := E_sl.keep Kt
  have K_sl := K_sl.keep Kt nin0
  have V_sl := V_sl.keep Kt nin0
  have B_sl := B_sl.keep Kt nin0
  have F_v := F_v.keep Kt nin0
  have F_k := F_k.keep Kt nin0
  have F_c := F_c.keep Kt nin0
  have V_b := V_b.keep Kt nin0
  have Od := Od.keep Kt all0
  have Kp := Kp.trans Kt all0
  have Hr0 := Hr.1
  have Hr := Hr.trans (CHr.keep Kt sf0 Hr.1)
  have hk := Nat.le_trans hk Kt.1
  have Sf_b := QSf_b
  have Sf_vb := QSf_vb
  refine own_stW st138 ?_
  show own_GoW p e below s Z consts_1 _ _ _ (T138.setTop (mkF m 29 #[.val (.ref x)] [(.ref y)]))
  exact own_retRW X138 hx hlk hS (by rw [e138]; exact hk) hZ hEL (by rw [hh, e138]; exact Hr) Bd.returns rfl rfl (hb hby own_d_prog_25_method_3_29) (by decide) (by decide) (by rw [e138]; exact ⟨N138, Kp, y, tb, kb, rfl, Nat.le_trans gK gy, E_y, Y_k, Y_v, V_y⟩)
theorem own_pn8 : plainName "com/example/bluehead/bluehead/net/GroupNameToStringPinLaw" = true := by first | (simp [plainName, overriddenIn]; done) | decide +kernel
theorem own_pd21 : parseMethodDescriptor "(C)Ljava/lang/String;" = some ⟨[.char], some (.object "java/lang/String")⟩ := by decide +kernel
theorem own_pd22 : parseMethodDescriptor "(Ljava/lang/String;Ljava/lang/String;)V" = some ⟨[(.object "java/lang/String"), (.object "java/lang/String")], none⟩ := by decide +kernel
theorem own_pd23 : parseMethodDescriptor "([C)V" = some ⟨[(.array .char)], none⟩ := by decide +kernel
theorem own_pd24 : parseMethodDescriptor "(Ljava/lang/Object;)Z" = some ⟨[(.object "java/lang/Object")], some .boolean⟩ := by decide +kernel
theorem own_ef_law (m : MethodId) (x0 : Int32) (x1 : Int32) (x2 : Int32) : entryFrame m #[(.int x0), (.int x1), (.int x2)] maxLocals = mkF m 0 #[.val (.int x0), .val (.int x1), .val (.int x2), .unset, .unset, .unset, .unset, .unset, .unset, .unset, .unset, .unset, .unset] [] := by first | (simp [entryFrame, mkF, argsToLocals, Value.category, maxLocals]; done) | rfl
def own_Q_law (Z : State)  (h0 : Heap) (n0 : Nat) (v : Option Value) (h : Heap) (L : List Loc) : Prop := v = some (.int 1) ∧ Fr n0 L
set_option maxRecDepth 65536 in
set_option maxHeartbeats 40000000 in
theorem own_rm_law (l : Launch) (Z : State) (a0 : Array Value) (hw : ∀ d ∈ tables_1, d.before a0 Z = true) (hEL : EW Z a0 consts_1) (ws : List Jvm.Cond) (p0 p1 p2 G : Int32) (h0 : Heap) (n0 : Nat) (Od : Old Z n0 h0) (O2 : Sta Z Z.heap "java/lang/String" "COMPACT_STRINGS" "Z" (.int G)) (P5 : ¬ (G = (0 : Int32))) :
    MetFree l x (head1 (Jvm.Cond.code x code maxLocals ret :: ws) room_1) (fun a9 U => a9 = #[(.int p0), (.int p1), (.int p2)] ∧ Z.Warmed39 U.vm ∧ U.heap = h0 ∧ CHv Z consts_1 U.vm h0 ∧ ∀ x9 ∈ ([] : List Addr), Safe Z consts_1 U.vm h0 x9) (fun _ _ _ _ _ => True) (fun _ U o U' => ∃ v L, o = .returned v ∧ own_Q_law Z  h0 n0 v U'.heap L ∧ CHr Z consts_1 U.vm U.heap U'.vm U'.heap ∧ ReturnedEndW U o U' L 48 3328) := by
  refine MetFree.of_bodySF (plainFor_of_name own_pn8) hisR ?_
  intro p e s m args below meth c s₁ Bd hml0 hP hK
  obtain ⟨rfl, hZ, hh, Hc, Hs⟩ := hP
  have hx := Bd.exec
  have hby := Bd.bytes
  have hml : c.maxLocals = 13 := hml0
  have hown : s.vm.findClass "com/example/bluehead/bluehead/net/GroupNameToStringPinLaw" = some m.cls := findClass_of_methodNamed Bd.named
  have hnm := (name_of_methodNamed Bd.named Bd.method).1
  have hlk : meth.locks = false := Bd.notSynchronized
  have X0 : Stand p l e room_1 (s.setVm s.vm) m #[(.int p0), (.int p1), (.int p2)] below meth c s₁ [] 0 0 := Stand.of_body Bd
  have e0 : s₁.heap = h0 := by rw [← hh, Bd.state]; rfl
  have N0 := Fr.nil n0
  have hS : s.Since s.vm h0.size := (State.WarmedH.refl s).since _
  have hk : h0.size ≤ h0.size := Nat.le_refl _
  have Hr : CHr Z consts_1 s.vm h0 s.vm h0 := CHr.refl Hc
  skip
  show own_GoW p e below s Z consts_1 (own_Q_law Z  h0 n0) 48 3328 (s₁.setTop (entryFrame m #[(.int p0), (.int p1), (.int p2)] maxLocals))
  refine own_stW (fun t9 k9 => castTop (own_ef_law m p0 p1 p2) k9) ?_
  show own_GoW p e below s Z consts_1 _ _ _ (s₁.setTop (mkF m 0 #[.val (.int p0), .val (.int p1), .val (.int p2), .unset, .unset, .unset, .unset, .unset, .unset, .unset, .unset, .unset, .unset] []))
  have hws : ∀ d ∈ StrChars.Road.words, d.before a0 Z = true := fun d hd => hw d ((by decide +kernel : ∀ d ∈ StrChars.Road.words, d ∈ tables_1) d hd)
  have hwe : ∀ d ∈ StrChars.Road.wordsEq, d.before a0 Z = true := fun d hd => hw d ((by decide +kernel : ∀ d ∈ StrChars.Road.wordsEq, d ∈ tables_1) d hd)
  refine own_stW (fun t9 k9 => XS.iloadN X0.here hx rfl (hb hby at_0) rfl  k9) ?_
  show own_GoW p e below s Z consts_1 _ _ _ (s₁.setTop (mkF m 1 #[.val (.int p0), .val (.int p1), .val (.int p2), .unset, .unset, .unset, .unset, .unset, .unset, .unset, .unset, .unset, .unset] [(.int p0)]))
  refine own_stW (fun t9 k9 => XS.sipush X0.here hx rfl (hb hby at_1) k9) ?_
  show own_GoW p e below s Z consts_1 _ _ _ (s₁.setTop (mkF m 4 #[.val (.int p0), .val (.int p1), .val (.int p2), .unset, .unset, .unset, .unset, .unset, .unset, .unset, .unset, .unset, .unset] [(.int (255 : Int32)), (.int p0)]))
  refine own_stW (fun t9 k9 => XS.iand X0.here hx rfl (hb hby at_4) rfl k9) ?_
  show own_GoW p e below s Z consts_1 _ _ _ (s₁.setTop (mkF m 5 #[.val (.int p0), .val (.int p1), .val (.int p2), .unset, .unset, .unset, .unset, .unset, .unset, .unset, .unset, .unset, .unset] [(.int (p0 &&& (255 : Int32)))]))
  refine own_stW (fun t9 k9 => XT.i2c X0.here hx rfl (hb hby at_5) rfl k9) ?_
  show own_GoW p e below s Z consts_1 _ _ _ (s₁.setTop (mkF m 6 #[.val (.int p0), .val (.int p1), .val (.int p2), .unset, .unset, .unset, .unset, .unset, .unset, .unset, .unset, .unset, .unset] [(.int ((p0 &&& (255 : Int32)).toUInt32.toUInt16.toUInt32.toInt32))]))
  refine own_stW (fun t9 k9 => XS.istoreN X0.here hx rfl (hb hby at_6) rfl (l' := #[.val (.int p0), .val (.int p1), .val (.int p2), .val (.int ((p0 &&& (255 : Int32)).toUInt32.toUInt16.toUInt32.toInt32)), .unset, .unset, .unset, .unset, .unset, .unset, .unset, .unset, .unset]) rfl k9) ?_
  show own_GoW p e below s Z consts_1 _ _ _ (s₁.setTop (mkF m 7 #[.val (.int p0), .val (.int p1), .val (.int p2), .val (.int ((p0 &&& (255 : Int32)).toUInt32.toUInt16.toUInt32.toInt32)), .unset, .unset, .unset, .unset, .unset, .unset, .unset, .unset, .unset] []))
  refine own_stW (fun t9 k9 => XS.iloadN X0.here hx rfl (hb hby at_7) rfl  k9) ?_
  show own_GoW p e below s Z consts_1 _ _ _ (s₁.setTop (mkF m 8 #[.val (.int p0), .val (.int p1), .val (.int p2), .val (.int ((p0 &&& (255 : Int32)).toUInt32.toUInt16.toUInt32.toInt32)), .unset, .unset, .unset, .unset, .unset, .unset, .unset, .unset, .unset] [(.int p0)]))
  refine own_stW (fun t9 k9 => XS.bipush X0.here hx rfl (hb hby at_8) k9) ?_
  show own_GoW p e below s Z consts_1 _ _ _ (s₁.setTop (mkF m 10 #[.val (.int p0), .val (.int p1), .val (.int p2), .val (.int ((p0 &&& (255 : Int32)).toUInt32.toUInt16.toUInt32.toInt32)), .unset, .unset, .unset, .unset, .unset, .unset, .unset, .unset, .unset] [(.int (8 : Int32)), (.int p0)]))
  refine own_stW (fun t9 k9 => XT.iushr X0.here hx rfl (hb hby at_10) rfl k9) ?_
  show own_GoW p e below s Z consts_1 _ _ _ (s₁.setTop (mkF m 11 #[.val (.int p0), .val (.int p1), .val (.int p2), .val (.int ((p0 &&& (255 : Int32)).toUInt32.toUInt16.toUInt32.toInt32)), .unset, .unset, .unset, .unset, .unset, .unset, .unset, .unset, .unset] [(.int ((p0.toUInt32 >>> ((8 : Int32) &&& 31).toUInt32).toInt32))]))
  refine own_stW (fun t9 k9 => XS.sipush X0.here hx rfl (hb hby at_11) k9) ?_
  show own_GoW p e below s Z consts_1 _ _ _ (s₁.setTop (mkF m 14 #[.val (.int p0), .val (.int p1), .val (.int p2), .val (.int ((p0 &&& (255 : Int32)).toUInt32.toUInt16.toUInt32.toInt32)), .unset, .unset, .unset, .unset, .unset, .unset, .unset, .unset, .unset] [(.int (255 : Int32)), (.int ((p0.toUInt32 >>> ((8 : Int32) &&& 31).toUInt32).toInt32))]))
  refine own_stW (fun t9 k9 => XS.iand X0.here hx rfl (hb hby at_14) rfl k9) ?_
  show own_GoW p e below s Z consts_1 _ _ _ (s₁.setTop (mkF m 15 #[.val (.int p0), .val (.int p1), .val (.int p2), .val (.int ((p0 &&& (255 : Int32)).toUInt32.toUInt16.toUInt32.toInt32)), .unset, .unset, .unset, .unset, .unset, .unset, .unset, .unset, .unset] [(.int (((p0.toUInt32 >>> ((8 : Int32) &&& 31).toUInt32).toInt32) &&& (255 : Int32)))]))
  refine own_stW (fun t9 k9 => XT.i2c X0.here hx rfl (hb hby at_15) rfl k9) ?_
  show own_GoW p e below s Z consts_1 _ _ _ (s₁.setTop (mkF m 16 #[.val (.int p0), .val (.int p1), .val (.int p2), .val (.int ((p0 &&& (255 : Int32)).toUInt32.toUInt16.toUInt32.toInt32)), .unset, .unset, .unset, .unset, .unset, .unset, .unset, .unset, .unset] [(.int ((((p0.toUInt32 >>> ((8 : Int32) &&& 31).toUInt32).toInt32) &&& (255 : Int32)).toUInt32.toUInt16.toUInt32.toInt32))]))
  refine own_stW (fun t9 k9 => XS.istore X0.here hx rfl (hb hby at_16) rfl (l' := #[.val (.int p0), .val (.int p1), .val (.int p2), .val (.int ((p0 &&& (255 : Int32)).toUInt32.toUInt16.toUInt32.toInt32)), .val (.int ((((p0.toUInt32 >>> ((8 : Int32) &&& 31).toUInt32).toInt32) &&& (255 : Int32)).toUInt32.toUInt16.toUInt32.toInt32)), .unset, .unset, .unset, .unset, .unset, .unset, .unset, .unset]) rfl k9) ?_
  show own_GoW p e below s Z consts_1 _ _ _ (s₁.setTop (mkF m 18 #[.val (.int p0), .val (.int p1), .val (.int p2), .val (.int ((p0 &&& (255 : Int32)).toUInt32.toUInt16.toUInt32.toInt32)), .val (.int ((((p0.toUInt32 >>> ((8 : Int32) &&& 31).toUInt32).toInt32) &&& (255 : Int32)).toUInt32.toUInt16.toUInt32.toInt32)), .unset, .unset, .unset, .unset, .unset, .unset, .unset, .unset] []))
  refine own_stW (fun t9 k9 => XS.iloadN X0.here hx rfl (hb hby at_18) rfl  k9) ?_
  show own_GoW p e below s Z consts_1 _ _ _ (s₁.setTop (mkF m 19 #[.val (.int p0), .val (.int p1), .val (.int p2), .val (.int ((p0 &&& (255 : Int32)).toUInt32.toUInt16.toUInt32.toInt32)), .val (.int ((((p0.toUInt32 >>> ((8 : Int32) &&& 31).toUInt32).toInt32) &&& (255 : Int32)).toUInt32.toUInt16.toUInt32.toInt32)), .unset, .unset, .unset, .unset, .unset, .unset, .unset, .unset] [(.int p1)]))
  refine own_stW (fun t9 k9 => XS.sipush X0.here hx rfl (hb hby at_19) k9) ?_
  show own_GoW p e below s Z consts_1 _ _ _ (s₁.setTop (mkF m 22 #[.val (.int p0), .val (.int p1), .val (.int p2), .val (.int ((p0 &&& (255 : Int32)).toUInt32.toUInt16.toUInt32.toInt32)), .val (.int ((((p0.toUInt32 >>> ((8 : Int32) &&& 31).toUInt32).toInt32) &&& (255 : Int32)).toUInt32.toUInt16.toUInt32.toInt32)), .unset, .unset, .unset, .unset, .unset, .unset, .unset, .unset] [(.int (255 : Int32)), (.int p1)]))
  refine own_stW (fun t9 k9 => XS.iand X0.here hx rfl (hb hby at_22) rfl k9) ?_
  show own_GoW p e below s Z consts_1 _ _ _ (s₁.setTop (mkF m 23 #[.val (.int p0), .val (.int p1), .val (.int p2), .val (.int ((p0 &&& (255 : Int32)).toUInt32.toUInt16.toUInt32.toInt32)), .val (.int ((((p0.toUInt32 >>> ((8 : Int32) &&& 31).toUInt32).toInt32) &&& (255 : Int32)).toUInt32.toUInt16.toUInt32.toInt32)), .unset, .unset, .unset, .unset, .unset, .unset, .unset, .unset] [(.int (p1 &&& (255 : Int32)))]))
  refine own_stW (fun t9 k9 => XT.i2c X0.here hx rfl (hb hby at_23) rfl k9) ?_
  show own_GoW p e below s Z consts_1 _ _ _ (s₁.setTop (mkF m 24 #[.val (.int p0), .val (.int p1), .val (.int p2), .val (.int ((p0 &&& (255 : Int32)).toUInt32.toUInt16.toUInt32.toInt32)), .val (.int ((((p0.toUInt32 >>> ((8 : Int32) &&& 31).toUInt32).toInt32) &&& (255 : Int32)).toUInt32.toUInt16.toUInt32.toInt32)), .unset, .unset, .unset, .unset, .unset, .unset, .unset, .unset] [(.int ((p1 &&& (255 : Int32)).toUInt32.toUInt16.toUInt32.toInt32))]))
  refine own_stW (fun t9 k9 => XS.istore X0.here hx rfl (hb hby at_24) rfl (l' := #[.val (.int p0), .val (.int p1), .val (.int p2), .val (.int ((p0 &&& (255 : Int32)).toUInt32.toUInt16.toUInt32.toInt32)), .val (.int ((((p0.toUInt32 >>> ((8 : Int32) &&& 31).toUInt32).toInt32) &&& (255 : Int32)).toUInt32.toUInt16.toUInt32.toInt32)), .val (.int ((p1 &&& (255 : Int32)).toUInt32.toUInt16.toUInt32.toInt32)), .unset, .unset, .unset, .unset, .unset, .unset, .unset]) rfl k9) ?_
  show own_GoW p e below s Z consts_1 _ _ _ (s₁.setTop (mkF m 26 #[.val (.int p0), .val (.int p1), .val (.int p2), .val (.int ((p0 &&& (255 : Int32)).toUInt32.toUInt16.toUInt32.toInt32)), .val (.int ((((p0.toUInt32 >>> ((8 : Int32) &&& 31).toUInt32).toInt32) &&& (255 : Int32)).toUInt32.toUInt16.toUInt32.toInt32)), .val (.int ((p1 &&& (255 : Int32)).toUInt32.toUInt16.toUInt32.toInt32)), .unset, .unset, .unset, .unset, .unset, .unset, .unset] []))
  refine own_stW (fun t9 k9 => XS.iloadN X0.here hx rfl (hb hby at_26) rfl  k9) ?_
  show own_GoW p e below s Z consts_1 _ _ _ (s₁.setTop (mkF m 27 #[.val (.int p0), .val (.int p1), .val (.int p2), .val (.int ((p0 &&& (255 : Int32)).toUInt32.toUInt16.toUInt32.toInt32)), .val (.int ((((p0.toUInt32 >>> ((8 : Int32) &&& 31).toUInt32).toInt32) &&& (255 : Int32)).toUInt32.toUInt16.toUInt32.toInt32)), .val (.int ((p1 &&& (255 : Int32)).toUInt32.toUInt16.toUInt32.toInt32)), .unset, .unset, .unset, .unset, .unset, .unset, .unset] [(.int p1)]))
  refine own_stW (fun t9 k9 => XS.bipush X0.here hx rfl (hb hby at_27) k9) ?_
  show own_GoW p e below s Z consts_1 _ _ _ (s₁.setTop (mkF m 29 #[.val (.int p0), .val (.int p1), .val (.int p2), .val (.int ((p0 &&& (255 : Int32)).toUInt32.toUInt16.toUInt32.toInt32)), .val (.int ((((p0.toUInt32 >>> ((8 : Int32) &&& 31).toUInt32).toInt32) &&& (255 : Int32)).toUInt32.toUInt16.toUInt32.toInt32)), .val (.int ((p1 &&& (255 : Int32)).toUInt32.toUInt16.toUInt32.toInt32)), .unset, .unset, .unset, .unset, .unset, .unset, .unset] [(.int (8 : Int32)), (.int p1)]))
  refine own_stW (fun t9 k9 => XT.iushr X0.here hx rfl (hb hby at_29) rfl k9) ?_
  show own_GoW p e below s Z consts_1 _ _ _ (s₁.setTop (mkF m 30 #[.val (.int p0), .val (.int p1), .val (.int p2), .val (.int ((p0 &&& (255 : Int32)).toUInt32.toUInt16.toUInt32.toInt32)), .val (.int ((((p0.toUInt32 >>> ((8 : Int32) &&& 31).toUInt32).toInt32) &&& (255 : Int32)).toUInt32.toUInt16.toUInt32.toInt32)), .val (.int ((p1 &&& (255 : Int32)).toUInt32.toUInt16.toUInt32.toInt32)), .unset, .unset, .unset, .unset, .unset, .unset, .unset] [(.int ((p1.toUInt32 >>> ((8 : Int32) &&& 31).toUInt32).toInt32))]))
  refine own_stW (fun t9 k9 => XS.sipush X0.here hx rfl (hb hby at_30) k9) ?_
  show own_GoW p e below s Z consts_1 _ _ _ (s₁.setTop (mkF m 33 #[.val (.int p0), .val (.int p1), .val (.int p2), .val (.int ((p0 &&& (255 : Int32)).toUInt32.toUInt16.toUInt32.toInt32)), .val (.int ((((p0.toUInt32 >>> ((8 : Int32) &&& 31).toUInt32).toInt32) &&& (255 : Int32)).toUInt32.toUInt16.toUInt32.toInt32)), .val (.int ((p1 &&& (255 : Int32)).toUInt32.toUInt16.toUInt32.toInt32)), .unset, .unset, .unset, .unset, .unset, .unset, .unset] [(.int (255 : Int32)), (.int ((p1.toUInt32 >>> ((8 : Int32) &&& 31).toUInt32).toInt32))]))
  refine own_stW (fun t9 k9 => XS.iand X0.here hx rfl (hb hby at_33) rfl k9) ?_
  show own_GoW p e below s Z consts_1 _ _ _ (s₁.setTop (mkF m 34 #[.val (.int p0), .val (.int p1), .val (.int p2), .val (.int ((p0 &&& (255 : Int32)).toUInt32.toUInt16.toUInt32.toInt32)), .val (.int ((((p0.toUInt32 >>> ((8 : Int32) &&& 31).toUInt32).toInt32) &&& (255 : Int32)).toUInt32.toUInt16.toUInt32.toInt32)), .val (.int ((p1 &&& (255 : Int32)).toUInt32.toUInt16.toUInt32.toInt32)), .unset, .unset, .unset, .unset, .unset, .unset, .unset] [(.int (((p1.toUInt32 >>> ((8 : Int32) &&& 31).toUInt32).toInt32) &&& (255 : Int32)))]))
  refine own_stW (fun t9 k9 => XT.i2c X0.here hx rfl (hb hby at_34) rfl k9) ?_
  show own_GoW p e below s Z consts_1 _ _ _ (s₁.setTop (mkF m 35 #[.val (.int p0), .val (.int p1), .val (.int p2), .val (.int ((p0 &&& (255 : Int32)).toUInt32.toUInt16.toUInt32.toInt32)), .val (.int ((((p0.toUInt32 >>> ((8 : Int32) &&& 31).toUInt32).toInt32) &&& (255 : Int32)).toUInt32.toUInt16.toUInt32.toInt32)), .val (.int ((p1 &&& (255 : Int32)).toUInt32.toUInt16.toUInt32.toInt32)), .unset, .unset, .unset, .unset, .unset, .unset, .unset] [(.int ((((p1.toUInt32 >>> ((8 : Int32) &&& 31).toUInt32).toInt32) &&& (255 : Int32)).toUInt32.toUInt16.toUInt32.toInt32))]))
  refine own_stW (fun t9 k9 => XS.istore X0.here hx rfl (hb hby at_35) rfl (l' := #[.val (.int p0), .val (.int p1), .val (.int p2), .val (.int ((p0 &&& (255 : Int32)).toUInt32.toUInt16.toUInt32.toInt32)), .val (.int ((((p0.toUInt32 >>> ((8 : Int32) &&& 31).toUInt32).toInt32) &&& (255 : Int32)).toUInt32.toUInt16.toUInt32.toInt32)), .val (.int ((p1 &&& (255 : Int32)).toUInt32.toUInt16.toUInt32.toInt32)), .val (.int ((((p1.toUInt32 >>> ((8 : Int32) &&& 31).toUInt32).toInt32) &&& (255 : Int32)).toUInt32.toUInt16.toUInt32.toInt32)), .unset, .unset, .unset, .unset, .unset, .unset]) rfl k9) ?_
  show own_GoW p e below s Z consts_1 _ _ _ (s₁.setTop (mkF m 37 #[.val (.int p0), .val (.int p1), .val (.int p2), .val (.int ((p0 &&& (255 : Int32)).toUInt32.toUInt16.toUInt32.toInt32)), .val (.int ((((p0.toUInt32 >>> ((8 : Int32) &&& 31).toUInt32).toInt32) &&& (255 : Int32)).toUInt32.toUInt16.toUInt32.toInt32)), .val (.int ((p1 &&& (255 : Int32)).toUInt32.toUInt16.toUInt32.toInt32)), .val (.int ((((p1.toUInt32 >>> ((8 : Int32) &&& 31).toUInt32).toInt32) &&& (255 : Int32)).toUInt32.toUInt16.toUInt32.toInt32)), .unset, .unset, .unset, .unset, .unset, .unset] []))
  refine own_stW (fun t9 k9 => XS.iloadN X0.here hx rfl (hb hby at_37) rfl  k9) ?_
  show own_GoW p e below s Z consts_1 _ _ _ (s₁.setTop (mkF m 38 #[.val (.int p0), .val (.int p1), .val (.int p2), .val (.int ((p0 &&& (255 : Int32)).toUInt32.toUInt16.toUInt32.toInt32)), .val (.int ((((p0.toUInt32 >>> ((8 : Int32) &&& 31).toUInt32).toInt32) &&& (255 : Int32)).toUInt32.toUInt16.toUInt32.toInt32)), .val (.int ((p1 &&& (255 : Int32)).toUInt32.toUInt16.toUInt32.toInt32)), .val (.int ((((p1.toUInt32 >>> ((8 : Int32) &&& 31).toUInt32).toInt32) &&& (255 : Int32)).toUInt32.toUInt16.toUInt32.toInt32)), .unset, .unset, .unset, .unset, .unset, .unset] [(.int p2)]))
  refine own_stW (fun t9 k9 => XS.iconst X0.here hx rfl (hb hby at_38) k9) ?_
  show own_GoW p e below s Z consts_1 _ _ _ (s₁.setTop (mkF m 39 #[.val (.int p0), .val (.int p1), .val (.int p2), .val (.int ((p0 &&& (255 : Int32)).toUInt32.toUInt16.toUInt32.toInt32)), .val (.int ((((p0.toUInt32 >>> ((8 : Int32) &&& 31).toUInt32).toInt32) &&& (255 : Int32)).toUInt32.toUInt16.toUInt32.toInt32)), .val (.int ((p1 &&& (255 : Int32)).toUInt32.toUInt16.toUInt32.toInt32)), .val (.int ((((p1.toUInt32 >>> ((8 : Int32) &&& 31).toUInt32).toInt32) &&& (255 : Int32)).toUInt32.toUInt16.toUInt32.toInt32)), .unset, .unset, .unset, .unset, .unset, .unset] [(.int (1 : Int32)), (.int p2)]))
  refine own_stW (fun t9 k9 => XS.iand X0.here hx rfl (hb hby at_39) rfl k9) ?_
  show own_GoW p e below s Z consts_1 _ _ _ (s₁.setTop (mkF m 40 #[.val (.int p0), .val (.int p1), .val (.int p2), .val (.int ((p0 &&& (255 : Int32)).toUInt32.toUInt16.toUInt32.toInt32)), .val (.int ((((p0.toUInt32 >>> ((8 : Int32) &&& 31).toUInt32).toInt32) &&& (255 : Int32)).toUInt32.toUInt16.toUInt32.toInt32)), .val (.int ((p1 &&& (255 : Int32)).toUInt32.toUInt16.toUInt32.toInt32)), .val (.int ((((p1.toUInt32 >>> ((8 : Int32) &&& 31).toUInt32).toInt32) &&& (255 : Int32)).toUInt32.toUInt16.toUInt32.toInt32)), .unset, .unset, .unset, .unset, .unset, .unset] [(.int (p2 &&& (1 : Int32)))]))
  obtain ⟨u1, qu1⟩ : ∃ z : Int32, ((p0 &&& (255 : Int32)).toUInt32.toUInt16.toUInt32.toInt32) = z := ⟨_, rfl⟩
  rw [qu1]
  show own_GoW p e below s Z consts_1 _ _ _ (s₁.setTop (mkF m 40 #[.val (.int p0), .val (.int p1), .val (.int p2), .val (.int u1), .val (.int ((((p0.toUInt32 >>> ((8 : Int32) &&& 31).toUInt32).toInt32) &&& (255 : Int32)).toUInt32.toUInt16.toUInt32.toInt32)), .val (.int ((p1 &&& (255 : Int32)).toUInt32.toUInt16.toUInt32.toInt32)), .val (.int ((((p1.toUInt32 >>> ((8 : Int32) &&& 31).toUInt32).toInt32) &&& (255 : Int32)).toUInt32.toUInt16.toUInt32.toInt32)), .unset, .unset, .unset, .unset, .unset, .unset] [(.int (p2 &&& (1 : Int32)))]))
  have nu1 : nar .char u1 = u1 := by rw [← qu1]; exact own_nc _
  have bu1 : ¬ u1 < 0 ∧ ¬ (255 : Int32) < u1 := by rw [← qu1]; exact own_c255 _
  obtain ⟨u2, qu2⟩ : ∃ z : Int32, ((((p0.toUInt32 >>> ((8 : Int32) &&& 31).toUInt32).toInt32) &&& (255 : Int32)).toUInt32.toUInt16.toUInt32.toInt32) = z := ⟨_, rfl⟩
  rw [qu2]
  show own_GoW p e below s Z consts_1 _ _ _ (s₁.setTop (mkF m 40 #[.val (.int p0), .val (.int p1), .val (.int p2), .val (.int u1), .val (.int u2), .val (.int ((p1 &&& (255 : Int32)).toUInt32.toUInt16.toUInt32.toInt32)), .val (.int ((((p1.toUInt32 >>> ((8 : Int32) &&& 31).toUInt32).toInt32) &&& (255 : Int32)).toUInt32.toUInt16.toUInt32.toInt32)), .unset, .unset, .unset, .unset, .unset, .unset] [(.int (p2 &&& (1 : Int32)))]))
  have nu2 : nar .char u2 = u2 := by rw [← qu2]; exact own_nc _
  have bu2 : ¬ u2 < 0 ∧ ¬ (255 : Int32) < u2 := by rw [← qu2]; exact own_c255 _
  obtain ⟨u3, qu3⟩ : ∃ z : Int32, ((p1 &&& (255 : Int32)).toUInt32.toUInt16.toUInt32.toInt32) = z := ⟨_, rfl⟩
  rw [qu3]
  show own_GoW p e below s Z consts_1 _ _ _ (s₁.setTop (mkF m 40 #[.val (.int p0), .val (.int p1), .val (.int p2), .val (.int u1), .val (.int u2), .val (.int u3), .val (.int ((((p1.toUInt32 >>> ((8 : Int32) &&& 31).toUInt32).toInt32) &&& (255 : Int32)).toUInt32.toUInt16.toUInt32.toInt32)), .unset, .unset, .unset, .unset, .unset, .unset] [(.int (p2 &&& (1 : Int32)))]))
  have nu3 : nar .char u3 = u3 := by rw [← qu3]; exact own_nc _
  have bu3 : ¬ u3 < 0 ∧ ¬ (255 : Int32) < u3 := by rw [← qu3]; exact own_c255 _
  obtain ⟨u4, qu4⟩ : ∃ z : Int32, ((((p1.toUInt32 >>> ((8 : Int32) &&& 31).toUInt32).toInt32) &&& (255 : Int32)).toUInt32.toUInt16.toUInt32.toInt32) = z := ⟨_, rfl⟩
  rw [qu4]
  show own_GoW p e below s Z consts_1 _ _ _ (s₁.setTop (mkF m 40 #[.val (.int p0), .val (.int p1), .val (.int p2), .val (.int u1), .val (.int u2), .val (.int u3), .val (.int u4), .unset, .unset, .unset, .unset, .unset, .unset] [(.int (p2 &&& (1 : Int32)))]))
  have nu4 : nar .char u4 = u4 := by rw [← qu4]; exact own_nc _
  have bu4 : ¬ u4 < 0 ∧ ¬ (255 : Int32) < u4 := by rw [← qu4]; exact own_c255 _
  by_cases hA1 : (p2 &&& (1 : Int32)) = (0 : Int32)
  · skip
    refine own_stW (fun t9 k9 => XS.ifYes X0.here hx rfl (pc0 := 40) (pc' := 47) rfl (hb hby at_40) rfl ((if0 _ _).trans (teq (hA1 : (p2 &&& (1 : Int32)) = (0 : Int32))).1) (by decide) (by decide) k9) ?_
    show own_GoW p e below s Z consts_1 _ _ _ (s₁.setTop (mkF m 47 #[.val (.int p0), .val (.int p1), .val (.int p2), .val (.int u1), .val (.int u2), .val (.int u3), .val (.int u4), .unset, .unset, .unset, .unset, .unset, .unset] []))
    refine own_stW (fun t9 k9 => XS.iconst X0.here hx rfl (hb hby at_47) k9) ?_
    show own_GoW p e below s Z consts_1 _ _ _ (s₁.setTop (mkF m 48 #[.val (.int p0), .val (.int p1), .val (.int p2), .val (.int u1), .val (.int u2), .val (.int u3), .val (.int u4), .unset, .unset, .unset, .unset, .unset, .unset] [(.int (0 : Int32))]))
    refine own_stW (fun t9 k9 => XS.istore X0.here hx rfl (hb hby at_48) rfl (l' := #[.val (.int p0), .val (.int p1), .val (.int p2), .val (.int u1), .val (.int u2), .val (.int u3), .val (.int u4), .val (.int (0 : Int32)), .unset, .unset, .unset, .unset, .unset]) rfl k9) ?_
    show own_GoW p e below s Z consts_1 _ _ _ (s₁.setTop (mkF m 50 #[.val (.int p0), .val (.int p1), .val (.int p2), .val (.int u1), .val (.int u2), .val (.int u3), .val (.int u4), .val (.int (0 : Int32)), .unset, .unset, .unset, .unset, .unset] []))
    refine own_stW (fun t9 k9 => XS.iloadN X0.here hx rfl (hb hby at_50) rfl  k9) ?_
    show own_GoW p e below s Z consts_1 _ _ _ (s₁.setTop (mkF m 51 #[.val (.int p0), .val (.int p1), .val (.int p2), .val (.int u1), .val (.int u2), .val (.int u3), .val (.int u4), .val (.int (0 : Int32)), .unset, .unset, .unset, .unset, .unset] [(.int p2)]))
    refine own_stW (fun t9 k9 => XS.iconst X0.here hx rfl (hb hby at_51) k9) ?_
    show own_GoW p e below s Z consts_1 _ _ _ (s₁.setTop (mkF m 52 #[.val (.int p0), .val (.int p1), .val (.int p2), .val (.int u1), .val (.int u2), .val (.int u3), .val (.int u4), .val (.int (0 : Int32)), .unset, .unset, .unset, .unset, .unset] [(.int (2 : Int32)), (.int p2)]))
    refine own_stW (fun t9 k9 => XS.iand X0.here hx rfl (hb hby at_52) rfl k9) ?_
    show own_GoW p e below s Z consts_1 _ _ _ (s₁.setTop (mkF m 53 #[.val (.int p0), .val (.int p1), .val (.int p2), .val (.int u1), .val (.int u2), .val (.int u3), .val (.int u4), .val (.int (0 : Int32)), .unset, .unset, .unset, .unset, .unset] [(.int (p2 &&& (2 : Int32)))]))
    by_cases hA2 : (p2 &&& (2 : Int32)) = (0 : Int32)
    · skip
      refine own_stW (fun t9 k9 => XS.ifYes X0.here hx rfl (pc0 := 53) (pc' := 60) rfl (hb hby at_53) rfl ((if0 _ _).trans (teq (hA2 : (p2 &&& (2 : Int32)) = (0 : Int32))).1) (by decide) (by decide) k9) ?_
      show own_GoW p e below s Z consts_1 _ _ _ (s₁.setTop (mkF m 60 #[.val (.int p0), .val (.int p1), .val (.int p2), .val (.int u1), .val (.int u2), .val (.int u3), .val (.int u4), .val (.int (0 : Int32)), .unset, .unset, .unset, .unset, .unset] []))
      refine own_stW (fun t9 k9 => XS.iconst X0.here hx rfl (hb hby at_60) k9) ?_
      show own_GoW p e below s Z consts_1 _ _ _ (s₁.setTop (mkF m 61 #[.val (.int p0), .val (.int p1), .val (.int p2), .val (.int u1), .val (.int u2), .val (.int u3), .val (.int u4), .val (.int (0 : Int32)), .unset, .unset, .unset, .unset, .unset] [(.int (0 : Int32))]))
      refine own_stW (fun t9 k9 => XS.istore X0.here hx rfl (hb hby at_61) rfl (l' := #[.val (.int p0), .val (.int p1), .val (.int p2), .val (.int u1), .val (.int u2), .val (.int u3), .val (.int u4), .val (.int (0 : Int32)), .val (.int (0 : Int32)), .unset, .unset, .unset, .unset]) rfl k9) ?_
      show own_GoW p e below s Z consts_1 _ _ _ (s₁.setTop (mkF m 63 #[.val (.int p0), .val (.int p1), .val (.int p2), .val (.int u1), .val (.int u2), .val (.int u3), .val (.int u4), .val (.int (0 : Int32)), .val (.int (0 : Int32)), .unset, .unset, .unset, .unset] []))
      refine own_stW (fun t9 k9 => XS.iload X0.here hx rfl (hb hby at_63) rfl  k9) ?_
      show own_GoW p e below s Z consts_1 _ _ _ (s₁.setTop (mkF m 65 #[.val (.int p0), .val (.int p1), .val (.int p2), .val (.int u1), .val (.int u2), .val (.int u3), .val (.int u4), .val (.int (0 : Int32)), .val (.int (0 : Int32)), .unset, .unset, .unset, .unset] [(.int (0 : Int32))]))
      refine own_stW (fun t9 k9 => XS.ifYes X0.here hx rfl (pc0 := 65) (pc' := 90) rfl (hb hby at_65) rfl (by decide) (by decide) (by decide) k9) ?_
      show own_GoW p e below s Z consts_1 _ _ _ (s₁.setTop (mkF m 90 #[.val (.int p0), .val (.int p1), .val (.int p2), .val (.int u1), .val (.int u2), .val (.int u3), .val (.int u4), .val (.int (0 : Int32)), .val (.int (0 : Int32)), .unset, .unset, .unset, .unset] []))
      refine own_stW (fun t9 k9 => XS.iloadN X0.here hx rfl (hb hby at_90) rfl  k9) ?_
      show own_GoW p e below s Z consts_1 _ _ _ (s₁.setTop (mkF m 91 #[.val (.int p0), .val (.int p1), .val (.int p2), .val (.int u1), .val (.int u2), .val (.int u3), .val (.int u4), .val (.int (0 : Int32)), .val (.int (0 : Int32)), .unset, .unset, .unset, .unset] [(.int u1)]))
      obtain ⟨_, T139, h139, L139, X139, e139, ⟨Na1, Ka1, g1, t1, k1, rfl, gg1, gt1, E_1, H_1, G_1, V_1⟩, st139⟩ := own_callS X0 hx hZ hown (hw _ (List.mem_of_getElem? (i := 0) rfl)) (hw _ (List.mem_of_getElem? (i := 1) rfl)) (hw _ (List.mem_of_getElem? (i := 2) rfl)) (hw _ (List.mem_of_getElem? (i := 3) rfl)) (by decide) (own_rm_vof l Z a0 hw [] u1 G h0 n0 Od bu1.2 O2 P5) (by decide) (by decide) e0 (W := 0) (g := (mkF m 91 #[.val (.int p0), .val (.int p1), .val (.int p2), .val (.int u1), .val (.int u2), .val (.int u3), .val (.int u4), .val (.int (0 : Int32)), .val (.int (0 : Int32)), .unset, .unset, .unset, .unset] [(.int u1)])) rfl (by rw [hml]; rfl) (argsL := [(.int u1)]) (rest := []) rfl (lenOf own_pd21 rfl) rfl (by show 2 * 0 + _ ≤ _; exact Nat.le_of_eq rfl) (hb hby at_91) (by decide) (by decide)
      have N139 := Fr.app N0 Na1
      have ge_g1 : n0 ≤ g1 := Nat.le_trans (own_z0 Od) gg1
      have ge_t1 : n0 ≤ t1 := Nat.le_trans (own_z0 Od) gt1
      have Od := Od.keep Ka1 all0
      have Hr0 := Hr.1
      have Hr := Hr.trans (CHr.keep Ka1 sf0 Hr.1)
      have hk := Nat.le_trans hk Ka1.1
      have Sf_g1 := Safe.keep Ka1 sf0 Hr0 (Safe.new gg1)
      have Sf_t1 := Safe.keep Ka1 sf0 Hr0 (Safe.new gt1)
      refine own_stW st139 ?_
      show own_GoW p e below s Z consts_1 _ _ _ (T139.setTop (mkF m 94 #[.val (.int p0), .val (.int p1), .val (.int p2), .val (.int u1), .val (.int u2), .val (.int u3), .val (.int u4), .val (.int (0 : Int32)), .val (.int (0 : Int32)), .unset, .unset, .unset, .unset] [(.ref g1)]))
      refine own_stW (fun t9 k9 => XS.astore X139.here hx rfl (hb hby at_94) rfl rfl (l' := #[.val (.int p0), .val (.int p1), .val (.int p2), .val (.int u1), .val (.int u2), .val (.int u3), .val (.int u4), .val (.int (0 : Int32)), .val (.int (0 : Int32)), .val (.ref g1), .unset, .unset, .unset]) rfl k9) ?_
      show own_GoW p e below s Z consts_1 _ _ _ (T139.setTop (mkF m 96 #[.val (.int p0), .val (.int p1), .val (.int p2), .val (.int u1), .val (.int u2), .val (.int u3), .val (.int u4), .val (.int (0 : Int32)), .val (.int (0 : Int32)), .val (.ref g1), .unset, .unset, .unset] []))
      refine own_stW (fun t9 k9 => XS.iload X139.here hx rfl (hb hby at_96) rfl  k9) ?_
      show own_GoW p e below s Z consts_1 _ _ _ (T139.setTop (mkF m 98 #[.val (.int p0), .val (.int p1), .val (.int p2), .val (.int u1), .val (.int u2), .val (.int u3), .val (.int u4), .val (.int (0 : Int32)), .val (.int (0 : Int32)), .val (.ref g1), .unset, .unset, .unset] [(.int (0 : Int32))]))
      refine own_stW (fun t9 k9 => XS.ifYes X139.here hx rfl (pc0 := 98) (pc' := 124) rfl (hb hby at_98) rfl (by decide) (by decide) (by decide) k9) ?_
      show own_GoW p e below s Z consts_1 _ _ _ (T139.setTop (mkF m 124 #[.val (.int p0), .val (.int p1), .val (.int p2), .val (.int u1), .val (.int u2), .val (.int u3), .val (.int u4), .val (.int (0 : Int32)), .val (.int (0 : Int32)), .val (.ref g1), .unset, .unset, .unset] []))
      refine own_stW (fun t9 k9 => XS.iload X139.here hx rfl (hb hby at_124) rfl  k9) ?_
      show own_GoW p e below s Z consts_1 _ _ _ (T139.setTop (mkF m 126 #[.val (.int p0), .val (.int p1), .val (.int p2), .val (.int u1), .val (.int u2), .val (.int u3), .val (.int u4), .val (.int (0 : Int32)), .val (.int (0 : Int32)), .val (.ref g1), .unset, .unset, .unset] [(.int u3)]))
      obtain ⟨_, T140, h140, L140, X140, e140, ⟨Na2, Ka2, g2, t2, k2, rfl, gg2, gt2, E_2, H_2, G_2, V_2⟩, st140⟩ := own_callS X139 hx hZ hown (hw _ (List.mem_of_getElem? (i := 0) rfl)) (hw _ (List.mem_of_getElem? (i := 1) rfl)) (hw _ (List.mem_of_getElem? (i := 2) rfl)) (hw _ (List.mem_of_getElem? (i := 3) rfl)) (by decide) (own_rm_vof l Z a0 hw [] u3 G h139 n0 Od bu3.2 O2 P5) (by decide) (by decide) e139 (W := 0) (g := (mkF m 126 #[.val (.int p0), .val (.int p1), .val (.int p2), .val (.int u1), .val (.int u2), .val (.int u3), .val (.int u4), .val (.int (0 : Int32)), .val (.int (0 : Int32)), .val (.ref g1), .unset, .unset, .unset] [(.int u3)])) rfl (by rw [hml]; rfl) (argsL := [(.int u3)]) (rest := []) rfl (lenOf own_pd21 rfl) rfl (by show 2 * 0 + _ ≤ _; exact Nat.le_of_eq rfl) (hb hby at_126) (by decide) (by decide)
      have N140 := Fr.app N139 Na2
      have ne_g1_g2 : g1 ≠ g2 := Nat.ne_of_lt (Nat.lt_of_lt_of_le E_1.lt gg2)
      have ne_t1_g2 : t1 ≠ g2 := Nat.ne_of_lt (Nat.lt_of_lt_of_le V_1.lt gg2)
      have ge_g2 : n0 ≤ g2 := Nat.le_trans (own_z0 Od) gg2
      have ne_g1_t2 : g1 ≠ t2 := Nat.ne_of_lt (Nat.lt_of_lt_of_le E_1.lt gt2)
      have ne_t1_t2 : t1 ≠ t2 := Nat.ne_of_lt (Nat.lt_of_lt_of_le V_1.lt gt2)
      have ge_t2 : n0 ≤ t2 := Nat.le_trans (own_z0 Od) gt2
      have E_1 := E_1.keep Ka2
      have G_1 := G_1.keep Ka2 nin0
      have H_1 := H_1.keep Ka2 nin0
      have V_1 := V_1.keep Ka2 nin0
      have Od := Od.keep Ka2 all0
      have Hr0 := Hr.1
      have Hr := Hr.trans (CHr.keep Ka2 sf0 Hr.1)
      have hk := Nat.le_trans hk Ka2.1
      have Sf_g2 := Safe.keep Ka2 sf0 Hr0 (Safe.new gg2)
      have Sf_t2 := Safe.keep Ka2 sf0 Hr0 (Safe.new gt2)
      refine own_stW st140 ?_
      show own_GoW p e below s Z consts_1 _ _ _ (T140.setTop (mkF m 129 #[.val (.int p0), .val (.int p1), .val (.int p2), .val (.int u1), .val (.int u2), .val (.int u3), .val (.int u4), .val (.int (0 : Int32)), .val (.int (0 : Int32)), .val (.ref g1), .unset, .unset, .unset] [(.ref g2)]))
      refine own_stW (fun t9 k9 => XS.astore X140.here hx rfl (hb hby at_129) rfl rfl (l' := #[.val (.int p0), .val (.int p1), .val (.int p2), .val (.int u1), .val (.int u2), .val (.int u3), .val (.int u4), .val (.int (0 : Int32)), .val (.int (0 : Int32)), .val (.ref g1), .val (.ref g2), .unset, .unset]) rfl k9) ?_
      show own_GoW p e below s Z consts_1 _ _ _ (T140.setTop (mkF m 131 #[.val (.int p0), .val (.int p1), .val (.int p2), .val (.int u1), .val (.int u2), .val (.int u3), .val (.int u4), .val (.int (0 : Int32)), .val (.int (0 : Int32)), .val (.ref g1), .val (.ref g2), .unset, .unset] []))
      refine own_stW (fun t9 k9 => XS.iload X140.here hx rfl (hb hby at_131) rfl  k9) ?_
      show own_GoW p e below s Z consts_1 _ _ _ (T140.setTop (mkF m 133 #[.val (.int p0), .val (.int p1), .val (.int p2), .val (.int u1), .val (.int u2), .val (.int u3), .val (.int u4), .val (.int (0 : Int32)), .val (.int (0 : Int32)), .val (.ref g1), .val (.ref g2), .unset, .unset] [(.int (0 : Int32))]))
      refine own_stW (fun t9 k9 => XS.ifYes X140.here hx rfl (pc0 := 133) (pc' := 200) rfl (hb hby at_133) rfl (by decide) (by decide) (by decide) k9) ?_
      show own_GoW p e below s Z consts_1 _ _ _ (T140.setTop (mkF m 200 #[.val (.int p0), .val (.int p1), .val (.int p2), .val (.int u1), .val (.int u2), .val (.int u3), .val (.int u4), .val (.int (0 : Int32)), .val (.int (0 : Int32)), .val (.ref g1), .val (.ref g2), .unset, .unset] []))
      refine own_stW (fun t9 k9 => XS.iload X140.here hx rfl (hb hby at_200) rfl  k9) ?_
      show own_GoW p e below s Z consts_1 _ _ _ (T140.setTop (mkF m 202 #[.val (.int p0), .val (.int p1), .val (.int p2), .val (.int u1), .val (.int u2), .val (.int u3), .val (.int u4), .val (.int (0 : Int32)), .val (.int (0 : Int32)), .val (.ref g1), .val (.ref g2), .unset, .unset] [(.int (0 : Int32))]))
      refine own_stW (fun t9 k9 => XS.ifYes X140.here hx rfl (pc0 := 202) (pc' := 232) rfl (hb hby at_202) rfl (by decide) (by decide) (by decide) k9) ?_
      show own_GoW p e below s Z consts_1 _ _ _ (T140.setTop (mkF m 232 #[.val (.int p0), .val (.int p1), .val (.int p2), .val (.int u1), .val (.int u2), .val (.int u3), .val (.int u4), .val (.int (0 : Int32)), .val (.int (0 : Int32)), .val (.ref g1), .val (.ref g2), .unset, .unset] []))
      refine own_stW (fun t9 k9 => XS.iconst X140.here hx rfl (hb hby at_232) k9) ?_
      show own_GoW p e below s Z consts_1 _ _ _ (T140.setTop (mkF m 233 #[.val (.int p0), .val (.int p1), .val (.int p2), .val (.int u1), .val (.int u2), .val (.int u3), .val (.int u4), .val (.int (0 : Int32)), .val (.int (0 : Int32)), .val (.ref g1), .val (.ref g2), .unset, .unset] [(.int (3 : Int32))]))
      obtain ⟨T141, h141, k141, X141, e141, E141, A141, st141⟩ := newP X140 hx hZ (hw _ (List.mem_of_getElem? (i := 27) rfl)) e140 (g := (mkF m 233 #[.val (.int p0), .val (.int p1), .val (.int p2), .val (.int u1), .val (.int u2), .val (.int u3), .val (.int u4), .val (.int (0 : Int32)), .val (.int (0 : Int32)), .val (.ref g1), .val (.ref g2), .unset, .unset] [(.int (3 : Int32))])) rfl (hb hby at_233) rfl (by decide) (cap := 3) (by decide) (by decide) (by decide) (by decide)
      obtain ⟨ac, g141⟩ : ∃ z, z = h140.size := ⟨_, rfl⟩
      rw [← g141] at A141 st141
      have ne_g1_ac : g1 ≠ ac := Nat.ne_of_lt (Nat.lt_of_lt_of_le E_1.lt (Nat.le_of_eq g141.symm))
      have ne_t1_ac : t1 ≠ ac := Nat.ne_of_lt (Nat.lt_of_lt_of_le V_1.lt (Nat.le_of_eq g141.symm))
      have ne_g2_ac : g2 ≠ ac := Nat.ne_of_lt (Nat.lt_of_lt_of_le E_2.lt (Nat.le_of_eq g141.symm))
      have ne_t2_ac : t2 ≠ ac := Nat.ne_of_lt (Nat.lt_of_lt_of_le V_2.lt (Nat.le_of_eq g141.symm))
      have ge_ac : n0 ≤ ac := Nat.le_trans (own_z0 Od) (Nat.le_of_eq g141.symm)
      have Sf_ac : Safe Z consts_1 s.vm h140 ac := Safe.new (Nat.le_of_eq g141.symm)
      have E_1 := E_1.ext E141
      have G_1 := G_1.ext E141
      have H_1 := H_1.ext E141
      have V_1 := V_1.ext E141
      have E_2 := E_2.ext E141
      have G_2 := G_2.ext E141
      have H_2 := H_2.ext E141
      have V_2 := V_2.ext E141
      have Sf_ac := Safe.ext E141 Hr.1 Sf_ac
      have Od := Od.ext E141
      have Hr := Hr.trans (CHr.ext E141 Hr.1)
      have hk := Nat.le_trans hk E141.1
      refine own_stW st141 ?_
      show own_GoW p e below s Z consts_1 _ _ _ (T141.setTop (mkF m 235 #[.val (.int p0), .val (.int p1), .val (.int p2), .val (.int u1), .val (.int u2), .val (.int u3), .val (.int u4), .val (.int (0 : Int32)), .val (.int (0 : Int32)), .val (.ref g1), .val (.ref g2), .unset, .unset] [(.ref ac)]))
      have A_3 : Arv Z h141 ac k141 .char (3 : Int32) [(.int (0 : Int32)), (.int (0 : Int32)), (.int (0 : Int32))] (.int (0 : Int32)) := (Arv.new A141 (by decide)).pad (pad_rep [] (.int (0 : Int32)) 3)
      refine own_stW (fun t9 k9 => XS.dup X141.here hx rfl (hb hby at_235) rfl rfl k9) ?_
      show own_GoW p e below s Z consts_1 _ _ _ (T141.setTop (mkF m 236 #[.val (.int p0), .val (.int p1), .val (.int p2), .val (.int u1), .val (.int u2), .val (.int u3), .val (.int u4), .val (.int (0 : Int32)), .val (.int (0 : Int32)), .val (.ref g1), .val (.ref g2), .unset, .unset] [(.ref ac), (.ref ac)]))
      refine own_stW (fun t9 k9 => XS.iconst X141.here hx rfl (hb hby at_236) k9) ?_
      show own_GoW p e below s Z consts_1 _ _ _ (T141.setTop (mkF m 237 #[.val (.int p0), .val (.int p1), .val (.int p2), .val (.int u1), .val (.int u2), .val (.int u3), .val (.int u4), .val (.int (0 : Int32)), .val (.int (0 : Int32)), .val (.ref g1), .val (.ref g2), .unset, .unset] [(.int (0 : Int32)), (.ref ac), (.ref ac)]))
      refine own_stW (fun t9 k9 => XS.iloadN X141.here hx rfl (hb hby at_237) rfl  k9) ?_
      show own_GoW p e below s Z consts_1 _ _ _ (T141.setTop (mkF m 238 #[.val (.int p0), .val (.int p1), .val (.int p2), .val (.int u1), .val (.int u2), .val (.int u3), .val (.int u4), .val (.int (0 : Int32)), .val (.int (0 : Int32)), .val (.ref g1), .val (.ref g2), .unset, .unset] [(.int u1), (.int (0 : Int32)), (.ref ac), (.ref ac)]))
      obtain ⟨cl142, Ar142, q142, S142, M142, H142, G142⟩ := id A_3
      obtain ⟨T142, h142, X142, e142, W142, st142⟩ := stC X141 hx hZ e141 Ar142 (j := (0 : Int32)) (inb_of S142 ⟨by decide, by decide⟩) (g := (mkF m 238 #[.val (.int p0), .val (.int p1), .val (.int p2), .val (.int u1), .val (.int u2), .val (.int u3), .val (.int u4), .val (.int (0 : Int32)), .val (.int (0 : Int32)), .val (.ref g1), .val (.ref g2), .unset, .unset] [(.int u1), (.int (0 : Int32)), (.ref ac), (.ref ac)])) rfl rfl (hb hby at_238)
      have N142 := Fr.snoc X142 N140 ge_ac
      have E_1 := E_1.wr W142
      have G_1 := G_1.other W142 (Or.inl ne_g1_ac)
      have H_1 := H_1.other W142 (Or.inl ne_g1_ac)
      have V_1 := V_1.other W142 ne_t1_ac
      have E_2 := E_2.wr W142
      have G_2 := G_2.other W142 (Or.inl ne_g2_ac)
      have H_2 := H_2.other W142 (Or.inl ne_g2_ac)
      have V_2 := V_2.other W142 ne_t2_ac
      have QSf_ac := Safe.wr W142 Sf_ac Hr.1 Sf_ac
      have Od := Od.wr W142 ge_ac
      have Hr := Hr.trans (CHr.wr W142 Sf_ac Hr.1)
      have hk := Nat.le_trans hk (Keep.of_wr W142).1
      have Sf_ac := QSf_ac
      refine own_stW st142 ?_
      show own_GoW p e below s Z consts_1 _ _ _ (T142.setTop (mkF m 239 #[.val (.int p0), .val (.int p1), .val (.int p2), .val (.int u1), .val (.int u2), .val (.int u3), .val (.int u4), .val (.int (0 : Int32)), .val (.int (0 : Int32)), .val (.ref g1), .val (.ref g2), .unset, .unset] [(.ref ac)]))
      have A_3 : Arv Z h142 ac k141 .char (3 : Int32) [(.int (nar .char u1)), (.int (0 : Int32)), (.int (0 : Int32))] (.int (0 : Int32)) := Arv.set Ar142 q142 S142 M142 H142 G142 (fits_nar_char _) W142 0 rfl (Nat.le_of_ble_eq_true rfl)
      refine own_stW (fun t9 k9 => XS.dup X142.here hx rfl (hb hby at_239) rfl rfl k9) ?_
      show own_GoW p e below s Z consts_1 _ _ _ (T142.setTop (mkF m 240 #[.val (.int p0), .val (.int p1), .val (.int p2), .val (.int u1), .val (.int u2), .val (.int u3), .val (.int u4), .val (.int (0 : Int32)), .val (.int (0 : Int32)), .val (.ref g1), .val (.ref g2), .unset, .unset] [(.ref ac), (.ref ac)]))
      refine own_stW (fun t9 k9 => XS.iconst X142.here hx rfl (hb hby at_240) k9) ?_
      show own_GoW p e below s Z consts_1 _ _ _ (T142.setTop (mkF m 241 #[.val (.int p0), .val (.int p1), .val (.int p2), .val (.int u1), .val (.int u2), .val (.int u3), .val (.int u4), .val (.int (0 : Int32)), .val (.int (0 : Int32)), .val (.ref g1), .val (.ref g2), .unset, .unset] [(.int (1 : Int32)), (.ref ac), (.ref ac)]))
      refine own_stW (fun t9 k9 => XS.bipush X142.here hx rfl (hb hby at_241) k9) ?_
      show own_GoW p e below s Z consts_1 _ _ _ (T142.setTop (mkF m 243 #[.val (.int p0), .val (.int p1), .val (.int p2), .val (.int u1), .val (.int u2), .val (.int u3), .val (.int u4), .val (.int (0 : Int32)), .val (.int (0 : Int32)), .val (.ref g1), .val (.ref g2), .unset, .unset] [(.int (47 : Int32)), (.int (1 : Int32)), (.ref ac), (.ref ac)]))
      obtain ⟨cl143, Ar143, q143, S143, M143, H143, G143⟩ := id A_3
      obtain ⟨T143, h143, X143, e143, W143, st143⟩ := stC X142 hx hZ e142 Ar143 (j := (1 : Int32)) (inb_of S143 ⟨by decide, by decide⟩) (g := (mkF m 243 #[.val (.int p0), .val (.int p1), .val (.int p2), .val (.int u1), .val (.int u2), .val (.int u3), .val (.int u4), .val (.int (0 : Int32)), .val (.int (0 : Int32)), .val (.ref g1), .val (.ref g2), .unset, .unset] [(.int (47 : Int32)), (.int (1 : Int32)), (.ref ac), (.ref ac)])) rfl rfl (hb hby at_243)
      have N143 := Fr.snoc X143 N142 ge_ac
      have E_1 := E_1.wr W143
      have G_1 := G_1.other W143 (Or.inl ne_g1_ac)
      have H_1 := H_1.other W143 (Or.inl ne_g1_ac)
      have V_1 := V_1.other W143 ne_t1_ac
      have E_2 := E_2.wr W143
      have G_2 := G_2.other W143 (Or.inl ne_g2_ac)
      have H_2 := H_2.other W143 (Or.inl ne_g2_ac)
      have V_2 := V_2.other W143 ne_t2_ac
      have QSf_ac := Safe.wr W143 Sf_ac Hr.1 Sf_ac
      have Od := Od.wr W143 ge_ac
      have Hr := Hr.trans (CHr.wr W143 Sf_ac Hr.1)
      have hk := Nat.le_trans hk (Keep.of_wr W143).1
      have Sf_ac := QSf_ac
      refine own_stW st143 ?_
      show own_GoW p e below s Z consts_1 _ _ _ (T143.setTop (mkF m 244 #[.val (.int p0), .val (.int p1), .val (.int p2), .val (.int u1), .val (.int u2), .val (.int u3), .val (.int u4), .val (.int (0 : Int32)), .val (.int (0 : Int32)), .val (.ref g1), .val (.ref g2), .unset, .unset] [(.ref ac)]))
      have A_3 : Arv Z h143 ac k141 .char (3 : Int32) [(.int (nar .char u1)), (.int (nar .char (47 : Int32))), (.int (0 : Int32))] (.int (0 : Int32)) := Arv.set Ar143 q143 S143 M143 H143 G143 (fits_nar_char _) W143 1 rfl (Nat.le_of_ble_eq_true rfl)
      refine own_stW (fun t9 k9 => XS.dup X143.here hx rfl (hb hby at_244) rfl rfl k9) ?_
      show own_GoW p e below s Z consts_1 _ _ _ (T143.setTop (mkF m 245 #[.val (.int p0), .val (.int p1), .val (.int p2), .val (.int u1), .val (.int u2), .val (.int u3), .val (.int u4), .val (.int (0 : Int32)), .val (.int (0 : Int32)), .val (.ref g1), .val (.ref g2), .unset, .unset] [(.ref ac), (.ref ac)]))
      refine own_stW (fun t9 k9 => XS.iconst X143.here hx rfl (hb hby at_245) k9) ?_
      show own_GoW p e below s Z consts_1 _ _ _ (T143.setTop (mkF m 246 #[.val (.int p0), .val (.int p1), .val (.int p2), .val (.int u1), .val (.int u2), .val (.int u3), .val (.int u4), .val (.int (0 : Int32)), .val (.int (0 : Int32)), .val (.ref g1), .val (.ref g2), .unset, .unset] [(.int (2 : Int32)), (.ref ac), (.ref ac)]))
      refine own_stW (fun t9 k9 => XS.iload X143.here hx rfl (hb hby at_246) rfl  k9) ?_
      show own_GoW p e below s Z consts_1 _ _ _ (T143.setTop (mkF m 248 #[.val (.int p0), .val (.int p1), .val (.int p2), .val (.int u1), .val (.int u2), .val (.int u3), .val (.int u4), .val (.int (0 : Int32)), .val (.int (0 : Int32)), .val (.ref g1), .val (.ref g2), .unset, .unset] [(.int u3), (.int (2 : Int32)), (.ref ac), (.ref ac)]))
      obtain ⟨cl144, Ar144, q144, S144, M144, H144, G144⟩ := id A_3
      obtain ⟨T144, h144, X144, e144, W144, st144⟩ := stC X143 hx hZ e143 Ar144 (j := (2 : Int32)) (inb_of S144 ⟨by decide, by decide⟩) (g := (mkF m 248 #[.val (.int p0), .val (.int p1), .val (.int p2), .val (.int u1), .val (.int u2), .val (.int u3), .val (.int u4), .val (.int (0 : Int32)), .val (.int (0 : Int32)), .val (.ref g1), .val (.ref g2), .unset, .unset] [(.int u3), (.int (2 : Int32)), (.ref ac), (.ref ac)])) rfl rfl (hb hby at_248)
      have N144 := Fr.snoc X144 N143 ge_ac
      have E_1 := E_1.wr W144
      have G_1 := G_1.other W144 (Or.inl ne_g1_ac)
      have H_1 := H_1.other W144 (Or.inl ne_g1_ac)
      have V_1 := V_1.other W144 ne_t1_ac
      have E_2 := E_2.wr W144
      have G_2 := G_2.other W144 (Or.inl ne_g2_ac)
      have H_2 := H_2.other W144 (Or.inl ne_g2_ac)
      have V_2 := V_2.other W144 ne_t2_ac
      have QSf_ac := Safe.wr W144 Sf_ac Hr.1 Sf_ac
      have Od := Od.wr W144 ge_ac
      have Hr := Hr.trans (CHr.wr W144 Sf_ac Hr.1)
      have hk := Nat.le_trans hk (Keep.of_wr W144).1
      have Sf_ac := QSf_ac
      refine own_stW st144 ?_
      show own_GoW p e below s Z consts_1 _ _ _ (T144.setTop (mkF m 249 #[.val (.int p0), .val (.int p1), .val (.int p2), .val (.int u1), .val (.int u2), .val (.int u3), .val (.int u4), .val (.int (0 : Int32)), .val (.int (0 : Int32)), .val (.ref g1), .val (.ref g2), .unset, .unset] [(.ref ac)]))
      have A_3 : Arv Z h144 ac k141 .char (3 : Int32) [(.int (nar .char u1)), (.int (nar .char (47 : Int32))), (.int (nar .char u3))] (.int (0 : Int32)) := Arv.set Ar144 q144 S144 M144 H144 G144 (fits_nar_char _) W144 2 rfl (Nat.le_of_ble_eq_true rfl)
      rw [nu1, nu3, own_n47] at A_3
      refine own_stW (fun t9 k9 => XS.astore X144.here hx rfl (hb hby at_249) rfl rfl (l' := #[.val (.int p0), .val (.int p1), .val (.int p2), .val (.int u1), .val (.int u2), .val (.int u3), .val (.int u4), .val (.int (0 : Int32)), .val (.int (0 : Int32)), .val (.ref g1), .val (.ref g2), .val (.ref ac), .unset]) rfl k9) ?_
      show own_GoW p e below s Z consts_1 _ _ _ (T144.setTop (mkF m 251 #[.val (.int p0), .val (.int p1), .val (.int p2), .val (.int u1), .val (.int u2), .val (.int u3), .val (.int u4), .val (.int (0 : Int32)), .val (.int (0 : Int32)), .val (.ref g1), .val (.ref g2), .val (.ref ac), .unset] []))
      obtain ⟨T145, h145, X145, e145, E145, A145, D145, U145, st145⟩ := newO X144 hx hZ hown (hw _ (List.mem_of_getElem? (i := 44) rfl)) (hw _ (List.mem_of_getElem? (i := 45) rfl)) (hw _ (List.mem_of_getElem? (i := 46) rfl)) e144 (g := (mkF m 251 #[.val (.int p0), .val (.int p1), .val (.int p2), .val (.int u1), .val (.int u2), .val (.int u3), .val (.int u4), .val (.int (0 : Int32)), .val (.int (0 : Int32)), .val (.ref g1), .val (.ref g2), .val (.ref ac), .unset] [])) rfl (hb hby at_251) (by decide) (by decide)
      obtain ⟨gn, g145⟩ : ∃ z, z = h144.size := ⟨_, rfl⟩
      rw [← g145] at A145 D145 st145 U145
      have ne_g1_gn : g1 ≠ gn := Nat.ne_of_lt (Nat.lt_of_lt_of_le E_1.lt (Nat.le_of_eq g145.symm))
      have ne_t1_gn : t1 ≠ gn := Nat.ne_of_lt (Nat.lt_of_lt_of_le V_1.lt (Nat.le_of_eq g145.symm))
      have ne_g2_gn : g2 ≠ gn := Nat.ne_of_lt (Nat.lt_of_lt_of_le E_2.lt (Nat.le_of_eq g145.symm))
      have ne_t2_gn : t2 ≠ gn := Nat.ne_of_lt (Nat.lt_of_lt_of_le V_2.lt (Nat.le_of_eq g145.symm))
      have ne_ac_gn : ac ≠ gn := Nat.ne_of_lt (Nat.lt_of_lt_of_le A_3.lt (Nat.le_of_eq g145.symm))
      have ge_gn : n0 ≤ gn := Nat.le_trans (own_z0 Od) (Nat.le_of_eq g145.symm)
      have Sf_gn : Safe Z consts_1 s.vm h144 gn := Safe.new (Nat.le_of_eq g145.symm)
      have E_1 := E_1.ext E145
      have G_1 := G_1.ext E145
      have H_1 := H_1.ext E145
      have V_1 := V_1.ext E145
      have E_2 := E_2.ext E145
      have G_2 := G_2.ext E145
      have H_2 := H_2.ext E145
      have V_2 := V_2.ext E145
      have Sf_ac := Safe.ext E145 Hr.1 Sf_ac
      have A_3 := A_3.ext E145
      have Sf_gn := Safe.ext E145 Hr.1 Sf_gn
      have Od := Od.ext E145
      have Hr := Hr.trans (CHr.ext E145 Hr.1)
      have hk := Nat.le_trans hk E145.1
      refine own_stW st145 ?_
      show own_GoW p e below s Z consts_1 _ _ _ (T145.setTop (mkF m 254 #[.val (.int p0), .val (.int p1), .val (.int p2), .val (.int u1), .val (.int u2), .val (.int u3), .val (.int u4), .val (.int (0 : Int32)), .val (.int (0 : Int32)), .val (.ref g1), .val (.ref g2), .val (.ref ac), .unset] [(.ref gn)]))
      have E_gn : Exa Z h145 gn "com/example/bluehead/bluehead/net/GroupName" := A145
      have A_c : Fld Z h145 gn "com/example/bluehead/bluehead/net/GroupName" "cluster" "Ljava/lang/String;" .null := D145 (Or.inr (hw _ (List.mem_of_getElem? (i := 70) rfl))) (ty := (.object "java/lang/String")) (by decide)
      have A_g : Fld Z h145 gn "com/example/bluehead/bluehead/net/GroupName" "group" "Ljava/lang/String;" .null := D145 (Or.inr (hw _ (List.mem_of_getElem? (i := 72) rfl))) (ty := (.object "java/lang/String")) (by decide)
      refine own_stW (fun t9 k9 => XS.dup X145.here hx rfl (hb hby at_254) rfl rfl k9) ?_
      show own_GoW p e below s Z consts_1 _ _ _ (T145.setTop (mkF m 255 #[.val (.int p0), .val (.int p1), .val (.int p2), .val (.int u1), .val (.int u2), .val (.int u3), .val (.int u4), .val (.int (0 : Int32)), .val (.int (0 : Int32)), .val (.ref g1), .val (.ref g2), .val (.ref ac), .unset] [(.ref gn), (.ref gn)]))
      refine own_stW (fun t9 k9 => XS.aload X145.here hx rfl (hb hby at_255) rfl rfl k9) ?_
      show own_GoW p e below s Z consts_1 _ _ _ (T145.setTop (mkF m 257 #[.val (.int p0), .val (.int p1), .val (.int p2), .val (.int u1), .val (.int u2), .val (.int u3), .val (.int u4), .val (.int (0 : Int32)), .val (.int (0 : Int32)), .val (.ref g1), .val (.ref g2), .val (.ref ac), .unset] [(.ref g1), (.ref gn), (.ref gn)]))
      refine own_stW (fun t9 k9 => XS.aload X145.here hx rfl (hb hby at_257) rfl rfl k9) ?_
      show own_GoW p e below s Z consts_1 _ _ _ (T145.setTop (mkF m 259 #[.val (.int p0), .val (.int p1), .val (.int p2), .val (.int u1), .val (.int u2), .val (.int u3), .val (.int u4), .val (.int (0 : Int32)), .val (.int (0 : Int32)), .val (.ref g1), .val (.ref g2), .val (.ref ac), .unset] [(.ref g2), (.ref g1), (.ref gn), (.ref gn)]))
      obtain ⟨_, T146, h146, L146, X146, e146, ⟨rfl, Ng, Kg, E_q, B_c, B_g⟩, hS146, hg146, hZ146, hown146, R146, st146⟩ := own_callIW X145 hx hZ hown hS hk rfl (hw _ (List.mem_of_getElem? (i := 47) rfl)) (hw _ (List.mem_of_getElem? (i := 48) rfl)) (hw _ (List.mem_of_getElem? (i := 49) rfl)) (by decide) (own_payW (W := 1) (K := (fun _ _ _ _ _ => True)) (own_rm_gni l Z a0 hw hEL [] gn g1 g2 t1 t2 k1 k2 (1 : Int32) (1 : Int32) [(.int (u1.toInt8.toInt32))] [(.int (u3.toInt8.toInt32))] h145 n0 Od E_gn A_c A_g ge_gn E_1 G_1 V_1 (by decide) E_2 G_2 V_2 (by decide)) (fun _ _ _ _ _ _ _ _ _ => trivial) hZ (hw _ (List.mem_of_getElem? (i := 49) rfl)) (hw _ (List.mem_of_getElem? (i := 46) rfl)) (by decide) (by decide) hEL Hr.1 (own_sfS E_gn.lt Sf_gn own_sf0)) e145 (a := gn) (g := (mkF m 259 #[.val (.int p0), .val (.int p1), .val (.int p2), .val (.int u1), .val (.int u2), .val (.int u3), .val (.int u4), .val (.int (0 : Int32)), .val (.int (0 : Int32)), .val (.ref g1), .val (.ref g2), .val (.ref ac), .unset] [(.ref g2), (.ref g1), (.ref gn), (.ref gn)])) rfl (by rw [hml]; rfl) (argsL := [(.ref g1), (.ref g2)]) (rest := [(.ref gn)]) rfl (lenOf own_pd22 rfl) rfl (by show 2 * 0 + _ ≤ _; exact Nat.le_of_eq rfl) (hb hby at_259) (by decide) (by decide)
      have N146 := Fr.app N144 Ng
      have QSf_ac := CHr.safe R146 A_3.lt Sf_ac
      have QSf_gn := CHr.safe R146 E_gn.lt Sf_gn
      have E_1 := E_1.keep Kg
      have G_1 := G_1.keep Kg (ninS ne_g1_gn nin0)
      have H_1 := H_1.keep Kg (ninS ne_g1_gn nin0)
      have V_1 := V_1.keep Kg (ninS ne_t1_gn nin0)
      have E_2 := E_2.keep Kg
      have G_2 := G_2.keep Kg (ninS ne_g2_gn nin0)
      have H_2 := H_2.keep Kg (ninS ne_g2_gn nin0)
      have V_2 := V_2.keep Kg (ninS ne_t2_gn nin0)
      have A_3 := A_3.keep Kg (ninS ne_ac_gn nin0)
      have E_gn := E_gn.keep Kg
      have Od := Od.keep Kg (allS ge_gn all0)
      have Sf_ac := QSf_ac
      have Sf_gn := QSf_gn
      have Hr := Hr.trans R146
      have hS := hS146
      have hk : h146.size ≤ h146.size := Nat.le_refl _
      have hZ := hZ146
      have hown := hown146
      refine own_stW st146 ?_
      show own_GoW p e below s Z consts_1 _ _ _ (T146.setTop (mkF m 262 #[.val (.int p0), .val (.int p1), .val (.int p2), .val (.int u1), .val (.int u2), .val (.int u3), .val (.int u4), .val (.int (0 : Int32)), .val (.int (0 : Int32)), .val (.ref g1), .val (.ref g2), .val (.ref ac), .unset] [(.ref gn)]))
      obtain ⟨_, T147, h147, L147, X147, e147, ⟨Nt, Kt, y, tb, kb, rfl, gy, E_y, Y_k, Y_v, V_y⟩, hS147, hg147, hZ147, hown147, R147, st147⟩ := own_callVW X146 hx hZ hown hS hk (hw _ (List.mem_of_getElem? (i := 73) rfl)) (hw _ (List.mem_of_getElem? (i := 74) rfl)) (hw _ (List.mem_of_getElem? (i := 76) rfl)) (hw _ (List.mem_of_getElem? (i := 75) rfl)) (by decide) (own_payW (W := 0) (K := (fun _ _ _ _ _ => True)) (own_rm_gts11 l Z a0 hw hEL [] gn g1 g2 t1 t2 k1 k2 (.int (u1.toInt8.toInt32)) (.int (u3.toInt8.toInt32)) G h146 n0 Od B_c B_g E_1 G_1 H_1 V_1 E_2 G_2 H_2 V_2 O2 P5) (fun _ _ _ _ _ _ _ _ _ => trivial) hZ (hw _ (List.mem_of_getElem? (i := 77) rfl)) (hw _ (List.mem_of_getElem? (i := 46) rfl)) (by decide) (by decide) hEL Hr.1 own_sf0) e146 (a := gn) E_gn (g := (mkF m 262 #[.val (.int p0), .val (.int p1), .val (.int p2), .val (.int u1), .val (.int u2), .val (.int u3), .val (.int u4), .val (.int (0 : Int32)), .val (.int (0 : Int32)), .val (.ref g1), .val (.ref g2), .val (.ref ac), .unset] [(.ref gn)])) rfl (by rw [hml]; rfl) (argsL := []) (rest := []) rfl (lenOf own_pd20 rfl) rfl (by show 2 * 0 + _ ≤ _; exact Nat.le_of_eq rfl) (hb hby at_262) (by decide) (by decide)
      have N147 := Fr.app N146 Nt
      have ne_g1_y : g1 ≠ y := Nat.ne_of_lt (Nat.lt_of_lt_of_le E_1.lt gy)
      have ne_t1_y : t1 ≠ y := Nat.ne_of_lt (Nat.lt_of_lt_of_le V_1.lt gy)
      have ne_g2_y : g2 ≠ y := Nat.ne_of_lt (Nat.lt_of_lt_of_le E_2.lt gy)
      have ne_t2_y : t2 ≠ y := Nat.ne_of_lt (Nat.lt_of_lt_of_le V_2.lt gy)
      have ne_ac_y : ac ≠ y := Nat.ne_of_lt (Nat.lt_of_lt_of_le A_3.lt gy)
      have ne_gn_y : gn ≠ y := Nat.ne_of_lt (Nat.lt_of_lt_of_le E_gn.lt gy)
      have ge_y : n0 ≤ y := Nat.le_trans (own_z0 Od) gy
      have QSf_ac := CHr.safe R147 A_3.lt Sf_ac
      have QSf_gn := CHr.safe R147 E_gn.lt Sf_gn
      have E_1 := E_1.keep Kt
      have G_1 := G_1.keep Kt nin0
      have H_1 := H_1.keep Kt nin0
      have V_1 := V_1.keep Kt nin0
      have E_2 := E_2.keep Kt
      have G_2 := G_2.keep Kt nin0
      have H_2 := H_2.keep Kt nin0
      have V_2 := V_2.keep Kt nin0
      have A_3 := A_3.keep Kt nin0
      have E_gn := E_gn.keep Kt
      have B_c := B_c.keep Kt nin0
      have B_g := B_g.keep Kt nin0
      have Od := Od.keep Kt all0
      have Sf_ac := QSf_ac
      have Sf_gn := QSf_gn
      have Hr := Hr.trans R147
      have hS := hS147
      have hk : h147.size ≤ h147.size := Nat.le_refl _
      have hZ := hZ147
      have hown := hown147
      refine own_stW st147 ?_
      show own_GoW p e below s Z consts_1 _ _ _ (T147.setTop (mkF m 265 #[.val (.int p0), .val (.int p1), .val (.int p2), .val (.int u1), .val (.int u2), .val (.int u3), .val (.int u4), .val (.int (0 : Int32)), .val (.int (0 : Int32)), .val (.ref g1), .val (.ref g2), .val (.ref ac), .unset] [(.ref y)]))
      refine own_stW (fun t9 k9 => XS.astore X147.here hx rfl (hb hby at_265) rfl rfl (l' := #[.val (.int p0), .val (.int p1), .val (.int p2), .val (.int u1), .val (.int u2), .val (.int u3), .val (.int u4), .val (.int (0 : Int32)), .val (.int (0 : Int32)), .val (.ref g1), .val (.ref g2), .val (.ref ac), .val (.ref y)]) rfl k9) ?_
      show own_GoW p e below s Z consts_1 _ _ _ (T147.setTop (mkF m 267 #[.val (.int p0), .val (.int p1), .val (.int p2), .val (.int u1), .val (.int u2), .val (.int u3), .val (.int u4), .val (.int (0 : Int32)), .val (.int (0 : Int32)), .val (.ref g1), .val (.ref g2), .val (.ref ac), .val (.ref y)] []))
      refine own_stW (fun t9 k9 => XS.aload X147.here hx rfl (hb hby at_267) rfl rfl k9) ?_
      show own_GoW p e below s Z consts_1 _ _ _ (T147.setTop (mkF m 269 #[.val (.int p0), .val (.int p1), .val (.int p2), .val (.int u1), .val (.int u2), .val (.int u3), .val (.int u4), .val (.int (0 : Int32)), .val (.int (0 : Int32)), .val (.ref g1), .val (.ref g2), .val (.ref ac), .val (.ref y)] [(.ref y)]))
      obtain ⟨T148, h148, X148, e148, E148, A148, D148, U148, st148⟩ := newO X147 hx hZ hown (hw _ (List.mem_of_getElem? (i := 26) rfl)) (hw _ (List.mem_of_getElem? (i := 10) rfl)) (hw _ (List.mem_of_getElem? (i := 2) rfl)) e147 (g := (mkF m 269 #[.val (.int p0), .val (.int p1), .val (.int p2), .val (.int u1), .val (.int u2), .val (.int u3), .val (.int u4), .val (.int (0 : Int32)), .val (.int (0 : Int32)), .val (.ref g1), .val (.ref g2), .val (.ref ac), .val (.ref y)] [(.ref y)])) rfl (hb hby at_269) (by decide) (by decide)
      obtain ⟨g3, g148⟩ : ∃ z, z = h147.size := ⟨_, rfl⟩
      rw [← g148] at A148 D148 st148 U148
      have ne_ac_g3 : ac ≠ g3 := Nat.ne_of_lt (Nat.lt_of_lt_of_le A_3.lt (Nat.le_of_eq g148.symm))
      have ne_y_g3 : y ≠ g3 := Nat.ne_of_lt (Nat.lt_of_lt_of_le E_y.lt (Nat.le_of_eq g148.symm))
      have ne_tb_g3 : tb ≠ g3 := Nat.ne_of_lt (Nat.lt_of_lt_of_le V_y.lt (Nat.le_of_eq g148.symm))
      have ge_g3 : n0 ≤ g3 := Nat.le_trans (own_z0 Od) (Nat.le_of_eq g148.symm)
      have Sf_g3 : Safe Z consts_1 T147.vm h147 g3 := Safe.new (Nat.le_of_eq g148.symm)
      have Sf_ac := Safe.ext E148 Hr.1 Sf_ac
      have A_3 := A_3.ext E148
      have E_y := E_y.ext E148
      have Y_k := Y_k.ext E148
      have Y_v := Y_v.ext E148
      have V_y := V_y.ext E148
      have Sf_g3 := Safe.ext E148 Hr.1 Sf_g3
      have Od := Od.ext E148
      have Hr := Hr.trans (CHr.ext E148 Hr.1)
      have hk := Nat.le_trans hk E148.1
      refine own_stW st148 ?_
      show own_GoW p e below s Z consts_1 _ _ _ (T148.setTop (mkF m 272 #[.val (.int p0), .val (.int p1), .val (.int p2), .val (.int u1), .val (.int u2), .val (.int u3), .val (.int u4), .val (.int (0 : Int32)), .val (.int (0 : Int32)), .val (.ref g1), .val (.ref g2), .val (.ref ac), .val (.ref y)] [(.ref g3), (.ref y)]))
      have E_g3 : Exa Z h148 g3 "java/lang/String" := A148
      have F_v : Fld Z h148 g3 "java/lang/String" "value" "[B" .null := D148 (Or.inr (hw _ (List.mem_of_getElem? (i := 23) rfl))) (ty := (.array .byte)) (by decide)
      have F_k : Fld Z h148 g3 "java/lang/String" "coder" "B" (.int (0 : Int32)) := D148 (Or.inr (hw _ (List.mem_of_getElem? (i := 25) rfl))) (ty := .byte) (by decide)
      refine own_stW (fun t9 k9 => XS.dup X148.here hx rfl (hb hby at_272) rfl rfl k9) ?_
      show own_GoW p e below s Z consts_1 _ _ _ (T148.setTop (mkF m 273 #[.val (.int p0), .val (.int p1), .val (.int p2), .val (.int u1), .val (.int u2), .val (.int u3), .val (.int u4), .val (.int (0 : Int32)), .val (.int (0 : Int32)), .val (.ref g1), .val (.ref g2), .val (.ref ac), .val (.ref y)] [(.ref g3), (.ref g3), (.ref y)]))
      refine own_stW (fun t9 k9 => XS.aload X148.here hx rfl (hb hby at_273) rfl rfl k9) ?_
      show own_GoW p e below s Z consts_1 _ _ _ (T148.setTop (mkF m 275 #[.val (.int p0), .val (.int p1), .val (.int p2), .val (.int u1), .val (.int u2), .val (.int u3), .val (.int u4), .val (.int (0 : Int32)), .val (.int (0 : Int32)), .val (.ref g1), .val (.ref g2), .val (.ref ac), .val (.ref y)] [(.ref ac), (.ref g3), (.ref g3), (.ref y)]))
      have hp3 : ∀ c ∈ ([u1, (47 : Int32), u3] : List Int32), ¬ c < 0 ∧ ¬ (255 : Int32) < c := by
        intro c hc
        simp only [List.mem_cons, List.not_mem_nil, or_false] at hc
        rcases hc with rfl | rfl | rfl
        all_goals first | assumption | decide
      obtain ⟨_, T149, h149, L149, X149, e149, ⟨rfl, Nb3, Kb3, Eb3, H_3, t3, k3, gt3, gu3, ntb3, G_3, Vb3⟩, st149⟩ := own_backI X148 hx hZ hown rfl (hw _ (List.mem_of_getElem? (i := 28) rfl)) (hw _ (List.mem_of_getElem? (i := 29) rfl)) (hw _ (List.mem_of_getElem? (i := 30) rfl)) (by decide) (StrChars.Road.backV (s := s.setVm T147.vm) (W := 2) hZ hws (kI := 4) (hw _ (List.mem_of_getElem? (i := 10) rfl)) (cs := [u1, (47 : Int32), u3]) (bs := ([u1, (47 : Int32), u3] : List Int32).map (fun c => c.toInt8.toInt32)) (n := 3) ge_g3 (own_z0 Od) E_g3 F_v F_k A_3 (O2.ext Od.2) P5 rfl rfl (by decide) (by decide) hp3 rfl (by decide) (by decide)) e148 (a := g3) (W := 2) (g := (mkF m 275 #[.val (.int p0), .val (.int p1), .val (.int p2), .val (.int u1), .val (.int u2), .val (.int u3), .val (.int u4), .val (.int (0 : Int32)), .val (.int (0 : Int32)), .val (.ref g1), .val (.ref g2), .val (.ref ac), .val (.ref y)] [(.ref ac), (.ref g3), (.ref g3), (.ref y)])) rfl (by rw [hml]; rfl) (argsL := [(.ref ac)]) (rest := [(.ref g3), (.ref y)]) rfl (lenOf own_pd23 rfl) rfl (by show 2 * 0 + _ ≤ _; exact Nat.le_of_eq rfl) (hb hby at_275) (by decide) (by decide)
      have N149 := Fr.app N147 Nb3
      have ne_ac_t3 : ac ≠ t3 := Nat.ne_of_lt (Nat.lt_of_lt_of_le A_3.lt gu3)
      have ne_y_t3 : y ≠ t3 := Nat.ne_of_lt (Nat.lt_of_lt_of_le E_y.lt gu3)
      have ne_tb_t3 : tb ≠ t3 := Nat.ne_of_lt (Nat.lt_of_lt_of_le V_y.lt gu3)
      have ne_g3_t3 : g3 ≠ t3 := Nat.ne_of_lt (Nat.lt_of_lt_of_le E_g3.lt gu3)
      have ge_t3 : n0 ≤ t3 := Nat.le_trans (own_z0 Od) gu3
      have QSf_ac := Safe.keep Kb3 (sfS Sf_g3 sf0) Hr.1 Sf_ac
      have A_3 := A_3.keep Kb3 (ninS ne_ac_g3 nin0)
      have E_y := E_y.keep Kb3
      have Y_k := Y_k.keep Kb3 (ninS ne_y_g3 nin0)
      have Y_v := Y_v.keep Kb3 (ninS ne_y_g3 nin0)
      have V_y := V_y.keep Kb3 (ninS ne_tb_g3 nin0)
      have QSf_g3 := Safe.keep Kb3 (sfS Sf_g3 sf0) Hr.1 Sf_g3
      have E_g3 := E_g3.keep Kb3
      have Od := Od.keep Kb3 (allS ge_g3 all0)
      have Hr0 := Hr.1
      have Hr := Hr.trans (CHr.keep Kb3 (sfS Sf_g3 sf0) Hr.1)
      have hk := Nat.le_trans hk Kb3.1
      have SFL := (sfS Sf_g3 sf0)
      have Sf_ac := QSf_ac
      have Sf_g3 := QSf_g3
      have Sf_t3 := Safe.keep Kb3 SFL Hr0 (Safe.new gu3)
      refine own_stW st149 ?_
      show own_GoW p e below s Z consts_1 _ _ _ (T149.setTop (mkF m 278 #[.val (.int p0), .val (.int p1), .val (.int p2), .val (.int u1), .val (.int u2), .val (.int u3), .val (.int u4), .val (.int (0 : Int32)), .val (.int (0 : Int32)), .val (.ref g1), .val (.ref g2), .val (.ref ac), .val (.ref y)] [(.ref g3), (.ref y)]))
      have V_3 : Arv Z h149 t3 k3 .byte (3 : Int32) [(.int (u1.toInt8.toInt32)), (.int ((47 : Int32).toInt8.toInt32)), (.int (u3.toInt8.toInt32))] (.int (0 : Int32)) := Vb3
      have hw5 : ∀ c ∈ ([u1, (47 : Int32), u3] : List Int32), ¬ c < 0 ∧ ¬ (65535 : Int32) < c := fun c hc => ⟨(hp3 c hc).1, own_65 (hp3 c hc).2⟩
      have hcd : StrChars.Road.CodA ([u1, (47 : Int32), u3] : List Int32) 0 (3 : Int32) [(.int (u1.toInt8.toInt32)), (.int ((47 : Int32).toInt8.toInt32)), (.int (u3.toInt8.toInt32))] := StrChars.Road.codOf (n := 3) rfl (fun c hc => (hp3 c hc).2)
      have V_z : Arv Z h149 tb kb .byte (3 : Int32) [(.int (u1.toInt8.toInt32)), (.int ((47 : Int32).toInt8.toInt32)), (.int (u3.toInt8.toInt32))] (.int (0 : Int32)) := by rw [own_b47]; exact V_y
      obtain ⟨_, T150, h150, L150, X150, e150, ⟨rfl, rfl, hu⟩, st150⟩ := own_backV X149 hx hZ hown (hw _ (List.mem_of_getElem? (i := 189) rfl)) (hw _ (List.mem_of_getElem? (i := 190) rfl)) (notFace_of_selects (args := #[]) (mvT hZ (hw _ (List.mem_of_getElem? (i := 192) rfl)))) (hw _ (List.mem_of_getElem? (i := 192) rfl)) (hw _ (List.mem_of_getElem? (i := 191) rfl)) (by decide) (own_eqS (s := s.setVm T147.vm) (W := 0) hZ hwe (kI := 4) (hw _ (List.mem_of_getElem? (i := 10) rfl)) E_y Y_v Y_k V_z hcd hw5 (show 3 ≤ 4000 by decide) E_g3 G_3 H_3 V_3 hcd (O2.ext Od.2) P5 (by decide) (by decide)) e149 (b := y) E_y (Qy := (fun v h' L => v = some (.int (1 : Int32)) ∧ L = [] ∧ h' = h149)) (W := 0) (g := (mkF m 278 #[.val (.int p0), .val (.int p1), .val (.int p2), .val (.int u1), .val (.int u2), .val (.int u3), .val (.int u4), .val (.int (0 : Int32)), .val (.int (0 : Int32)), .val (.ref g1), .val (.ref g2), .val (.ref ac), .val (.ref y)] [(.ref g3), (.ref y)])) rfl (by rw [hml]; rfl) (argsL := [(.ref g3)]) (rest := []) rfl (lenOf own_pd24 rfl) rfl (by show 2 * 0 + _ ≤ _; exact Nat.le_of_eq rfl) (hb hby at_278) (by decide) (by decide)
      have N150 := Fr.app N149 (Fr.nil n0)
      refine own_stW st150 ?_
      show own_GoW p e below s Z consts_1 _ _ _ (T150.setTop (mkF m 281 #[.val (.int p0), .val (.int p1), .val (.int p2), .val (.int u1), .val (.int u2), .val (.int u3), .val (.int u4), .val (.int (0 : Int32)), .val (.int (0 : Int32)), .val (.ref g1), .val (.ref g2), .val (.ref ac), .val (.ref y)] [(.int (1 : Int32))]))
      exact own_retNW X150 hx hlk hS (by rw [(e150.trans hu)]; exact hk) hZ hEL (by rw [hh, (e150.trans hu)]; exact Hr) (t := .boolean) Bd.returns (by simp) (hb hby at_281) (by decide) (by decide) (by rw [(e150.trans hu)]; exact ⟨rfl, N150⟩)
    · skip
      refine own_stW (fun t9 k9 => XS.ifNo X0.here hx rfl (hb hby at_53) rfl ((if0 _ _).trans (feq (hA2 : ¬ ((p2 &&& (2 : Int32)) = (0 : Int32)))).1) k9) ?_
      show own_GoW p e below s Z consts_1 _ _ _ (s₁.setTop (mkF m 56 #[.val (.int p0), .val (.int p1), .val (.int p2), .val (.int u1), .val (.int u2), .val (.int u3), .val (.int u4), .val (.int (0 : Int32)), .unset, .unset, .unset, .unset, .unset] []))
      refine own_stW (fun t9 k9 => XS.iconst X0.here hx rfl (hb hby at_56) k9) ?_
      show own_GoW p e below s Z consts_1 _ _ _ (s₁.setTop (mkF m 57 #[.val (.int p0), .val (.int p1), .val (.int p2), .val (.int u1), .val (.int u2), .val (.int u3), .val (.int u4), .val (.int (0 : Int32)), .unset, .unset, .unset, .unset, .unset] [(.int (1 : Int32))]))
      refine own_stW (fun t9 k9 => XS.goto X0.here hx rfl (pc0 := 57) (pc' := 61) rfl (hb hby at_57) (by decide) (by decide) k9) ?_
      show own_GoW p e below s Z consts_1 _ _ _ (s₁.setTop (mkF m 61 #[.val (.int p0), .val (.int p1), .val (.int p2), .val (.int u1), .val (.int u2), .val (.int u3), .val (.int u4), .val (.int (0 : Int32)), .unset, .unset, .unset, .unset, .unset] [(.int (1 : Int32))]))
      refine own_stW (fun t9 k9 => XS.istore X0.here hx rfl (hb hby at_61) rfl (l' := #[.val (.int p0), .val (.int p1), .val (.int p2), .val (.int u1), .val (.int u2), .val (.int u3), .val (.int u4), .val (.int (0 : Int32)), .val (.int (1 : Int32)), .unset, .unset, .unset, .unset]) rfl k9) ?_
      show own_GoW p e below s Z consts_1 _ _ _ (s₁.setTop (mkF m 63 #[.val (.int p0), .val (.int p1), .val (.int p2), .val (.int u1), .val (.int u2), .val (.int u3), .val (.int u4), .val (.int (0 : Int32)), .val (.int (1 : Int32)), .unset, .unset, .unset, .unset] []))
      refine own_stW (fun t9 k9 => XS.iload X0.here hx rfl (hb hby at_63) rfl  k9) ?_
      show own_GoW p e below s Z consts_1 _ _ _ (s₁.setTop (mkF m 65 #[.val (.int p0), .val (.int p1), .val (.int p2), .val (.int u1), .val (.int u2), .val (.int u3), .val (.int u4), .val (.int (0 : Int32)), .val (.int (1 : Int32)), .unset, .unset, .unset, .unset] [(.int (0 : Int32))]))
      refine own_stW (fun t9 k9 => XS.ifYes X0.here hx rfl (pc0 := 65) (pc' := 90) rfl (hb hby at_65) rfl (by decide) (by decide) (by decide) k9) ?_
      show own_GoW p e below s Z consts_1 _ _ _ (s₁.setTop (mkF m 90 #[.val (.int p0), .val (.int p1), .val (.int p2), .val (.int u1), .val (.int u2), .val (.int u3), .val (.int u4), .val (.int (0 : Int32)), .val (.int (1 : Int32)), .unset, .unset, .unset, .unset] []))
      refine own_stW (fun t9 k9 => XS.iloadN X0.here hx rfl (hb hby at_90) rfl  k9) ?_
      show own_GoW p e below s Z consts_1 _ _ _ (s₁.setTop (mkF m 91 #[.val (.int p0), .val (.int p1), .val (.int p2), .val (.int u1), .val (.int u2), .val (.int u3), .val (.int u4), .val (.int (0 : Int32)), .val (.int (1 : Int32)), .unset, .unset, .unset, .unset] [(.int u1)]))
      obtain ⟨_, T151, h151, L151, X151, e151, ⟨Na1, Ka1, g1, t1, k1, rfl, gg1, gt1, E_1, H_1, G_1, V_1⟩, st151⟩ := own_callS X0 hx hZ hown (hw _ (List.mem_of_getElem? (i := 0) rfl)) (hw _ (List.mem_of_getElem? (i := 1) rfl)) (hw _ (List.mem_of_getElem? (i := 2) rfl)) (hw _ (List.mem_of_getElem? (i := 3) rfl)) (by decide) (own_rm_vof l Z a0 hw [] u1 G h0 n0 Od bu1.2 O2 P5) (by decide) (by decide) e0 (W := 0) (g := (mkF m 91 #[.val (.int p0), .val (.int p1), .val (.int p2), .val (.int u1), .val (.int u2), .val (.int u3), .val (.int u4), .val (.int (0 : Int32)), .val (.int (1 : Int32)), .unset, .unset, .unset, .unset] [(.int u1)])) rfl (by rw [hml]; rfl) (argsL := [(.int u1)]) (rest := []) rfl (lenOf own_pd21 rfl) rfl (by show 2 * 0 + _ ≤ _; exact Nat.le_of_eq rfl) (hb hby at_91) (by decide) (by decide)
      have N151 := Fr.app N0 Na1
      have ge_g1 : n0 ≤ g1 := Nat.le_trans (own_z0 Od) gg1
      have ge_t1 : n0 ≤ t1 := Nat.le_trans (own_z0 Od) gt1
      have Od := Od.keep Ka1 all0
      have Hr0 := Hr.1
      have Hr := Hr.trans (CHr.keep Ka1 sf0 Hr.1)
      have hk := Nat.le_trans hk Ka1.1
      have Sf_g1 := Safe.keep Ka1 sf0 Hr0 (Safe.new gg1)
      have Sf_t1 := Safe.keep Ka1 sf0 Hr0 (Safe.new gt1)
      refine own_stW st151 ?_
      show own_GoW p e below s Z consts_1 _ _ _ (T151.setTop (mkF m 94 #[.val (.int p0), .val (.int p1), .val (.int p2), .val (.int u1), .val (.int u2), .val (.int u3), .val (.int u4), .val (.int (0 : Int32)), .val (.int (1 : Int32)), .unset, .unset, .unset, .unset] [(.ref g1)]))
      refine own_stW (fun t9 k9 => XS.astore X151.here hx rfl (hb hby at_94) rfl rfl (l' := #[.val (.int p0), .val (.int p1), .val (.int p2), .val (.int u1), .val (.int u2), .val (.int u3), .val (.int u4), .val (.int (0 : Int32)), .val (.int (1 : Int32)), .val (.ref g1), .unset, .unset, .unset]) rfl k9) ?_
      show own_GoW p e below s Z consts_1 _ _ _ (T151.setTop (mkF m 96 #[.val (.int p0), .val (.int p1), .val (.int p2), .val (.int u1), .val (.int u2), .val (.int u3), .val (.int u4), .val (.int (0 : Int32)), .val (.int (1 : Int32)), .val (.ref g1), .unset, .unset, .unset] []))
      refine own_stW (fun t9 k9 => XS.iload X151.here hx rfl (hb hby at_96) rfl  k9) ?_
      show own_GoW p e below s Z consts_1 _ _ _ (T151.setTop (mkF m 98 #[.val (.int p0), .val (.int p1), .val (.int p2), .val (.int u1), .val (.int u2), .val (.int u3), .val (.int u4), .val (.int (0 : Int32)), .val (.int (1 : Int32)), .val (.ref g1), .unset, .unset, .unset] [(.int (1 : Int32))]))
      refine own_stW (fun t9 k9 => XS.ifNo X151.here hx rfl (hb hby at_98) rfl (by decide) k9) ?_
      show own_GoW p e below s Z consts_1 _ _ _ (T151.setTop (mkF m 101 #[.val (.int p0), .val (.int p1), .val (.int p2), .val (.int u1), .val (.int u2), .val (.int u3), .val (.int u4), .val (.int (0 : Int32)), .val (.int (1 : Int32)), .val (.ref g1), .unset, .unset, .unset] []))
      obtain ⟨T152, h152, X152, e152, E152, A152, D152, U152, st152⟩ := newO X151 hx hZ hown (hw _ (List.mem_of_getElem? (i := 26) rfl)) (hw _ (List.mem_of_getElem? (i := 10) rfl)) (hw _ (List.mem_of_getElem? (i := 2) rfl)) e151 (g := (mkF m 101 #[.val (.int p0), .val (.int p1), .val (.int p2), .val (.int u1), .val (.int u2), .val (.int u3), .val (.int u4), .val (.int (0 : Int32)), .val (.int (1 : Int32)), .val (.ref g1), .unset, .unset, .unset] [])) rfl (hb hby at_101) (by decide) (by decide)
      obtain ⟨g2, g152⟩ : ∃ z, z = h151.size := ⟨_, rfl⟩
      rw [← g152] at A152 D152 st152 U152
      have ne_g1_g2 : g1 ≠ g2 := Nat.ne_of_lt (Nat.lt_of_lt_of_le E_1.lt (Nat.le_of_eq g152.symm))
      have ne_t1_g2 : t1 ≠ g2 := Nat.ne_of_lt (Nat.lt_of_lt_of_le V_1.lt (Nat.le_of_eq g152.symm))
      have ge_g2 : n0 ≤ g2 := Nat.le_trans (own_z0 Od) (Nat.le_of_eq g152.symm)
      have Sf_g2 : Safe Z consts_1 s.vm h151 g2 := Safe.new (Nat.le_of_eq g152.symm)
      have E_1 := E_1.ext E152
      have G_1 := G_1.ext E152
      have H_1 := H_1.ext E152
      have V_1 := V_1.ext E152
      have Sf_g2 := Safe.ext E152 Hr.1 Sf_g2
      have Od := Od.ext E152
      have Hr := Hr.trans (CHr.ext E152 Hr.1)
      have hk := Nat.le_trans hk E152.1
      refine own_stW st152 ?_
      show own_GoW p e below s Z consts_1 _ _ _ (T152.setTop (mkF m 104 #[.val (.int p0), .val (.int p1), .val (.int p2), .val (.int u1), .val (.int u2), .val (.int u3), .val (.int u4), .val (.int (0 : Int32)), .val (.int (1 : Int32)), .val (.ref g1), .unset, .unset, .unset] [(.ref g2)]))
      have E_g2 : Exa Z h152 g2 "java/lang/String" := A152
      have F_v : Fld Z h152 g2 "java/lang/String" "value" "[B" .null := D152 (Or.inr (hw _ (List.mem_of_getElem? (i := 23) rfl))) (ty := (.array .byte)) (by decide)
      have F_k : Fld Z h152 g2 "java/lang/String" "coder" "B" (.int (0 : Int32)) := D152 (Or.inr (hw _ (List.mem_of_getElem? (i := 25) rfl))) (ty := .byte) (by decide)
      refine own_stW (fun t9 k9 => XS.dup X152.here hx rfl (hb hby at_104) rfl rfl k9) ?_
      show own_GoW p e below s Z consts_1 _ _ _ (T152.setTop (mkF m 105 #[.val (.int p0), .val (.int p1), .val (.int p2), .val (.int u1), .val (.int u2), .val (.int u3), .val (.int u4), .val (.int (0 : Int32)), .val (.int (1 : Int32)), .val (.ref g1), .unset, .unset, .unset] [(.ref g2), (.ref g2)]))
      refine own_stW (fun t9 k9 => XS.iconst X152.here hx rfl (hb hby at_105) k9) ?_
      show own_GoW p e below s Z consts_1 _ _ _ (T152.setTop (mkF m 106 #[.val (.int p0), .val (.int p1), .val (.int p2), .val (.int u1), .val (.int u2), .val (.int u3), .val (.int u4), .val (.int (0 : Int32)), .val (.int (1 : Int32)), .val (.ref g1), .unset, .unset, .unset] [(.int (2 : Int32)), (.ref g2), (.ref g2)]))
      obtain ⟨T153, h153, k153, X153, e153, E153, A153, st153⟩ := newP X152 hx hZ (hw _ (List.mem_of_getElem? (i := 27) rfl)) e152 (g := (mkF m 106 #[.val (.int p0), .val (.int p1), .val (.int p2), .val (.int u1), .val (.int u2), .val (.int u3), .val (.int u4), .val (.int (0 : Int32)), .val (.int (1 : Int32)), .val (.ref g1), .unset, .unset, .unset] [(.int (2 : Int32)), (.ref g2), (.ref g2)])) rfl (hb hby at_106) rfl (by decide) (cap := 2) (by decide) (by decide) (by decide) (by decide)
      obtain ⟨a2, g153⟩ : ∃ z, z = h152.size := ⟨_, rfl⟩
      rw [← g153] at A153 st153
      have ne_g1_a2 : g1 ≠ a2 := Nat.ne_of_lt (Nat.lt_of_lt_of_le E_1.lt (Nat.le_of_eq g153.symm))
      have ne_t1_a2 : t1 ≠ a2 := Nat.ne_of_lt (Nat.lt_of_lt_of_le V_1.lt (Nat.le_of_eq g153.symm))
      have ne_g2_a2 : g2 ≠ a2 := Nat.ne_of_lt (Nat.lt_of_lt_of_le E_g2.lt (Nat.le_of_eq g153.symm))
      have ge_a2 : n0 ≤ a2 := Nat.le_trans (own_z0 Od) (Nat.le_of_eq g153.symm)
      have Sf_a2 : Safe Z consts_1 s.vm h152 a2 := Safe.new (Nat.le_of_eq g153.symm)
      have E_1 := E_1.ext E153
      have G_1 := G_1.ext E153
      have H_1 := H_1.ext E153
      have V_1 := V_1.ext E153
      have Sf_g2 := Safe.ext E153 Hr.1 Sf_g2
      have E_g2 := E_g2.ext E153
      have F_v := F_v.ext E153
      have F_k := F_k.ext E153
      have Sf_a2 := Safe.ext E153 Hr.1 Sf_a2
      have Od := Od.ext E153
      have Hr := Hr.trans (CHr.ext E153 Hr.1)
      have hk := Nat.le_trans hk E153.1
      refine own_stW st153 ?_
      show own_GoW p e below s Z consts_1 _ _ _ (T153.setTop (mkF m 108 #[.val (.int p0), .val (.int p1), .val (.int p2), .val (.int u1), .val (.int u2), .val (.int u3), .val (.int u4), .val (.int (0 : Int32)), .val (.int (1 : Int32)), .val (.ref g1), .unset, .unset, .unset] [(.ref a2), (.ref g2), (.ref g2)]))
      have A_2 : Arv Z h153 a2 k153 .char (2 : Int32) [(.int (0 : Int32)), (.int (0 : Int32))] (.int (0 : Int32)) := (Arv.new A153 (by decide)).pad (pad_rep [] (.int (0 : Int32)) 2)
      refine own_stW (fun t9 k9 => XS.dup X153.here hx rfl (hb hby at_108) rfl rfl k9) ?_
      show own_GoW p e below s Z consts_1 _ _ _ (T153.setTop (mkF m 109 #[.val (.int p0), .val (.int p1), .val (.int p2), .val (.int u1), .val (.int u2), .val (.int u3), .val (.int u4), .val (.int (0 : Int32)), .val (.int (1 : Int32)), .val (.ref g1), .unset, .unset, .unset] [(.ref a2), (.ref a2), (.ref g2), (.ref g2)]))
      refine own_stW (fun t9 k9 => XS.iconst X153.here hx rfl (hb hby at_109) k9) ?_
      show own_GoW p e below s Z consts_1 _ _ _ (T153.setTop (mkF m 110 #[.val (.int p0), .val (.int p1), .val (.int p2), .val (.int u1), .val (.int u2), .val (.int u3), .val (.int u4), .val (.int (0 : Int32)), .val (.int (1 : Int32)), .val (.ref g1), .unset, .unset, .unset] [(.int (0 : Int32)), (.ref a2), (.ref a2), (.ref g2), (.ref g2)]))
      refine own_stW (fun t9 k9 => XS.iload X153.here hx rfl (hb hby at_110) rfl  k9) ?_
      show own_GoW p e below s Z consts_1 _ _ _ (T153.setTop (mkF m 112 #[.val (.int p0), .val (.int p1), .val (.int p2), .val (.int u1), .val (.int u2), .val (.int u3), .val (.int u4), .val (.int (0 : Int32)), .val (.int (1 : Int32)), .val (.ref g1), .unset, .unset, .unset] [(.int u3), (.int (0 : Int32)), (.ref a2), (.ref a2), (.ref g2), (.ref g2)]))
      obtain ⟨cl154, Ar154, q154, S154, M154, H154, G154⟩ := id A_2
      obtain ⟨T154, h154, X154, e154, W154, st154⟩ := stC X153 hx hZ e153 Ar154 (j := (0 : Int32)) (inb_of S154 ⟨by decide, by decide⟩) (g := (mkF m 112 #[.val (.int p0), .val (.int p1), .val (.int p2), .val (.int u1), .val (.int u2), .val (.int u3), .val (.int u4), .val (.int (0 : Int32)), .val (.int (1 : Int32)), .val (.ref g1), .unset, .unset, .unset] [(.int u3), (.int (0 : Int32)), (.ref a2), (.ref a2), (.ref g2), (.ref g2)])) rfl rfl (hb hby at_112)
      have N154 := Fr.snoc X154 N151 ge_a2
      have E_1 := E_1.wr W154
      have G_1 := G_1.other W154 (Or.inl ne_g1_a2)
      have H_1 := H_1.other W154 (Or.inl ne_g1_a2)
      have V_1 := V_1.other W154 ne_t1_a2
      have QSf_g2 := Safe.wr W154 Sf_a2 Hr.1 Sf_g2
      have E_g2 := E_g2.wr W154
      have F_v := F_v.other W154 (Or.inl ne_g2_a2)
      have F_k := F_k.other W154 (Or.inl ne_g2_a2)
      have QSf_a2 := Safe.wr W154 Sf_a2 Hr.1 Sf_a2
      have Od := Od.wr W154 ge_a2
      have Hr := Hr.trans (CHr.wr W154 Sf_a2 Hr.1)
      have hk := Nat.le_trans hk (Keep.of_wr W154).1
      have Sf_g2 := QSf_g2
      have Sf_a2 := QSf_a2
      refine own_stW st154 ?_
      show own_GoW p e below s Z consts_1 _ _ _ (T154.setTop (mkF m 113 #[.val (.int p0), .val (.int p1), .val (.int p2), .val (.int u1), .val (.int u2), .val (.int u3), .val (.int u4), .val (.int (0 : Int32)), .val (.int (1 : Int32)), .val (.ref g1), .unset, .unset, .unset] [(.ref a2), (.ref g2), (.ref g2)]))
      have A_2 : Arv Z h154 a2 k153 .char (2 : Int32) [(.int (nar .char u3)), (.int (0 : Int32))] (.int (0 : Int32)) := Arv.set Ar154 q154 S154 M154 H154 G154 (fits_nar_char _) W154 0 rfl (Nat.le_of_ble_eq_true rfl)
      refine own_stW (fun t9 k9 => XS.dup X154.here hx rfl (hb hby at_113) rfl rfl k9) ?_
      show own_GoW p e below s Z consts_1 _ _ _ (T154.setTop (mkF m 114 #[.val (.int p0), .val (.int p1), .val (.int p2), .val (.int u1), .val (.int u2), .val (.int u3), .val (.int u4), .val (.int (0 : Int32)), .val (.int (1 : Int32)), .val (.ref g1), .unset, .unset, .unset] [(.ref a2), (.ref a2), (.ref g2), (.ref g2)]))
      refine own_stW (fun t9 k9 => XS.iconst X154.here hx rfl (hb hby at_114) k9) ?_
      show own_GoW p e below s Z consts_1 _ _ _ (T154.setTop (mkF m 115 #[.val (.int p0), .val (.int p1), .val (.int p2), .val (.int u1), .val (.int u2), .val (.int u3), .val (.int u4), .val (.int (0 : Int32)), .val (.int (1 : Int32)), .val (.ref g1), .unset, .unset, .unset] [(.int (1 : Int32)), (.ref a2), (.ref a2), (.ref g2), (.ref g2)]))
      refine own_stW (fun t9 k9 => XS.iload X154.here hx rfl (hb hby at_115) rfl  k9) ?_
      show own_GoW p e below s Z consts_1 _ _ _ (T154.setTop (mkF m 117 #[.val (.int p0), .val (.int p1), .val (.int p2), .val (.int u1), .val (.int u2), .val (.int u3), .val (.int u4), .val (.int (0 : Int32)), .val (.int (1 : Int32)), .val (.ref g1), .unset, .unset, .unset] [(.int u4), (.int (1 : Int32)), (.ref a2), (.ref a2), (.ref g2), (.ref g2)]))
      obtain ⟨cl155, Ar155, q155, S155, M155, H155, G155⟩ := id A_2
      obtain ⟨T155, h155, X155, e155, W155, st155⟩ := stC X154 hx hZ e154 Ar155 (j := (1 : Int32)) (inb_of S155 ⟨by decide, by decide⟩) (g := (mkF m 117 #[.val (.int p0), .val (.int p1), .val (.int p2), .val (.int u1), .val (.int u2), .val (.int u3), .val (.int u4), .val (.int (0 : Int32)), .val (.int (1 : Int32)), .val (.ref g1), .unset, .unset, .unset] [(.int u4), (.int (1 : Int32)), (.ref a2), (.ref a2), (.ref g2), (.ref g2)])) rfl rfl (hb hby at_117)
      have N155 := Fr.snoc X155 N154 ge_a2
      have E_1 := E_1.wr W155
      have G_1 := G_1.other W155 (Or.inl ne_g1_a2)
      have H_1 := H_1.other W155 (Or.inl ne_g1_a2)
      have V_1 := V_1.other W155 ne_t1_a2
      have QSf_g2 := Safe.wr W155 Sf_a2 Hr.1 Sf_g2
      have E_g2 := E_g2.wr W155
      have F_v := F_v.other W155 (Or.inl ne_g2_a2)
      have F_k := F_k.other W155 (Or.inl ne_g2_a2)
      have QSf_a2 := Safe.wr W155 Sf_a2 Hr.1 Sf_a2
      have Od := Od.wr W155 ge_a2
      have Hr := Hr.trans (CHr.wr W155 Sf_a2 Hr.1)
      have hk := Nat.le_trans hk (Keep.of_wr W155).1
      have Sf_g2 := QSf_g2
      have Sf_a2 := QSf_a2
      refine own_stW st155 ?_
      show own_GoW p e below s Z consts_1 _ _ _ (T155.setTop (mkF m 118 #[.val (.int p0), .val (.int p1), .val (.int p2), .val (.int u1), .val (.int u2), .val (.int u3), .val (.int u4), .val (.int (0 : Int32)), .val (.int (1 : Int32)), .val (.ref g1), .unset, .unset, .unset] [(.ref a2), (.ref g2), (.ref g2)]))
      have A_2 : Arv Z h155 a2 k153 .char (2 : Int32) [(.int (nar .char u3)), (.int (nar .char u4))] (.int (0 : Int32)) := Arv.set Ar155 q155 S155 M155 H155 G155 (fits_nar_char _) W155 1 rfl (Nat.le_of_ble_eq_true rfl)
      rw [nu3, nu4] at A_2
      have hp2 : ∀ c ∈ ([u3, u4] : List Int32), ¬ c < 0 ∧ ¬ (255 : Int32) < c := by
        intro c hc
        simp only [List.mem_cons, List.not_mem_nil, or_false] at hc
        rcases hc with rfl | rfl
        all_goals first | assumption | decide
      obtain ⟨_, T156, h156, L156, X156, e156, ⟨rfl, Nb2, Kb2, Eb2, H_2, t2, k2, gt2, gu2, ntb2, G_2, Vb2⟩, st156⟩ := own_backI X155 hx hZ hown rfl (hw _ (List.mem_of_getElem? (i := 28) rfl)) (hw _ (List.mem_of_getElem? (i := 29) rfl)) (hw _ (List.mem_of_getElem? (i := 30) rfl)) (by decide) (StrChars.Road.backV (s := s.setVm s.vm) (W := 1) hZ hws (kI := 4) (hw _ (List.mem_of_getElem? (i := 10) rfl)) (cs := [u3, u4]) (bs := ([u3, u4] : List Int32).map (fun c => c.toInt8.toInt32)) (n := 2) ge_g2 (own_z0 Od) E_g2 F_v F_k A_2 (O2.ext Od.2) P5 rfl rfl (by decide) (by decide) hp2 rfl (by decide) (by decide)) e155 (a := g2) (W := 1) (g := (mkF m 118 #[.val (.int p0), .val (.int p1), .val (.int p2), .val (.int u1), .val (.int u2), .val (.int u3), .val (.int u4), .val (.int (0 : Int32)), .val (.int (1 : Int32)), .val (.ref g1), .unset, .unset, .unset] [(.ref a2), (.ref g2), (.ref g2)])) rfl (by rw [hml]; rfl) (argsL := [(.ref a2)]) (rest := [(.ref g2)]) rfl (lenOf own_pd23 rfl) rfl (by show 2 * 0 + _ ≤ _; exact Nat.le_of_eq rfl) (hb hby at_118) (by decide) (by decide)
      have N156 := Fr.app N155 Nb2
      have ne_g1_t2 : g1 ≠ t2 := Nat.ne_of_lt (Nat.lt_of_lt_of_le E_1.lt gu2)
      have ne_t1_t2 : t1 ≠ t2 := Nat.ne_of_lt (Nat.lt_of_lt_of_le V_1.lt gu2)
      have ne_g2_t2 : g2 ≠ t2 := Nat.ne_of_lt (Nat.lt_of_lt_of_le E_g2.lt gu2)
      have ne_a2_t2 : a2 ≠ t2 := Nat.ne_of_lt (Nat.lt_of_lt_of_le A_2.lt gu2)
      have ge_t2 : n0 ≤ t2 := Nat.le_trans (own_z0 Od) gu2
      have E_1 := E_1.keep Kb2
      have G_1 := G_1.keep Kb2 (ninS ne_g1_g2 nin0)
      have H_1 := H_1.keep Kb2 (ninS ne_g1_g2 nin0)
      have V_1 := V_1.keep Kb2 (ninS ne_t1_g2 nin0)
      have QSf_g2 := Safe.keep Kb2 (sfS Sf_g2 sf0) Hr.1 Sf_g2
      have E_g2 := E_g2.keep Kb2
      have QSf_a2 := Safe.keep Kb2 (sfS Sf_g2 sf0) Hr.1 Sf_a2
      have A_2 := A_2.keep Kb2 (ninS (Ne.symm ne_g2_a2) nin0)
      have Od := Od.keep Kb2 (allS ge_g2 all0)
      have Hr0 := Hr.1
      have Hr := Hr.trans (CHr.keep Kb2 (sfS Sf_g2 sf0) Hr.1)
      have hk := Nat.le_trans hk Kb2.1
      have SFL := (sfS Sf_g2 sf0)
      have Sf_g2 := QSf_g2
      have Sf_a2 := QSf_a2
      have Sf_t2 := Safe.keep Kb2 SFL Hr0 (Safe.new gu2)
      refine own_stW st156 ?_
      show own_GoW p e below s Z consts_1 _ _ _ (T156.setTop (mkF m 121 #[.val (.int p0), .val (.int p1), .val (.int p2), .val (.int u1), .val (.int u2), .val (.int u3), .val (.int u4), .val (.int (0 : Int32)), .val (.int (1 : Int32)), .val (.ref g1), .unset, .unset, .unset] [(.ref g2)]))
      have V_2 : Arv Z h156 t2 k2 .byte (2 : Int32) [(.int (u3.toInt8.toInt32)), (.int (u4.toInt8.toInt32))] (.int (0 : Int32)) := Vb2
      have E_2 := E_g2
      refine own_stW (fun t9 k9 => XS.goto X156.here hx rfl (pc0 := 121) (pc' := 129) rfl (hb hby at_121) (by decide) (by decide) k9) ?_
      show own_GoW p e below s Z consts_1 _ _ _ (T156.setTop (mkF m 129 #[.val (.int p0), .val (.int p1), .val (.int p2), .val (.int u1), .val (.int u2), .val (.int u3), .val (.int u4), .val (.int (0 : Int32)), .val (.int (1 : Int32)), .val (.ref g1), .unset, .unset, .unset] [(.ref g2)]))
      refine own_stW (fun t9 k9 => XS.astore X156.here hx rfl (hb hby at_129) rfl rfl (l' := #[.val (.int p0), .val (.int p1), .val (.int p2), .val (.int u1), .val (.int u2), .val (.int u3), .val (.int u4), .val (.int (0 : Int32)), .val (.int (1 : Int32)), .val (.ref g1), .val (.ref g2), .unset, .unset]) rfl k9) ?_
      show own_GoW p e below s Z consts_1 _ _ _ (T156.setTop (mkF m 131 #[.val (.int p0), .val (.int p1), .val (.int p2), .val (.int u1), .val (.int u2), .val (.int u3), .val (.int u4), .val (.int (0 : Int32)), .val (.int (1 : Int32)), .val (.ref g1), .val (.ref g2), .unset, .unset] []))
      refine own_stW (fun t9 k9 => XS.iload X156.here hx rfl (hb hby at_131) rfl  k9) ?_
      show own_GoW p e below s Z consts_1 _ _ _ (T156.setTop (mkF m 133 #[.val (.int p0), .val (.int p1), .val (.int p2), .val (.int u1), .val (.int u2), .val (.int u3), .val (.int u4), .val (.int (0 : Int32)), .val (.int (1 : Int32)), .val (.ref g1), .val (.ref g2), .unset, .unset] [(.int (0 : Int32))]))
      refine own_stW (fun t9 k9 => XS.ifYes X156.here hx rfl (pc0 := 133) (pc' := 200) rfl (hb hby at_133) rfl (by decide) (by decide) (by decide) k9) ?_
      show own_GoW p e below s Z consts_1 _ _ _ (T156.setTop (mkF m 200 #[.val (.int p0), .val (.int p1), .val (.int p2), .val (.int u1), .val (.int u2), .val (.int u3), .val (.int u4), .val (.int (0 : Int32)), .val (.int (1 : Int32)), .val (.ref g1), .val (.ref g2), .unset, .unset] []))
      refine own_stW (fun t9 k9 => XS.iload X156.here hx rfl (hb hby at_200) rfl  k9) ?_
      show own_GoW p e below s Z consts_1 _ _ _ (T156.setTop (mkF m 202 #[.val (.int p0), .val (.int p1), .val (.int p2), .val (.int u1), .val (.int u2), .val (.int u3), .val (.int u4), .val (.int (0 : Int32)), .val (.int (1 : Int32)), .val (.ref g1), .val (.ref g2), .unset, .unset] [(.int (1 : Int32))]))
      refine own_stW (fun t9 k9 => XS.ifNo X156.here hx rfl (hb hby at_202) rfl (by decide) k9) ?_
      show own_GoW p e below s Z consts_1 _ _ _ (T156.setTop (mkF m 205 #[.val (.int p0), .val (.int p1), .val (.int p2), .val (.int u1), .val (.int u2), .val (.int u3), .val (.int u4), .val (.int (0 : Int32)), .val (.int (1 : Int32)), .val (.ref g1), .val (.ref g2), .unset, .unset] []))
      refine own_stW (fun t9 k9 => XS.iconst X156.here hx rfl (hb hby at_205) k9) ?_
      show own_GoW p e below s Z consts_1 _ _ _ (T156.setTop (mkF m 206 #[.val (.int p0), .val (.int p1), .val (.int p2), .val (.int u1), .val (.int u2), .val (.int u3), .val (.int u4), .val (.int (0 : Int32)), .val (.int (1 : Int32)), .val (.ref g1), .val (.ref g2), .unset, .unset] [(.int (4 : Int32))]))
      obtain ⟨T157, h157, k157, X157, e157, E157, A157, st157⟩ := newP X156 hx hZ (hw _ (List.mem_of_getElem? (i := 27) rfl)) e156 (g := (mkF m 206 #[.val (.int p0), .val (.int p1), .val (.int p2), .val (.int u1), .val (.int u2), .val (.int u3), .val (.int u4), .val (.int (0 : Int32)), .val (.int (1 : Int32)), .val (.ref g1), .val (.ref g2), .unset, .unset] [(.int (4 : Int32))])) rfl (hb hby at_206) rfl (by decide) (cap := 4) (by decide) (by decide) (by decide) (by decide)
      obtain ⟨ac, g157⟩ : ∃ z, z = h156.size := ⟨_, rfl⟩
      rw [← g157] at A157 st157
      have ne_g1_ac : g1 ≠ ac := Nat.ne_of_lt (Nat.lt_of_lt_of_le E_1.lt (Nat.le_of_eq g157.symm))
      have ne_t1_ac : t1 ≠ ac := Nat.ne_of_lt (Nat.lt_of_lt_of_le V_1.lt (Nat.le_of_eq g157.symm))
      have ne_g2_ac : g2 ≠ ac := Nat.ne_of_lt (Nat.lt_of_lt_of_le G_2.lt (Nat.le_of_eq g157.symm))
      have ne_t2_ac : t2 ≠ ac := Nat.ne_of_lt (Nat.lt_of_lt_of_le V_2.lt (Nat.le_of_eq g157.symm))
      have ge_ac : n0 ≤ ac := Nat.le_trans (own_z0 Od) (Nat.le_of_eq g157.symm)
      have Sf_ac : Safe Z consts_1 s.vm h156 ac := Safe.new (Nat.le_of_eq g157.symm)
      have E_1 := E_1.ext E157
      have G_1 := G_1.ext E157
      have H_1 := H_1.ext E157
      have V_1 := V_1.ext E157
      have G_2 := G_2.ext E157
      have H_2 := H_2.ext E157
      have V_2 := V_2.ext E157
      have E_2 := E_2.ext E157
      have Sf_ac := Safe.ext E157 Hr.1 Sf_ac
      have Od := Od.ext E157
      have Hr := Hr.trans (CHr.ext E157 Hr.1)
      have hk := Nat.le_trans hk E157.1
      refine own_stW st157 ?_
      show own_GoW p e below s Z consts_1 _ _ _ (T157.setTop (mkF m 208 #[.val (.int p0), .val (.int p1), .val (.int p2), .val (.int u1), .val (.int u2), .val (.int u3), .val (.int u4), .val (.int (0 : Int32)), .val (.int (1 : Int32)), .val (.ref g1), .val (.ref g2), .unset, .unset] [(.ref ac)]))
      have A_3 : Arv Z h157 ac k157 .char (4 : Int32) [(.int (0 : Int32)), (.int (0 : Int32)), (.int (0 : Int32)), (.int (0 : Int32))] (.int (0 : Int32)) := (Arv.new A157 (by decide)).pad (pad_rep [] (.int (0 : Int32)) 4)
      refine own_stW (fun t9 k9 => XS.dup X157.here hx rfl (hb hby at_208) rfl rfl k9) ?_
      show own_GoW p e below s Z consts_1 _ _ _ (T157.setTop (mkF m 209 #[.val (.int p0), .val (.int p1), .val (.int p2), .val (.int u1), .val (.int u2), .val (.int u3), .val (.int u4), .val (.int (0 : Int32)), .val (.int (1 : Int32)), .val (.ref g1), .val (.ref g2), .unset, .unset] [(.ref ac), (.ref ac)]))
      refine own_stW (fun t9 k9 => XS.iconst X157.here hx rfl (hb hby at_209) k9) ?_
      show own_GoW p e below s Z consts_1 _ _ _ (T157.setTop (mkF m 210 #[.val (.int p0), .val (.int p1), .val (.int p2), .val (.int u1), .val (.int u2), .val (.int u3), .val (.int u4), .val (.int (0 : Int32)), .val (.int (1 : Int32)), .val (.ref g1), .val (.ref g2), .unset, .unset] [(.int (0 : Int32)), (.ref ac), (.ref ac)]))
      refine own_stW (fun t9 k9 => XS.iloadN X157.here hx rfl (hb hby at_210) rfl  k9) ?_
      show own_GoW p e below s Z consts_1 _ _ _ (T157.setTop (mkF m 211 #[.val (.int p0), .val (.int p1), .val (.int p2), .val (.int u1), .val (.int u2), .val (.int u3), .val (.int u4), .val (.int (0 : Int32)), .val (.int (1 : Int32)), .val (.ref g1), .val (.ref g2), .unset, .unset] [(.int u1), (.int (0 : Int32)), (.ref ac), (.ref ac)]))
      obtain ⟨cl158, Ar158, q158, S158, M158, H158, G158⟩ := id A_3
      obtain ⟨T158, h158, X158, e158, W158, st158⟩ := stC X157 hx hZ e157 Ar158 (j := (0 : Int32)) (inb_of S158 ⟨by decide, by decide⟩) (g := (mkF m 211 #[.val (.int p0), .val (.int p1), .val (.int p2), .val (.int u1), .val (.int u2), .val (.int u3), .val (.int u4), .val (.int (0 : Int32)), .val (.int (1 : Int32)), .val (.ref g1), .val (.ref g2), .unset, .unset] [(.int u1), (.int (0 : Int32)), (.ref ac), (.ref ac)])) rfl rfl (hb hby at_211)
      have N158 := Fr.snoc X158 N156 ge_ac
      have E_1 := E_1.wr W158
      have G_1 := G_1.other W158 (Or.inl ne_g1_ac)
      have H_1 := H_1.other W158 (Or.inl ne_g1_ac)
      have V_1 := V_1.other W158 ne_t1_ac
      have G_2 := G_2.other W158 (Or.inl ne_g2_ac)
      have H_2 := H_2.other W158 (Or.inl ne_g2_ac)
      have V_2 := V_2.other W158 ne_t2_ac
      have E_2 := E_2.wr W158
      have QSf_ac := Safe.wr W158 Sf_ac Hr.1 Sf_ac
      have Od := Od.wr W158 ge_ac
      have Hr := Hr.trans (CHr.wr W158 Sf_ac Hr.1)
      have hk := Nat.le_trans hk (Keep.of_wr W158).1
      have Sf_ac := QSf_ac
      refine own_stW st158 ?_
      show own_GoW p e below s Z consts_1 _ _ _ (T158.setTop (mkF m 212 #[.val (.int p0), .val (.int p1), .val (.int p2), .val (.int u1), .val (.int u2), .val (.int u3), .val (.int u4), .val (.int (0 : Int32)), .val (.int (1 : Int32)), .val (.ref g1), .val (.ref g2), .unset, .unset] [(.ref ac)]))
      have A_3 : Arv Z h158 ac k157 .char (4 : Int32) [(.int (nar .char u1)), (.int (0 : Int32)), (.int (0 : Int32)), (.int (0 : Int32))] (.int (0 : Int32)) := Arv.set Ar158 q158 S158 M158 H158 G158 (fits_nar_char _) W158 0 rfl (Nat.le_of_ble_eq_true rfl)
      refine own_stW (fun t9 k9 => XS.dup X158.here hx rfl (hb hby at_212) rfl rfl k9) ?_
      show own_GoW p e below s Z consts_1 _ _ _ (T158.setTop (mkF m 213 #[.val (.int p0), .val (.int p1), .val (.int p2), .val (.int u1), .val (.int u2), .val (.int u3), .val (.int u4), .val (.int (0 : Int32)), .val (.int (1 : Int32)), .val (.ref g1), .val (.ref g2), .unset, .unset] [(.ref ac), (.ref ac)]))
      refine own_stW (fun t9 k9 => XS.iconst X158.here hx rfl (hb hby at_213) k9) ?_
      show own_GoW p e below s Z consts_1 _ _ _ (T158.setTop (mkF m 214 #[.val (.int p0), .val (.int p1), .val (.int p2), .val (.int u1), .val (.int u2), .val (.int u3), .val (.int u4), .val (.int (0 : Int32)), .val (.int (1 : Int32)), .val (.ref g1), .val (.ref g2), .unset, .unset] [(.int (1 : Int32)), (.ref ac), (.ref ac)]))
      refine own_stW (fun t9 k9 => XS.bipush X158.here hx rfl (hb hby at_214) k9) ?_
      show own_GoW p e below s Z consts_1 _ _ _ (T158.setTop (mkF m 216 #[.val (.int p0), .val (.int p1), .val (.int p2), .val (.int u1), .val (.int u2), .val (.int u3), .val (.int u4), .val (.int (0 : Int32)), .val (.int (1 : Int32)), .val (.ref g1), .val (.ref g2), .unset, .unset] [(.int (47 : Int32)), (.int (1 : Int32)), (.ref ac), (.ref ac)]))
      obtain ⟨cl159, Ar159, q159, S159, M159, H159, G159⟩ := id A_3
      obtain ⟨T159, h159, X159, e159, W159, st159⟩ := stC X158 hx hZ e158 Ar159 (j := (1 : Int32)) (inb_of S159 ⟨by decide, by decide⟩) (g := (mkF m 216 #[.val (.int p0), .val (.int p1), .val (.int p2), .val (.int u1), .val (.int u2), .val (.int u3), .val (.int u4), .val (.int (0 : Int32)), .val (.int (1 : Int32)), .val (.ref g1), .val (.ref g2), .unset, .unset] [(.int (47 : Int32)), (.int (1 : Int32)), (.ref ac), (.ref ac)])) rfl rfl (hb hby at_216)
      have N159 := Fr.snoc X159 N158 ge_ac
      have E_1 := E_1.wr W159
      have G_1 := G_1.other W159 (Or.inl ne_g1_ac)
      have H_1 := H_1.other W159 (Or.inl ne_g1_ac)
      have V_1 := V_1.other W159 ne_t1_ac
      have G_2 := G_2.other W159 (Or.inl ne_g2_ac)
      have H_2 := H_2.other W159 (Or.inl ne_g2_ac)
      have V_2 := V_2.other W159 ne_t2_ac
      have E_2 := E_2.wr W159
      have QSf_ac := Safe.wr W159 Sf_ac Hr.1 Sf_ac
      have Od := Od.wr W159 ge_ac
      have Hr := Hr.trans (CHr.wr W159 Sf_ac Hr.1)
      have hk := Nat.le_trans hk (Keep.of_wr W159).1
      have Sf_ac := QSf_ac
      refine own_stW st159 ?_
      show own_GoW p e below s Z consts_1 _ _ _ (T159.setTop (mkF m 217 #[.val (.int p0), .val (.int p1), .val (.int p2), .val (.int u1), .val (.int u2), .val (.int u3), .val (.int u4), .val (.int (0 : Int32)), .val (.int (1 : Int32)), .val (.ref g1), .val (.ref g2), .unset, .unset] [(.ref ac)]))
      have A_3 : Arv Z h159 ac k157 .char (4 : Int32) [(.int (nar .char u1)), (.int (nar .char (47 : Int32))), (.int (0 : Int32)), (.int (0 : Int32))] (.int (0 : Int32)) := Arv.set Ar159 q159 S159 M159 H159 G159 (fits_nar_char _) W159 1 rfl (Nat.le_of_ble_eq_true rfl)
      refine own_stW (fun t9 k9 => XS.dup X159.here hx rfl (hb hby at_217) rfl rfl k9) ?_
      show own_GoW p e below s Z consts_1 _ _ _ (T159.setTop (mkF m 218 #[.val (.int p0), .val (.int p1), .val (.int p2), .val (.int u1), .val (.int u2), .val (.int u3), .val (.int u4), .val (.int (0 : Int32)), .val (.int (1 : Int32)), .val (.ref g1), .val (.ref g2), .unset, .unset] [(.ref ac), (.ref ac)]))
      refine own_stW (fun t9 k9 => XS.iconst X159.here hx rfl (hb hby at_218) k9) ?_
      show own_GoW p e below s Z consts_1 _ _ _ (T159.setTop (mkF m 219 #[.val (.int p0), .val (.int p1), .val (.int p2), .val (.int u1), .val (.int u2), .val (.int u3), .val (.int u4), .val (.int (0 : Int32)), .val (.int (1 : Int32)), .val (.ref g1), .val (.ref g2), .unset, .unset] [(.int (2 : Int32)), (.ref ac), (.ref ac)]))
      refine own_stW (fun t9 k9 => XS.iload X159.here hx rfl (hb hby at_219) rfl  k9) ?_
      show own_GoW p e below s Z consts_1 _ _ _ (T159.setTop (mkF m 221 #[.val (.int p0), .val (.int p1), .val (.int p2), .val (.int u1), .val (.int u2), .val (.int u3), .val (.int u4), .val (.int (0 : Int32)), .val (.int (1 : Int32)), .val (.ref g1), .val (.ref g2), .unset, .unset] [(.int u3), (.int (2 : Int32)), (.ref ac), (.ref ac)]))
      obtain ⟨cl160, Ar160, q160, S160, M160, H160, G160⟩ := id A_3
      obtain ⟨T160, h160, X160, e160, W160, st160⟩ := stC X159 hx hZ e159 Ar160 (j := (2 : Int32)) (inb_of S160 ⟨by decide, by decide⟩) (g := (mkF m 221 #[.val (.int p0), .val (.int p1), .val (.int p2), .val (.int u1), .val (.int u2), .val (.int u3), .val (.int u4), .val (.int (0 : Int32)), .val (.int (1 : Int32)), .val (.ref g1), .val (.ref g2), .unset, .unset] [(.int u3), (.int (2 : Int32)), (.ref ac), (.ref ac)])) rfl rfl (hb hby at_221)
      have N160 := Fr.snoc X160 N159 ge_ac
      have E_1 := E_1.wr W160
      have G_1 := G_1.other W160 (Or.inl ne_g1_ac)
      have H_1 := H_1.other W160 (Or.inl ne_g1_ac)
      have V_1 := V_1.other W160 ne_t1_ac
      have G_2 := G_2.other W160 (Or.inl ne_g2_ac)
      have H_2 := H_2.other W160 (Or.inl ne_g2_ac)
      have V_2 := V_2.other W160 ne_t2_ac
      have E_2 := E_2.wr W160
      have QSf_ac := Safe.wr W160 Sf_ac Hr.1 Sf_ac
      have Od := Od.wr W160 ge_ac
      have Hr := Hr.trans (CHr.wr W160 Sf_ac Hr.1)
      have hk := Nat.le_trans hk (Keep.of_wr W160).1
      have Sf_ac := QSf_ac
      refine own_stW st160 ?_
      show own_GoW p e below s Z consts_1 _ _ _ (T160.setTop (mkF m 222 #[.val (.int p0), .val (.int p1), .val (.int p2), .val (.int u1), .val (.int u2), .val (.int u3), .val (.int u4), .val (.int (0 : Int32)), .val (.int (1 : Int32)), .val (.ref g1), .val (.ref g2), .unset, .unset] [(.ref ac)]))
      have A_3 : Arv Z h160 ac k157 .char (4 : Int32) [(.int (nar .char u1)), (.int (nar .char (47 : Int32))), (.int (nar .char u3)), (.int (0 : Int32))] (.int (0 : Int32)) := Arv.set Ar160 q160 S160 M160 H160 G160 (fits_nar_char _) W160 2 rfl (Nat.le_of_ble_eq_true rfl)
      refine own_stW (fun t9 k9 => XS.dup X160.here hx rfl (hb hby at_222) rfl rfl k9) ?_
      show own_GoW p e below s Z consts_1 _ _ _ (T160.setTop (mkF m 223 #[.val (.int p0), .val (.int p1), .val (.int p2), .val (.int u1), .val (.int u2), .val (.int u3), .val (.int u4), .val (.int (0 : Int32)), .val (.int (1 : Int32)), .val (.ref g1), .val (.ref g2), .unset, .unset] [(.ref ac), (.ref ac)]))
      refine own_stW (fun t9 k9 => XS.iconst X160.here hx rfl (hb hby at_223) k9) ?_
      show own_GoW p e below s Z consts_1 _ _ _ (T160.setTop (mkF m 224 #[.val (.int p0), .val (.int p1), .val (.int p2), .val (.int u1), .val (.int u2), .val (.int u3), .val (.int u4), .val (.int (0 : Int32)), .val (.int (1 : Int32)), .val (.ref g1), .val (.ref g2), .unset, .unset] [(.int (3 : Int32)), (.ref ac), (.ref ac)]))
      refine own_stW (fun t9 k9 => XS.iload X160.here hx rfl (hb hby at_224) rfl  k9) ?_
      show own_GoW p e below s Z consts_1 _ _ _ (T160.setTop (mkF m 226 #[.val (.int p0), .val (.int p1), .val (.int p2), .val (.int u1), .val (.int u2), .val (.int u3), .val (.int u4), .val (.int (0 : Int32)), .val (.int (1 : Int32)), .val (.ref g1), .val (.ref g2), .unset, .unset] [(.int u4), (.int (3 : Int32)), (.ref ac), (.ref ac)]))
      obtain ⟨cl161, Ar161, q161, S161, M161, H161, G161⟩ := id A_3
      obtain ⟨T161, h161, X161, e161, W161, st161⟩ := stC X160 hx hZ e160 Ar161 (j := (3 : Int32)) (inb_of S161 ⟨by decide, by decide⟩) (g := (mkF m 226 #[.val (.int p0), .val (.int p1), .val (.int p2), .val (.int u1), .val (.int u2), .val (.int u3), .val (.int u4), .val (.int (0 : Int32)), .val (.int (1 : Int32)), .val (.ref g1), .val (.ref g2), .unset, .unset] [(.int u4), (.int (3 : Int32)), (.ref ac), (.ref ac)])) rfl rfl (hb hby at_226)
      have N161 := Fr.snoc X161 N160 ge_ac
      have E_1 := E_1.wr W161
      have G_1 := G_1.other W161 (Or.inl ne_g1_ac)
      have H_1 := H_1.other W161 (Or.inl ne_g1_ac)
      have V_1 := V_1.other W161 ne_t1_ac
      have G_2 := G_2.other W161 (Or.inl ne_g2_ac)
      have H_2 := H_2.other W161 (Or.inl ne_g2_ac)
      have V_2 := V_2.other W161 ne_t2_ac
      have E_2 := E_2.wr W161
      have QSf_ac := Safe.wr W161 Sf_ac Hr.1 Sf_ac
      have Od := Od.wr W161 ge_ac
      have Hr := Hr.trans (CHr.wr W161 Sf_ac Hr.1)
      have hk := Nat.le_trans hk (Keep.of_wr W161).1
      have Sf_ac := QSf_ac
      refine own_stW st161 ?_
      show own_GoW p e below s Z consts_1 _ _ _ (T161.setTop (mkF m 227 #[.val (.int p0), .val (.int p1), .val (.int p2), .val (.int u1), .val (.int u2), .val (.int u3), .val (.int u4), .val (.int (0 : Int32)), .val (.int (1 : Int32)), .val (.ref g1), .val (.ref g2), .unset, .unset] [(.ref ac)]))
      have A_3 : Arv Z h161 ac k157 .char (4 : Int32) [(.int (nar .char u1)), (.int (nar .char (47 : Int32))), (.int (nar .char u3)), (.int (nar .char u4))] (.int (0 : Int32)) := Arv.set Ar161 q161 S161 M161 H161 G161 (fits_nar_char _) W161 3 rfl (Nat.le_of_ble_eq_true rfl)
      rw [nu1, nu3, nu4, own_n47] at A_3
      refine own_stW (fun t9 k9 => XS.astore X161.here hx rfl (hb hby at_227) rfl rfl (l' := #[.val (.int p0), .val (.int p1), .val (.int p2), .val (.int u1), .val (.int u2), .val (.int u3), .val (.int u4), .val (.int (0 : Int32)), .val (.int (1 : Int32)), .val (.ref g1), .val (.ref g2), .val (.ref ac), .unset]) rfl k9) ?_
      show own_GoW p e below s Z consts_1 _ _ _ (T161.setTop (mkF m 229 #[.val (.int p0), .val (.int p1), .val (.int p2), .val (.int u1), .val (.int u2), .val (.int u3), .val (.int u4), .val (.int (0 : Int32)), .val (.int (1 : Int32)), .val (.ref g1), .val (.ref g2), .val (.ref ac), .unset] []))
      refine own_stW (fun t9 k9 => XS.goto X161.here hx rfl (pc0 := 229) (pc' := 251) rfl (hb hby at_229) (by decide) (by decide) k9) ?_
      show own_GoW p e below s Z consts_1 _ _ _ (T161.setTop (mkF m 251 #[.val (.int p0), .val (.int p1), .val (.int p2), .val (.int u1), .val (.int u2), .val (.int u3), .val (.int u4), .val (.int (0 : Int32)), .val (.int (1 : Int32)), .val (.ref g1), .val (.ref g2), .val (.ref ac), .unset] []))
      obtain ⟨T162, h162, X162, e162, E162, A162, D162, U162, st162⟩ := newO X161 hx hZ hown (hw _ (List.mem_of_getElem? (i := 44) rfl)) (hw _ (List.mem_of_getElem? (i := 45) rfl)) (hw _ (List.mem_of_getElem? (i := 46) rfl)) e161 (g := (mkF m 251 #[.val (.int p0), .val (.int p1), .val (.int p2), .val (.int u1), .val (.int u2), .val (.int u3), .val (.int u4), .val (.int (0 : Int32)), .val (.int (1 : Int32)), .val (.ref g1), .val (.ref g2), .val (.ref ac), .unset] [])) rfl (hb hby at_251) (by decide) (by decide)
      obtain ⟨gn, g162⟩ : ∃ z, z = h161.size := ⟨_, rfl⟩
      rw [← g162] at A162 D162 st162 U162
      have ne_g1_gn : g1 ≠ gn := Nat.ne_of_lt (Nat.lt_of_lt_of_le E_1.lt (Nat.le_of_eq g162.symm))
      have ne_t1_gn : t1 ≠ gn := Nat.ne_of_lt (Nat.lt_of_lt_of_le V_1.lt (Nat.le_of_eq g162.symm))
      have ne_g2_gn : g2 ≠ gn := Nat.ne_of_lt (Nat.lt_of_lt_of_le G_2.lt (Nat.le_of_eq g162.symm))
      have ne_t2_gn : t2 ≠ gn := Nat.ne_of_lt (Nat.lt_of_lt_of_le V_2.lt (Nat.le_of_eq g162.symm))
      have ne_ac_gn : ac ≠ gn := Nat.ne_of_lt (Nat.lt_of_lt_of_le A_3.lt (Nat.le_of_eq g162.symm))
      have ge_gn : n0 ≤ gn := Nat.le_trans (own_z0 Od) (Nat.le_of_eq g162.symm)
      have Sf_gn : Safe Z consts_1 s.vm h161 gn := Safe.new (Nat.le_of_eq g162.symm)
      have E_1 := E_1.ext E162
      have G_1 := G_1.ext E162
      have H_1 := H_1.ext E162
      have V_1 := V_1.ext E162
      have G_2 := G_2.ext E162
      have H_2 := H_2.ext E162
      have V_2 := V_2.ext E162
      have E_2 := E_2.ext E162
      have Sf_ac := Safe.ext E162 Hr.1 Sf_ac
      have A_3 := A_3.ext E162
      have Sf_gn := Safe.ext E162 Hr.1 Sf_gn
      have Od := Od.ext E162
      have Hr := Hr.trans (CHr.ext E162 Hr.1)
      have hk := Nat.le_trans hk E162.1
      refine own_stW st162 ?_
      show own_GoW p e below s Z consts_1 _ _ _ (T162.setTop (mkF m 254 #[.val (.int p0), .val (.int p1), .val (.int p2), .val (.int u1), .val (.int u2), .val (.int u3), .val (.int u4), .val (.int (0 : Int32)), .val (.int (1 : Int32)), .val (.ref g1), .val (.ref g2), .val (.ref ac), .unset] [(.ref gn)]))
      have E_gn : Exa Z h162 gn "com/example/bluehead/bluehead/net/GroupName" := A162
      have A_c : Fld Z h162 gn "com/example/bluehead/bluehead/net/GroupName" "cluster" "Ljava/lang/String;" .null := D162 (Or.inr (hw _ (List.mem_of_getElem? (i := 70) rfl))) (ty := (.object "java/lang/String")) (by decide)
      have A_g : Fld Z h162 gn "com/example/bluehead/bluehead/net/GroupName" "group" "Ljava/lang/String;" .null := D162 (Or.inr (hw _ (List.mem_of_getElem? (i := 72) rfl))) (ty := (.object "java/lang/String")) (by decide)
      refine own_stW (fun t9 k9 => XS.dup X162.here hx rfl (hb hby at_254) rfl rfl k9) ?_
      show own_GoW p e below s Z consts_1 _ _ _ (T162.setTop (mkF m 255 #[.val (.int p0), .val (.int p1), .val (.int p2), .val (.int u1), .val (.int u2), .val (.int u3), .val (.int u4), .val (.int (0 : Int32)), .val (.int (1 : Int32)), .val (.ref g1), .val (.ref g2), .val (.ref ac), .unset] [(.ref gn), (.ref gn)]))
      refine own_stW (fun t9 k9 => XS.aload X162.here hx rfl (hb hby at_255) rfl rfl k9) ?_
      show own_GoW p e below s Z consts_1 _ _ _ (T162.setTop (mkF m 257 #[.val (.int p0), .val (.int p1), .val (.int p2), .val (.int u1), .val (.int u2), .val (.int u3), .val (.int u4), .val (.int (0 : Int32)), .val (.int (1 : Int32)), .val (.ref g1), .val (.ref g2), .val (.ref ac), .unset] [(.ref g1), (.ref gn), (.ref gn)]))
      refine own_stW (fun t9 k9 => XS.aload X162.here hx rfl (hb hby at_257) rfl rfl k9) ?_
      show own_GoW p e below s Z consts_1 _ _ _ (T162.setTop (mkF m 259 #[.val (.int p0), .val (.int p1), .val (.int p2), .val (.int u1), .val (.int u2), .val (.int u3), .val (.int u4), .val (.int (0 : Int32)), .val (.int (1 : Int32)), .val (.ref g1), .val (.ref g2), .val (.ref ac), .unset] [(.ref g2), (.ref g1), (.ref gn), (.ref gn)]))
      obtain ⟨_, T163, h163, L163, X163, e163, ⟨rfl, Ng, Kg, E_q, B_c, B_g⟩, hS163, hg163, hZ163, hown163, R163, st163⟩ := own_callIW X162 hx hZ hown hS hk rfl (hw _ (List.mem_of_getElem? (i := 47) rfl)) (hw _ (List.mem_of_getElem? (i := 48) rfl)) (hw _ (List.mem_of_getElem? (i := 49) rfl)) (by decide) (own_payW (W := 1) (K := (fun _ _ _ _ _ => True)) (own_rm_gni l Z a0 hw hEL [] gn g1 g2 t1 t2 k1 k2 (1 : Int32) (2 : Int32) [(.int (u1.toInt8.toInt32))] [(.int (u3.toInt8.toInt32)), (.int (u4.toInt8.toInt32))] h162 n0 Od E_gn A_c A_g ge_gn E_1 G_1 V_1 (by decide) E_2 G_2 V_2 (by decide)) (fun _ _ _ _ _ _ _ _ _ => trivial) hZ (hw _ (List.mem_of_getElem? (i := 49) rfl)) (hw _ (List.mem_of_getElem? (i := 46) rfl)) (by decide) (by decide) hEL Hr.1 (own_sfS E_gn.lt Sf_gn own_sf0)) e162 (a := gn) (g := (mkF m 259 #[.val (.int p0), .val (.int p1), .val (.int p2), .val (.int u1), .val (.int u2), .val (.int u3), .val (.int u4), .val (.int (0 : Int32)), .val (.int (1 : Int32)), .val (.ref g1), .val (.ref g2), .val (.ref ac), .unset] [(.ref g2), (.ref g1), (.ref gn), (.ref gn)])) rfl (by rw [hml]; rfl) (argsL := [(.ref g1), (.ref g2)]) (rest := [(.ref gn)]) rfl (lenOf own_pd22 rfl) rfl (by show 2 * 0 + _ ≤ _; exact Nat.le_of_eq rfl) (hb hby at_259) (by decide) (by decide)
      have N163 := Fr.app N161 Ng
      have QSf_ac := CHr.safe R163 A_3.lt Sf_ac
      have QSf_gn := CHr.safe R163 E_gn.lt Sf_gn
      have E_1 := E_1.keep Kg
      have G_1 := G_1.keep Kg (ninS ne_g1_gn nin0)
      have H_1 := H_1.keep Kg (ninS ne_g1_gn nin0)
      have V_1 := V_1.keep Kg (ninS ne_t1_gn nin0)
      have G_2 := G_2.keep Kg (ninS ne_g2_gn nin0)
      have H_2 := H_2.keep Kg (ninS ne_g2_gn nin0)
      have V_2 := V_2.keep Kg (ninS ne_t2_gn nin0)
      have E_2 := E_2.keep Kg
      have A_3 := A_3.keep Kg (ninS ne_ac_gn nin0)
      have E_gn := E_gn.keep Kg
      have Od := Od.keep Kg (allS ge_gn all0)
      have Sf_ac := QSf_ac
      have Sf_gn := QSf_gn
      have Hr := Hr.trans R163
      have hS := hS163
      have hk : h163.size ≤ h163.size := Nat.le_refl _
      have hZ := hZ163
      have hown := hown163
      refine own_stW st163 ?_
      show own_GoW p e below s Z consts_1 _ _ _ (T163.setTop (mkF m 262 #[.val (.int p0), .val (.int p1), .val (.int p2), .val (.int u1), .val (.int u2), .val (.int u3), .val (.int u4), .val (.int (0 : Int32)), .val (.int (1 : Int32)), .val (.ref g1), .val (.ref g2), .val (.ref ac), .unset] [(.ref gn)]))
      obtain ⟨_, T164, h164, L164, X164, e164, ⟨Nt, Kt, y, tb, kb, rfl, gy, E_y, Y_k, Y_v, V_y⟩, hS164, hg164, hZ164, hown164, R164, st164⟩ := own_callVW X163 hx hZ hown hS hk (hw _ (List.mem_of_getElem? (i := 73) rfl)) (hw _ (List.mem_of_getElem? (i := 74) rfl)) (hw _ (List.mem_of_getElem? (i := 76) rfl)) (hw _ (List.mem_of_getElem? (i := 75) rfl)) (by decide) (own_payW (W := 0) (K := (fun _ _ _ _ _ => True)) (own_rm_gts12 l Z a0 hw hEL [] gn g1 g2 t1 t2 k1 k2 (.int (u1.toInt8.toInt32)) (.int (u3.toInt8.toInt32)) (.int (u4.toInt8.toInt32)) G h163 n0 Od B_c B_g E_1 G_1 H_1 V_1 E_2 G_2 H_2 V_2 O2 P5) (fun _ _ _ _ _ _ _ _ _ => trivial) hZ (hw _ (List.mem_of_getElem? (i := 77) rfl)) (hw _ (List.mem_of_getElem? (i := 46) rfl)) (by decide) (by decide) hEL Hr.1 own_sf0) e163 (a := gn) E_gn (g := (mkF m 262 #[.val (.int p0), .val (.int p1), .val (.int p2), .val (.int u1), .val (.int u2), .val (.int u3), .val (.int u4), .val (.int (0 : Int32)), .val (.int (1 : Int32)), .val (.ref g1), .val (.ref g2), .val (.ref ac), .unset] [(.ref gn)])) rfl (by rw [hml]; rfl) (argsL := []) (rest := []) rfl (lenOf own_pd20 rfl) rfl (by show 2 * 0 + _ ≤ _; exact Nat.le_of_eq rfl) (hb hby at_262) (by decide) (by decide)
      have N164 := Fr.app N163 Nt
      have ne_g1_y : g1 ≠ y := Nat.ne_of_lt (Nat.lt_of_lt_of_le E_1.lt gy)
      have ne_t1_y : t1 ≠ y := Nat.ne_of_lt (Nat.lt_of_lt_of_le V_1.lt gy)
      have ne_g2_y : g2 ≠ y := Nat.ne_of_lt (Nat.lt_of_lt_of_le G_2.lt gy)
      have ne_t2_y : t2 ≠ y := Nat.ne_of_lt (Nat.lt_of_lt_of_le V_2.lt gy)
      have ne_ac_y : ac ≠ y := Nat.ne_of_lt (Nat.lt_of_lt_of_le A_3.lt gy)
      have ne_gn_y : gn ≠ y := Nat.ne_of_lt (Nat.lt_of_lt_of_le E_gn.lt gy)
      have ge_y : n0 ≤ y := Nat.le_trans (own_z0 Od) gy
      have QSf_ac := CHr.safe R164 A_3.lt Sf_ac
      have QSf_gn := CHr.safe R164 E_gn.lt Sf_gn
      have E_1 := E_1.keep Kt
      have G_1 := G_1.keep Kt nin0
      have H_1 := H_1.keep Kt nin0
      have V_1 := V_1.keep Kt nin0
      have G_2 := G_2.keep Kt nin0
      have H_2 := H_2.keep Kt nin0
      have V_2 := V_2.keep Kt nin0
      have E_2 := E_2.keep Kt
      have A_3 := A_3.keep Kt nin0
      have E_gn := E_gn.keep Kt
      have B_c := B_c.keep Kt nin0
      have B_g := B_g.keep Kt nin0
      have Od := Od.keep Kt all0
      have Sf_ac := QSf_ac
      have Sf_gn := QSf_gn
      have Hr := Hr.trans R164
      have hS := hS164
      have hk : h164.size ≤ h164.size := Nat.le_refl _
      have hZ := hZ164
      have hown := hown164
      refine own_stW st164 ?_
      show own_GoW p e below s Z consts_1 _ _ _ (T164.setTop (mkF m 265 #[.val (.int p0), .val (.int p1), .val (.int p2), .val (.int u1), .val (.int u2), .val (.int u3), .val (.int u4), .val (.int (0 : Int32)), .val (.int (1 : Int32)), .val (.ref g1), .val (.ref g2), .val (.ref ac), .unset] [(.ref y)]))
      refine own_stW (fun t9 k9 => XS.astore X164.here hx rfl (hb hby at_265) rfl rfl (l' := #[.val (.int p0), .val (.int p1), .val (.int p2), .val (.int u1), .val (.int u2), .val (.int u3), .val (.int u4), .val (.int (0 : Int32)), .val (.int (1 : Int32)), .val (.ref g1), .val (.ref g2), .val (.ref ac), .val (.ref y)]) rfl k9) ?_
      show own_GoW p e below s Z consts_1 _ _ _ (T164.setTop (mkF m 267 #[.val (.int p0), .val (.int p1), .val (.int p2), .val (.int u1), .val (.int u2), .val (.int u3), .val (.int u4), .val (.int (0 : Int32)), .val (.int (1 : Int32)), .val (.ref g1), .val (.ref g2), .val (.ref ac), .val (.ref y)] []))
      refine own_stW (fun t9 k9 => XS.aload X164.here hx rfl (hb hby at_267) rfl rfl k9) ?_
      show own_GoW p e below s Z consts_1 _ _ _ (T164.setTop (mkF m 269 #[.val (.int p0), .val (.int p1), .val (.int p2), .val (.int u1), .val (.int u2), .val (.int u3), .val (.int u4), .val (.int (0 : Int32)), .val (.int (1 : Int32)), .val (.ref g1), .val (.ref g2), .val (.ref ac), .val (.ref y)] [(.ref y)]))
      obtain ⟨T165, h165, X165, e165, E165, A165, D165, U165, st165⟩ := newO X164 hx hZ hown (hw _ (List.mem_of_getElem? (i := 26) rfl)) (hw _ (List.mem_of_getElem? (i := 10) rfl)) (hw _ (List.mem_of_getElem? (i := 2) rfl)) e164 (g := (mkF m 269 #[.val (.int p0), .val (.int p1), .val (.int p2), .val (.int u1), .val (.int u2), .val (.int u3), .val (.int u4), .val (.int (0 : Int32)), .val (.int (1 : Int32)), .val (.ref g1), .val (.ref g2), .val (.ref ac), .val (.ref y)] [(.ref y)])) rfl (hb hby at_269) (by decide) (by decide)
      obtain ⟨g3, g165⟩ : ∃ z, z = h164.size := ⟨_, rfl⟩
      rw [← g165] at A165 D165 st165 U165
      have ne_ac_g3 : ac ≠ g3 := Nat.ne_of_lt (Nat.lt_of_lt_of_le A_3.lt (Nat.le_of_eq g165.symm))
      have ne_y_g3 : y ≠ g3 := Nat.ne_of_lt (Nat.lt_of_lt_of_le E_y.lt (Nat.le_of_eq g165.symm))
      have ne_tb_g3 : tb ≠ g3 := Nat.ne_of_lt (Nat.lt_of_lt_of_le V_y.lt (Nat.le_of_eq g165.symm))
      have ge_g3 : n0 ≤ g3 := Nat.le_trans (own_z0 Od) (Nat.le_of_eq g165.symm)
      have Sf_g3 : Safe Z consts_1 T164.vm h164 g3 := Safe.new (Nat.le_of_eq g165.symm)
      have Sf_ac := Safe.ext E165 Hr.1 Sf_ac
      have A_3 := A_3.ext E165
      have E_y := E_y.ext E165
      have Y_k := Y_k.ext E165
      have Y_v := Y_v.ext E165
      have V_y := V_y.ext E165
      have Sf_g3 := Safe.ext E165 Hr.1 Sf_g3
      have Od := Od.ext E165
      have Hr := Hr.trans (CHr.ext E165 Hr.1)
      have hk := Nat.le_trans hk E165.1
      refine own_stW st165 ?_
      show own_GoW p e below s Z consts_1 _ _ _ (T165.setTop (mkF m 272 #[.val (.int p0), .val (.int p1), .val (.int p2), .val (.int u1), .val (.int u2), .val (.int u3), .val (.int u4), .val (.int (0 : Int32)), .val (.int (1 : Int32)), .val (.ref g1), .val (.ref g2), .val (.ref ac), .val (.ref y)] [(.ref g3), (.ref y)]))
      have E_g3 : Exa Z h165 g3 "java/lang/String" := A165
      have F_v : Fld Z h165 g3 "java/lang/String" "value" "[B" .null := D165 (Or.inr (hw _ (List.mem_of_getElem? (i := 23) rfl))) (ty := (.array .byte)) (by decide)
      have F_k : Fld Z h165 g3 "java/lang/String" "coder" "B" (.int (0 : Int32)) := D165 (Or.inr (hw _ (List.mem_of_getElem? (i := 25) rfl))) (ty := .byte) (by decide)
      refine own_stW (fun t9 k9 => XS.dup X165.here hx rfl (hb hby at_272) rfl rfl k9) ?_
      show own_GoW p e below s Z consts_1 _ _ _ (T165.setTop (mkF m 273 #[.val (.int p0), .val (.int p1), .val (.int p2), .val (.int u1), .val (.int u2), .val (.int u3), .val (.int u4), .val (.int (0 : Int32)), .val (.int (1 : Int32)), .val (.ref g1), .val (.ref g2), .val (.ref ac), .val (.ref y)] [(.ref g3), (.ref g3), (.ref y)]))
      refine own_stW (fun t9 k9 => XS.aload X165.here hx rfl (hb hby at_273) rfl rfl k9) ?_
      show own_GoW p e below s Z consts_1 _ _ _ (T165.setTop (mkF m 275 #[.val (.int p0), .val (.int p1), .val (.int p2), .val (.int u1), .val (.int u2), .val (.int u3), .val (.int u4), .val (.int (0 : Int32)), .val (.int (1 : Int32)), .val (.ref g1), .val (.ref g2), .val (.ref ac), .val (.ref y)] [(.ref ac), (.ref g3), (.ref g3), (.ref y)]))
      have hp3 : ∀ c ∈ ([u1, (47 : Int32), u3, u4] : List Int32), ¬ c < 0 ∧ ¬ (255 : Int32) < c := by
        intro c hc
        simp only [List.mem_cons, List.not_mem_nil, or_false] at hc
        rcases hc with rfl | rfl | rfl | rfl
        all_goals first | assumption | decide
      obtain ⟨_, T166, h166, L166, X166, e166, ⟨rfl, Nb3, Kb3, Eb3, H_3, t3, k3, gt3, gu3, ntb3, G_3, Vb3⟩, st166⟩ := own_backI X165 hx hZ hown rfl (hw _ (List.mem_of_getElem? (i := 28) rfl)) (hw _ (List.mem_of_getElem? (i := 29) rfl)) (hw _ (List.mem_of_getElem? (i := 30) rfl)) (by decide) (StrChars.Road.backV (s := s.setVm T164.vm) (W := 2) hZ hws (kI := 4) (hw _ (List.mem_of_getElem? (i := 10) rfl)) (cs := [u1, (47 : Int32), u3, u4]) (bs := ([u1, (47 : Int32), u3, u4] : List Int32).map (fun c => c.toInt8.toInt32)) (n := 4) ge_g3 (own_z0 Od) E_g3 F_v F_k A_3 (O2.ext Od.2) P5 rfl rfl (by decide) (by decide) hp3 rfl (by decide) (by decide)) e165 (a := g3) (W := 2) (g := (mkF m 275 #[.val (.int p0), .val (.int p1), .val (.int p2), .val (.int u1), .val (.int u2), .val (.int u3), .val (.int u4), .val (.int (0 : Int32)), .val (.int (1 : Int32)), .val (.ref g1), .val (.ref g2), .val (.ref ac), .val (.ref y)] [(.ref ac), (.ref g3), (.ref g3), (.ref y)])) rfl (by rw [hml]; rfl) (argsL := [(.ref ac)]) (rest := [(.ref g3), (.ref y)]) rfl (lenOf own_pd23 rfl) rfl (by show 2 * 0 + _ ≤ _; exact Nat.le_of_eq rfl) (hb hby at_275) (by decide) (by decide)
      have N166 := Fr.app N164 Nb3
      have ne_ac_t3 : ac ≠ t3 := Nat.ne_of_lt (Nat.lt_of_lt_of_le A_3.lt gu3)
      have ne_y_t3 : y ≠ t3 := Nat.ne_of_lt (Nat.lt_of_lt_of_le E_y.lt gu3)
      have ne_tb_t3 : tb ≠ t3 := Nat.ne_of_lt (Nat.lt_of_lt_of_le V_y.lt gu3)
      have ne_g3_t3 : g3 ≠ t3 := Nat.ne_of_lt (Nat.lt_of_lt_of_le E_g3.lt gu3)
      have ge_t3 : n0 ≤ t3 := Nat.le_trans (own_z0 Od) gu3
      have QSf_ac := Safe.keep Kb3 (sfS Sf_g3 sf0) Hr.1 Sf_ac
      have A_3 := A_3.keep Kb3 (ninS ne_ac_g3 nin0)
      have E_y := E_y.keep Kb3
      have Y_k := Y_k.keep Kb3 (ninS ne_y_g3 nin0)
      have Y_v := Y_v.keep Kb3 (ninS ne_y_g3 nin0)
      have V_y := V_y.keep Kb3 (ninS ne_tb_g3 nin0)
      have QSf_g3 := Safe.keep Kb3 (sfS Sf_g3 sf0) Hr.1 Sf_g3
      have E_g3 := E_g3.keep Kb3
      have Od := Od.keep Kb3 (allS ge_g3 all0)
      have Hr0 := Hr.1
      have Hr := Hr.trans (CHr.keep Kb3 (sfS Sf_g3 sf0) Hr.1)
      have hk := Nat.le_trans hk Kb3.1
      have SFL := (sfS Sf_g3 sf0)
      have Sf_ac := QSf_ac
      have Sf_g3 := QSf_g3
      have Sf_t3 := Safe.keep Kb3 SFL Hr0 (Safe.new gu3)
      refine own_stW st166 ?_
      show own_GoW p e below s Z consts_1 _ _ _ (T166.setTop (mkF m 278 #[.val (.int p0), .val (.int p1), .val (.int p2), .val (.int u1), .val (.int u2), .val (.int u3), .val (.int u4), .val (.int (0 : Int32)), .val (.int (1 : Int32)), .val (.ref g1), .val (.ref g2), .val (.ref ac), .val (.ref y)] [(.ref g3), (.ref y)]))
      have V_3 : Arv Z h166 t3 k3 .byte (4 : Int32) [(.int (u1.toInt8.toInt32)), (.int ((47 : Int32).toInt8.toInt32)), (.int (u3.toInt8.toInt32)), (.int (u4.toInt8.toInt32))] (.int (0 : Int32)) := Vb3
      have hw5 : ∀ c ∈ ([u1, (47 : Int32), u3, u4] : List Int32), ¬ c < 0 ∧ ¬ (65535 : Int32) < c := fun c hc => ⟨(hp3 c hc).1, own_65 (hp3 c hc).2⟩
      have hcd : StrChars.Road.CodA ([u1, (47 : Int32), u3, u4] : List Int32) 0 (4 : Int32) [(.int (u1.toInt8.toInt32)), (.int ((47 : Int32).toInt8.toInt32)), (.int (u3.toInt8.toInt32)), (.int (u4.toInt8.toInt32))] := StrChars.Road.codOf (n := 4) rfl (fun c hc => (hp3 c hc).2)
      have V_z : Arv Z h166 tb kb .byte (4 : Int32) [(.int (u1.toInt8.toInt32)), (.int ((47 : Int32).toInt8.toInt32)), (.int (u3.toInt8.toInt32)), (.int (u4.toInt8.toInt32))] (.int (0 : Int32)) := by rw [own_b47]; exact V_y
      obtain ⟨_, T167, h167, L167, X167, e167, ⟨rfl, rfl, hu⟩, st167⟩ := own_backV X166 hx hZ hown (hw _ (List.mem_of_getElem? (i := 189) rfl)) (hw _ (List.mem_of_getElem? (i := 190) rfl)) (notFace_of_selects (args := #[]) (mvT hZ (hw _ (List.mem_of_getElem? (i := 192) rfl)))) (hw _ (List.mem_of_getElem? (i := 192) rfl)) (hw _ (List.mem_of_getElem? (i := 191) rfl)) (by decide) (own_eqS (s := s.setVm T164.vm) (W := 0) hZ hwe (kI := 4) (hw _ (List.mem_of_getElem? (i := 10) rfl)) E_y Y_v Y_k V_z hcd hw5 (show 4 ≤ 4000 by decide) E_g3 G_3 H_3 V_3 hcd (O2.ext Od.2) P5 (by decide) (by decide)) e166 (b := y) E_y (Qy := (fun v h' L => v = some (.int (1 : Int32)) ∧ L = [] ∧ h' = h166)) (W := 0) (g := (mkF m 278 #[.val (.int p0), .val (.int p1), .val (.int p2), .val (.int u1), .val (.int u2), .val (.int u3), .val (.int u4), .val (.int (0 : Int32)), .val (.int (1 : Int32)), .val (.ref g1), .val (.ref g2), .val (.ref ac), .val (.ref y)] [(.ref g3), (.ref y)])) rfl (by rw [hml]; rfl) (argsL := [(.ref g3)]) (rest := []) rfl (lenOf own_pd24 rfl) rfl (by show 2 * 0 + _ ≤ _; exact Nat.le_of_eq rfl) (hb hby at_278) (by decide) (by decide)
      have N167 := Fr.app N166 (Fr.nil n0)
      refine own_stW st167 ?_
      show own_GoW p e below s Z consts_1 _ _ _ (T167.setTop (mkF m 281 #[.val (.int p0), .val (.int p1), .val (.int p2), .val (.int u1), .val (.int u2), .val (.int u3), .val (.int u4), .val (.int (0 : Int32)), .val (.int (1 : Int32)), .val (.ref g1), .val (.ref g2), .val (.ref ac), .val (.ref y)] [(.int (1 : Int32))]))
      exact own_retNW X167 hx hlk hS (by rw [(e167.trans hu)]; exact hk) hZ hEL (by rw [hh, (e167.trans hu)]; exact Hr) (t := .boolean) Bd.returns (by simp) (hb hby at_281) (by decide) (by decide) (by rw [(e167.trans hu)]; exact ⟨rfl, N167⟩)
  · skip
    refine own_stW (fun t9 k9 => XS.ifNo X0.here hx rfl (hb hby at_40) rfl ((if0 _ _).trans (feq (hA1 : ¬ ((p2 &&& (1 : Int32)) = (0 : Int32)))).1) k9) ?_
    show own_GoW p e below s Z consts_1 _ _ _ (s₁.setTop (mkF m 43 #[.val (.int p0), .val (.int p1), .val (.int p2), .val (.int u1), .val (.int u2), .val (.int u3), .val (.int u4), .unset, .unset, .unset, .unset, .unset, .unset] []))
    refine own_stW (fun t9 k9 => XS.iconst X0.here hx rfl (hb hby at_43) k9) ?_
    show own_GoW p e below s Z consts_1 _ _ _ (s₁.setTop (mkF m 44 #[.val (.int p0), .val (.int p1), .val (.int p2), .val (.int u1), .val (.int u2), .val (.int u3), .val (.int u4), .unset, .unset, .unset, .unset, .unset, .unset] [(.int (1 : Int32))]))
    refine own_stW (fun t9 k9 => XS.goto X0.here hx rfl (pc0 := 44) (pc' := 48) rfl (hb hby at_44) (by decide) (by decide) k9) ?_
    show own_GoW p e below s Z consts_1 _ _ _ (s₁.setTop (mkF m 48 #[.val (.int p0), .val (.int p1), .val (.int p2), .val (.int u1), .val (.int u2), .val (.int u3), .val (.int u4), .unset, .unset, .unset, .unset, .unset, .unset] [(.int (1 : Int32))]))
    refine own_stW (fun t9 k9 => XS.istore X0.here hx rfl (hb hby at_48) rfl (l' := #[.val (.int p0), .val (.int p1), .val (.int p2), .val (.int u1), .val (.int u2), .val (.int u3), .val (.int u4), .val (.int (1 : Int32)), .unset, .unset, .unset, .unset, .unset]) rfl k9) ?_
    show own_GoW p e below s Z consts_1 _ _ _ (s₁.setTop (mkF m 50 #[.val (.int p0), .val (.int p1), .val (.int p2), .val (.int u1), .val (.int u2), .val (.int u3), .val (.int u4), .val (.int (1 : Int32)), .unset, .unset, .unset, .unset, .unset] []))
    refine own_stW (fun t9 k9 => XS.iloadN X0.here hx rfl (hb hby at_50) rfl  k9) ?_
    show own_GoW p e below s Z consts_1 _ _ _ (s₁.setTop (mkF m 51 #[.val (.int p0), .val (.int p1), .val (.int p2), .val (.int u1), .val (.int u2), .val (.int u3), .val (.int u4), .val (.int (1 : Int32)), .unset, .unset, .unset, .unset, .unset] [(.int p2)]))
    refine own_stW (fun t9 k9 => XS.iconst X0.here hx rfl (hb hby at_51) k9) ?_
    show own_GoW p e below s Z consts_1 _ _ _ (s₁.setTop (mkF m 52 #[.val (.int p0), .val (.int p1), .val (.int p2), .val (.int u1), .val (.int u2), .val (.int u3), .val (.int u4), .val (.int (1 : Int32)), .unset, .unset, .unset, .unset, .unset] [(.int (2 : Int32)), (.int p2)]))
    refine own_stW (fun t9 k9 => XS.iand X0.here hx rfl (hb hby at_52) rfl k9) ?_
    show own_GoW p e below s Z consts_1 _ _ _ (s₁.setTop (mkF m 53 #[.val (.int p0), .val (.int p1), .val (.int p2), .val (.int u1), .val (.int u2), .val (.int u3), .val (.int u4), .val (.int (1 : Int32)), .unset, .unset, .unset, .unset, .unset] [(.int (p2 &&& (2 : Int32)))]))
    by_cases hA2 : (p2 &&& (2 : Int32)) = (0 : Int32)
    · skip
      refine own_stW (fun t9 k9 => XS.ifYes X0.here hx rfl (pc0 := 53) (pc' := 60) rfl (hb hby at_53) rfl ((if0 _ _).trans (teq (hA2 : (p2 &&& (2 : Int32)) = (0 : Int32))).1) (by decide) (by decide) k9) ?_
      show own_GoW p e below s Z consts_1 _ _ _ (s₁.setTop (mkF m 60 #[.val (.int p0), .val (.int p1), .val (.int p2), .val (.int u1), .val (.int u2), .val (.int u3), .val (.int u4), .val (.int (1 : Int32)), .unset, .unset, .unset, .unset, .unset] []))
      refine own_stW (fun t9 k9 => XS.iconst X0.here hx rfl (hb hby at_60) k9) ?_
      show own_GoW p e below s Z consts_1 _ _ _ (s₁.setTop (mkF m 61 #[.val (.int p0), .val (.int p1), .val (.int p2), .val (.int u1), .val (.int u2), .val (.int u3), .val (.int u4), .val (.int (1 : Int32)), .unset, .unset, .unset, .unset, .unset] [(.int (0 : Int32))]))
      refine own_stW (fun t9 k9 => XS.istore X0.here hx rfl (hb hby at_61) rfl (l' := #[.val (.int p0), .val (.int p1), .val (.int p2), .val (.int u1), .val (.int u2), .val (.int u3), .val (.int u4), .val (.int (1 : Int32)), .val (.int (0 : Int32)), .unset, .unset, .unset, .unset]) rfl k9) ?_
      show own_GoW p e below s Z consts_1 _ _ _ (s₁.setTop (mkF m 63 #[.val (.int p0), .val (.int p1), .val (.int p2), .val (.int u1), .val (.int u2), .val (.int u3), .val (.int u4), .val (.int (1 : Int32)), .val (.int (0 : Int32)), .unset, .unset, .unset, .unset] []))
      refine own_stW (fun t9 k9 => XS.iload X0.here hx rfl (hb hby at_63) rfl  k9) ?_
      show own_GoW p e below s Z consts_1 _ _ _ (s₁.setTop (mkF m 65 #[.val (.int p0), .val (.int p1), .val (.int p2), .val (.int u1), .val (.int u2), .val (.int u3), .val (.int u4), .val (.int (1 : Int32)), .val (.int (0 : Int32)), .unset, .unset, .unset, .unset] [(.int (1 : Int32))]))
      refine own_stW (fun t9 k9 => XS.ifNo X0.here hx rfl (hb hby at_65) rfl (by decide) k9) ?_
      show own_GoW p e below s Z consts_1 _ _ _ (s₁.setTop (mkF m 68 #[.val (.int p0), .val (.int p1), .val (.int p2), .val (.int u1), .val (.int u2), .val (.int u3), .val (.int u4), .val (.int (1 : Int32)), .val (.int (0 : Int32)), .unset, .unset, .unset, .unset] []))
      obtain ⟨T168, h168, X168, e168, E168, A168, D168, U168, st168⟩ := newO X0 hx hZ hown (hw _ (List.mem_of_getElem? (i := 26) rfl)) (hw _ (List.mem_of_getElem? (i := 10) rfl)) (hw _ (List.mem_of_getElem? (i := 2) rfl)) e0 (g := (mkF m 68 #[.val (.int p0), .val (.int p1), .val (.int p2), .val (.int u1), .val (.int u2), .val (.int u3), .val (.int u4), .val (.int (1 : Int32)), .val (.int (0 : Int32)), .unset, .unset, .unset, .unset] [])) rfl (hb hby at_68) (by decide) (by decide)
      obtain ⟨g1, g168⟩ : ∃ z, z = h0.size := ⟨_, rfl⟩
      rw [← g168] at A168 D168 st168 U168
      have ge_g1 : n0 ≤ g1 := Nat.le_trans (own_z0 Od) (Nat.le_of_eq g168.symm)
      have Sf_g1 : Safe Z consts_1 s.vm h0 g1 := Safe.new (Nat.le_of_eq g168.symm)
      have Sf_g1 := Safe.ext E168 Hr.1 Sf_g1
      have Od := Od.ext E168
      have Hr := Hr.trans (CHr.ext E168 Hr.1)
      have hk := Nat.le_trans hk E168.1
      refine own_stW st168 ?_
      show own_GoW p e below s Z consts_1 _ _ _ (T168.setTop (mkF m 71 #[.val (.int p0), .val (.int p1), .val (.int p2), .val (.int u1), .val (.int u2), .val (.int u3), .val (.int u4), .val (.int (1 : Int32)), .val (.int (0 : Int32)), .unset, .unset, .unset, .unset] [(.ref g1)]))
      have E_g1 : Exa Z h168 g1 "java/lang/String" := A168
      have F_v : Fld Z h168 g1 "java/lang/String" "value" "[B" .null := D168 (Or.inr (hw _ (List.mem_of_getElem? (i := 23) rfl))) (ty := (.array .byte)) (by decide)
      have F_k : Fld Z h168 g1 "java/lang/String" "coder" "B" (.int (0 : Int32)) := D168 (Or.inr (hw _ (List.mem_of_getElem? (i := 25) rfl))) (ty := .byte) (by decide)
      refine own_stW (fun t9 k9 => XS.dup X168.here hx rfl (hb hby at_71) rfl rfl k9) ?_
      show own_GoW p e below s Z consts_1 _ _ _ (T168.setTop (mkF m 72 #[.val (.int p0), .val (.int p1), .val (.int p2), .val (.int u1), .val (.int u2), .val (.int u3), .val (.int u4), .val (.int (1 : Int32)), .val (.int (0 : Int32)), .unset, .unset, .unset, .unset] [(.ref g1), (.ref g1)]))
      refine own_stW (fun t9 k9 => XS.iconst X168.here hx rfl (hb hby at_72) k9) ?_
      show own_GoW p e below s Z consts_1 _ _ _ (T168.setTop (mkF m 73 #[.val (.int p0), .val (.int p1), .val (.int p2), .val (.int u1), .val (.int u2), .val (.int u3), .val (.int u4), .val (.int (1 : Int32)), .val (.int (0 : Int32)), .unset, .unset, .unset, .unset] [(.int (2 : Int32)), (.ref g1), (.ref g1)]))
      obtain ⟨T169, h169, k169, X169, e169, E169, A169, st169⟩ := newP X168 hx hZ (hw _ (List.mem_of_getElem? (i := 27) rfl)) e168 (g := (mkF m 73 #[.val (.int p0), .val (.int p1), .val (.int p2), .val (.int u1), .val (.int u2), .val (.int u3), .val (.int u4), .val (.int (1 : Int32)), .val (.int (0 : Int32)), .unset, .unset, .unset, .unset] [(.int (2 : Int32)), (.ref g1), (.ref g1)])) rfl (hb hby at_73) rfl (by decide) (cap := 2) (by decide) (by decide) (by decide) (by decide)
      obtain ⟨a1, g169⟩ : ∃ z, z = h168.size := ⟨_, rfl⟩
      rw [← g169] at A169 st169
      have ne_g1_a1 : g1 ≠ a1 := Nat.ne_of_lt (Nat.lt_of_lt_of_le E_g1.lt (Nat.le_of_eq g169.symm))
      have ge_a1 : n0 ≤ a1 := Nat.le_trans (own_z0 Od) (Nat.le_of_eq g169.symm)
      have Sf_a1 : Safe Z consts_1 s.vm h168 a1 := Safe.new (Nat.le_of_eq g169.symm)
      have Sf_g1 := Safe.ext E169 Hr.1 Sf_g1
      have E_g1 := E_g1.ext E169
      have F_v := F_v.ext E169
      have F_k := F_k.ext E169
      have Sf_a1 := Safe.ext E169 Hr.1 Sf_a1
      have Od := Od.ext E169
      have Hr := Hr.trans (CHr.ext E169 Hr.1)
      have hk := Nat.le_trans hk E169.1
      refine own_stW st169 ?_
      show own_GoW p e below s Z consts_1 _ _ _ (T169.setTop (mkF m 75 #[.val (.int p0), .val (.int p1), .val (.int p2), .val (.int u1), .val (.int u2), .val (.int u3), .val (.int u4), .val (.int (1 : Int32)), .val (.int (0 : Int32)), .unset, .unset, .unset, .unset] [(.ref a1), (.ref g1), (.ref g1)]))
      have A_1 : Arv Z h169 a1 k169 .char (2 : Int32) [(.int (0 : Int32)), (.int (0 : Int32))] (.int (0 : Int32)) := (Arv.new A169 (by decide)).pad (pad_rep [] (.int (0 : Int32)) 2)
      refine own_stW (fun t9 k9 => XS.dup X169.here hx rfl (hb hby at_75) rfl rfl k9) ?_
      show own_GoW p e below s Z consts_1 _ _ _ (T169.setTop (mkF m 76 #[.val (.int p0), .val (.int p1), .val (.int p2), .val (.int u1), .val (.int u2), .val (.int u3), .val (.int u4), .val (.int (1 : Int32)), .val (.int (0 : Int32)), .unset, .unset, .unset, .unset] [(.ref a1), (.ref a1), (.ref g1), (.ref g1)]))
      refine own_stW (fun t9 k9 => XS.iconst X169.here hx rfl (hb hby at_76) k9) ?_
      show own_GoW p e below s Z consts_1 _ _ _ (T169.setTop (mkF m 77 #[.val (.int p0), .val (.int p1), .val (.int p2), .val (.int u1), .val (.int u2), .val (.int u3), .val (.int u4), .val (.int (1 : Int32)), .val (.int (0 : Int32)), .unset, .unset, .unset, .unset] [(.int (0 : Int32)), (.ref a1), (.ref a1), (.ref g1), (.ref g1)]))
      refine own_stW (fun t9 k9 => XS.iloadN X169.here hx rfl (hb hby at_77) rfl  k9) ?_
      show own_GoW p e below s Z consts_1 _ _ _ (T169.setTop (mkF m 78 #[.val (.int p0), .val (.int p1), .val (.int p2), .val (.int u1), .val (.int u2), .val (.int u3), .val (.int u4), .val (.int (1 : Int32)), .val (.int (0 : Int32)), .unset, .unset, .unset, .unset] [(.int u1), (.int (0 : Int32)), (.ref a1), (.ref a1), (.ref g1), (.ref g1)]))
      obtain ⟨cl170, Ar170, q170, S170, M170, H170, G170⟩ := id A_1
      obtain ⟨T170, h170, X170, e170, W170, st170⟩ := stC X169 hx hZ e169 Ar170 (j := (0 : Int32)) (inb_of S170 ⟨by decide, by decide⟩) (g := (mkF m 78 #[.val (.int p0), .val (.int p1), .val (.int p2), .val (.int u1), .val (.int u2), .val (.int u3), .val (.int u4), .val (.int (1 : Int32)), .val (.int (0 : Int32)), .unset, .unset, .unset, .unset] [(.int u1), (.int (0 : Int32)), (.ref a1), (.ref a1), (.ref g1), (.ref g1)])) rfl rfl (hb hby at_78)
      have N170 := Fr.snoc X170 N0 ge_a1
      have QSf_g1 := Safe.wr W170 Sf_a1 Hr.1 Sf_g1
      have E_g1 := E_g1.wr W170
      have F_v := F_v.other W170 (Or.inl ne_g1_a1)
      have F_k := F_k.other W170 (Or.inl ne_g1_a1)
      have QSf_a1 := Safe.wr W170 Sf_a1 Hr.1 Sf_a1
      have Od := Od.wr W170 ge_a1
      have Hr := Hr.trans (CHr.wr W170 Sf_a1 Hr.1)
      have hk := Nat.le_trans hk (Keep.of_wr W170).1
      have Sf_g1 := QSf_g1
      have Sf_a1 := QSf_a1
      refine own_stW st170 ?_
      show own_GoW p e below s Z consts_1 _ _ _ (T170.setTop (mkF m 79 #[.val (.int p0), .val (.int p1), .val (.int p2), .val (.int u1), .val (.int u2), .val (.int u3), .val (.int u4), .val (.int (1 : Int32)), .val (.int (0 : Int32)), .unset, .unset, .unset, .unset] [(.ref a1), (.ref g1), (.ref g1)]))
      have A_1 : Arv Z h170 a1 k169 .char (2 : Int32) [(.int (nar .char u1)), (.int (0 : Int32))] (.int (0 : Int32)) := Arv.set Ar170 q170 S170 M170 H170 G170 (fits_nar_char _) W170 0 rfl (Nat.le_of_ble_eq_true rfl)
      refine own_stW (fun t9 k9 => XS.dup X170.here hx rfl (hb hby at_79) rfl rfl k9) ?_
      show own_GoW p e below s Z consts_1 _ _ _ (T170.setTop (mkF m 80 #[.val (.int p0), .val (.int p1), .val (.int p2), .val (.int u1), .val (.int u2), .val (.int u3), .val (.int u4), .val (.int (1 : Int32)), .val (.int (0 : Int32)), .unset, .unset, .unset, .unset] [(.ref a1), (.ref a1), (.ref g1), (.ref g1)]))
      refine own_stW (fun t9 k9 => XS.iconst X170.here hx rfl (hb hby at_80) k9) ?_
      show own_GoW p e below s Z consts_1 _ _ _ (T170.setTop (mkF m 81 #[.val (.int p0), .val (.int p1), .val (.int p2), .val (.int u1), .val (.int u2), .val (.int u3), .val (.int u4), .val (.int (1 : Int32)), .val (.int (0 : Int32)), .unset, .unset, .unset, .unset] [(.int (1 : Int32)), (.ref a1), (.ref a1), (.ref g1), (.ref g1)]))
      refine own_stW (fun t9 k9 => XS.iload X170.here hx rfl (hb hby at_81) rfl  k9) ?_
      show own_GoW p e below s Z consts_1 _ _ _ (T170.setTop (mkF m 83 #[.val (.int p0), .val (.int p1), .val (.int p2), .val (.int u1), .val (.int u2), .val (.int u3), .val (.int u4), .val (.int (1 : Int32)), .val (.int (0 : Int32)), .unset, .unset, .unset, .unset] [(.int u2), (.int (1 : Int32)), (.ref a1), (.ref a1), (.ref g1), (.ref g1)]))
      obtain ⟨cl171, Ar171, q171, S171, M171, H171, G171⟩ := id A_1
      obtain ⟨T171, h171, X171, e171, W171, st171⟩ := stC X170 hx hZ e170 Ar171 (j := (1 : Int32)) (inb_of S171 ⟨by decide, by decide⟩) (g := (mkF m 83 #[.val (.int p0), .val (.int p1), .val (.int p2), .val (.int u1), .val (.int u2), .val (.int u3), .val (.int u4), .val (.int (1 : Int32)), .val (.int (0 : Int32)), .unset, .unset, .unset, .unset] [(.int u2), (.int (1 : Int32)), (.ref a1), (.ref a1), (.ref g1), (.ref g1)])) rfl rfl (hb hby at_83)
      have N171 := Fr.snoc X171 N170 ge_a1
      have QSf_g1 := Safe.wr W171 Sf_a1 Hr.1 Sf_g1
      have E_g1 := E_g1.wr W171
      have F_v := F_v.other W171 (Or.inl ne_g1_a1)
      have F_k := F_k.other W171 (Or.inl ne_g1_a1)
      have QSf_a1 := Safe.wr W171 Sf_a1 Hr.1 Sf_a1
      have Od := Od.wr W171 ge_a1
      have Hr := Hr.trans (CHr.wr W171 Sf_a1 Hr.1)
      have hk := Nat.le_trans hk (Keep.of_wr W171).1
      have Sf_g1 := QSf_g1
      have Sf_a1 := QSf_a1
      refine own_stW st171 ?_
      show own_GoW p e below s Z consts_1 _ _ _ (T171.setTop (mkF m 84 #[.val (.int p0), .val (.int p1), .val (.int p2), .val (.int u1), .val (.int u2), .val (.int u3), .val (.int u4), .val (.int (1 : Int32)), .val (.int (0 : Int32)), .unset, .unset, .unset, .unset] [(.ref a1), (.ref g1), (.ref g1)]))
      have A_1 : Arv Z h171 a1 k169 .char (2 : Int32) [(.int (nar .char u1)), (.int (nar .char u2))] (.int (0 : Int32)) := Arv.set Ar171 q171 S171 M171 H171 G171 (fits_nar_char _) W171 1 rfl (Nat.le_of_ble_eq_true rfl)
      rw [nu1, nu2] at A_1
      have hp1 : ∀ c ∈ ([u1, u2] : List Int32), ¬ c < 0 ∧ ¬ (255 : Int32) < c := by
        intro c hc
        simp only [List.mem_cons, List.not_mem_nil, or_false] at hc
        rcases hc with rfl | rfl
        all_goals first | assumption | decide
      obtain ⟨_, T172, h172, L172, X172, e172, ⟨rfl, Nb1, Kb1, Eb1, H_1, t1, k1, gt1, gu1, ntb1, G_1, Vb1⟩, st172⟩ := own_backI X171 hx hZ hown rfl (hw _ (List.mem_of_getElem? (i := 28) rfl)) (hw _ (List.mem_of_getElem? (i := 29) rfl)) (hw _ (List.mem_of_getElem? (i := 30) rfl)) (by decide) (StrChars.Road.backV (s := s.setVm s.vm) (W := 1) hZ hws (kI := 4) (hw _ (List.mem_of_getElem? (i := 10) rfl)) (cs := [u1, u2]) (bs := ([u1, u2] : List Int32).map (fun c => c.toInt8.toInt32)) (n := 2) ge_g1 (own_z0 Od) E_g1 F_v F_k A_1 (O2.ext Od.2) P5 rfl rfl (by decide) (by decide) hp1 rfl (by decide) (by decide)) e171 (a := g1) (W := 1) (g := (mkF m 84 #[.val (.int p0), .val (.int p1), .val (.int p2), .val (.int u1), .val (.int u2), .val (.int u3), .val (.int u4), .val (.int (1 : Int32)), .val (.int (0 : Int32)), .unset, .unset, .unset, .unset] [(.ref a1), (.ref g1), (.ref g1)])) rfl (by rw [hml]; rfl) (argsL := [(.ref a1)]) (rest := [(.ref g1)]) rfl (lenOf own_pd23 rfl) rfl (by show 2 * 0 + _ ≤ _; exact Nat.le_of_eq rfl) (hb hby at_84) (by decide) (by decide)
      have N172 := Fr.app N171 Nb1
      have ne_g1_t1 : g1 ≠ t1 := Nat.ne_of_lt (Nat.lt_of_lt_of_le E_g1.lt gu1)
      have ne_a1_t1 : a1 ≠ t1 := Nat.ne_of_lt (Nat.lt_of_lt_of_le A_1.lt gu1)
      have ge_t1 : n0 ≤ t1 := Nat.le_trans (own_z0 Od) gu1
      have QSf_g1 := Safe.keep Kb1 (sfS Sf_g1 sf0) Hr.1 Sf_g1
      have E_g1 := E_g1.keep Kb1
      have QSf_a1 := Safe.keep Kb1 (sfS Sf_g1 sf0) Hr.1 Sf_a1
      have A_1 := A_1.keep Kb1 (ninS (Ne.symm ne_g1_a1) nin0)
      have Od := Od.keep Kb1 (allS ge_g1 all0)
      have Hr0 := Hr.1
      have Hr := Hr.trans (CHr.keep Kb1 (sfS Sf_g1 sf0) Hr.1)
      have hk := Nat.le_trans hk Kb1.1
      have SFL := (sfS Sf_g1 sf0)
      have Sf_g1 := QSf_g1
      have Sf_a1 := QSf_a1
      have Sf_t1 := Safe.keep Kb1 SFL Hr0 (Safe.new gu1)
      refine own_stW st172 ?_
      show own_GoW p e below s Z consts_1 _ _ _ (T172.setTop (mkF m 87 #[.val (.int p0), .val (.int p1), .val (.int p2), .val (.int u1), .val (.int u2), .val (.int u3), .val (.int u4), .val (.int (1 : Int32)), .val (.int (0 : Int32)), .unset, .unset, .unset, .unset] [(.ref g1)]))
      have V_1 : Arv Z h172 t1 k1 .byte (2 : Int32) [(.int (u1.toInt8.toInt32)), (.int (u2.toInt8.toInt32))] (.int (0 : Int32)) := Vb1
      have E_1 := E_g1
      refine own_stW (fun t9 k9 => XS.goto X172.here hx rfl (pc0 := 87) (pc' := 94) rfl (hb hby at_87) (by decide) (by decide) k9) ?_
      show own_GoW p e below s Z consts_1 _ _ _ (T172.setTop (mkF m 94 #[.val (.int p0), .val (.int p1), .val (.int p2), .val (.int u1), .val (.int u2), .val (.int u3), .val (.int u4), .val (.int (1 : Int32)), .val (.int (0 : Int32)), .unset, .unset, .unset, .unset] [(.ref g1)]))
      refine own_stW (fun t9 k9 => XS.astore X172.here hx rfl (hb hby at_94) rfl rfl (l' := #[.val (.int p0), .val (.int p1), .val (.int p2), .val (.int u1), .val (.int u2), .val (.int u3), .val (.int u4), .val (.int (1 : Int32)), .val (.int (0 : Int32)), .val (.ref g1), .unset, .unset, .unset]) rfl k9) ?_
      show own_GoW p e below s Z consts_1 _ _ _ (T172.setTop (mkF m 96 #[.val (.int p0), .val (.int p1), .val (.int p2), .val (.int u1), .val (.int u2), .val (.int u3), .val (.int u4), .val (.int (1 : Int32)), .val (.int (0 : Int32)), .val (.ref g1), .unset, .unset, .unset] []))
      refine own_stW (fun t9 k9 => XS.iload X172.here hx rfl (hb hby at_96) rfl  k9) ?_
      show own_GoW p e below s Z consts_1 _ _ _ (T172.setTop (mkF m 98 #[.val (.int p0), .val (.int p1), .val (.int p2), .val (.int u1), .val (.int u2), .val (.int u3), .val (.int u4), .val (.int (1 : Int32)), .val (.int (0 : Int32)), .val (.ref g1), .unset, .unset, .unset] [(.int (0 : Int32))]))
      refine own_stW (fun t9 k9 => XS.ifYes X172.here hx rfl (pc0 := 98) (pc' := 124) rfl (hb hby at_98) rfl (by decide) (by decide) (by decide) k9) ?_
      show own_GoW p e below s Z consts_1 _ _ _ (T172.setTop (mkF m 124 #[.val (.int p0), .val (.int p1), .val (.int p2), .val (.int u1), .val (.int u2), .val (.int u3), .val (.int u4), .val (.int (1 : Int32)), .val (.int (0 : Int32)), .val (.ref g1), .unset, .unset, .unset] []))
      refine own_stW (fun t9 k9 => XS.iload X172.here hx rfl (hb hby at_124) rfl  k9) ?_
      show own_GoW p e below s Z consts_1 _ _ _ (T172.setTop (mkF m 126 #[.val (.int p0), .val (.int p1), .val (.int p2), .val (.int u1), .val (.int u2), .val (.int u3), .val (.int u4), .val (.int (1 : Int32)), .val (.int (0 : Int32)), .val (.ref g1), .unset, .unset, .unset] [(.int u3)]))
      obtain ⟨_, T173, h173, L173, X173, e173, ⟨Na2, Ka2, g2, t2, k2, rfl, gg2, gt2, E_2, H_2, G_2, V_2⟩, st173⟩ := own_callS X172 hx hZ hown (hw _ (List.mem_of_getElem? (i := 0) rfl)) (hw _ (List.mem_of_getElem? (i := 1) rfl)) (hw _ (List.mem_of_getElem? (i := 2) rfl)) (hw _ (List.mem_of_getElem? (i := 3) rfl)) (by decide) (own_rm_vof l Z a0 hw [] u3 G h172 n0 Od bu3.2 O2 P5) (by decide) (by decide) e172 (W := 0) (g := (mkF m 126 #[.val (.int p0), .val (.int p1), .val (.int p2), .val (.int u1), .val (.int u2), .val (.int u3), .val (.int u4), .val (.int (1 : Int32)), .val (.int (0 : Int32)), .val (.ref g1), .unset, .unset, .unset] [(.int u3)])) rfl (by rw [hml]; rfl) (argsL := [(.int u3)]) (rest := []) rfl (lenOf own_pd21 rfl) rfl (by show 2 * 0 + _ ≤ _; exact Nat.le_of_eq rfl) (hb hby at_126) (by decide) (by decide)
      have N173 := Fr.app N172 Na2
      have ne_g1_g2 : g1 ≠ g2 := Nat.ne_of_lt (Nat.lt_of_lt_of_le G_1.lt gg2)
      have ne_t1_g2 : t1 ≠ g2 := Nat.ne_of_lt (Nat.lt_of_lt_of_le V_1.lt gg2)
      have ge_g2 : n0 ≤ g2 := Nat.le_trans (own_z0 Od) gg2
      have ne_g1_t2 : g1 ≠ t2 := Nat.ne_of_lt (Nat.lt_of_lt_of_le G_1.lt gt2)
      have ne_t1_t2 : t1 ≠ t2 := Nat.ne_of_lt (Nat.lt_of_lt_of_le V_1.lt gt2)
      have ge_t2 : n0 ≤ t2 := Nat.le_trans (own_z0 Od) gt2
      have G_1 := G_1.keep Ka2 nin0
      have H_1 := H_1.keep Ka2 nin0
      have V_1 := V_1.keep Ka2 nin0
      have E_1 := E_1.keep Ka2
      have Od := Od.keep Ka2 all0
      have Hr0 := Hr.1
      have Hr := Hr.trans (CHr.keep Ka2 sf0 Hr.1)
      have hk := Nat.le_trans hk Ka2.1
      have Sf_g2 := Safe.keep Ka2 sf0 Hr0 (Safe.new gg2)
      have Sf_t2 := Safe.keep Ka2 sf0 Hr0 (Safe.new gt2)
      refine own_stW st173 ?_
      show own_GoW p e below s Z consts_1 _ _ _ (T173.setTop (mkF m 129 #[.val (.int p0), .val (.int p1), .val (.int p2), .val (.int u1), .val (.int u2), .val (.int u3), .val (.int u4), .val (.int (1 : Int32)), .val (.int (0 : Int32)), .val (.ref g1), .unset, .unset, .unset] [(.ref g2)]))
      refine own_stW (fun t9 k9 => XS.astore X173.here hx rfl (hb hby at_129) rfl rfl (l' := #[.val (.int p0), .val (.int p1), .val (.int p2), .val (.int u1), .val (.int u2), .val (.int u3), .val (.int u4), .val (.int (1 : Int32)), .val (.int (0 : Int32)), .val (.ref g1), .val (.ref g2), .unset, .unset]) rfl k9) ?_
      show own_GoW p e below s Z consts_1 _ _ _ (T173.setTop (mkF m 131 #[.val (.int p0), .val (.int p1), .val (.int p2), .val (.int u1), .val (.int u2), .val (.int u3), .val (.int u4), .val (.int (1 : Int32)), .val (.int (0 : Int32)), .val (.ref g1), .val (.ref g2), .unset, .unset] []))
      refine own_stW (fun t9 k9 => XS.iload X173.here hx rfl (hb hby at_131) rfl  k9) ?_
      show own_GoW p e below s Z consts_1 _ _ _ (T173.setTop (mkF m 133 #[.val (.int p0), .val (.int p1), .val (.int p2), .val (.int u1), .val (.int u2), .val (.int u3), .val (.int u4), .val (.int (1 : Int32)), .val (.int (0 : Int32)), .val (.ref g1), .val (.ref g2), .unset, .unset] [(.int (1 : Int32))]))
      refine own_stW (fun t9 k9 => XS.ifNo X173.here hx rfl (hb hby at_133) rfl (by decide) k9) ?_
      show own_GoW p e below s Z consts_1 _ _ _ (T173.setTop (mkF m 136 #[.val (.int p0), .val (.int p1), .val (.int p2), .val (.int u1), .val (.int u2), .val (.int u3), .val (.int u4), .val (.int (1 : Int32)), .val (.int (0 : Int32)), .val (.ref g1), .val (.ref g2), .unset, .unset] []))
      refine own_stW (fun t9 k9 => XS.iload X173.here hx rfl (hb hby at_136) rfl  k9) ?_
      show own_GoW p e below s Z consts_1 _ _ _ (T173.setTop (mkF m 138 #[.val (.int p0), .val (.int p1), .val (.int p2), .val (.int u1), .val (.int u2), .val (.int u3), .val (.int u4), .val (.int (1 : Int32)), .val (.int (0 : Int32)), .val (.ref g1), .val (.ref g2), .unset, .unset] [(.int (0 : Int32))]))
      refine own_stW (fun t9 k9 => XS.ifYes X173.here hx rfl (pc0 := 138) (pc' := 173) rfl (hb hby at_138) rfl (by decide) (by decide) (by decide) k9) ?_
      show own_GoW p e below s Z consts_1 _ _ _ (T173.setTop (mkF m 173 #[.val (.int p0), .val (.int p1), .val (.int p2), .val (.int u1), .val (.int u2), .val (.int u3), .val (.int u4), .val (.int (1 : Int32)), .val (.int (0 : Int32)), .val (.ref g1), .val (.ref g2), .unset, .unset] []))
      refine own_stW (fun t9 k9 => XS.iconst X173.here hx rfl (hb hby at_173) k9) ?_
      show own_GoW p e below s Z consts_1 _ _ _ (T173.setTop (mkF m 174 #[.val (.int p0), .val (.int p1), .val (.int p2), .val (.int u1), .val (.int u2), .val (.int u3), .val (.int u4), .val (.int (1 : Int32)), .val (.int (0 : Int32)), .val (.ref g1), .val (.ref g2), .unset, .unset] [(.int (4 : Int32))]))
      obtain ⟨T174, h174, k174, X174, e174, E174, A174, st174⟩ := newP X173 hx hZ (hw _ (List.mem_of_getElem? (i := 27) rfl)) e173 (g := (mkF m 174 #[.val (.int p0), .val (.int p1), .val (.int p2), .val (.int u1), .val (.int u2), .val (.int u3), .val (.int u4), .val (.int (1 : Int32)), .val (.int (0 : Int32)), .val (.ref g1), .val (.ref g2), .unset, .unset] [(.int (4 : Int32))])) rfl (hb hby at_174) rfl (by decide) (cap := 4) (by decide) (by decide) (by decide) (by decide)
      obtain ⟨ac, g174⟩ : ∃ z, z = h173.size := ⟨_, rfl⟩
      rw [← g174] at A174 st174
      have ne_g1_ac : g1 ≠ ac := Nat.ne_of_lt (Nat.lt_of_lt_of_le G_1.lt (Nat.le_of_eq g174.symm))
      have ne_t1_ac : t1 ≠ ac := Nat.ne_of_lt (Nat.lt_of_lt_of_le V_1.lt (Nat.le_of_eq g174.symm))
      have ne_g2_ac : g2 ≠ ac := Nat.ne_of_lt (Nat.lt_of_lt_of_le E_2.lt (Nat.le_of_eq g174.symm))
      have ne_t2_ac : t2 ≠ ac := Nat.ne_of_lt (Nat.lt_of_lt_of_le V_2.lt (Nat.le_of_eq g174.symm))
      have ge_ac : n0 ≤ ac := Nat.le_trans (own_z0 Od) (Nat.le_of_eq g174.symm)
      have Sf_ac : Safe Z consts_1 s.vm h173 ac := Safe.new (Nat.le_of_eq g174.symm)
      have G_1 := G_1.ext E174
      have H_1 := H_1.ext E174
      have V_1 := V_1.ext E174
      have E_1 := E_1.ext E174
      have E_2 := E_2.ext E174
      have G_2 := G_2.ext E174
      have H_2 := H_2.ext E174
      have V_2 := V_2.ext E174
      have Sf_ac := Safe.ext E174 Hr.1 Sf_ac
      have Od := Od.ext E174
      have Hr := Hr.trans (CHr.ext E174 Hr.1)
      have hk := Nat.le_trans hk E174.1
      refine own_stW st174 ?_
      show own_GoW p e below s Z consts_1 _ _ _ (T174.setTop (mkF m 176 #[.val (.int p0), .val (.int p1), .val (.int p2), .val (.int u1), .val (.int u2), .val (.int u3), .val (.int u4), .val (.int (1 : Int32)), .val (.int (0 : Int32)), .val (.ref g1), .val (.ref g2), .unset, .unset] [(.ref ac)]))
      have A_3 : Arv Z h174 ac k174 .char (4 : Int32) [(.int (0 : Int32)), (.int (0 : Int32)), (.int (0 : Int32)), (.int (0 : Int32))] (.int (0 : Int32)) := (Arv.new A174 (by decide)).pad (pad_rep [] (.int (0 : Int32)) 4)
      refine own_stW (fun t9 k9 => XS.dup X174.here hx rfl (hb hby at_176) rfl rfl k9) ?_
      show own_GoW p e below s Z consts_1 _ _ _ (T174.setTop (mkF m 177 #[.val (.int p0), .val (.int p1), .val (.int p2), .val (.int u1), .val (.int u2), .val (.int u3), .val (.int u4), .val (.int (1 : Int32)), .val (.int (0 : Int32)), .val (.ref g1), .val (.ref g2), .unset, .unset] [(.ref ac), (.ref ac)]))
      refine own_stW (fun t9 k9 => XS.iconst X174.here hx rfl (hb hby at_177) k9) ?_
      show own_GoW p e below s Z consts_1 _ _ _ (T174.setTop (mkF m 178 #[.val (.int p0), .val (.int p1), .val (.int p2), .val (.int u1), .val (.int u2), .val (.int u3), .val (.int u4), .val (.int (1 : Int32)), .val (.int (0 : Int32)), .val (.ref g1), .val (.ref g2), .unset, .unset] [(.int (0 : Int32)), (.ref ac), (.ref ac)]))
      refine own_stW (fun t9 k9 => XS.iloadN X174.here hx rfl (hb hby at_178) rfl  k9) ?_
      show own_GoW p e below s Z consts_1 _ _ _ (T174.setTop (mkF m 179 #[.val (.int p0), .val (.int p1), .val (.int p2), .val (.int u1), .val (.int u2), .val (.int u3), .val (.int u4), .val (.int (1 : Int32)), .val (.int (0 : Int32)), .val (.ref g1), .val (.ref g2), .unset, .unset] [(.int u1), (.int (0 : Int32)), (.ref ac), (.ref ac)]))
      obtain ⟨cl175, Ar175, q175, S175, M175, H175, G175⟩ := id A_3
      obtain ⟨T175, h175, X175, e175, W175, st175⟩ := stC X174 hx hZ e174 Ar175 (j := (0 : Int32)) (inb_of S175 ⟨by decide, by decide⟩) (g := (mkF m 179 #[.val (.int p0), .val (.int p1), .val (.int p2), .val (.int u1), .val (.int u2), .val (.int u3), .val (.int u4), .val (.int (1 : Int32)), .val (.int (0 : Int32)), .val (.ref g1), .val (.ref g2), .unset, .unset] [(.int u1), (.int (0 : Int32)), (.ref ac), (.ref ac)])) rfl rfl (hb hby at_179)
      have N175 := Fr.snoc X175 N173 ge_ac
      have G_1 := G_1.other W175 (Or.inl ne_g1_ac)
      have H_1 := H_1.other W175 (Or.inl ne_g1_ac)
      have V_1 := V_1.other W175 ne_t1_ac
      have E_1 := E_1.wr W175
      have E_2 := E_2.wr W175
      have G_2 := G_2.other W175 (Or.inl ne_g2_ac)
      have H_2 := H_2.other W175 (Or.inl ne_g2_ac)
      have V_2 := V_2.other W175 ne_t2_ac
      have QSf_ac := Safe.wr W175 Sf_ac Hr.1 Sf_ac
      have Od := Od.wr W175 ge_ac
      have Hr := Hr.trans (CHr.wr W175 Sf_ac Hr.1)
      have hk := Nat.le_trans hk (Keep.of_wr W175).1
      have Sf_ac := QSf_ac
      refine own_stW st175 ?_
      show own_GoW p e below s Z consts_1 _ _ _ (T175.setTop (mkF m 180 #[.val (.int p0), .val (.int p1), .val (.int p2), .val (.int u1), .val (.int u2), .val (.int u3), .val (.int u4), .val (.int (1 : Int32)), .val (.int (0 : Int32)), .val (.ref g1), .val (.ref g2), .unset, .unset] [(.ref ac)]))
      have A_3 : Arv Z h175 ac k174 .char (4 : Int32) [(.int (nar .char u1)), (.int (0 : Int32)), (.int (0 : Int32)), (.int (0 : Int32))] (.int (0 : Int32)) := Arv.set Ar175 q175 S175 M175 H175 G175 (fits_nar_char _) W175 0 rfl (Nat.le_of_ble_eq_true rfl)
      refine own_stW (fun t9 k9 => XS.dup X175.here hx rfl (hb hby at_180) rfl rfl k9) ?_
      show own_GoW p e below s Z consts_1 _ _ _ (T175.setTop (mkF m 181 #[.val (.int p0), .val (.int p1), .val (.int p2), .val (.int u1), .val (.int u2), .val (.int u3), .val (.int u4), .val (.int (1 : Int32)), .val (.int (0 : Int32)), .val (.ref g1), .val (.ref g2), .unset, .unset] [(.ref ac), (.ref ac)]))
      refine own_stW (fun t9 k9 => XS.iconst X175.here hx rfl (hb hby at_181) k9) ?_
      show own_GoW p e below s Z consts_1 _ _ _ (T175.setTop (mkF m 182 #[.val (.int p0), .val (.int p1), .val (.int p2), .val (.int u1), .val (.int u2), .val (.int u3), .val (.int u4), .val (.int (1 : Int32)), .val (.int (0 : Int32)), .val (.ref g1), .val (.ref g2), .unset, .unset] [(.int (1 : Int32)), (.ref ac), (.ref ac)]))
      refine own_stW (fun t9 k9 => XS.iload X175.here hx rfl (hb hby at_182) rfl  k9) ?_
      show own_GoW p e below s Z consts_1 _ _ _ (T175.setTop (mkF m 184 #[.val (.int p0), .val (.int p1), .val (.int p2), .val (.int u1), .val (.int u2), .val (.int u3), .val (.int u4), .val (.int (1 : Int32)), .val (.int (0 : Int32)), .val (.ref g1), .val (.ref g2), .unset, .unset] [(.int u2), (.int (1 : Int32)), (.ref ac), (.ref ac)]))
      obtain ⟨cl176, Ar176, q176, S176, M176, H176, G176⟩ := id A_3
      obtain ⟨T176, h176, X176, e176, W176, st176⟩ := stC X175 hx hZ e175 Ar176 (j := (1 : Int32)) (inb_of S176 ⟨by decide, by decide⟩) (g := (mkF m 184 #[.val (.int p0), .val (.int p1), .val (.int p2), .val (.int u1), .val (.int u2), .val (.int u3), .val (.int u4), .val (.int (1 : Int32)), .val (.int (0 : Int32)), .val (.ref g1), .val (.ref g2), .unset, .unset] [(.int u2), (.int (1 : Int32)), (.ref ac), (.ref ac)])) rfl rfl (hb hby at_184)
      have N176 := Fr.snoc X176 N175 ge_ac
      have G_1 := G_1.other W176 (Or.inl ne_g1_ac)
      have H_1 := H_1.other W176 (Or.inl ne_g1_ac)
      have V_1 := V_1.other W176 ne_t1_ac
      have E_1 := E_1.wr W176
      have E_2 := E_2.wr W176
      have G_2 := G_2.other W176 (Or.inl ne_g2_ac)
      have H_2 := H_2.other W176 (Or.inl ne_g2_ac)
      have V_2 := V_2.other W176 ne_t2_ac
      have QSf_ac := Safe.wr W176 Sf_ac Hr.1 Sf_ac
      have Od := Od.wr W176 ge_ac
      have Hr := Hr.trans (CHr.wr W176 Sf_ac Hr.1)
      have hk := Nat.le_trans hk (Keep.of_wr W176).1
      have Sf_ac := QSf_ac
      refine own_stW st176 ?_
      show own_GoW p e below s Z consts_1 _ _ _ (T176.setTop (mkF m 185 #[.val (.int p0), .val (.int p1), .val (.int p2), .val (.int u1), .val (.int u2), .val (.int u3), .val (.int u4), .val (.int (1 : Int32)), .val (.int (0 : Int32)), .val (.ref g1), .val (.ref g2), .unset, .unset] [(.ref ac)]))
      have A_3 : Arv Z h176 ac k174 .char (4 : Int32) [(.int (nar .char u1)), (.int (nar .char u2)), (.int (0 : Int32)), (.int (0 : Int32))] (.int (0 : Int32)) := Arv.set Ar176 q176 S176 M176 H176 G176 (fits_nar_char _) W176 1 rfl (Nat.le_of_ble_eq_true rfl)
      refine own_stW (fun t9 k9 => XS.dup X176.here hx rfl (hb hby at_185) rfl rfl k9) ?_
      show own_GoW p e below s Z consts_1 _ _ _ (T176.setTop (mkF m 186 #[.val (.int p0), .val (.int p1), .val (.int p2), .val (.int u1), .val (.int u2), .val (.int u3), .val (.int u4), .val (.int (1 : Int32)), .val (.int (0 : Int32)), .val (.ref g1), .val (.ref g2), .unset, .unset] [(.ref ac), (.ref ac)]))
      refine own_stW (fun t9 k9 => XS.iconst X176.here hx rfl (hb hby at_186) k9) ?_
      show own_GoW p e below s Z consts_1 _ _ _ (T176.setTop (mkF m 187 #[.val (.int p0), .val (.int p1), .val (.int p2), .val (.int u1), .val (.int u2), .val (.int u3), .val (.int u4), .val (.int (1 : Int32)), .val (.int (0 : Int32)), .val (.ref g1), .val (.ref g2), .unset, .unset] [(.int (2 : Int32)), (.ref ac), (.ref ac)]))
      refine own_stW (fun t9 k9 => XS.bipush X176.here hx rfl (hb hby at_187) k9) ?_
      show own_GoW p e below s Z consts_1 _ _ _ (T176.setTop (mkF m 189 #[.val (.int p0), .val (.int p1), .val (.int p2), .val (.int u1), .val (.int u2), .val (.int u3), .val (.int u4), .val (.int (1 : Int32)), .val (.int (0 : Int32)), .val (.ref g1), .val (.ref g2), .unset, .unset] [(.int (47 : Int32)), (.int (2 : Int32)), (.ref ac), (.ref ac)]))
      obtain ⟨cl177, Ar177, q177, S177, M177, H177, G177⟩ := id A_3
      obtain ⟨T177, h177, X177, e177, W177, st177⟩ := stC X176 hx hZ e176 Ar177 (j := (2 : Int32)) (inb_of S177 ⟨by decide, by decide⟩) (g := (mkF m 189 #[.val (.int p0), .val (.int p1), .val (.int p2), .val (.int u1), .val (.int u2), .val (.int u3), .val (.int u4), .val (.int (1 : Int32)), .val (.int (0 : Int32)), .val (.ref g1), .val (.ref g2), .unset, .unset] [(.int (47 : Int32)), (.int (2 : Int32)), (.ref ac), (.ref ac)])) rfl rfl (hb hby at_189)
      have N177 := Fr.snoc X177 N176 ge_ac
      have G_1 := G_1.other W177 (Or.inl ne_g1_ac)
      have H_1 := H_1.other W177 (Or.inl ne_g1_ac)
      have V_1 := V_1.other W177 ne_t1_ac
      have E_1 := E_1.wr W177
      have E_2 := E_2.wr W177
      have G_2 := G_2.other W177 (Or.inl ne_g2_ac)
      have H_2 := H_2.other W177 (Or.inl ne_g2_ac)
      have V_2 := V_2.other W177 ne_t2_ac
      have QSf_ac := Safe.wr W177 Sf_ac Hr.1 Sf_ac
      have Od := Od.wr W177 ge_ac
      have Hr := Hr.trans (CHr.wr W177 Sf_ac Hr.1)
      have hk := Nat.le_trans hk (Keep.of_wr W177).1
      have Sf_ac := QSf_ac
      refine own_stW st177 ?_
      show own_GoW p e below s Z consts_1 _ _ _ (T177.setTop (mkF m 190 #[.val (.int p0), .val (.int p1), .val (.int p2), .val (.int u1), .val (.int u2), .val (.int u3), .val (.int u4), .val (.int (1 : Int32)), .val (.int (0 : Int32)), .val (.ref g1), .val (.ref g2), .unset, .unset] [(.ref ac)]))
      have A_3 : Arv Z h177 ac k174 .char (4 : Int32) [(.int (nar .char u1)), (.int (nar .char u2)), (.int (nar .char (47 : Int32))), (.int (0 : Int32))] (.int (0 : Int32)) := Arv.set Ar177 q177 S177 M177 H177 G177 (fits_nar_char _) W177 2 rfl (Nat.le_of_ble_eq_true rfl)
      refine own_stW (fun t9 k9 => XS.dup X177.here hx rfl (hb hby at_190) rfl rfl k9) ?_
      show own_GoW p e below s Z consts_1 _ _ _ (T177.setTop (mkF m 191 #[.val (.int p0), .val (.int p1), .val (.int p2), .val (.int u1), .val (.int u2), .val (.int u3), .val (.int u4), .val (.int (1 : Int32)), .val (.int (0 : Int32)), .val (.ref g1), .val (.ref g2), .unset, .unset] [(.ref ac), (.ref ac)]))
      refine own_stW (fun t9 k9 => XS.iconst X177.here hx rfl (hb hby at_191) k9) ?_
      show own_GoW p e below s Z consts_1 _ _ _ (T177.setTop (mkF m 192 #[.val (.int p0), .val (.int p1), .val (.int p2), .val (.int u1), .val (.int u2), .val (.int u3), .val (.int u4), .val (.int (1 : Int32)), .val (.int (0 : Int32)), .val (.ref g1), .val (.ref g2), .unset, .unset] [(.int (3 : Int32)), (.ref ac), (.ref ac)]))
      refine own_stW (fun t9 k9 => XS.iload X177.here hx rfl (hb hby at_192) rfl  k9) ?_
      show own_GoW p e below s Z consts_1 _ _ _ (T177.setTop (mkF m 194 #[.val (.int p0), .val (.int p1), .val (.int p2), .val (.int u1), .val (.int u2), .val (.int u3), .val (.int u4), .val (.int (1 : Int32)), .val (.int (0 : Int32)), .val (.ref g1), .val (.ref g2), .unset, .unset] [(.int u3), (.int (3 : Int32)), (.ref ac), (.ref ac)]))
      obtain ⟨cl178, Ar178, q178, S178, M178, H178, G178⟩ := id A_3
      obtain ⟨T178, h178, X178, e178, W178, st178⟩ := stC X177 hx hZ e177 Ar178 (j := (3 : Int32)) (inb_of S178 ⟨by decide, by decide⟩) (g := (mkF m 194 #[.val (.int p0), .val (.int p1), .val (.int p2), .val (.int u1), .val (.int u2), .val (.int u3), .val (.int u4), .val (.int (1 : Int32)), .val (.int (0 : Int32)), .val (.ref g1), .val (.ref g2), .unset, .unset] [(.int u3), (.int (3 : Int32)), (.ref ac), (.ref ac)])) rfl rfl (hb hby at_194)
      have N178 := Fr.snoc X178 N177 ge_ac
      have G_1 := G_1.other W178 (Or.inl ne_g1_ac)
      have H_1 := H_1.other W178 (Or.inl ne_g1_ac)
      have V_1 := V_1.other W178 ne_t1_ac
      have E_1 := E_1.wr W178
      have E_2 := E_2.wr W178
      have G_2 := G_2.other W178 (Or.inl ne_g2_ac)
      have H_2 := H_2.other W178 (Or.inl ne_g2_ac)
      have V_2 := V_2.other W178 ne_t2_ac
      have QSf_ac := Safe.wr W178 Sf_ac Hr.1 Sf_ac
      have Od := Od.wr W178 ge_ac
      have Hr := Hr.trans (CHr.wr W178 Sf_ac Hr.1)
      have hk := Nat.le_trans hk (Keep.of_wr W178).1
      have Sf_ac := QSf_ac
      refine own_stW st178 ?_
      show own_GoW p e below s Z consts_1 _ _ _ (T178.setTop (mkF m 195 #[.val (.int p0), .val (.int p1), .val (.int p2), .val (.int u1), .val (.int u2), .val (.int u3), .val (.int u4), .val (.int (1 : Int32)), .val (.int (0 : Int32)), .val (.ref g1), .val (.ref g2), .unset, .unset] [(.ref ac)]))
      have A_3 : Arv Z h178 ac k174 .char (4 : Int32) [(.int (nar .char u1)), (.int (nar .char u2)), (.int (nar .char (47 : Int32))), (.int (nar .char u3))] (.int (0 : Int32)) := Arv.set Ar178 q178 S178 M178 H178 G178 (fits_nar_char _) W178 3 rfl (Nat.le_of_ble_eq_true rfl)
      rw [nu1, nu2, nu3, own_n47] at A_3
      refine own_stW (fun t9 k9 => XS.astore X178.here hx rfl (hb hby at_195) rfl rfl (l' := #[.val (.int p0), .val (.int p1), .val (.int p2), .val (.int u1), .val (.int u2), .val (.int u3), .val (.int u4), .val (.int (1 : Int32)), .val (.int (0 : Int32)), .val (.ref g1), .val (.ref g2), .val (.ref ac), .unset]) rfl k9) ?_
      show own_GoW p e below s Z consts_1 _ _ _ (T178.setTop (mkF m 197 #[.val (.int p0), .val (.int p1), .val (.int p2), .val (.int u1), .val (.int u2), .val (.int u3), .val (.int u4), .val (.int (1 : Int32)), .val (.int (0 : Int32)), .val (.ref g1), .val (.ref g2), .val (.ref ac), .unset] []))
      refine own_stW (fun t9 k9 => XS.goto X178.here hx rfl (pc0 := 197) (pc' := 251) rfl (hb hby at_197) (by decide) (by decide) k9) ?_
      show own_GoW p e below s Z consts_1 _ _ _ (T178.setTop (mkF m 251 #[.val (.int p0), .val (.int p1), .val (.int p2), .val (.int u1), .val (.int u2), .val (.int u3), .val (.int u4), .val (.int (1 : Int32)), .val (.int (0 : Int32)), .val (.ref g1), .val (.ref g2), .val (.ref ac), .unset] []))
      obtain ⟨T179, h179, X179, e179, E179, A179, D179, U179, st179⟩ := newO X178 hx hZ hown (hw _ (List.mem_of_getElem? (i := 44) rfl)) (hw _ (List.mem_of_getElem? (i := 45) rfl)) (hw _ (List.mem_of_getElem? (i := 46) rfl)) e178 (g := (mkF m 251 #[.val (.int p0), .val (.int p1), .val (.int p2), .val (.int u1), .val (.int u2), .val (.int u3), .val (.int u4), .val (.int (1 : Int32)), .val (.int (0 : Int32)), .val (.ref g1), .val (.ref g2), .val (.ref ac), .unset] [])) rfl (hb hby at_251) (by decide) (by decide)
      obtain ⟨gn, g179⟩ : ∃ z, z = h178.size := ⟨_, rfl⟩
      rw [← g179] at A179 D179 st179 U179
      have ne_g1_gn : g1 ≠ gn := Nat.ne_of_lt (Nat.lt_of_lt_of_le G_1.lt (Nat.le_of_eq g179.symm))
      have ne_t1_gn : t1 ≠ gn := Nat.ne_of_lt (Nat.lt_of_lt_of_le V_1.lt (Nat.le_of_eq g179.symm))
      have ne_g2_gn : g2 ≠ gn := Nat.ne_of_lt (Nat.lt_of_lt_of_le E_2.lt (Nat.le_of_eq g179.symm))
      have ne_t2_gn : t2 ≠ gn := Nat.ne_of_lt (Nat.lt_of_lt_of_le V_2.lt (Nat.le_of_eq g179.symm))
      have ne_ac_gn : ac ≠ gn := Nat.ne_of_lt (Nat.lt_of_lt_of_le A_3.lt (Nat.le_of_eq g179.symm))
      have ge_gn : n0 ≤ gn := Nat.le_trans (own_z0 Od) (Nat.le_of_eq g179.symm)
      have Sf_gn : Safe Z consts_1 s.vm h178 gn := Safe.new (Nat.le_of_eq g179.symm)
      have G_1 := G_1.ext E179
      have H_1 := H_1.ext E179
      have V_1 := V_1.ext E179
      have E_1 := E_1.ext E179
      have E_2 := E_2.ext E179
      have G_2 := G_2.ext E179
      have H_2 := H_2.ext E179
      have V_2 := V_2.ext E179
      have Sf_ac := Safe.ext E179 Hr.1 Sf_ac
      have A_3 := A_3.ext E179
      have Sf_gn := Safe.ext E179 Hr.1 Sf_gn
      have Od := Od.ext E179
      have Hr := Hr.trans (CHr.ext E179 Hr.1)
      have hk := Nat.le_trans hk E179.1
      refine own_stW st179 ?_
      show own_GoW p e below s Z consts_1 _ _ _ (T179.setTop (mkF m 254 #[.val (.int p0), .val (.int p1), .val (.int p2), .val (.int u1), .val (.int u2), .val (.int u3), .val (.int u4), .val (.int (1 : Int32)), .val (.int (0 : Int32)), .val (.ref g1), .val (.ref g2), .val (.ref ac), .unset] [(.ref gn)]))
      have E_gn : Exa Z h179 gn "com/example/bluehead/bluehead/net/GroupName" := A179
      have A_c : Fld Z h179 gn "com/example/bluehead/bluehead/net/GroupName" "cluster" "Ljava/lang/String;" .null := D179 (Or.inr (hw _ (List.mem_of_getElem? (i := 70) rfl))) (ty := (.object "java/lang/String")) (by decide)
      have A_g : Fld Z h179 gn "com/example/bluehead/bluehead/net/GroupName" "group" "Ljava/lang/String;" .null := D179 (Or.inr (hw _ (List.mem_of_getElem? (i := 72) rfl))) (ty := (.object "java/lang/String")) (by decide)
      refine own_stW (fun t9 k9 => XS.dup X179.here hx rfl (hb hby at_254) rfl rfl k9) ?_
      show own_GoW p e below s Z consts_1 _ _ _ (T179.setTop (mkF m 255 #[.val (.int p0), .val (.int p1), .val (.int p2), .val (.int u1), .val (.int u2), .val (.int u3), .val (.int u4), .val (.int (1 : Int32)), .val (.int (0 : Int32)), .val (.ref g1), .val (.ref g2), .val (.ref ac), .unset] [(.ref gn), (.ref gn)]))
      refine own_stW (fun t9 k9 => XS.aload X179.here hx rfl (hb hby at_255) rfl rfl k9) ?_
      show own_GoW p e below s Z consts_1 _ _ _ (T179.setTop (mkF m 257 #[.val (.int p0), .val (.int p1), .val (.int p2), .val (.int u1), .val (.int u2), .val (.int u3), .val (.int u4), .val (.int (1 : Int32)), .val (.int (0 : Int32)), .val (.ref g1), .val (.ref g2), .val (.ref ac), .unset] [(.ref g1), (.ref gn), (.ref gn)]))
      refine own_stW (fun t9 k9 => XS.aload X179.here hx rfl (hb hby at_257) rfl rfl k9) ?_
      show own_GoW p e below s Z consts_1 _ _ _ (T179.setTop (mkF m 259 #[.val (.int p0), .val (.int p1), .val (.int p2), .val (.int u1), .val (.int u2), .val (.int u3), .val (.int u4), .val (.int (1 : Int32)), .val (.int (0 : Int32)), .val (.ref g1), .val (.ref g2), .val (.ref ac), .unset] [(.ref g2), (.ref g1), (.ref gn), (.ref gn)]))
      obtain ⟨_, T180, h180, L180, X180, e180, ⟨rfl, Ng, Kg, E_q, B_c, B_g⟩, hS180, hg180, hZ180, hown180, R180, st180⟩ := own_callIW X179 hx hZ hown hS hk rfl (hw _ (List.mem_of_getElem? (i := 47) rfl)) (hw _ (List.mem_of_getElem? (i := 48) rfl)) (hw _ (List.mem_of_getElem? (i := 49) rfl)) (by decide) (own_payW (W := 1) (K := (fun _ _ _ _ _ => True)) (own_rm_gni l Z a0 hw hEL [] gn g1 g2 t1 t2 k1 k2 (2 : Int32) (1 : Int32) [(.int (u1.toInt8.toInt32)), (.int (u2.toInt8.toInt32))] [(.int (u3.toInt8.toInt32))] h179 n0 Od E_gn A_c A_g ge_gn E_1 G_1 V_1 (by decide) E_2 G_2 V_2 (by decide)) (fun _ _ _ _ _ _ _ _ _ => trivial) hZ (hw _ (List.mem_of_getElem? (i := 49) rfl)) (hw _ (List.mem_of_getElem? (i := 46) rfl)) (by decide) (by decide) hEL Hr.1 (own_sfS E_gn.lt Sf_gn own_sf0)) e179 (a := gn) (g := (mkF m 259 #[.val (.int p0), .val (.int p1), .val (.int p2), .val (.int u1), .val (.int u2), .val (.int u3), .val (.int u4), .val (.int (1 : Int32)), .val (.int (0 : Int32)), .val (.ref g1), .val (.ref g2), .val (.ref ac), .unset] [(.ref g2), (.ref g1), (.ref gn), (.ref gn)])) rfl (by rw [hml]; rfl) (argsL := [(.ref g1), (.ref g2)]) (rest := [(.ref gn)]) rfl (lenOf own_pd22 rfl) rfl (by show 2 * 0 + _ ≤ _; exact Nat.le_of_eq rfl) (hb hby at_259) (by decide) (by decide)
      have N180 := Fr.app N178 Ng
      have QSf_ac := CHr.safe R180 A_3.lt Sf_ac
      have QSf_gn := CHr.safe R180 E_gn.lt Sf_gn
      have G_1 := G_1.keep Kg (ninS ne_g1_gn nin0)
      have H_1 := H_1.keep Kg (ninS ne_g1_gn nin0)
      have V_1 := V_1.keep Kg (ninS ne_t1_gn nin0)
      have E_1 := E_1.keep Kg
      have E_2 := E_2.keep Kg
      have G_2 := G_2.keep Kg (ninS ne_g2_gn nin0)
      have H_2 := H_2.keep Kg (ninS ne_g2_gn nin0)
      have V_2 := V_2.keep Kg (ninS ne_t2_gn nin0)
      have A_3 := A_3.keep Kg (ninS ne_ac_gn nin0)
      have E_gn := E_gn.keep Kg
      have Od := Od.keep Kg (allS ge_gn all0)
      have Sf_ac := QSf_ac
      have Sf_gn := QSf_gn
      have Hr := Hr.trans R180
      have hS := hS180
      have hk : h180.size ≤ h180.size := Nat.le_refl _
      have hZ := hZ180
      have hown := hown180
      refine own_stW st180 ?_
      show own_GoW p e below s Z consts_1 _ _ _ (T180.setTop (mkF m 262 #[.val (.int p0), .val (.int p1), .val (.int p2), .val (.int u1), .val (.int u2), .val (.int u3), .val (.int u4), .val (.int (1 : Int32)), .val (.int (0 : Int32)), .val (.ref g1), .val (.ref g2), .val (.ref ac), .unset] [(.ref gn)]))
      obtain ⟨_, T181, h181, L181, X181, e181, ⟨Nt, Kt, y, tb, kb, rfl, gy, E_y, Y_k, Y_v, V_y⟩, hS181, hg181, hZ181, hown181, R181, st181⟩ := own_callVW X180 hx hZ hown hS hk (hw _ (List.mem_of_getElem? (i := 73) rfl)) (hw _ (List.mem_of_getElem? (i := 74) rfl)) (hw _ (List.mem_of_getElem? (i := 76) rfl)) (hw _ (List.mem_of_getElem? (i := 75) rfl)) (by decide) (own_payW (W := 0) (K := (fun _ _ _ _ _ => True)) (own_rm_gts21 l Z a0 hw hEL [] gn g1 g2 t1 t2 k1 k2 (.int (u1.toInt8.toInt32)) (.int (u2.toInt8.toInt32)) (.int (u3.toInt8.toInt32)) G h180 n0 Od B_c B_g E_1 G_1 H_1 V_1 E_2 G_2 H_2 V_2 O2 P5) (fun _ _ _ _ _ _ _ _ _ => trivial) hZ (hw _ (List.mem_of_getElem? (i := 77) rfl)) (hw _ (List.mem_of_getElem? (i := 46) rfl)) (by decide) (by decide) hEL Hr.1 own_sf0) e180 (a := gn) E_gn (g := (mkF m 262 #[.val (.int p0), .val (.int p1), .val (.int p2), .val (.int u1), .val (.int u2), .val (.int u3), .val (.int u4), .val (.int (1 : Int32)), .val (.int (0 : Int32)), .val (.ref g1), .val (.ref g2), .val (.ref ac), .unset] [(.ref gn)])) rfl (by rw [hml]; rfl) (argsL := []) (rest := []) rfl (lenOf own_pd20 rfl) rfl (by show 2 * 0 + _ ≤ _; exact Nat.le_of_eq rfl) (hb hby at_262) (by decide) (by decide)
      have N181 := Fr.app N180 Nt
      have ne_g1_y : g1 ≠ y := Nat.ne_of_lt (Nat.lt_of_lt_of_le G_1.lt gy)
      have ne_t1_y : t1 ≠ y := Nat.ne_of_lt (Nat.lt_of_lt_of_le V_1.lt gy)
      have ne_g2_y : g2 ≠ y := Nat.ne_of_lt (Nat.lt_of_lt_of_le E_2.lt gy)
      have ne_t2_y : t2 ≠ y := Nat.ne_of_lt (Nat.lt_of_lt_of_le V_2.lt gy)
      have ne_ac_y : ac ≠ y := Nat.ne_of_lt (Nat.lt_of_lt_of_le A_3.lt gy)
      have ne_gn_y : gn ≠ y := Nat.ne_of_lt (Nat.lt_of_lt_of_le E_gn.lt gy)
      have ge_y : n0 ≤ y := Nat.le_trans (own_z0 Od) gy
      have QSf_ac := CHr.safe R181 A_3.lt Sf_ac
      have QSf_gn := CHr.safe R181 E_gn.lt Sf_gn
      have G_1 := G_1.keep Kt nin0
      have H_1 := H_1.keep Kt nin0
      have V_1 := V_1.keep Kt nin0
      have E_1 := E_1.keep Kt
      have E_2 := E_2.keep Kt
      have G_2 := G_2.keep Kt nin0
      have H_2 := H_2.keep Kt nin0
      have V_2 := V_2.keep Kt nin0
      have A_3 := A_3.keep Kt nin0
      have E_gn := E_gn.keep Kt
      have B_c := B_c.keep Kt nin0
      have B_g := B_g.keep Kt nin0
      have Od := Od.keep Kt all0
      have Sf_ac := QSf_ac
      have Sf_gn := QSf_gn
      have Hr := Hr.trans R181
      have hS := hS181
      have hk : h181.size ≤ h181.size := Nat.le_refl _
      have hZ := hZ181
      have hown := hown181
      refine own_stW st181 ?_
      show own_GoW p e below s Z consts_1 _ _ _ (T181.setTop (mkF m 265 #[.val (.int p0), .val (.int p1), .val (.int p2), .val (.int u1), .val (.int u2), .val (.int u3), .val (.int u4), .val (.int (1 : Int32)), .val (.int (0 : Int32)), .val (.ref g1), .val (.ref g2), .val (.ref ac), .unset] [(.ref y)]))
      refine own_stW (fun t9 k9 => XS.astore X181.here hx rfl (hb hby at_265) rfl rfl (l' := #[.val (.int p0), .val (.int p1), .val (.int p2), .val (.int u1), .val (.int u2), .val (.int u3), .val (.int u4), .val (.int (1 : Int32)), .val (.int (0 : Int32)), .val (.ref g1), .val (.ref g2), .val (.ref ac), .val (.ref y)]) rfl k9) ?_
      show own_GoW p e below s Z consts_1 _ _ _ (T181.setTop (mkF m 267 #[.val (.int p0), .val (.int p1), .val (.int p2), .val (.int u1), .val (.int u2), .val (.int u3), .val (.int u4), .val (.int (1 : Int32)), .val (.int (0 : Int32)), .val (.ref g1), .val (.ref g2), .val (.ref ac), .val (.ref y)] []))
      refine own_stW (fun t9 k9 => XS.aload X181.here hx rfl (hb hby at_267) rfl rfl k9) ?_
      show own_GoW p e below s Z consts_1 _ _ _ (T181.setTop (mkF m 269 #[.val (.int p0), .val (.int p1), .val (.int p2), .val (.int u1), .val (.int u2), .val (.int u3), .val (.int u4), .val (.int (1 : Int32)), .val (.int (0 : Int32)), .val (.ref g1), .val (.ref g2), .val (.ref ac), .val (.ref y)] [(.ref y)]))
      obtain ⟨T182, h182, X182, e182, E182, A182, D182, U182, st182⟩ := newO X181 hx hZ hown (hw _ (List.mem_of_getElem? (i := 26) rfl)) (hw _ (List.mem_of_getElem? (i := 10) rfl)) (hw _ (List.mem_of_getElem? (i := 2) rfl)) e181 (g := (mkF m 269 #[.val (.int p0), .val (.int p1), .val (.int p2), .val (.int u1), .val (.int u2), .val (.int u3), .val (.int u4), .val (.int (1 : Int32)), .val (.int (0 : Int32)), .val (.ref g1), .val (.ref g2), .val (.ref ac), .val (.ref y)] [(.ref y)])) rfl (hb hby at_269) (by decide) (by decide)
      obtain ⟨g3, g182⟩ : ∃ z, z = h181.size := ⟨_, rfl⟩
      rw [← g182] at A182 D182 st182 U182
      have ne_ac_g3 : ac ≠ g3 := Nat.ne_of_lt (Nat.lt_of_lt_of_le A_3.lt (Nat.le_of_eq g182.symm))
      have ne_y_g3 : y ≠ g3 := Nat.ne_of_lt (Nat.lt_of_lt_of_le E_y.lt (Nat.le_of_eq g182.symm))
      have ne_tb_g3 : tb ≠ g3 := Nat.ne_of_lt (Nat.lt_of_lt_of_le V_y.lt (Nat.le_of_eq g182.symm))
      have ge_g3 : n0 ≤ g3 := Nat.le_trans (own_z0 Od) (Nat.le_of_eq g182.symm)
      have Sf_g3 : Safe Z consts_1 T181.vm h181 g3 := Safe.new (Nat.le_of_eq g182.symm)
      have Sf_ac := Safe.ext E182 Hr.1 Sf_ac
      have A_3 := A_3.ext E182
      have E_y := E_y.ext E182
      have Y_k := Y_k.ext E182
      have Y_v := Y_v.ext E182
      have V_y := V_y.ext E182
      have Sf_g3 := Safe.ext E182 Hr.1 Sf_g3
      have Od := Od.ext E182
      have Hr := Hr.trans (CHr.ext E182 Hr.1)
      have hk := Nat.le_trans hk E182.1
      refine own_stW st182 ?_
      show own_GoW p e below s Z consts_1 _ _ _ (T182.setTop (mkF m 272 #[.val (.int p0), .val (.int p1), .val (.int p2), .val (.int u1), .val (.int u2), .val (.int u3), .val (.int u4), .val (.int (1 : Int32)), .val (.int (0 : Int32)), .val (.ref g1), .val (.ref g2), .val (.ref ac), .val (.ref y)] [(.ref g3), (.ref y)]))
      have E_g3 : Exa Z h182 g3 "java/lang/String" := A182
      have F_v : Fld Z h182 g3 "java/lang/String" "value" "[B" .null := D182 (Or.inr (hw _ (List.mem_of_getElem? (i := 23) rfl))) (ty := (.array .byte)) (by decide)
      have F_k : Fld Z h182 g3 "java/lang/String" "coder" "B" (.int (0 : Int32)) := D182 (Or.inr (hw _ (List.mem_of_getElem? (i := 25) rfl))) (ty := .byte) (by decide)
      refine own_stW (fun t9 k9 => XS.dup X182.here hx rfl (hb hby at_272) rfl rfl k9) ?_
      show own_GoW p e below s Z consts_1 _ _ _ (T182.setTop (mkF m 273 #[.val (.int p0), .val (.int p1), .val (.int p2), .val (.int u1), .val (.int u2), .val (.int u3), .val (.int u4), .val (.int (1 : Int32)), .val (.int (0 : Int32)), .val (.ref g1), .val (.ref g2), .val (.ref ac), .val (.ref y)] [(.ref g3), (.ref g3), (.ref y)]))
      refine own_stW (fun t9 k9 => XS.aload X182.here hx rfl (hb hby at_273) rfl rfl k9) ?_
      show own_GoW p e below s Z consts_1 _ _ _ (T182.setTop (mkF m 275 #[.val (.int p0), .val (.int p1), .val (.int p2), .val (.int u1), .val (.int u2), .val (.int u3), .val (.int u4), .val (.int (1 : Int32)), .val (.int (0 : Int32)), .val (.ref g1), .val (.ref g2), .val (.ref ac), .val (.ref y)] [(.ref ac), (.ref g3), (.ref g3), (.ref y)]))
      have hp3 : ∀ c ∈ ([u1, u2, (47 : Int32), u3] : List Int32), ¬ c < 0 ∧ ¬ (255 : Int32) < c := by
        intro c hc
        simp only [List.mem_cons, List.not_mem_nil, or_false] at hc
        rcases hc with rfl | rfl | rfl | rfl
        all_goals first | assumption | decide
      obtain ⟨_, T183, h183, L183, X183, e183, ⟨rfl, Nb3, Kb3, Eb3, H_3, t3, k3, gt3, gu3, ntb3, G_3, Vb3⟩, st183⟩ := own_backI X182 hx hZ hown rfl (hw _ (List.mem_of_getElem? (i := 28) rfl)) (hw _ (List.mem_of_getElem? (i := 29) rfl)) (hw _ (List.mem_of_getElem? (i := 30) rfl)) (by decide) (StrChars.Road.backV (s := s.setVm T181.vm) (W := 2) hZ hws (kI := 4) (hw _ (List.mem_of_getElem? (i := 10) rfl)) (cs := [u1, u2, (47 : Int32), u3]) (bs := ([u1, u2, (47 : Int32), u3] : List Int32).map (fun c => c.toInt8.toInt32)) (n := 4) ge_g3 (own_z0 Od) E_g3 F_v F_k A_3 (O2.ext Od.2) P5 rfl rfl (by decide) (by decide) hp3 rfl (by decide) (by decide)) e182 (a := g3) (W := 2) (g := (mkF m 275 #[.val (.int p0), .val (.int p1), .val (.int p2), .val (.int u1), .val (.int u2), .val (.int u3), .val (.int u4), .val (.int (1 : Int32)), .val (.int (0 : Int32)), .val (.ref g1), .val (.ref g2), .val (.ref ac), .val (.ref y)] [(.ref ac), (.ref g3), (.ref g3), (.ref y)])) rfl (by rw [hml]; rfl) (argsL := [(.ref ac)]) (rest := [(.ref g3), (.ref y)]) rfl (lenOf own_pd23 rfl) rfl (by show 2 * 0 + _ ≤ _; exact Nat.le_of_eq rfl) (hb hby at_275) (by decide) (by decide)
      have N183 := Fr.app N181 Nb3
      have ne_ac_t3 : ac ≠ t3 := Nat.ne_of_lt (Nat.lt_of_lt_of_le A_3.lt gu3)
      have ne_y_t3 : y ≠ t3 := Nat.ne_of_lt (Nat.lt_of_lt_of_le E_y.lt gu3)
      have ne_tb_t3 : tb ≠ t3 := Nat.ne_of_lt (Nat.lt_of_lt_of_le V_y.lt gu3)
      have ne_g3_t3 : g3 ≠ t3 := Nat.ne_of_lt (Nat.lt_of_lt_of_le E_g3.lt gu3)
      have ge_t3 : n0 ≤ t3 := Nat.le_trans (own_z0 Od) gu3
      have QSf_ac := Safe.keep Kb3 (sfS Sf_g3 sf0) Hr.1 Sf_ac
      have A_3 := A_3.keep Kb3 (ninS ne_ac_g3 nin0)
      have E_y := E_y.keep Kb3
      have Y_k := Y_k.keep Kb3 (ninS ne_y_g3 nin0)
      have Y_v := Y_v.keep Kb3 (ninS ne_y_g3 nin0)
      have V_y := V_y.keep Kb3 (ninS ne_tb_g3 nin0)
      have QSf_g3 := Safe.keep Kb3 (sfS Sf_g3 sf0) Hr.1 Sf_g3
      have E_g3 := E_g3.keep Kb3
      have Od := Od.keep Kb3 (allS ge_g3 all0)
      have Hr0 := Hr.1
      have Hr := Hr.trans (CHr.keep Kb3 (sfS Sf_g3 sf0) Hr.1)
      have hk := Nat.le_trans hk Kb3.1
      have SFL := (sfS Sf_g3 sf0)
      have Sf_ac := QSf_ac
      have Sf_g3 := QSf_g3
      have Sf_t3 := Safe.keep Kb3 SFL Hr0 (Safe.new gu3)
      refine own_stW st183 ?_
      show own_GoW p e below s Z consts_1 _ _ _ (T183.setTop (mkF m 278 #[.val (.int p0), .val (.int p1), .val (.int p2), .val (.int u1), .val (.int u2), .val (.int u3), .val (.int u4), .val (.int (1 : Int32)), .val (.int (0 : Int32)), .val (.ref g1), .val (.ref g2), .val (.ref ac), .val (.ref y)] [(.ref g3), (.ref y)]))
      have V_3 : Arv Z h183 t3 k3 .byte (4 : Int32) [(.int (u1.toInt8.toInt32)), (.int (u2.toInt8.toInt32)), (.int ((47 : Int32).toInt8.toInt32)), (.int (u3.toInt8.toInt32))] (.int (0 : Int32)) := Vb3
      have hw5 : ∀ c ∈ ([u1, u2, (47 : Int32), u3] : List Int32), ¬ c < 0 ∧ ¬ (65535 : Int32) < c := fun c hc => ⟨(hp3 c hc).1, own_65 (hp3 c hc).2⟩
      have hcd : StrChars.Road.CodA ([u1, u2, (47 : Int32), u3] : List Int32) 0 (4 : Int32) [(.int (u1.toInt8.toInt32)), (.int (u2.toInt8.toInt32)), (.int ((47 : Int32).toInt8.toInt32)), (.int (u3.toInt8.toInt32))] := StrChars.Road.codOf (n := 4) rfl (fun c hc => (hp3 c hc).2)
      have V_z : Arv Z h183 tb kb .byte (4 : Int32) [(.int (u1.toInt8.toInt32)), (.int (u2.toInt8.toInt32)), (.int ((47 : Int32).toInt8.toInt32)), (.int (u3.toInt8.toInt32))] (.int (0 : Int32)) := by rw [own_b47]; exact V_y
      obtain ⟨_, T184, h184, L184, X184, e184, ⟨rfl, rfl, hu⟩, st184⟩ := own_backV X183 hx hZ hown (hw _ (List.mem_of_getElem? (i := 189) rfl)) (hw _ (List.mem_of_getElem? (i := 190) rfl)) (notFace_of_selects (args := #[]) (mvT hZ (hw _ (List.mem_of_getElem? (i := 192) rfl)))) (hw _ (List.mem_of_getElem? (i := 192) rfl)) (hw _ (List.mem_of_getElem? (i := 191) rfl)) (by decide) (own_eqS (s := s.setVm T181.vm) (W := 0) hZ hwe (kI := 4) (hw _ (List.mem_of_getElem? (i := 10) rfl)) E_y Y_v Y_k V_z hcd hw5 (show 4 ≤ 4000 by decide) E_g3 G_3 H_3 V_3 hcd (O2.ext Od.2) P5 (by decide) (by decide)) e183 (b := y) E_y (Qy := (fun v h' L => v = some (.int (1 : Int32)) ∧ L = [] ∧ h' = h183)) (W := 0) (g := (mkF m 278 #[.val (.int p0), .val (.int p1), .val (.int p2), .val (.int u1), .val (.int u2), .val (.int u3), .val (.int u4), .val (.int (1 : Int32)), .val (.int (0 : Int32)), .val (.ref g1), .val (.ref g2), .val (.ref ac), .val (.ref y)] [(.ref g3), (.ref y)])) rfl (by rw [hml]; rfl) (argsL := [(.ref g3)]) (rest := []) rfl (lenOf own_pd24 rfl) rfl (by show 2 * 0 + _ ≤ _; exact Nat.le_of_eq rfl) (hb hby at_278) (by decide) (by decide)
      have N184 := Fr.app N183 (Fr.nil n0)
      refine own_stW st184 ?_
      show own_GoW p e below s Z consts_1 _ _ _ (T184.setTop (mkF m 281 #[.val (.int p0), .val (.int p1), .val (.int p2), .val (.int u1), .val (.int u2), .val (.int u3), .val (.int u4), .val (.int (1 : Int32)), .val (.int (0 : Int32)), .val (.ref g1), .val (.ref g2), .val (.ref ac), .val (.ref y)] [(.int (1 : Int32))]))
      exact own_retNW X184 hx hlk hS (by rw [(e184.trans hu)]; exact hk) hZ hEL (by rw [hh, (e184.trans hu)]; exact Hr) (t := .boolean) Bd.returns (by simp) (hb hby at_281) (by decide) (by decide) (by rw [(e184.trans hu)]; exact ⟨rfl, N184⟩)
    · skip
      refine own_stW (fun t9 k9 => XS.ifNo X0.here hx rfl (hb hby at_53) rfl ((if0 _ _).trans (feq (hA2 : ¬ ((p2 &&& (2 : Int32)) = (0 : Int32)))).1) k9) ?_
      show own_GoW p e below s Z consts_1 _ _ _ (s₁.setTop (mkF m 56 #[.val (.int p0), .val (.int p1), .val (.int p2), .val (.int u1), .val (.int u2), .val (.int u3), .val (.int u4), .val (.int (1 : Int32)), .unset, .unset, .unset, .unset, .unset] []))
      refine own_stW (fun t9 k9 => XS.iconst X0.here hx rfl (hb hby at_56) k9) ?_
      show own_GoW p e below s Z consts_1 _ _ _ (s₁.setTop (mkF m 57 #[.val (.int p0), .val (.int p1), .val (.int p2), .val (.int u1), .val (.int u2), .val (.int u3), .val (.int u4), .val (.int (1 : Int32)), .unset, .unset, .unset, .unset, .unset] [(.int (1 : Int32))]))
      refine own_stW (fun t9 k9 => XS.goto X0.here hx rfl (pc0 := 57) (pc' := 61) rfl (hb hby at_57) (by decide) (by decide) k9) ?_
      show own_GoW p e below s Z consts_1 _ _ _ (s₁.setTop (mkF m 61 #[.val (.int p0), .val (.int p1), .val (.int p2), .val (.int u1), .val (.int u2), .val (.int u3), .val (.int u4), .val (.int (1 : Int32)), .unset, .unset, .unset, .unset, .unset] [(.int (1 : Int32))]))
      refine own_stW (fun t9 k9 => XS.istore X0.here hx rfl (hb hby at_61) rfl (l' := #[.val (.int p0), .val (.int p1), .val (.int p2), .val (.int u1), .val (.int u2), .val (.int u3), .val (.int u4), .val (.int (1 : Int32)), .val (.int (1 : Int32)), .unset, .unset, .unset, .unset]) rfl k9) ?_
      show own_GoW p e below s Z consts_1 _ _ _ (s₁.setTop (mkF m 63 #[.val (.int p0), .val (.int p1), .val (.int p2), .val (.int u1), .val (.int u2), .val (.int u3), .val (.int u4), .val (.int (1 : Int32)), .val (.int (1 : Int32)), .unset, .unset, .unset, .unset] []))
      refine own_stW (fun t9 k9 => XS.iload X0.here hx rfl (hb hby at_63) rfl  k9) ?_
      show own_GoW p e below s Z consts_1 _ _ _ (s₁.setTop (mkF m 65 #[.val (.int p0), .val (.int p1), .val (.int p2), .val (.int u1), .val (.int u2), .val (.int u3), .val (.int u4), .val (.int (1 : Int32)), .val (.int (1 : Int32)), .unset, .unset, .unset, .unset] [(.int (1 : Int32))]))
      refine own_stW (fun t9 k9 => XS.ifNo X0.here hx rfl (hb hby at_65) rfl (by decide) k9) ?_
      show own_GoW p e below s Z consts_1 _ _ _ (s₁.setTop (mkF m 68 #[.val (.int p0), .val (.int p1), .val (.int p2), .val (.int u1), .val (.int u2), .val (.int u3), .val (.int u4), .val (.int (1 : Int32)), .val (.int (1 : Int32)), .unset, .unset, .unset, .unset] []))
      obtain ⟨T185, h185, X185, e185, E185, A185, D185, U185, st185⟩ := newO X0 hx hZ hown (hw _ (List.mem_of_getElem? (i := 26) rfl)) (hw _ (List.mem_of_getElem? (i := 10) rfl)) (hw _ (List.mem_of_getElem? (i := 2) rfl)) e0 (g := (mkF m 68 #[.val (.int p0), .val (.int p1), .val (.int p2), .val (.int u1), .val (.int u2), .val (.int u3), .val (.int u4), .val (.int (1 : Int32)), .val (.int (1 : Int32)), .unset, .unset, .unset, .unset] [])) rfl (hb hby at_68) (by decide) (by decide)
      obtain ⟨g1, g185⟩ : ∃ z, z = h0.size := ⟨_, rfl⟩
      rw [← g185] at A185 D185 st185 U185
      have ge_g1 : n0 ≤ g1 := Nat.le_trans (own_z0 Od) (Nat.le_of_eq g185.symm)
      have Sf_g1 : Safe Z consts_1 s.vm h0 g1 := Safe.new (Nat.le_of_eq g185.symm)
      have Sf_g1 := Safe.ext E185 Hr.1 Sf_g1
      have Od := Od.ext E185
      have Hr := Hr.trans (CHr.ext E185 Hr.1)
      have hk := Nat.le_trans hk E185.1
      refine own_stW st185 ?_
      show own_GoW p e below s Z consts_1 _ _ _ (T185.setTop (mkF m 71 #[.val (.int p0), .val (.int p1), .val (.int p2), .val (.int u1), .val (.int u2), .val (.int u3), .val (.int u4), .val (.int (1 : Int32)), .val (.int (1 : Int32)), .unset, .unset, .unset, .unset] [(.ref g1)]))
      have E_g1 : Exa Z h185 g1 "java/lang/String" := A185
      have F_v : Fld Z h185 g1 "java/lang/String" "value" "[B" .null := D185 (Or.inr (hw _ (List.mem_of_getElem? (i := 23) rfl))) (ty := (.array .byte)) (by decide)
      have F_k : Fld Z h185 g1 "java/lang/String" "coder" "B" (.int (0 : Int32)) := D185 (Or.inr (hw _ (List.mem_of_getElem? (i := 25) rfl))) (ty := .byte) (by decide)
      refine own_stW (fun t9 k9 => XS.dup X185.here hx rfl (hb hby at_71) rfl rfl k9) ?_
      show own_GoW p e below s Z consts_1 _ _ _ (T185.setTop (mkF m 72 #[.val (.int p0), .val (.int p1), .val (.int p2), .val (.int u1), .val (.int u2), .val (.int u3), .val (.int u4), .val (.int (1 : Int32)), .val (.int (1 : Int32)), .unset, .unset, .unset, .unset] [(.ref g1), (.ref g1)]))
      refine own_stW (fun t9 k9 => XS.iconst X185.here hx rfl (hb hby at_72) k9) ?_
      show own_GoW p e below s Z consts_1 _ _ _ (T185.setTop (mkF m 73 #[.val (.int p0), .val (.int p1), .val (.int p2), .val (.int u1), .val (.int u2), .val (.int u3), .val (.int u4), .val (.int (1 : Int32)), .val (.int (1 : Int32)), .unset, .unset, .unset, .unset] [(.int (2 : Int32)), (.ref g1), (.ref g1)]))
      obtain ⟨T186, h186, k186, X186, e186, E186, A186, st186⟩ := newP X185 hx hZ (hw _ (List.mem_of_getElem? (i := 27) rfl)) e185 (g := (mkF m 73 #[.val (.int p0), .val (.int p1), .val (.int p2), .val (.int u1), .val (.int u2), .val (.int u3), .val (.int u4), .val (.int (1 : Int32)), .val (.int (1 : Int32)), .unset, .unset, .unset, .unset] [(.int (2 : Int32)), (.ref g1), (.ref g1)])) rfl (hb hby at_73) rfl (by decide) (cap := 2) (by decide) (by decide) (by decide) (by decide)
      obtain ⟨a1, g186⟩ : ∃ z, z = h185.size := ⟨_, rfl⟩
      rw [← g186] at A186 st186
      have ne_g1_a1 : g1 ≠ a1 := Nat.ne_of_lt (Nat.lt_of_lt_of_le E_g1.lt (Nat.le_of_eq g186.symm))
      have ge_a1 : n0 ≤ a1 := Nat.le_trans (own_z0 Od) (Nat.le_of_eq g186.symm)
      have Sf_a1 : Safe Z consts_1 s.vm h185 a1 := Safe.new (Nat.le_of_eq g186.symm)
      have Sf_g1 := Safe.ext E186 Hr.1 Sf_g1
      have E_g1 := E_g1.ext E186
      have F_v := F_v.ext E186
      have F_k := F_k.ext E186
      have Sf_a1 := Safe.ext E186 Hr.1 Sf_a1
      have Od := Od.ext E186
      have Hr := Hr.trans (CHr.ext E186 Hr.1)
      have hk := Nat.le_trans hk E186.1
      refine own_stW st186 ?_
      show own_GoW p e below s Z consts_1 _ _ _ (T186.setTop (mkF m 75 #[.val (.int p0), .val (.int p1), .val (.int p2), .val (.int u1), .val (.int u2), .val (.int u3), .val (.int u4), .val (.int (1 : Int32)), .val (.int (1 : Int32)), .unset, .unset, .unset, .unset] [(.ref a1), (.ref g1), (.ref g1)]))
      have A_1 : Arv Z h186 a1 k186 .char (2 : Int32) [(.int (0 : Int32)), (.int (0 : Int32))] (.int (0 : Int32)) := (Arv.new A186 (by decide)).pad (pad_rep [] (.int (0 : Int32)) 2)
      refine own_stW (fun t9 k9 => XS.dup X186.here hx rfl (hb hby at_75) rfl rfl k9) ?_
      show own_GoW p e below s Z consts_1 _ _ _ (T186.setTop (mkF m 76 #[.val (.int p0), .val (.int p1), .val (.int p2), .val (.int u1), .val (.int u2), .val (.int u3), .val (.int u4), .val (.int (1 : Int32)), .val (.int (1 : Int32)), .unset, .unset, .unset, .unset] [(.ref a1), (.ref a1), (.ref g1), (.ref g1)]))
      refine own_stW (fun t9 k9 => XS.iconst X186.here hx rfl (hb hby at_76) k9) ?_
      show own_GoW p e below s Z consts_1 _ _ _ (T186.setTop (mkF m 77 #[.val (.int p0), .val (.int p1), .val (.int p2), .val (.int u1), .val (.int u2), .val (.int u3), .val (.int u4), .val (.int (1 : Int32)), .val (.int (1 : Int32)), .unset, .unset, .unset, .unset] [(.int (0 : Int32)), (.ref a1), (.ref a1), (.ref g1), (.ref g1)]))
      refine own_stW (fun t9 k9 => XS.iloadN X186.here hx rfl (hb hby at_77) rfl  k9) ?_
      show own_GoW p e below s Z consts_1 _ _ _ (T186.setTop (mkF m 78 #[.val (.int p0), .val (.int p1), .val (.int p2), .val (.int u1), .val (.int u2), .val (.int u3), .val (.int u4), .val (.int (1 : Int32)), .val (.int (1 : Int32)), .unset, .unset, .unset, .unset] [(.int u1), (.int (0 : Int32)), (.ref a1), (.ref a1), (.ref g1), (.ref g1)]))
      obtain ⟨cl187, Ar187, q187, S187, M187, H187, G187⟩ := id A_1
      obtain ⟨T187, h187, X187, e187, W187, st187⟩ := stC X186 hx hZ e186 Ar187 (j := (0 : Int32)) (inb_of S187 ⟨by decide, by decide⟩) (g := (mkF m 78 #[.val (.int p0), .val (.int p1), .val (.int p2), .val (.int u1), .val (.int u2), .val (.int u3), .val (.int u4), .val (.int (1 : Int32)), .val (.int (1 : Int32)), .unset, .unset, .unset, .unset] [(.int u1), (.int (0 : Int32)), (.ref a1), (.ref a1), (.ref g1), (.ref g1)])) rfl rfl (hb hby at_78)
      have N187 := Fr.snoc X187 N0 ge_a1
      have QSf_g1 := Safe.wr W187 Sf_a1 Hr.1 Sf_g1
      have E_g1 := E_g1.wr W187
      have F_v := F_v.other W187 (Or.inl ne_g1_a1)
      have F_k := F_k.other W187 (Or.inl ne_g1_a1)
      have QSf_a1 := Safe.wr W187 Sf_a1 Hr.1 Sf_a1
      have Od := Od.wr W187 ge_a1
      have Hr := Hr.trans (CHr.wr W187 Sf_a1 Hr.1)
      have hk := Nat.le_trans hk (Keep.of_wr W187).1
      have Sf_g1 := QSf_g1
      have Sf_a1 := QSf_a1
      refine own_stW st187 ?_
      show own_GoW p e below s Z consts_1 _ _ _ (T187.setTop (mkF m 79 #[.val (.int p0), .val (.int p1), .val (.int p2), .val (.int u1), .val (.int u2), .val (.int u3), .val (.int u4), .val (.int (1 : Int32)), .val (.int (1 : Int32)), .unset, .unset, .unset, .unset] [(.ref a1), (.ref g1), (.ref g1)]))
      have A_1 : Arv Z h187 a1 k186 .char (2 : Int32) [(.int (nar .char u1)), (.int (0 : Int32))] (.int (0 : Int32)) := Arv.set Ar187 q187 S187 M187 H187 G187 (fits_nar_char _) W187 0 rfl (Nat.le_of_ble_eq_true rfl)
      refine own_stW (fun t9 k9 => XS.dup X187.here hx rfl (hb hby at_79) rfl rfl k9) ?_
      show own_GoW p e below s Z consts_1 _ _ _ (T187.setTop (mkF m 80 #[.val (.int p0), .val (.int p1), .val (.int p2), .val (.int u1), .val (.int u2), .val (.int u3), .val (.int u4), .val (.int (1 : Int32)), .val (.int (1 : Int32)), .unset, .unset, .unset, .unset] [(.ref a1), (.ref a1), (.ref g1), (.ref g1)]))
      refine own_stW (fun t9 k9 => XS.iconst X187.here hx rfl (hb hby at_80) k9) ?_
      show own_GoW p e below s Z consts_1 _ _ _ (T187.setTop (mkF m 81 #[.val (.int p0), .val (.int p1), .val (.int p2), .val (.int u1), .val (.int u2), .val (.int u3), .val (.int u4), .val (.int (1 : Int32)), .val (.int (1 : Int32)), .unset, .unset, .unset, .unset] [(.int (1 : Int32)), (.ref a1), (.ref a1), (.ref g1), (.ref g1)]))
      refine own_stW (fun t9 k9 => XS.iload X187.here hx rfl (hb hby at_81) rfl  k9) ?_
      show own_GoW p e below s Z consts_1 _ _ _ (T187.setTop (mkF m 83 #[.val (.int p0), .val (.int p1), .val (.int p2), .val (.int u1), .val (.int u2), .val (.int u3), .val (.int u4), .val (.int (1 : Int32)), .val (.int (1 : Int32)), .unset, .unset, .unset, .unset] [(.int u2), (.int (1 : Int32)), (.ref a1), (.ref a1), (.ref g1), (.ref g1)]))
      obtain ⟨cl188, Ar188, q188, S188, M188, H188, G188⟩ := id A_1
      obtain ⟨T188, h188, X188, e188, W188, st188⟩ := stC X187 hx hZ e187 Ar188 (j := (1 : Int32)) (inb_of S188 ⟨by decide, by decide⟩) (g := (mkF m 83 #[.val (.int p0), .val (.int p1), .val (.int p2), .val (.int u1), .val (.int u2), .val (.int u3), .val (.int u4), .val (.int (1 : Int32)), .val (.int (1 : Int32)), .unset, .unset, .unset, .unset] [(.int u2), (.int (1 : Int32)), (.ref a1), (.ref a1), (.ref g1), (.ref g1)])) rfl rfl (hb hby at_83)
      have N188 := Fr.snoc X188 N187 ge_a1
      have QSf_g1 := Safe.wr W188 Sf_a1 Hr.1 Sf_g1
      have E_g1 := E_g1.wr W188
      have F_v := F_v.other W188 (Or.inl ne_g1_a1)
      have F_k := F_k.other W188 (Or.inl ne_g1_a1)
      have QSf_a1 := Safe.wr W188 Sf_a1 Hr.1 Sf_a1
      have Od := Od.wr W188 ge_a1
      have Hr := Hr.trans (CHr.wr W188 Sf_a1 Hr.1)
      have hk := Nat.le_trans hk (Keep.of_wr W188).1
      have Sf_g1 := QSf_g1
      have Sf_a1 := QSf_a1
      refine own_stW st188 ?_
      show own_GoW p e below s Z consts_1 _ _ _ (T188.setTop (mkF m 84 #[.val (.int p0), .val (.int p1), .val (.int p2), .val (.int u1), .val (.int u2), .val (.int u3), .val (.int u4), .val (.int (1 : Int32)), .val (.int (1 : Int32)), .unset, .unset, .unset, .unset] [(.ref a1), (.ref g1), (.ref g1)]))
      have A_1 : Arv Z h188 a1 k186 .char (2 : Int32) [(.int (nar .char u1)), (.int (nar .char u2))] (.int (0 : Int32)) := Arv.set Ar188 q188 S188 M188 H188 G188 (fits_nar_char _) W188 1 rfl (Nat.le_of_ble_eq_true rfl)
      rw [nu1, nu2] at A_1
      have hp1 : ∀ c ∈ ([u1, u2] : List Int32), ¬ c < 0 ∧ ¬ (255 : Int32) < c := by
        intro c hc
        simp only [List.mem_cons, List.not_mem_nil, or_false] at hc
        rcases hc with rfl | rfl
        all_goals first | assumption | decide
      obtain ⟨_, T189, h189, L189, X189, e189, ⟨rfl, Nb1, Kb1, Eb1, H_1, t1, k1, gt1, gu1, ntb1, G_1, Vb1⟩, st189⟩ := own_backI X188 hx hZ hown rfl (hw _ (List.mem_of_getElem? (i := 28) rfl)) (hw _ (List.mem_of_getElem? (i := 29) rfl)) (hw _ (List.mem_of_getElem? (i := 30) rfl)) (by decide) (StrChars.Road.backV (s := s.setVm s.vm) (W := 1) hZ hws (kI := 4) (hw _ (List.mem_of_getElem? (i := 10) rfl)) (cs := [u1, u2]) (bs := ([u1, u2] : List Int32).map (fun c => c.toInt8.toInt32)) (n := 2) ge_g1 (own_z0 Od) E_g1 F_v F_k A_1 (O2.ext Od.2) P5 rfl rfl (by decide) (by decide) hp1 rfl (by decide) (by decide)) e188 (a := g1) (W := 1) (g := (mkF m 84 #[.val (.int p0), .val (.int p1), .val (.int p2), .val (.int u1), .val (.int u2), .val (.int u3), .val (.int u4), .val (.int (1 : Int32)), .val (.int (1 : Int32)), .unset, .unset, .unset, .unset] [(.ref a1), (.ref g1), (.ref g1)])) rfl (by rw [hml]; rfl) (argsL := [(.ref a1)]) (rest := [(.ref g1)]) rfl (lenOf own_pd23 rfl) rfl (by show 2 * 0 + _ ≤ _; exact Nat.le_of_eq rfl) (hb hby at_84) (by decide) (by decide)
      have N189 := Fr.app N188 Nb1
      have ne_g1_t1 : g1 ≠ t1 := Nat.ne_of_lt (Nat.lt_of_lt_of_le E_g1.lt gu1)
      have ne_a1_t1 : a1 ≠ t1 := Nat.ne_of_lt (Nat.lt_of_lt_of_le A_1.lt gu1)
      have ge_t1 : n0 ≤ t1 := Nat.le_trans (own_z0 Od) gu1
      have QSf_g1 := Safe.keep Kb1 (sfS Sf_g1 sf0) Hr.1 Sf_g1
      have E_g1 := E_g1.keep Kb1
      have QSf_a1 := Safe.keep Kb1 (sfS Sf_g1 sf0) Hr.1 Sf_a1
      have A_1 := A_1.keep Kb1 (ninS (Ne.symm ne_g1_a1) nin0)
      have Od := Od.keep Kb1 (allS ge_g1 all0)
      have Hr0 := Hr.1
      have Hr := Hr.trans (CHr.keep Kb1 (sfS Sf_g1 sf0) Hr.1)
      have hk := Nat.le_trans hk Kb1.1
      have SFL := (sfS Sf_g1 sf0)
      have Sf_g1 := QSf_g1
      have Sf_a1 := QSf_a1
      have Sf_t1 := Safe.keep Kb1 SFL Hr0 (Safe.new gu1)
      refine own_stW st189 ?_
      show own_GoW p e below s Z consts_1 _ _ _ (T189.setTop (mkF m 87 #[.val (.int p0), .val (.int p1), .val (.int p2), .val (.int u1), .val (.int u2), .val (.int u3), .val (.int u4), .val (.int (1 : Int32)), .val (.int (1 : Int32)), .unset, .unset, .unset, .unset] [(.ref g1)]))
      have V_1 : Arv Z h189 t1 k1 .byte (2 : Int32) [(.int (u1.toInt8.toInt32)), (.int (u2.toInt8.toInt32))] (.int (0 : Int32)) := Vb1
      have E_1 := E_g1
      refine own_stW (fun t9 k9 => XS.goto X189.here hx rfl (pc0 := 87) (pc' := 94) rfl (hb hby at_87) (by decide) (by decide) k9) ?_
      show own_GoW p e below s Z consts_1 _ _ _ (T189.setTop (mkF m 94 #[.val (.int p0), .val (.int p1), .val (.int p2), .val (.int u1), .val (.int u2), .val (.int u3), .val (.int u4), .val (.int (1 : Int32)), .val (.int (1 : Int32)), .unset, .unset, .unset, .unset] [(.ref g1)]))
      refine own_stW (fun t9 k9 => XS.astore X189.here hx rfl (hb hby at_94) rfl rfl (l' := #[.val (.int p0), .val (.int p1), .val (.int p2), .val (.int u1), .val (.int u2), .val (.int u3), .val (.int u4), .val (.int (1 : Int32)), .val (.int (1 : Int32)), .val (.ref g1), .unset, .unset, .unset]) rfl k9) ?_
      show own_GoW p e below s Z consts_1 _ _ _ (T189.setTop (mkF m 96 #[.val (.int p0), .val (.int p1), .val (.int p2), .val (.int u1), .val (.int u2), .val (.int u3), .val (.int u4), .val (.int (1 : Int32)), .val (.int (1 : Int32)), .val (.ref g1), .unset, .unset, .unset] []))
      refine own_stW (fun t9 k9 => XS.iload X189.here hx rfl (hb hby at_96) rfl  k9) ?_
      show own_GoW p e below s Z consts_1 _ _ _ (T189.setTop (mkF m 98 #[.val (.int p0), .val (.int p1), .val (.int p2), .val (.int u1), .val (.int u2), .val (.int u3), .val (.int u4), .val (.int (1 : Int32)), .val (.int (1 : Int32)), .val (.ref g1), .unset, .unset, .unset] [(.int (1 : Int32))]))
      refine own_stW (fun t9 k9 => XS.ifNo X189.here hx rfl (hb hby at_98) rfl (by decide) k9) ?_
      show own_GoW p e below s Z consts_1 _ _ _ (T189.setTop (mkF m 101 #[.val (.int p0), .val (.int p1), .val (.int p2), .val (.int u1), .val (.int u2), .val (.int u3), .val (.int u4), .val (.int (1 : Int32)), .val (.int (1 : Int32)), .val (.ref g1), .unset, .unset, .unset] []))
      obtain ⟨T190, h190, X190, e190, E190, A190, D190, U190, st190⟩ := newO X189 hx hZ hown (hw _ (List.mem_of_getElem? (i := 26) rfl)) (hw _ (List.mem_of_getElem? (i := 10) rfl)) (hw _ (List.mem_of_getElem? (i := 2) rfl)) e189 (g := (mkF m 101 #[.val (.int p0), .val (.int p1), .val (.int p2), .val (.int u1), .val (.int u2), .val (.int u3), .val (.int u4), .val (.int (1 : Int32)), .val (.int (1 : Int32)), .val (.ref g1), .unset, .unset, .unset] [])) rfl (hb hby at_101) (by decide) (by decide)
      obtain ⟨g2, g190⟩ : ∃ z, z = h189.size := ⟨_, rfl⟩
      rw [← g190] at A190 D190 st190 U190
      have ne_g1_g2 : g1 ≠ g2 := Nat.ne_of_lt (Nat.lt_of_lt_of_le G_1.lt (Nat.le_of_eq g190.symm))
      have ne_t1_g2 : t1 ≠ g2 := Nat.ne_of_lt (Nat.lt_of_lt_of_le V_1.lt (Nat.le_of_eq g190.symm))
      have ge_g2 : n0 ≤ g2 := Nat.le_trans (own_z0 Od) (Nat.le_of_eq g190.symm)
      have Sf_g2 : Safe Z consts_1 s.vm h189 g2 := Safe.new (Nat.le_of_eq g190.symm)
      have G_1 := G_1.ext E190
      have H_1 := H_1.ext E190
      have V_1 := V_1.ext E190
      have E_1 := E_1.ext E190
      have Sf_g2 := Safe.ext E190 Hr.1 Sf_g2
      have Od := Od.ext E190
      have Hr := Hr.trans (CHr.ext E190 Hr.1)
      have hk := Nat.le_trans hk E190.1
      refine own_stW st190 ?_
      show own_GoW p e below s Z consts_1 _ _ _ (T190.setTop (mkF m 104 #[.val (.int p0), .val (.int p1), .val (.int p2), .val (.int u1), .val (.int u2), .val (.int u3), .val (.int u4), .val (.int (1 : Int32)), .val (.int (1 : Int32)), .val (.ref g1), .unset, .unset, .unset] [(.ref g2)]))
      have E_g2 : Exa Z h190 g2 "java/lang/String" := A190
      have F_v : Fld Z h190 g2 "java/lang/String" "value" "[B" .null := D190 (Or.inr (hw _ (List.mem_of_getElem? (i := 23) rfl))) (ty := (.array .byte)) (by decide)
      have F_k : Fld Z h190 g2 "java/lang/String" "coder" "B" (.int (0 : Int32)) := D190 (Or.inr (hw _ (List.mem_of_getElem? (i := 25) rfl))) (ty := .byte) (by decide)
      refine own_stW (fun t9 k9 => XS.dup X190.here hx rfl (hb hby at_104) rfl rfl k9) ?_
      show own_GoW p e below s Z consts_1 _ _ _ (T190.setTop (mkF m 105 #[.val (.int p0), .val (.int p1), .val (.int p2), .val (.int u1), .val (.int u2), .val (.int u3), .val (.int u4), .val (.int (1 : Int32)), .val (.int (1 : Int32)), .val (.ref g1), .unset, .unset, .unset] [(.ref g2), (.ref g2)]))
      refine own_stW (fun t9 k9 => XS.iconst X190.here hx rfl (hb hby at_105) k9) ?_
      show own_GoW p e below s Z consts_1 _ _ _ (T190.setTop (mkF m 106 #[.val (.int p0), .val (.int p1), .val (.int p2), .val (.int u1), .val (.int u2), .val (.int u3), .val (.int u4), .val (.int (1 : Int32)), .val (.int (1 : Int32)), .val (.ref g1), .unset, .unset, .unset] [(.int (2 : Int32)), (.ref g2), (.ref g2)]))
      obtain ⟨T191, h191, k191, X191, e191, E191, A191, st191⟩ := newP X190 hx hZ (hw _ (List.mem_of_getElem? (i := 27) rfl)) e190 (g := (mkF m 106 #[.val (.int p0), .val (.int p1), .val (.int p2), .val (.int u1), .val (.int u2), .val (.int u3), .val (.int u4), .val (.int (1 : Int32)), .val (.int (1 : Int32)), .val (.ref g1), .unset, .unset, .unset] [(.int (2 : Int32)), (.ref g2), (.ref g2)])) rfl (hb hby at_106) rfl (by decide) (cap := 2) (by decide) (by decide) (by decide) (by decide)
      obtain ⟨a2, g191⟩ : ∃ z, z = h190.size := ⟨_, rfl⟩
      rw [← g191] at A191 st191
      have ne_g1_a2 : g1 ≠ a2 := Nat.ne_of_lt (Nat.lt_of_lt_of_le G_1.lt (Nat.le_of_eq g191.symm))
      have ne_t1_a2 : t1 ≠ a2 := Nat.ne_of_lt (Nat.lt_of_lt_of_le V_1.lt (Nat.le_of_eq g191.symm))
      have ne_g2_a2 : g2 ≠ a2 := Nat.ne_of_lt (Nat.lt_of_lt_of_le E_g2.lt (Nat.le_of_eq g191.symm))
      have ge_a2 : n0 ≤ a2 := Nat.le_trans (own_z0 Od) (Nat.le_of_eq g191.symm)
      have Sf_a2 : Safe Z consts_1 s.vm h190 a2 := Safe.new (Nat.le_of_eq g191.symm)
      have G_1 := G_1.ext E191
      have H_1 := H_1.ext E191
      have V_1 := V_1.ext E191
      have E_1 := E_1.ext E191
      have Sf_g2 := Safe.ext E191 Hr.1 Sf_g2
      have E_g2 := E_g2.ext E191
      have F_v := F_v.ext E191
      have F_k := F_k.ext E191
      have Sf_a2 := Safe.ext E191 Hr.1 Sf_a2
      have Od := Od.ext E191
      have Hr := Hr.trans (CHr.ext E191 Hr.1)
      have hk := Nat.le_trans hk E191.1
      refine own_stW st191 ?_
      show own_GoW p e below s Z consts_1 _ _ _ (T191.setTop (mkF m 108 #[.val (.int p0), .val (.int p1), .val (.int p2), .val (.int u1), .val (.int u2), .val (.int u3), .val (.int u4), .val (.int (1 : Int32)), .val (.int (1 : Int32)), .val (.ref g1), .unset, .unset, .unset] [(.ref a2), (.ref g2), (.ref g2)]))
      have A_2 : Arv Z h191 a2 k191 .char (2 : Int32) [(.int (0 : Int32)), (.int (0 : Int32))] (.int (0 : Int32)) := (Arv.new A191 (by decide)).pad (pad_rep [] (.int (0 : Int32)) 2)
      refine own_stW (fun t9 k9 => XS.dup X191.here hx rfl (hb hby at_108) rfl rfl k9) ?_
      show own_GoW p e below s Z consts_1 _ _ _ (T191.setTop (mkF m 109 #[.val (.int p0), .val (.int p1), .val (.int p2), .val (.int u1), .val (.int u2), .val (.int u3), .val (.int u4), .val (.int (1 : Int32)), .val (.int (1 : Int32)), .val (.ref g1), .unset, .unset, .unset] [(.ref a2), (.ref a2), (.ref g2), (.ref g2)]))
      refine own_stW (fun t9 k9 => XS.iconst X191.here hx rfl (hb hby at_109) k9) ?_
      show own_GoW p e below s Z consts_1 _ _ _ (T191.setTop (mkF m 110 #[.val (.int p0), .val (.int p1), .val (.int p2), .val (.int u1), .val (.int u2), .val (.int u3), .val (.int u4), .val (.int (1 : Int32)), .val (.int (1 : Int32)), .val (.ref g1), .unset, .unset, .unset] [(.int (0 : Int32)), (.ref a2), (.ref a2), (.ref g2), (.ref g2)]))
      refine own_stW (fun t9 k9 => XS.iload X191.here hx rfl (hb hby at_110) rfl  k9) ?_
      show own_GoW p e below s Z consts_1 _ _ _ (T191.setTop (mkF m 112 #[.val (.int p0), .val (.int p1), .val (.int p2), .val (.int u1), .val (.int u2), .val (.int u3), .val (.int u4), .val (.int (1 : Int32)), .val (.int (1 : Int32)), .val (.ref g1), .unset, .unset, .unset] [(.int u3), (.int (0 : Int32)), (.ref a2), (.ref a2), (.ref g2), (.ref g2)]))
      obtain ⟨cl192, Ar192, q192, S192, M192, H192, G192⟩ := id A_2
      obtain ⟨T192, h192, X192, e192, W192, st192⟩ := stC X191 hx hZ e191 Ar192 (j := (0 : Int32)) (inb_of S192 ⟨by decide, by decide⟩) (g := (mkF m 112 #[.val (.int p0), .val (.int p1), .val (.int p2), .val (.int u1), .val (.int u2), .val (.int u3), .val (.int u4), .val (.int (1 : Int32)), .val (.int (1 : Int32)), .val (.ref g1), .unset, .unset, .unset] [(.int u3), (.int (0 : Int32)), (.ref a2), (.ref a2), (.ref g2), (.ref g2)])) rfl rfl (hb hby at_112)
      have N192 := Fr.snoc X192 N189 ge_a2
      have G_1 := G_1.other W192 (Or.inl ne_g1_a2)
      have H_1 := H_1.other W192 (Or.inl ne_g1_a2)
      have V_1 := V_1.other W192 ne_t1_a2
      have E_1 := E_1.wr W192
      have QSf_g2 := Safe.wr W192 Sf_a2 Hr.1 Sf_g2
      have E_g2 := E_g2.wr W192
      have F_v := F_v.other W192 (Or.inl ne_g2_a2)
      have F_k := F_k.other W192 (Or.inl ne_g2_a2)
      have QSf_a2 := Safe.wr W192 Sf_a2 Hr.1 Sf_a2
      have Od := Od.wr W192 ge_a2
      have Hr := Hr.trans (CHr.wr W192 Sf_a2 Hr.1)
      have hk := Nat.le_trans hk (Keep.of_wr W192).1
      have Sf_g2 := QSf_g2
      have Sf_a2 := QSf_a2
      refine own_stW st192 ?_
      show own_GoW p e below s Z consts_1 _ _ _ (T192.setTop (mkF m 113 #[.val (.int p0), .val (.int p1), .val (.int p2), .val (.int u1), .val (.int u2), .val (.int u3), .val (.int u4), .val (.int (1 : Int32)), .val (.int (1 : Int32)), .val (.ref g1), .unset, .unset, .unset] [(.ref a2), (.ref g2), (.ref g2)]))
      have A_2 : Arv Z h192 a2 k191 .char (2 : Int32) [(.int (nar .char u3)), (.int (0 : Int32))] (.int (0 : Int32)) := Arv.set Ar192 q192 S192 M192 H192 G192 (fits_nar_char _) W192 0 rfl (Nat.le_of_ble_eq_true rfl)
      refine own_stW (fun t9 k9 => XS.dup X192.here hx rfl (hb hby at_113) rfl rfl k9) ?_
      show own_GoW p e below s Z consts_1 _ _ _ (T192.setTop (mkF m 114 #[.val (.int p0), .val (.int p1), .val (.int p2), .val (.int u1), .val (.int u2), .val (.int u3), .val (.int u4), .val (.int (1 : Int32)), .val (.int (1 : Int32)), .val (.ref g1), .unset, .unset, .unset] [(.ref a2), (.ref a2), (.ref g2), (.ref g2)]))
      refine own_stW (fun t9 k9 => XS.iconst X192.here hx rfl (hb hby at_114) k9) ?_
      show own_GoW p e below s Z consts_1 _ _ _ (T192.setTop (mkF m 115 #[.val (.int p0), .val (.int p1), .val (.int p2), .val (.int u1), .val (.int u2), .val (.int u3), .val (.int u4), .val (.int (1 : Int32)), .val (.int (1 : Int32)), .val (.ref g1), .unset, .unset, .unset] [(.int (1 : Int32)), (.ref a2), (.ref a2), (.ref g2), (.ref g2)]))
      refine own_stW (fun t9 k9 => XS.iload X192.here hx rfl (hb hby at_115) rfl  k9) ?_
      show own_GoW p e below s Z consts_1 _ _ _ (T192.setTop (mkF m 117 #[.val (.int p0), .val (.int p1), .val (.int p2), .val (.int u1), .val (.int u2), .val (.int u3), .val (.int u4), .val (.int (1 : Int32)), .val (.int (1 : Int32)), .val (.ref g1), .unset, .unset, .unset] [(.int u4), (.int (1 : Int32)), (.ref a2), (.ref a2), (.ref g2), (.ref g2)]))
      obtain ⟨cl193, Ar193, q193, S193, M193, H193, G193⟩ := id A_2
      obtain ⟨T193, h193, X193, e193, W193, st193⟩ := stC X192 hx hZ e192 Ar193 (j := (1 : Int32)) (inb_of S193 ⟨by decide, by decide⟩) (g := (mkF m 117 #[.val (.int p0), .val (.int p1), .val (.int p2), .val (.int u1), .val (.int u2), .val (.int u3), .val (.int u4), .val (.int (1 : Int32)), .val (.int (1 : Int32)), .val (.ref g1), .unset, .unset, .unset] [(.int u4), (.int (1 : Int32)), (.ref a2), (.ref a2), (.ref g2), (.ref g2)])) rfl rfl (hb hby at_117)
      have N193 := Fr.snoc X193 N192 ge_a2
      have G_1 := G_1.other W193 (Or.inl ne_g1_a2)
      have H_1 := H_1.other W193 (Or.inl ne_g1_a2)
      have V_1 := V_1.other W193 ne_t1_a2
      have E_1 := E_1.wr W193
      have QSf_g2 := Safe.wr W193 Sf_a2 Hr.1 Sf_g2
      have E_g2 := E_g2.wr W193
      have F_v := F_v.other W193 (Or.inl ne_g2_a2)
      have F_k := F_k.other W193 (Or.inl ne_g2_a2)
      have QSf_a2 := Safe.wr W193 Sf_a2 Hr.1 Sf_a2
      have Od := Od.wr W193 ge_a2
      have Hr := Hr.trans (CHr.wr W193 Sf_a2 Hr.1)
      have hk := Nat.le_trans hk (Keep.of_wr W193).1
      have Sf_g2 := QSf_g2
      have Sf_a2 := QSf_a2
      refine own_stW st193 ?_
      show own_GoW p e below s Z consts_1 _ _ _ (T193.setTop (mkF m 118 #[.val (.int p0), .val (.int p1), .val (.int p2), .val (.int u1), .val (.int u2), .val (.int u3), .val (.int u4), .val (.int (1 : Int32)), .val (.int (1 : Int32)), .val (.ref g1), .unset, .unset, .unset] [(.ref a2), (.ref g2), (.ref g2)]))
      have A_2 : Arv Z h193 a2 k191 .char (2 : Int32) [(.int (nar .char u3)), (.int (nar .char u4))] (.int (0 : Int32)) := Arv.set Ar193 q193 S193 M193 H193 G193 (fits_nar_char _) W193 1 rfl (Nat.le_of_ble_eq_true rfl)
      rw [nu3, nu4] at A_2
      have hp2 : ∀ c ∈ ([u3, u4] : List Int32), ¬ c < 0 ∧ ¬ (255 : Int32) < c := by
        intro c hc
        simp only [List.mem_cons, List.not_mem_nil, or_false] at hc
        rcases hc with rfl | rfl
        all_goals first | assumption | decide
      obtain ⟨_, T194, h194, L194, X194, e194, ⟨rfl, Nb2, Kb2, Eb2, H_2, t2, k2, gt2, gu2, ntb2, G_2, Vb2⟩, st194⟩ := own_backI X193 hx hZ hown rfl (hw _ (List.mem_of_getElem? (i := 28) rfl)) (hw _ (List.mem_of_getElem? (i := 29) rfl)) (hw _ (List.mem_of_getElem? (i := 30) rfl)) (by decide) (StrChars.Road.backV (s := s.setVm s.vm) (W := 1) hZ hws (kI := 4) (hw _ (List.mem_of_getElem? (i := 10) rfl)) (cs := [u3, u4]) (bs := ([u3, u4] : List Int32).map (fun c => c.toInt8.toInt32)) (n := 2) ge_g2 (own_z0 Od) E_g2 F_v F_k A_2 (O2.ext Od.2) P5 rfl rfl (by decide) (by decide) hp2 rfl (by decide) (by decide)) e193 (a := g2) (W := 1) (g := (mkF m 118 #[.val (.int p0), .val (.int p1), .val (.int p2), .val (.int u1), .val (.int u2), .val (.int u3), .val (.int u4), .val (.int (1 : Int32)), .val (.int (1 : Int32)), .val (.ref g1), .unset, .unset, .unset] [(.ref a2), (.ref g2), (.ref g2)])) rfl (by rw [hml]; rfl) (argsL := [(.ref a2)]) (rest := [(.ref g2)]) rfl (lenOf own_pd23 rfl) rfl (by show 2 * 0 + _ ≤ _; exact Nat.le_of_eq rfl) (hb hby at_118) (by decide) (by decide)
      have N194 := Fr.app N193 Nb2
      have ne_g1_t2 : g1 ≠ t2 := Nat.ne_of_lt (Nat.lt_of_lt_of_le G_1.lt gu2)
      have ne_t1_t2 : t1 ≠ t2 := Nat.ne_of_lt (Nat.lt_of_lt_of_le V_1.lt gu2)
      have ne_g2_t2 : g2 ≠ t2 := Nat.ne_of_lt (Nat.lt_of_lt_of_le E_g2.lt gu2)
      have ne_a2_t2 : a2 ≠ t2 := Nat.ne_of_lt (Nat.lt_of_lt_of_le A_2.lt gu2)
      have ge_t2 : n0 ≤ t2 := Nat.le_trans (own_z0 Od) gu2
      have G_1 := G_1.keep Kb2 (ninS ne_g1_g2 nin0)
      have H_1 := H_1.keep Kb2 (ninS ne_g1_g2 nin0)
      have V_1 := V_1.keep Kb2 (ninS ne_t1_g2 nin0)
      have E_1 := E_1.keep Kb2
      have QSf_g2 := Safe.keep Kb2 (sfS Sf_g2 sf0) Hr.1 Sf_g2
      have E_g2 := E_g2.keep Kb2
      have QSf_a2 := Safe.keep Kb2 (sfS Sf_g2 sf0) Hr.1 Sf_a2
      have A_2 := A_2.keep Kb2 (ninS (Ne.symm ne_g2_a2) nin0)
      have Od := Od.keep Kb2 (allS ge_g2 all0)
      have Hr0 := Hr.1
      have Hr := Hr.trans (CHr.keep Kb2 (sfS Sf_g2 sf0) Hr.1)
      have hk := Nat.le_trans hk Kb2.1
      have SFL := (sfS Sf_g2 sf0)
      have Sf_g2 := QSf_g2
      have Sf_a2 := QSf_a2
      have Sf_t2 := Safe.keep Kb2 SFL Hr0 (Safe.new gu2)
      refine own_stW st194 ?_
      show own_GoW p e below s Z consts_1 _ _ _ (T194.setTop (mkF m 121 #[.val (.int p0), .val (.int p1), .val (.int p2), .val (.int u1), .val (.int u2), .val (.int u3), .val (.int u4), .val (.int (1 : Int32)), .val (.int (1 : Int32)), .val (.ref g1), .unset, .unset, .unset] [(.ref g2)]))
      have V_2 : Arv Z h194 t2 k2 .byte (2 : Int32) [(.int (u3.toInt8.toInt32)), (.int (u4.toInt8.toInt32))] (.int (0 : Int32)) := Vb2
      have E_2 := E_g2
      refine own_stW (fun t9 k9 => XS.goto X194.here hx rfl (pc0 := 121) (pc' := 129) rfl (hb hby at_121) (by decide) (by decide) k9) ?_
      show own_GoW p e below s Z consts_1 _ _ _ (T194.setTop (mkF m 129 #[.val (.int p0), .val (.int p1), .val (.int p2), .val (.int u1), .val (.int u2), .val (.int u3), .val (.int u4), .val (.int (1 : Int32)), .val (.int (1 : Int32)), .val (.ref g1), .unset, .unset, .unset] [(.ref g2)]))
      refine own_stW (fun t9 k9 => XS.astore X194.here hx rfl (hb hby at_129) rfl rfl (l' := #[.val (.int p0), .val (.int p1), .val (.int p2), .val (.int u1), .val (.int u2), .val (.int u3), .val (.int u4), .val (.int (1 : Int32)), .val (.int (1 : Int32)), .val (.ref g1), .val (.ref g2), .unset, .unset]) rfl k9) ?_
      show own_GoW p e below s Z consts_1 _ _ _ (T194.setTop (mkF m 131 #[.val (.int p0), .val (.int p1), .val (.int p2), .val (.int u1), .val (.int u2), .val (.int u3), .val (.int u4), .val (.int (1 : Int32)), .val (.int (1 : Int32)), .val (.ref g1), .val (.ref g2), .unset, .unset] []))
      refine own_stW (fun t9 k9 => XS.iload X194.here hx rfl (hb hby at_131) rfl  k9) ?_
      show own_GoW p e below s Z consts_1 _ _ _ (T194.setTop (mkF m 133 #[.val (.int p0), .val (.int p1), .val (.int p2), .val (.int u1), .val (.int u2), .val (.int u3), .val (.int u4), .val (.int (1 : Int32)), .val (.int (1 : Int32)), .val (.ref g1), .val (.ref g2), .unset, .unset] [(.int (1 : Int32))]))
      refine own_stW (fun t9 k9 => XS.ifNo X194.here hx rfl (hb hby at_133) rfl (by decide) k9) ?_
      show own_GoW p e below s Z consts_1 _ _ _ (T194.setTop (mkF m 136 #[.val (.int p0), .val (.int p1), .val (.int p2), .val (.int u1), .val (.int u2), .val (.int u3), .val (.int u4), .val (.int (1 : Int32)), .val (.int (1 : Int32)), .val (.ref g1), .val (.ref g2), .unset, .unset] []))
      refine own_stW (fun t9 k9 => XS.iload X194.here hx rfl (hb hby at_136) rfl  k9) ?_
      show own_GoW p e below s Z consts_1 _ _ _ (T194.setTop (mkF m 138 #[.val (.int p0), .val (.int p1), .val (.int p2), .val (.int u1), .val (.int u2), .val (.int u3), .val (.int u4), .val (.int (1 : Int32)), .val (.int (1 : Int32)), .val (.ref g1), .val (.ref g2), .unset, .unset] [(.int (1 : Int32))]))
      refine own_stW (fun t9 k9 => XS.ifNo X194.here hx rfl (hb hby at_138) rfl (by decide) k9) ?_
      show own_GoW p e below s Z consts_1 _ _ _ (T194.setTop (mkF m 141 #[.val (.int p0), .val (.int p1), .val (.int p2), .val (.int u1), .val (.int u2), .val (.int u3), .val (.int u4), .val (.int (1 : Int32)), .val (.int (1 : Int32)), .val (.ref g1), .val (.ref g2), .unset, .unset] []))
      refine own_stW (fun t9 k9 => XS.iconst X194.here hx rfl (hb hby at_141) k9) ?_
      show own_GoW p e below s Z consts_1 _ _ _ (T194.setTop (mkF m 142 #[.val (.int p0), .val (.int p1), .val (.int p2), .val (.int u1), .val (.int u2), .val (.int u3), .val (.int u4), .val (.int (1 : Int32)), .val (.int (1 : Int32)), .val (.ref g1), .val (.ref g2), .unset, .unset] [(.int (5 : Int32))]))
      obtain ⟨T195, h195, k195, X195, e195, E195, A195, st195⟩ := newP X194 hx hZ (hw _ (List.mem_of_getElem? (i := 27) rfl)) e194 (g := (mkF m 142 #[.val (.int p0), .val (.int p1), .val (.int p2), .val (.int u1), .val (.int u2), .val (.int u3), .val (.int u4), .val (.int (1 : Int32)), .val (.int (1 : Int32)), .val (.ref g1), .val (.ref g2), .unset, .unset] [(.int (5 : Int32))])) rfl (hb hby at_142) rfl (by decide) (cap := 5) (by decide) (by decide) (by decide) (by decide)
      obtain ⟨ac, g195⟩ : ∃ z, z = h194.size := ⟨_, rfl⟩
      rw [← g195] at A195 st195
      have ne_g1_ac : g1 ≠ ac := Nat.ne_of_lt (Nat.lt_of_lt_of_le G_1.lt (Nat.le_of_eq g195.symm))
      have ne_t1_ac : t1 ≠ ac := Nat.ne_of_lt (Nat.lt_of_lt_of_le V_1.lt (Nat.le_of_eq g195.symm))
      have ne_g2_ac : g2 ≠ ac := Nat.ne_of_lt (Nat.lt_of_lt_of_le G_2.lt (Nat.le_of_eq g195.symm))
      have ne_t2_ac : t2 ≠ ac := Nat.ne_of_lt (Nat.lt_of_lt_of_le V_2.lt (Nat.le_of_eq g195.symm))
      have ge_ac : n0 ≤ ac := Nat.le_trans (own_z0 Od) (Nat.le_of_eq g195.symm)
      have Sf_ac : Safe Z consts_1 s.vm h194 ac := Safe.new (Nat.le_of_eq g195.symm)
      have G_1 := G_1.ext E195
      have H_1 := H_1.ext E195
      have V_1 := V_1.ext E195
      have E_1 := E_1.ext E195
      have G_2 := G_2.ext E195
      have H_2 := H_2.ext E195
      have V_2 := V_2.ext E195
      have E_2 := E_2.ext E195
      have Sf_ac := Safe.ext E195 Hr.1 Sf_ac
      have Od := Od.ext E195
      have Hr := Hr.trans (CHr.ext E195 Hr.1)
      have hk := Nat.le_trans hk E195.1
      refine own_stW st195 ?_
      show own_GoW p e below s Z consts_1 _ _ _ (T195.setTop (mkF m 144 #[.val (.int p0), .val (.int p1), .val (.int p2), .val (.int u1), .val (.int u2), .val (.int u3), .val (.int u4), .val (.int (1 : Int32)), .val (.int (1 : Int32)), .val (.ref g1), .val (.ref g2), .unset, .unset] [(.ref ac)]))
      have A_3 : Arv Z h195 ac k195 .char (5 : Int32) [(.int (0 : Int32)), (.int (0 : Int32)), (.int (0 : Int32)), (.int (0 : Int32)), (.int (0 : Int32))] (.int (0 : Int32)) := (Arv.new A195 (by decide)).pad (pad_rep [] (.int (0 : Int32)) 5)
      refine own_stW (fun t9 k9 => XS.dup X195.here hx rfl (hb hby at_144) rfl rfl k9) ?_
      show own_GoW p e below s Z consts_1 _ _ _ (T195.setTop (mkF m 145 #[.val (.int p0), .val (.int p1), .val (.int p2), .val (.int u1), .val (.int u2), .val (.int u3), .val (.int u4), .val (.int (1 : Int32)), .val (.int (1 : Int32)), .val (.ref g1), .val (.ref g2), .unset, .unset] [(.ref ac), (.ref ac)]))
      refine own_stW (fun t9 k9 => XS.iconst X195.here hx rfl (hb hby at_145) k9) ?_
      show own_GoW p e below s Z consts_1 _ _ _ (T195.setTop (mkF m 146 #[.val (.int p0), .val (.int p1), .val (.int p2), .val (.int u1), .val (.int u2), .val (.int u3), .val (.int u4), .val (.int (1 : Int32)), .val (.int (1 : Int32)), .val (.ref g1), .val (.ref g2), .unset, .unset] [(.int (0 : Int32)), (.ref ac), (.ref ac)]))
      refine own_stW (fun t9 k9 => XS.iloadN X195.here hx rfl (hb hby at_146) rfl  k9) ?_
      show own_GoW p e below s Z consts_1 _ _ _ (T195.setTop (mkF m 147 #[.val (.int p0), .val (.int p1), .val (.int p2), .val (.int u1), .val (.int u2), .val (.int u3), .val (.int u4), .val (.int (1 : Int32)), .val (.int (1 : Int32)), .val (.ref g1), .val (.ref g2), .unset, .unset] [(.int u1), (.int (0 : Int32)), (.ref ac), (.ref ac)]))
      obtain ⟨cl196, Ar196, q196, S196, M196, H196, G196⟩ := id A_3
      obtain ⟨T196, h196, X196, e196, W196, st196⟩ := stC X195 hx hZ e195 Ar196 (j := (0 : Int32)) (inb_of S196 ⟨by decide, by decide⟩) (g := (mkF m 147 #[.val (.int p0), .val (.int p1), .val (.int p2), .val (.int u1), .val (.int u2), .val (.int u3), .val (.int u4), .val (.int (1 : Int32)), .val (.int (1 : Int32)), .val (.ref g1), .val (.ref g2), .unset, .unset] [(.int u1), (.int (0 : Int32)), (.ref ac), (.ref ac)])) rfl rfl (hb hby at_147)
      have N196 := Fr.snoc X196 N194 ge_ac
      have G_1 := G_1.other W196 (Or.inl ne_g1_ac)
      have H_1 := H_1.other W196 (Or.inl ne_g1_ac)
      have V_1 := V_1.other W196 ne_t1_ac
      have E_1 := E_1.wr W196
      have G_2 := G_2.other W196 (Or.inl ne_g2_ac)
      have H_2 := H_2.other W196 (Or.inl ne_g2_ac)
      have V_2 := V_2.other W196 ne_t2_ac
      have E_2 := E_2.wr W196
      have QSf_ac := Safe.wr W196 Sf_ac Hr.1 Sf_ac
      have Od := Od.wr W196 ge_ac
      have Hr := Hr.trans (CHr.wr W196 Sf_ac Hr.1)
      have hk := Nat.le_trans hk (Keep.of_wr W196).1
      have Sf_ac := QSf_ac
      refine own_stW st196 ?_
      show own_GoW p e below s Z consts_1 _ _ _ (T196.setTop (mkF m 148 #[.val (.int p0), .val (.int p1), .val (.int p2), .val (.int u1), .val (.int u2), .val (.int u3), .val (.int u4), .val (.int (1 : Int32)), .val (.int (1 : Int32)), .val (.ref g1), .val (.ref g2), .unset, .unset] [(.ref ac)]))
      have A_3 : Arv Z h196 ac k195 .char (5 : Int32) [(.int (nar .char u1)), (.int (0 : Int32)), (.int (0 : Int32)), (.int (0 : Int32)), (.int (0 : Int32))] (.int (0 : Int32)) := Arv.set Ar196 q196 S196 M196 H196 G196 (fits_nar_char _) W196 0 rfl (Nat.le_of_ble_eq_true rfl)
      refine own_stW (fun t9 k9 => XS.dup X196.here hx rfl (hb hby at_148) rfl rfl k9) ?_
      show own_GoW p e below s Z consts_1 _ _ _ (T196.setTop (mkF m 149 #[.val (.int p0), .val (.int p1), .val (.int p2), .val (.int u1), .val (.int u2), .val (.int u3), .val (.int u4), .val (.int (1 : Int32)), .val (.int (1 : Int32)), .val (.ref g1), .val (.ref g2), .unset, .unset] [(.ref ac), (.ref ac)]))
      refine own_stW (fun t9 k9 => XS.iconst X196.here hx rfl (hb hby at_149) k9) ?_
      show own_GoW p e below s Z consts_1 _ _ _ (T196.setTop (mkF m 150 #[.val (.int p0), .val (.int p1), .val (.int p2), .val (.int u1), .val (.int u2), .val (.int u3), .val (.int u4), .val (.int (1 : Int32)), .val (.int (1 : Int32)), .val (.ref g1), .val (.ref g2), .unset, .unset] [(.int (1 : Int32)), (.ref ac), (.ref ac)]))
      refine own_stW (fun t9 k9 => XS.iload X196.here hx rfl (hb hby at_150) rfl  k9) ?_
      show own_GoW p e below s Z consts_1 _ _ _ (T196.setTop (mkF m 152 #[.val (.int p0), .val (.int p1), .val (.int p2), .val (.int u1), .val (.int u2), .val (.int u3), .val (.int u4), .val (.int (1 : Int32)), .val (.int (1 : Int32)), .val (.ref g1), .val (.ref g2), .unset, .unset] [(.int u2), (.int (1 : Int32)), (.ref ac), (.ref ac)]))
      obtain ⟨cl197, Ar197, q197, S197, M197, H197, G197⟩ := id A_3
      obtain ⟨T197, h197, X197, e197, W197, st197⟩ := stC X196 hx hZ e196 Ar197 (j := (1 : Int32)) (inb_of S197 ⟨by decide, by decide⟩) (g := (mkF m 152 #[.val (.int p0), .val (.int p1), .val (.int p2), .val (.int u1), .val (.int u2), .val (.int u3), .val (.int u4), .val (.int (1 : Int32)), .val (.int (1 : Int32)), .val (.ref g1), .val (.ref g2), .unset, .unset] [(.int u2), (.int (1 : Int32)), (.ref ac), (.ref ac)])) rfl rfl (hb hby at_152)
      have N197 := Fr.snoc X197 N196 ge_ac
      have G_1 := G_1.other W197 (Or.inl ne_g1_ac)
      have H_1 := H_1.other W197 (Or.inl ne_g1_ac)
      have V_1 := V_1.other W197 ne_t1_ac
      have E_1 := E_1.wr W197
      have G_2 := G_2.other W197 (Or.inl ne_g2_ac)
      have H_2 := H_2.other W197 (Or.inl ne_g2_ac)
      have V_2 := V_2.other W197 ne_t2_ac
      have E_2 := E_2.wr W197
      have QSf_ac := Safe.wr W197 Sf_ac Hr.1 Sf_ac
      have Od := Od.wr W197 ge_ac
      have Hr := Hr.trans (CHr.wr W197 Sf_ac Hr.1)
      have hk := Nat.le_trans hk (Keep.of_wr W197).1
      have Sf_ac := QSf_ac
      refine own_stW st197 ?_
      show own_GoW p e below s Z consts_1 _ _ _ (T197.setTop (mkF m 153 #[.val (.int p0), .val (.int p1), .val (.int p2), .val (.int u1), .val (.int u2), .val (.int u3), .val (.int u4), .val (.int (1 : Int32)), .val (.int (1 : Int32)), .val (.ref g1), .val (.ref g2), .unset, .unset] [(.ref ac)]))
      have A_3 : Arv Z h197 ac k195 .char (5 : Int32) [(.int (nar .char u1)), (.int (nar .char u2)), (.int (0 : Int32)), (.int (0 : Int32)), (.int (0 : Int32))] (.int (0 : Int32)) := Arv.set Ar197 q197 S197 M197 H197 G197 (fits_nar_char _) W197 1 rfl (Nat.le_of_ble_eq_true rfl)
      refine own_stW (fun t9 k9 => XS.dup X197.here hx rfl (hb hby at_153) rfl rfl k9) ?_
      show own_GoW p e below s Z consts_1 _ _ _ (T197.setTop (mkF m 154 #[.val (.int p0), .val (.int p1), .val (.int p2), .val (.int u1), .val (.int u2), .val (.int u3), .val (.int u4), .val (.int (1 : Int32)), .val (.int (1 : Int32)), .val (.ref g1), .val (.ref g2), .unset, .unset] [(.ref ac), (.ref ac)]))
      refine own_stW (fun t9 k9 => XS.iconst X197.here hx rfl (hb hby at_154) k9) ?_
      show own_GoW p e below s Z consts_1 _ _ _ (T197.setTop (mkF m 155 #[.val (.int p0), .val (.int p1), .val (.int p2), .val (.int u1), .val (.int u2), .val (.int u3), .val (.int u4), .val (.int (1 : Int32)), .val (.int (1 : Int32)), .val (.ref g1), .val (.ref g2), .unset, .unset] [(.int (2 : Int32)), (.ref ac), (.ref ac)]))
      refine own_stW (fun t9 k9 => XS.bipush X197.here hx rfl (hb hby at_155) k9) ?_
      show own_GoW p e below s Z consts_1 _ _ _ (T197.setTop (mkF m 157 #[.val (.int p0), .val (.int p1), .val (.int p2), .val (.int u1), .val (.int u2), .val (.int u3), .val (.int u4), .val (.int (1 : Int32)), .val (.int (1 : Int32)), .val (.ref g1), .val (.ref g2), .unset, .unset] [(.int (47 : Int32)), (.int (2 : Int32)), (.ref ac), (.ref ac)]))
      obtain ⟨cl198, Ar198, q198, S198, M198, H198, G198⟩ := id A_3
      obtain ⟨T198, h198, X198, e198, W198, st198⟩ := stC X197 hx hZ e197 Ar198 (j := (2 : Int32)) (inb_of S198 ⟨by decide, by decide⟩) (g := (mkF m 157 #[.val (.int p0), .val (.int p1), .val (.int p2), .val (.int u1), .val (.int u2), .val (.int u3), .val (.int u4), .val (.int (1 : Int32)), .val (.int (1 : Int32)), .val (.ref g1), .val (.ref g2), .unset, .unset] [(.int (47 : Int32)), (.int (2 : Int32)), (.ref ac), (.ref ac)])) rfl rfl (hb hby at_157)
      have N198 := Fr.snoc X198 N197 ge_ac
      have G_1 := G_1.other W198 (Or.inl ne_g1_ac)
      have H_1 := H_1.other W198 (Or.inl ne_g1_ac)
      have V_1 := V_1.other W198 ne_t1_ac
      have E_1 := E_1.wr W198
      have G_2 := G_2.other W198 (Or.inl ne_g2_ac)
      have H_2 := H_2.other W198 (Or.inl ne_g2_ac)
      have V_2 := V_2.other W198 ne_t2_ac
      have E_2 := E_2.wr W198
      have QSf_ac := Safe.wr W198 Sf_ac Hr.1 Sf_ac
      have Od := Od.wr W198 ge_ac
      have Hr := Hr.trans (CHr.wr W198 Sf_ac Hr.1)
      have hk := Nat.le_trans hk (Keep.of_wr W198).1
      have Sf_ac := QSf_ac
      refine own_stW st198 ?_
      show own_GoW p e below s Z consts_1 _ _ _ (T198.setTop (mkF m 158 #[.val (.int p0), .val (.int p1), .val (.int p2), .val (.int u1), .val (.int u2), .val (.int u3), .val (.int u4), .val (.int (1 : Int32)), .val (.int (1 : Int32)), .val (.ref g1), .val (.ref g2), .unset, .unset] [(.ref ac)]))
      have A_3 : Arv Z h198 ac k195 .char (5 : Int32) [(.int (nar .char u1)), (.int (nar .char u2)), (.int (nar .char (47 : Int32))), (.int (0 : Int32)), (.int (0 : Int32))] (.int (0 : Int32)) := Arv.set Ar198 q198 S198 M198 H198 G198 (fits_nar_char _) W198 2 rfl (Nat.le_of_ble_eq_true rfl)
      refine own_stW (fun t9 k9 => XS.dup X198.here hx rfl (hb hby at_158) rfl rfl k9) ?_
      show own_GoW p e below s Z consts_1 _ _ _ (T198.setTop (mkF m 159 #[.val (.int p0), .val (.int p1), .val (.int p2), .val (.int u1), .val (.int u2), .val (.int u3), .val (.int u4), .val (.int (1 : Int32)), .val (.int (1 : Int32)), .val (.ref g1), .val (.ref g2), .unset, .unset] [(.ref ac), (.ref ac)]))
      refine own_stW (fun t9 k9 => XS.iconst X198.here hx rfl (hb hby at_159) k9) ?_
      show own_GoW p e below s Z consts_1 _ _ _ (T198.setTop (mkF m 160 #[.val (.int p0), .val (.int p1), .val (.int p2), .val (.int u1), .val (.int u2), .val (.int u3), .val (.int u4), .val (.int (1 : Int32)), .val (.int (1 : Int32)), .val (.ref g1), .val (.ref g2), .unset, .unset] [(.int (3 : Int32)), (.ref ac), (.ref ac)]))
      refine own_stW (fun t9 k9 => XS.iload X198.here hx rfl (hb hby at_160) rfl  k9) ?_
      show own_GoW p e below s Z consts_1 _ _ _ (T198.setTop (mkF m 162 #[.val (.int p0), .val (.int p1), .val (.int p2), .val (.int u1), .val (.int u2), .val (.int u3), .val (.int u4), .val (.int (1 : Int32)), .val (.int (1 : Int32)), .val (.ref g1), .val (.ref g2), .unset, .unset] [(.int u3), (.int (3 : Int32)), (.ref ac), (.ref ac)]))
      obtain ⟨cl199, Ar199, q199, S199, M199, H199, G199⟩ := id A_3
      obtain ⟨T199, h199, X199, e199, W199, st199⟩ := stC X198 hx hZ e198 Ar199 (j := (3 : Int32)) (inb_of S199 ⟨by decide, by decide⟩) (g := (mkF m 162 #[.val (.int p0), .val (.int p1), .val (.int p2), .val (.int u1), .val (.int u2), .val (.int u3), .val (.int u4), .val (.int (1 : Int32)), .val (.int (1 : Int32)), .val (.ref g1), .val (.ref g2), .unset, .unset] [(.int u3), (.int (3 : Int32)), (.ref ac), (.ref ac)])) rfl rfl (hb hby at_162)
      have N199 := Fr.snoc X199 N198 ge_ac
      have G_1 := G_1.other W199 (Or.inl ne_g1_ac)
      have H_1 := H_1.other W199 (Or.inl ne_g1_ac)
      have V_1 := V_1.other W199 ne_t1_ac
      have E_1 := E_1.wr W199
      have G_2 := G_2.other W199 (Or.inl ne_g2_ac)
      have H_2 := H_2.other W199 (Or.inl ne_g2_ac)
      have V_2 := V_2.other W199 ne_t2_ac
      have E_2 := E_2.wr W199
      have QSf_ac := Safe.wr W199 Sf_ac Hr.1 Sf_ac
      have Od := Od.wr W199 ge_ac
      have Hr := Hr.trans (CHr.wr W199 Sf_ac Hr.1)
      have hk := Nat.le_trans hk (Keep.of_wr W199).1
      have Sf_ac := QSf_ac
      refine own_stW st199 ?_
      show own_GoW p e below s Z consts_1 _ _ _ (T199.setTop (mkF m 163 #[.val (.int p0), .val (.int p1), .val (.int p2), .val (.int u1), .val (.int u2), .val (.int u3), .val (.int u4), .val (.int (1 : Int32)), .val (.int (1 : Int32)), .val (.ref g1), .val (.ref g2), .unset, .unset] [(.ref ac)]))
      have A_3 : Arv Z h199 ac k195 .char (5 : Int32) [(.int (nar .char u1)), (.int (nar .char u2)), (.int (nar .char (47 : Int32))), (.int (nar .char u3)), (.int (0 : Int32))] (.int (0 : Int32)) := Arv.set Ar199 q199 S199 M199 H199 G199 (fits_nar_char _) W199 3 rfl (Nat.le_of_ble_eq_true rfl)
      refine own_stW (fun t9 k9 => XS.dup X199.here hx rfl (hb hby at_163) rfl rfl k9) ?_
      show own_GoW p e below s Z consts_1 _ _ _ (T199.setTop (mkF m 164 #[.val (.int p0), .val (.int p1), .val (.int p2), .val (.int u1), .val (.int u2), .val (.int u3), .val (.int u4), .val (.int (1 : Int32)), .val (.int (1 : Int32)), .val (.ref g1), .val (.ref g2), .unset, .unset] [(.ref ac), (.ref ac)]))
      refine own_stW (fun t9 k9 => XS.iconst X199.here hx rfl (hb hby at_164) k9) ?_
      show own_GoW p e below s Z consts_1 _ _ _ (T199.setTop (mkF m 165 #[.val (.int p0), .val (.int p1), .val (.int p2), .val (.int u1), .val (.int u2), .val (.int u3), .val (.int u4), .val (.int (1 : Int32)), .val (.int (1 : Int32)), .val (.ref g1), .val (.ref g2), .unset, .unset] [(.int (4 : Int32)), (.ref ac), (.ref ac)]))
      refine own_stW (fun t9 k9 => XS.iload X199.here hx rfl (hb hby at_165) rfl  k9) ?_
      show own_GoW p e below s Z consts_1 _ _ _ (T199.setTop (mkF m 167 #[.val (.int p0), .val (.int p1), .val (.int p2), .val (.int u1), .val (.int u2), .val (.int u3), .val (.int u4), .val (.int (1 : Int32)), .val (.int (1 : Int32)), .val (.ref g1), .val (.ref g2), .unset, .unset] [(.int u4), (.int (4 : Int32)), (.ref ac), (.ref ac)]))
      obtain ⟨cl200, Ar200, q200, S200, M200, H200, G200⟩ := id A_3
      obtain ⟨T200, h200, X200, e200, W200, st200⟩ := stC X199 hx hZ e199 Ar200 (j := (4 : Int32)) (inb_of S200 ⟨by decide, by decide⟩) (g := (mkF m 167 #[.val (.int p0), .val (.int p1), .val (.int p2), .val (.int u1), .val (.int u2), .val (.int u3), .val (.int u4), .val (.int (1 : Int32)), .val (.int (1 : Int32)), .val (.ref g1), .val (.ref g2), .unset, .unset] [(.int u4), (.int (4 : Int32)), (.ref ac), (.ref ac)])) rfl rfl (hb hby at_167)
      have N200 := Fr.snoc X200 N199 ge_ac
      have G_1 := G_1.other W200 (Or.inl ne_g1_ac)
      have H_1 := H_1.other W200 (Or.inl ne_g1_ac)
      have V_1 := V_1.other W200 ne_t1_ac
      have E_1 := E_1.wr W200
      have G_2 := G_2.other W200 (Or.inl ne_g2_ac)
      have H_2 := H_2.other W200 (Or.inl ne_g2_ac)
      have V_2 := V_2.other W200 ne_t2_ac
      have E_2 := E_2.wr W200
      have QSf_ac := Safe.wr W200 Sf_ac Hr.1 Sf_ac
      have Od := Od.wr W200 ge_ac
      have Hr := Hr.trans (CHr.wr W200 Sf_ac Hr.1)
      have hk := Nat.le_trans hk (Keep.of_wr W200).1
      have Sf_ac := QSf_ac
      refine own_stW st200 ?_
      show own_GoW p e below s Z consts_1 _ _ _ (T200.setTop (mkF m 168 #[.val (.int p0), .val (.int p1), .val (.int p2), .val (.int u1), .val (.int u2), .val (.int u3), .val (.int u4), .val (.int (1 : Int32)), .val (.int (1 : Int32)), .val (.ref g1), .val (.ref g2), .unset, .unset] [(.ref ac)]))
      have A_3 : Arv Z h200 ac k195 .char (5 : Int32) [(.int (nar .char u1)), (.int (nar .char u2)), (.int (nar .char (47 : Int32))), (.int (nar .char u3)), (.int (nar .char u4))] (.int (0 : Int32)) := Arv.set Ar200 q200 S200 M200 H200 G200 (fits_nar_char _) W200 4 rfl (Nat.le_of_ble_eq_true rfl)
      rw [nu1, nu2, nu3, nu4, own_n47] at A_3
      refine own_stW (fun t9 k9 => XS.astore X200.here hx rfl (hb hby at_168) rfl rfl (l' := #[.val (.int p0), .val (.int p1), .val (.int p2), .val (.int u1), .val (.int u2), .val (.int u3), .val (.int u4), .val (.int (1 : Int32)), .val (.int (1 : Int32)), .val (.ref g1), .val (.ref g2), .val (.ref ac), .unset]) rfl k9) ?_
      show own_GoW p e below s Z consts_1 _ _ _ (T200.setTop (mkF m 170 #[.val (.int p0), .val (.int p1), .val (.int p2), .val (.int u1), .val (.int u2), .val (.int u3), .val (.int u4), .val (.int (1 : Int32)), .val (.int (1 : Int32)), .val (.ref g1), .val (.ref g2), .val (.ref ac), .unset] []))
      refine own_stW (fun t9 k9 => XS.goto X200.here hx rfl (pc0 := 170) (pc' := 251) rfl (hb hby at_170) (by decide) (by decide) k9) ?_
      show own_GoW p e below s Z consts_1 _ _ _ (T200.setTop (mkF m 251 #[.val (.int p0), .val (.int p1), .val (.int p2), .val (.int u1), .val (.int u2), .val (.int u3), .val (.int u4), .val (.int (1 : Int32)), .val (.int (1 : Int32)), .val (.ref g1), .val (.ref g2), .val (.ref ac), .unset] []))
      obtain ⟨T201, h201, X201, e201, E201, A201, D201, U201, st201⟩ := newO X200 hx hZ hown (hw _ (List.mem_of_getElem? (i := 44) rfl)) (hw _ (List.mem_of_getElem? (i := 45) rfl)) (hw _ (List.mem_of_getElem? (i := 46) rfl)) e200 (g := (mkF m 251 #[.val (.int p0), .val (.int p1), .val (.int p2), .val (.int u1), .val (.int u2), .val (.int u3), .val (.int u4), .val (.int (1 : Int32)), .val (.int (1 : Int32)), .val (.ref g1), .val (.ref g2), .val (.ref ac), .unset] [])) rfl (hb hby at_251) (by decide) (by decide)
      obtain ⟨gn, g201⟩ : ∃ z, z = h200.size := ⟨_, rfl⟩
      rw [← g201] at A201 D201 st201 U201
      have ne_g1_gn : g1 ≠ gn := Nat.ne_of_lt (Nat.lt_of_lt_of_le G_1.lt (Nat.le_of_eq g201.symm))
      have ne_t1_gn : t1 ≠ gn := Nat.ne_of_lt (Nat.lt_of_lt_of_le V_1.lt (Nat.le_of_eq g201.symm))
      have ne_g2_gn : g2 ≠ gn := Nat.ne_of_lt (Nat.lt_of_lt_of_le G_2.lt (Nat.le_of_eq g201.symm))
      have ne_t2_gn : t2 ≠ gn := Nat.ne_of_lt (Nat.lt_of_lt_of_le V_2.lt (Nat.le_of_eq g201.symm))
      have ne_ac_gn : ac ≠ gn := Nat.ne_of_lt (Nat.lt_of_lt_of_le A_3.lt (Nat.le_of_eq g201.symm))
      have ge_gn : n0 ≤ gn := Nat.le_trans (own_z0 Od) (Nat.le_of_eq g201.symm)
      have Sf_gn : Safe Z consts_1 s.vm h200 gn := Safe.new (Nat.le_of_eq g201.symm)
      have G_1 := G_1.ext E201
      have H_1 := H_1.ext E201
      have V_1 := V_1.ext E201
      have E_1 := E_1.ext E201
      have G_2 := G_2.ext E201
      have H_2 := H_2.ext E201
      have V_2 := V_2.ext E201
      have E_2 := E_2.ext E201
      have Sf_ac := Safe.ext E201 Hr.1 Sf_ac
      have A_3 := A_3.ext E201
      have Sf_gn := Safe.ext E201 Hr.1 Sf_gn
      have Od := Od.ext E201
      have Hr := Hr.trans (CHr.ext E201 Hr.1)
      have hk := Nat.le_trans hk E201.1
      refine own_stW st201 ?_
      show own_GoW p e below s Z consts_1 _ _ _ (T201.setTop (mkF m 254 #[.val (.int p0), .val (.int p1), .val (.int p2), .val (.int u1), .val (.int u2), .val (.int u3), .val (.int u4), .val (.int (1 : Int32)), .val (.int (1 : Int32)), .val (.ref g1), .val (.ref g2), .val (.ref ac), .unset] [(.ref gn)]))
      have E_gn : Exa Z h201 gn "com/example/bluehead/bluehead/net/GroupName" := A201
      have A_c : Fld Z h201 gn "com/example/bluehead/bluehead/net/GroupName" "cluster" "Ljava/lang/String;" .null := D201 (Or.inr (hw _ (List.mem_of_getElem? (i := 70) rfl))) (ty := (.object "java/lang/String")) (by decide)
      have A_g : Fld Z h201 gn "com/example/bluehead/bluehead/net/GroupName" "group" "Ljava/lang/String;" .null := D201 (Or.inr (hw _ (List.mem_of_getElem? (i := 72) rfl))) (ty := (.object "java/lang/String")) (by decide)
      refine own_stW (fun t9 k9 => XS.dup X201.here hx rfl (hb hby at_254) rfl rfl k9) ?_
      show own_GoW p e below s Z consts_1 _ _ _ (T201.setTop (mkF m 255 #[.val (.int p0), .val (.int p1), .val (.int p2), .val (.int u1), .val (.int u2), .val (.int u3), .val (.int u4), .val (.int (1 : Int32)), .val (.int (1 : Int32)), .val (.ref g1), .val (.ref g2), .val (.ref ac), .unset] [(.ref gn), (.ref gn)]))
      refine own_stW (fun t9 k9 => XS.aload X201.here hx rfl (hb hby at_255) rfl rfl k9) ?_
      show own_GoW p e below s Z consts_1 _ _ _ (T201.setTop (mkF m 257 #[.val (.int p0), .val (.int p1), .val (.int p2), .val (.int u1), .val (.int u2), .val (.int u3), .val (.int u4), .val (.int (1 : Int32)), .val (.int (1 : Int32)), .val (.ref g1), .val (.ref g2), .val (.ref ac), .unset] [(.ref g1), (.ref gn), (.ref gn)]))
      refine own_stW (fun t9 k9 => XS.aload X201.here hx rfl (hb hby at_257) rfl rfl k9) ?_
      show own_GoW p e below s Z consts_1 _ _ _ (T201.setTop (mkF m 259 #[.val (.int p0), .val (.int p1), .val (.int p2), .val (.int u1), .val (.int u2), .val (.int u3), .val (.int u4), .val (.int (1 : Int32)), .val (.int (1 : Int32)), .val (.ref g1), .val (.ref g2), .val (.ref ac), .unset] [(.ref g2), (.ref g1), (.ref gn), (.ref gn)]))
      obtain ⟨_, T202, h202, L202, X202, e202, ⟨rfl, Ng, Kg, E_q, B_c, B_g⟩, hS202, hg202, hZ202, hown202, R202, st202⟩ := own_callIW X201 hx hZ hown hS hk rfl (hw _ (List.mem_of_getElem? (i := 47) rfl)) (hw _ (List.mem_of_getElem? (i := 48) rfl)) (hw _ (List.mem_of_getElem? (i := 49) rfl)) (by decide) (own_payW (W := 1) (K := (fun _ _ _ _ _ => True)) (own_rm_gni l Z a0 hw hEL [] gn g1 g2 t1 t2 k1 k2 (2 : Int32) (2 : Int32) [(.int (u1.toInt8.toInt32)), (.int (u2.toInt8.toInt32))] [(.int (u3.toInt8.toInt32)), (.int (u4.toInt8.toInt32))] h201 n0 Od E_gn A_c A_g ge_gn E_1 G_1 V_1 (by decide) E_2 G_2 V_2 (by decide)) (fun _ _ _ _ _ _ _ _ _ => trivial) hZ (hw _ (List.mem_of_getElem? (i := 49) rfl)) (hw _ (List.mem_of_getElem? (i := 46) rfl)) (by decide) (by decide) hEL Hr.1 (own_sfS E_gn.lt Sf_gn own_sf0)) e201 (a := gn) (g := (mkF m 259 #[.val (.int p0), .val (.int p1), .val (.int p2), .val (.int u1), .val (.int u2), .val (.int u3), .val (.int u4), .val (.int (1 : Int32)), .val (.int (1 : Int32)), .val (.ref g1), .val (.ref g2), .val (.ref ac), .unset] [(.ref g2), (.ref g1), (.ref gn), (.ref gn)])) rfl (by rw [hml]; rfl) (argsL := [(.ref g1), (.ref g2)]) (rest := [(.ref gn)]) rfl (lenOf own_pd22 rfl) rfl (by show 2 * 0 + _ ≤ _; exact Nat.le_of_eq rfl) (hb hby at_259) (by decide) (by decide)
      have N202 := Fr.app N200 Ng
      have QSf_ac := CHr.safe R202 A_3.lt Sf_ac
      have QSf_gn := CHr.safe R202 E_gn.lt Sf_gn
      have G_1 := G_1.keep Kg (ninS ne_g1_gn nin0)
      have H_1 := H_1.keep Kg (ninS ne_g1_gn nin0)
      have V_1 := V_1.keep Kg (ninS ne_t1_gn nin0)
      have E_1 := E_1.keep Kg
      have G_2 := G_2.keep Kg (ninS ne_g2_gn nin0)
      have H_2 := H_2.keep Kg (ninS ne_g2_gn nin0)
      have V_2 := V_2.keep Kg (ninS ne_t2_gn nin0)
      have E_2 := E_2.keep Kg
      have A_3 := A_3.keep Kg (ninS ne_ac_gn nin0)
      have E_gn := E_gn.keep Kg
      have Od := Od.keep Kg (allS ge_gn all0)
      have Sf_ac := QSf_ac
      have Sf_gn := QSf_gn
      have Hr := Hr.trans R202
      have hS := hS202
      have hk : h202.size ≤ h202.size := Nat.le_refl _
      have hZ := hZ202
      have hown := hown202
      refine own_stW st202 ?_
      show own_GoW p e below s Z consts_1 _ _ _ (T202.setTop (mkF m 262 #[.val (.int p0), .val (.int p1), .val (.int p2), .val (.int u1), .val (.int u2), .val (.int u3), .val (.int u4), .val (.int (1 : Int32)), .val (.int (1 : Int32)), .val (.ref g1), .val (.ref g2), .val (.ref ac), .unset] [(.ref gn)]))
      obtain ⟨_, T203, h203, L203, X203, e203, ⟨Nt, Kt, y, tb, kb, rfl, gy, E_y, Y_k, Y_v, V_y⟩, hS203, hg203, hZ203, hown203, R203, st203⟩ := own_callVW X202 hx hZ hown hS hk (hw _ (List.mem_of_getElem? (i := 73) rfl)) (hw _ (List.mem_of_getElem? (i := 74) rfl)) (hw _ (List.mem_of_getElem? (i := 76) rfl)) (hw _ (List.mem_of_getElem? (i := 75) rfl)) (by decide) (own_payW (W := 0) (K := (fun _ _ _ _ _ => True)) (own_rm_gts22 l Z a0 hw hEL [] gn g1 g2 t1 t2 k1 k2 (.int (u1.toInt8.toInt32)) (.int (u2.toInt8.toInt32)) (.int (u3.toInt8.toInt32)) (.int (u4.toInt8.toInt32)) G h202 n0 Od B_c B_g E_1 G_1 H_1 V_1 E_2 G_2 H_2 V_2 O2 P5) (fun _ _ _ _ _ _ _ _ _ => trivial) hZ (hw _ (List.mem_of_getElem? (i := 77) rfl)) (hw _ (List.mem_of_getElem? (i := 46) rfl)) (by decide) (by decide) hEL Hr.1 own_sf0) e202 (a := gn) E_gn (g := (mkF m 262 #[.val (.int p0), .val (.int p1), .val (.int p2), .val (.int u1), .val (.int u2), .val (.int u3), .val (.int u4), .val (.int (1 : Int32)), .val (.int (1 : Int32)), .val (.ref g1), .val (.ref g2), .val (.ref ac), .unset] [(.ref gn)])) rfl (by rw [hml]; rfl) (argsL := []) (rest := []) rfl (lenOf own_pd20 rfl) rfl (by show 2 * 0 + _ ≤ _; exact Nat.le_of_eq rfl) (hb hby at_262) (by decide) (by decide)
      have N203 := Fr.app N202 Nt
      have ne_g1_y : g1 ≠ y := Nat.ne_of_lt (Nat.lt_of_lt_of_le G_1.lt gy)
      have ne_t1_y : t1 ≠ y := Nat.ne_of_lt (Nat.lt_of_lt_of_le V_1.lt gy)
      have ne_g2_y : g2 ≠ y := Nat.ne_of_lt (Nat.lt_of_lt_of_le G_2.lt gy)
      have ne_t2_y : t2 ≠ y := Nat.ne_of_lt (Nat.lt_of_lt_of_le V_2.lt gy)
      have ne_ac_y : ac ≠ y := Nat.ne_of_lt (Nat.lt_of_lt_of_le A_3.lt gy)
      have ne_gn_y : gn ≠ y := Nat.ne_of_lt (Nat.lt_of_lt_of_le E_gn.lt gy)
      have ge_y : n0 ≤ y := Nat.le_trans (own_z0 Od) gy
      have QSf_ac := CHr.safe R203 A_3.lt Sf_ac
      have QSf_gn := CHr.safe R203 E_gn.lt Sf_gn
      have G_1 := G_1.keep Kt nin0
      have H_1 := H_1.keep Kt nin0
      have V_1 := V_1.keep Kt nin0
      have E_1 := E_1.keep Kt
      have G_2 := G_2.keep Kt nin0
      have H_2 := H_2.keep Kt nin0
      have V_2 := V_2.keep Kt nin0
      have E_2 := E_2.keep Kt
      have A_3 := A_3.keep Kt nin0
      have E_gn := E_gn.keep Kt
      have B_c := B_c.keep Kt nin0
      have B_g := B_g.keep Kt nin0
      have Od := Od.keep Kt all0
      have Sf_ac := QSf_ac
      have Sf_gn := QSf_gn
      have Hr := Hr.trans R203
      have hS := hS203
      have hk : h203.size ≤ h203.size := Nat.le_refl _
      have hZ := hZ203
      have hown := hown203
      refine own_stW st203 ?_
      show own_GoW p e below s Z consts_1 _ _ _ (T203.setTop (mkF m 265 #[.val (.int p0), .val (.int p1), .val (.int p2), .val (.int u1), .val (.int u2), .val (.int u3), .val (.int u4), .val (.int (1 : Int32)), .val (.int (1 : Int32)), .val (.ref g1), .val (.ref g2), .val (.ref ac), .unset] [(.ref y)]))
      refine own_stW (fun t9 k9 => XS.astore X203.here hx rfl (hb hby at_265) rfl rfl (l' := #[.val (.int p0), .val (.int p1), .val (.int p2), .val (.int u1), .val (.int u2), .val (.int u3), .val (.int u4), .val (.int (1 : Int32)), .val (.int (1 : Int32)), .val (.ref g1), .val (.ref g2), .val (.ref ac), .val (.ref y)]) rfl k9) ?_
      show own_GoW p e below s Z consts_1 _ _ _ (T203.setTop (mkF m 267 #[.val (.int p0), .val (.int p1), .val (.int p2), .val (.int u1), .val (.int u2), .val (.int u3), .val (.int u4), .val (.int (1 : Int32)), .val (.int (1 : Int32)), .val (.ref g1), .val (.ref g2), .val (.ref ac), .val (.ref y)] []))
      refine own_stW (fun t9 k9 => XS.aload X203.here hx rfl (hb hby at_267) rfl rfl k9) ?_
      show own_GoW p e below s Z consts_1 _ _ _ (T203.setTop (mkF m 269 #[.val (.int p0), .val (.int p1), .val (.int p2), .val (.int u1), .val (.int u2), .val (.int u3), .val (.int u4), .val (.int (1 : Int32)), .val (.int (1 : Int32)), .val (.ref g1), .val (.ref g2), .val (.ref ac), .val (.ref y)] [(.ref y)]))
      obtain ⟨T204, h204, X204, e204, E204, A204, D204, U204, st204⟩ := newO X203 hx hZ hown (hw _ (List.mem_of_getElem? (i := 26) rfl)) (hw _ (List.mem_of_getElem? (i := 10) rfl)) (hw _ (List.mem_of_getElem? (i := 2) rfl)) e203 (g := (mkF m 269 #[.val (.int p0), .val (.int p1), .val (.int p2), .val (.int u1), .val (.int u2), .val (.int u3), .val (.int u4), .val (.int (1 : Int32)), .val (.int (1 : Int32)), .val (.ref g1), .val (.ref g2), .val (.ref ac), .val (.ref y)] [(.ref y)])) rfl (hb hby at_269) (by decide) (by decide)
      obtain ⟨g3, g204⟩ : ∃ z, z = h203.size := ⟨_, rfl⟩
      rw [← g204] at A204 D204 st204 U204
      have ne_ac_g3 : ac ≠ g3 := Nat.ne_of_lt (Nat.lt_of_lt_of_le A_3.lt (Nat.le_of_eq g204.symm))
      have ne_y_g3 : y ≠ g3 := Nat.ne_of_lt (Nat.lt_of_lt_of_le E_y.lt (Nat.le_of_eq g204.symm))
      have ne_tb_g3 : tb ≠ g3 := Nat.ne_of_lt (Nat.lt_of_lt_of_le V_y.lt (Nat.le_of_eq g204.symm))
      have ge_g3 : n0 ≤ g3 := Nat.le_trans (own_z0 Od) (Nat.le_of_eq g204.symm)
      have Sf_g3 : Safe Z consts_1 T203.vm h203 g3 := Safe.new (Nat.le_of_eq g204.symm)
      have Sf_ac := Safe.ext E204 Hr.1 Sf_ac
      have A_3 := A_3.ext E204
      have E_y := E_y.ext E204
      have Y_k := Y_k.ext E204
      have Y_v := Y_v.ext E204
      have V_y := V_y.ext E204
      have Sf_g3 := Safe.ext E204 Hr.1 Sf_g3
      have Od := Od.ext E204
      have Hr := Hr.trans (CHr.ext E204 Hr.1)
      have hk := Nat.le_trans hk E204.1
      refine own_stW st204 ?_
      show own_GoW p e below s Z consts_1 _ _ _ (T204.setTop (mkF m 272 #[.val (.int p0), .val (.int p1), .val (.int p2), .val (.int u1), .val (.int u2), .val (.int u3), .val (.int u4), .val (.int (1 : Int32)), .val (.int (1 : Int32)), .val (.ref g1), .val (.ref g2), .val (.ref ac), .val (.ref y)] [(.ref g3), (.ref y)]))
      have E_g3 : Exa Z h204 g3 "java/lang/String" := A204
      have F_v : Fld Z h204 g3 "java/lang/String" "value" "[B" .null := D204 (Or.inr (hw _ (List.mem_of_getElem? (i := 23) rfl))) (ty := (.array .byte)) (by decide)
      have F_k : Fld Z h204 g3 "java/lang/String" "coder" "B" (.int (0 : Int32)) := D204 (Or.inr (hw _ (List.mem_of_getElem? (i := 25) rfl))) (ty := .byte) (by decide)
      refine own_stW (fun t9 k9 => XS.dup X204.here hx rfl (hb hby at_272) rfl rfl k9) ?_
      show own_GoW p e below s Z consts_1 _ _ _ (T204.setTop (mkF m 273 #[.val (.int p0), .val (.int p1), .val (.int p2), .val (.int u1), .val (.int u2), .val (.int u3), .val (.int u4), .val (.int (1 : Int32)), .val (.int (1 : Int32)), .val (.ref g1), .val (.ref g2), .val (.ref ac), .val (.ref y)] [(.ref g3), (.ref g3), (.ref y)]))
      refine own_stW (fun t9 k9 => XS.aload X204.here hx rfl (hb hby at_273) rfl rfl k9) ?_
      show own_GoW p e below s Z consts_1 _ _ _ (T204.setTop (mkF m 275 #[.val (.int p0), .val (.int p1), .val (.int p2), .val (.int u1), .val (.int u2), .val (.int u3), .val (.int u4), .val (.int (1 : Int32)), .val (.int (1 : Int32)), .val (.ref g1), .val (.ref g2), .val (.ref ac), .val (.ref y)] [(.ref ac), (.ref g3), (.ref g3), (.ref y)]))
      have hp3 : ∀ c ∈ ([u1, u2, (47 : Int32), u3, u4] : List Int32), ¬ c < 0 ∧ ¬ (255 : Int32) < c := by
        intro c hc
        simp only [List.mem_cons, List.not_mem_nil, or_false] at hc
        rcases hc with rfl | rfl | rfl | rfl | rfl
        all_goals first | assumption | decide
      obtain ⟨_, T205, h205, L205, X205, e205, ⟨rfl, Nb3, Kb3, Eb3, H_3, t3, k3, gt3, gu3, ntb3, G_3, Vb3⟩, st205⟩ := own_backI X204 hx hZ hown rfl (hw _ (List.mem_of_getElem? (i := 28) rfl)) (hw _ (List.mem_of_getElem? (i := 29) rfl)) (hw _ (List.mem_of_getElem? (i := 30) rfl)) (by decide) (StrChars.Road.backV (s := s.setVm T203.vm) (W := 2) hZ hws (kI := 4) (hw _ (List.mem_of_getElem? (i := 10) rfl)) (cs := [u1, u2, (47 : Int32), u3, u4]) (bs := ([u1, u2, (47 : Int32), u3, u4] : List Int32).map (fun c => c.toInt8.toInt32)) (n := 5) ge_g3 (own_z0 Od) E_g3 F_v F_k A_3 (O2.ext Od.2) P5 rfl rfl (by decide) (by decide) hp3 rfl (by decide) (by decide)) e204 (a := g3) (W := 2) (g := (mkF m 275 #[.val (.int p0), .val (.int p1), .val (.int p2), .val (.int u1), .val (.int u2), .val (.int u3), .val (.int u4), .val (.int (1 : Int32)), .val (.int (1 : Int32)), .val (.ref g1), .val (.ref g2), .val (.ref ac), .val (.ref y)] [(.ref ac), (.ref g3), (.ref g3), (.ref y)])) rfl (by rw [hml]; rfl) (argsL := [(.ref ac)]) (rest := [(.ref g3), (.ref y)]) rfl (lenOf own_pd23 rfl) rfl (by show 2 * 0 + _ ≤ _; exact Nat.le_of_eq rfl) (hb hby at_275) (by decide) (by decide)
      have N205 := Fr.app N203 Nb3
      have ne_ac_t3 : ac ≠ t3 := Nat.ne_of_lt (Nat.lt_of_lt_of_le A_3.lt gu3)
      have ne_y_t3 : y ≠ t3 := Nat.ne_of_lt (Nat.lt_of_lt_of_le E_y.lt gu3)
      have ne_tb_t3 : tb ≠ t3 := Nat.ne_of_lt (Nat.lt_of_lt_of_le V_y.lt gu3)
      have ne_g3_t3 : g3 ≠ t3 := Nat.ne_of_lt (Nat.lt_of_lt_of_le E_g3.lt gu3)
      have ge_t3 : n0 ≤ t3 := Nat.le_trans (own_z0 Od) gu3
      have QSf_ac := Safe.keep Kb3 (sfS Sf_g3 sf0) Hr.1 Sf_ac
      have A_3 := A_3.keep Kb3 (ninS ne_ac_g3 nin0)
      have E_y := E_y.keep Kb3
      have Y_k := Y_k.keep Kb3 (ninS ne_y_g3 nin0)
      have Y_v := Y_v.keep Kb3 (ninS ne_y_g3 nin0)
      have V_y := V_y.keep Kb3 (ninS ne_tb_g3 nin0)
      have QSf_g3 := Safe.keep Kb3 (sfS Sf_g3 sf0) Hr.1 Sf_g3
      have E_g3 := E_g3.keep Kb3
      have Od := Od.keep Kb3 (allS ge_g3 all0)
      have Hr0 := Hr.1
      have Hr := Hr.trans (CHr.keep Kb3 (sfS Sf_g3 sf0) Hr.1)
      have hk := Nat.le_trans hk Kb3.1
      have SFL := (sfS Sf_g3 sf0)
      have Sf_ac := QSf_ac
      have Sf_g3 := QSf_g3
      have Sf_t3 := Safe.keep Kb3 SFL Hr0 (Safe.new gu3)
      refine own_stW st205 ?_
      show own_GoW p e below s Z consts_1 _ _ _ (T205.setTop (mkF m 278 #[.val (.int p0), .val (.int p1), .val (.int p2), .val (.int u1), .val (.int u2), .val (.int u3), .val (.int u4), .val (.int (1 : Int32)), .val (.int (1 : Int32)), .val (.ref g1), .val (.ref g2), .val (.ref ac), .val (.ref y)] [(.ref g3), (.ref y)]))
      have V_3 : Arv Z h205 t3 k3 .byte (5 : Int32) [(.int (u1.toInt8.toInt32)), (.int (u2.toInt8.toInt32)), (.int ((47 : Int32).toInt8.toInt32)), (.int (u3.toInt8.toInt32)), (.int (u4.toInt8.toInt32))] (.int (0 : Int32)) := Vb3
      have hw5 : ∀ c ∈ ([u1, u2, (47 : Int32), u3, u4] : List Int32), ¬ c < 0 ∧ ¬ (65535 : Int32) < c := fun c hc => ⟨(hp3 c hc).1, own_65 (hp3 c hc).2⟩
      have hcd : StrChars.Road.CodA ([u1, u2, (47 : Int32), u3, u4] : List Int32) 0 (5 : Int32) [(.int (u1.toInt8.toInt32)), (.int (u2.toInt8.toInt32)), (.int ((47 : Int32).toInt8.toInt32)), (.int (u3.toInt8.toInt32)), (.int (u4.toInt8.toInt32))] := StrChars.Road.codOf (n := 5) rfl (fun c hc => (hp3 c hc).2)
      have V_z : Arv Z h205 tb kb .byte (5 : Int32) [(.int (u1.toInt8.toInt32)), (.int (u2.toInt8.toInt32)), (.int ((47 : Int32).toInt8.toInt32)), (.int (u3.toInt8.toInt32)), (.int (u4.toInt8.toInt32))] (.int (0 : Int32)) := by rw [own_b47]; exact V_y
      obtain ⟨_, T206, h206, L206, X206, e206, ⟨rfl, rfl, hu⟩, st206⟩ := own_backV X205 hx hZ hown (hw _ (List.mem_of_getElem? (i := 189) rfl)) (hw _ (List.mem_of_getElem? (i := 190) rfl)) (notFace_of_selects (args := #[]) (mvT hZ (hw _ (List.mem_of_getElem? (i := 192) rfl)))) (hw _ (List.mem_of_getElem? (i := 192) rfl)) (hw _ (List.mem_of_getElem? (i := 191) rfl)) (by decide) (own_eqS (s := s.setVm T203.vm) (W := 0) hZ hwe (kI := 4) (hw _ (List.mem_of_getElem? (i := 10) rfl)) E_y Y_v Y_k V_z hcd hw5 (show 5 ≤ 4000 by decide) E_g3 G_3 H_3 V_3 hcd (O2.ext Od.2) P5 (by decide) (by decide)) e205 (b := y) E_y (Qy := (fun v h' L => v = some (.int (1 : Int32)) ∧ L = [] ∧ h' = h205)) (W := 0) (g := (mkF m 278 #[.val (.int p0), .val (.int p1), .val (.int p2), .val (.int u1), .val (.int u2), .val (.int u3), .val (.int u4), .val (.int (1 : Int32)), .val (.int (1 : Int32)), .val (.ref g1), .val (.ref g2), .val (.ref ac), .val (.ref y)] [(.ref g3), (.ref y)])) rfl (by rw [hml]; rfl) (argsL := [(.ref g3)]) (rest := []) rfl (lenOf own_pd24 rfl) rfl (by show 2 * 0 + _ ≤ _; exact Nat.le_of_eq rfl) (hb hby at_278) (by decide) (by decide)
      have N206 := Fr.app N205 (Fr.nil n0)
      refine own_stW st206 ?_
      show own_GoW p e below s Z consts_1 _ _ _ (T206.setTop (mkF m 281 #[.val (.int p0), .val (.int p1), .val (.int p2), .val (.int u1), .val (.int u2), .val (.int u3), .val (.int u4), .val (.int (1 : Int32)), .val (.int (1 : Int32)), .val (.ref g1), .val (.ref g2), .val (.ref ac), .val (.ref y)] [(.int (1 : Int32))]))
      exact own_retNW X206 hx hlk hS (by rw [(e206.trans hu)]; exact hk) hZ hEL (by rw [hh, (e206.trans hu)]; exact Hr) (t := .boolean) Bd.returns (by simp) (hb hby at_281) (by decide) (by decide) (by rw [(e206.trans hu)]; exact ⟨rfl, N206⟩)
set_option maxRecDepth 65536 in
set_option maxHeartbeats 40000000 in
theorem comes_1 {Post : Tables → Env → Array Value → State → Outcome → State → Prop} (hpost : ∀ tb e args s v u, (limb_1_1.after args s (.returned v) u = true ∧ limb_1_2.after args s (.returned v) u = true ∧ True) → ReturnedEndW s (.returned v) u (Jvm.fieldLocs frame_1_writes args s ++ Jvm.arrayLocs frame_1_arrays args s ++ Jvm.staticLocs frame_1_statics s) 48 3328 → Post tb e args s (.returned v) u) :
    ArmFor flags0 classFile x code maxLocals ret World_1 tables_1 room_1 Calls_1 rest_1 Pre_1 Post := by
  intro l hfl _ _ p e ha hc hk s m args below hf hA hF happ hP
  obtain ⟨hcalls, hrest, hpre⟩ := hP
  obtain ⟨-, -, -, hnamed, -, -, -, hat⟩ := (Spec.applies_iff hf).mp happ
  obtain ⟨hg, hn⟩ := and_e (Cond.before_iff.mp (show (Jvm.Cond.and given_1 narrow_1).before args s = true from hpre))
  obtain ⟨gc, g0⟩ := and_e hg
  obtain ⟨ga0, g1⟩ := and_e g0
  obtain ⟨ga1, g2⟩ := and_e g1
  obtain ⟨w0, w1, w2, rfl⟩ : ∃ w0 w1 w2 : Value, args = #[w0, w1, w2] := by
    have hs : args.size = 3 := by simpa [Cond.value, given_1] using gc
    obtain ⟨L⟩ := args
    match L, hs with
    | [w0, w1, w2], _ => exact ⟨w0, w1, w2, rfl⟩
  have hw := fun d (hd : d ∈ tables_1) => atoms_spec (ws := Jvm.Cond.code x code maxLocals ret :: tables_1) hat d (List.mem_cons_of_mem _ hd)
  have hfit : Fit s := fun {y c} hc i hi => by
    obtain ⟨ha, rfl⟩ := Array.getElem?_eq_some_iff.mp hc
    have q := List.all_eq_true.mp ((Array.all_eq_true_iff_forall_mem.mp hF) _ (Array.getElem_mem ha)) i (List.mem_range.mpr hi)
    simpa [Array.getElem?_eq_getElem hi] using q
  obtain ⟨hsets, hown0⟩ := atoms_of _ (rest_1_c_eq ▸ (show rest_1_c.before _ s = true from hrest))
  have s0 := hsets _ (List.mem_of_getElem? (i := 0) rfl)
  obtain ⟨G, eG⟩ := is_v (Cond.before_iff.mp (hsets _ (List.mem_of_getElem? (i := 1) rfl)))
  have hcw := hsets _ (List.mem_of_getElem? (i := 2) rfl)
  have hG := not_v (Cond.before_iff.mp hcw)
  have O2 := Sta.start eG (Or.inl s0)
  have P5 : ¬ (G = (0 : Int32)) := fun q => by
    subst q
    rw [eq_i eG (Term.int_eval (0)) rfl] at hG
    cases hG
  obtain ⟨i0, ei0⟩ := is_v ga0
  obtain rfl : w0 = (.int i0) := Option.some.inj ei0
  obtain ⟨i1, ei1⟩ := is_v ga1
  obtain rfl : w1 = (.int i1) := Option.some.inj ei1
  obtain ⟨i2, ei2⟩ := is_v g2
  obtain rfl : w2 = (.int i2) := Option.some.inj ei2
  have hheld := hcalls.1
  have hEL : EW s _ consts_1 := (EW.cons (hw _ (List.mem_of_getElem? (i := 56) rfl)) (by decide) (EW.cons (hw _ (List.mem_of_getElem? (i := 63) rfl)) (by decide) (EW.cons (hw _ (List.mem_of_getElem? (i := 143) rfl)) (by decide) EW.nil)))
  have hCH : CHv s consts_1 s.vm s.heap := CHv.start hEL (fun p hp => hheld p hp) (show Jvm.Lit.compactW.before _ s = true from hcw) (hw _ (List.mem_of_getElem? (i := 14) rfl)) (hw _ (List.mem_of_getElem? (i := 10) rfl))
  obtain ⟨n, o, h1, h2, h3, _, L, rfl, ⟨rfl, N⟩, -, hq⟩ := own_rm_law l s _ hw hEL tables_1 i0 i1 i2 G s.heap s.heap.size (Old.start s) O2 P5 p e ha hc hk s m _ below hf ((Spec.applies_iff_loose hf).mp happ).1 ⟨rfl, State.Warmed39.refl s, rfl, hCH, own_nosf⟩ trivial
  refine ⟨n, _, h1, h2, h3, hpost _ _ _ _ _ _ ⟨Cond.after_iff.mpr rfl, Cond.after_iff.mpr (eq_i res_at (Term.int_eval (1)) rfl), trivial⟩ ⟨hq.1, hq.2.1, hq.2.2.1, (hq.2.2.2.sift fun y hy => Or.inr (N y hy)).mono (by decide) (by decide)⟩⟩
theorem main_1_1 : Claimed_1_1 := comes_1 fun _ _ _ _ _ _ h hF => ⟨h.1, hF⟩
theorem main_1_2 : Claimed_1_2 := comes_1 fun _ _ _ _ _ _ h hF => ⟨h.2.1, hF⟩
end Jvm.Pilot.@@N@@
namespace Jvm.Pilot.@@N@@
open Jvm Jvm.ClassFile Sem Op Lib Jvm.Free Jvm.Stand Jvm.Pilot.@@N@@.Jvm.D
/-! MADE BY PROGRAM (witnessworld.py) out of the Statement's table words and the real class files: 28 classes; the members and pool entries that the words name. The judged class is class 1, her method 1. -/
namespace start1
open Jvm.ClassFile
def u (s : String) : CpInfo := .utf8 (stringToUtf16 s)
/-- a pool by its gaps: so many unusable entries, then the entry; so many at the end -/
def gap : Nat → List CpInfo → List CpInfo
  | 0, r => r
  | n + 1, r => .unusable :: gap n r
def poolList (es : List (Nat × CpInfo)) (last : Nat) : List CpInfo := es.foldr (fun e r => gap e.1 (e.2 :: r)) (gap last [])
def pool (es : List (Nat × CpInfo)) (last : Nat) : Array CpInfo := ⟨poolList es last⟩
def fileOf (pool : Array CpInfo) (this : Nat) (attrs : Array Attribute := #[]) (ms : Array MethodInfo := #[]) (fl : Nat := 33) (sup : Nat := 0) (ifs : Array Nat := #[]) (fds : Array FieldInfo := #[]) : ClassFile where
  minorVersion := 0
  majorVersion := 65
  constantPool := pool
  accessFlags := fl
  thisClass := this
  superClass := sup
  interfaces := ifs
  fields := fds
  methods := ms
  attributes := attrs
def plain (name : String) (sup : Option ClassId) : Class where
  name := name
  kind := .ordinary
  loader := none
  accessFlags := 33
  super := sup
  interfaces := #[]
  cf := none
  fields := #[]
  methods := #[]
  instanceTypes := #[]
  staticTypes := #[]
  resolved := #[]
  callSites := []
  init := .initialized
  statics := none
  mirror := none

def pool0 : Array CpInfo := pool [(5, u "<init>"), (0, u "()V"), (1, .class_ 10), (1, u "java/lang/Object")] 113

def k0c0 : Code := { maxStack := 0, maxLocals := 1, code := object_method_1_code, exceptionTable := #[], attributes := #[] }
def k0m0 : Method := { name := "<init>", desc := "()V", sig := { parameters := [], returnType := none }, accessFlags := 1, code := some k0c0 }
/-- java/lang/Object -/
def k0 : Class := { plain "java/lang/Object" none with
  accessFlags := 33
  interfaces := #[]
  cf := some (fileOf pool0 8 #[] #[{ accessFlags := 1, nameIndex := 5, descriptorIndex := 6, attributes := #[] }] 33 0 #[] #[])
  fields := #[]
  methods := #[k0m0]
  instanceTypes := #[]
  staticTypes := #[]
  resolved := Array.replicate 124 none
  statics := none }

def pool1 : Array CpInfo := pool [(2, .class_ 4), (1, u "java/lang/Object"), (0, u "<init>"), (0, u "()V"), (0, .class_ 8), (0, u "java/lang/String"), (0, .methodref 7 10), (0, .nameAndType 5 11), (0, u "([C)V"), (0, .methodref 7 13), (0, .nameAndType 14 15), (0, u "valueOf"), (0, u "(C)Ljava/lang/String;"), (0, .class_ 17), (0, u "com/example/bluehead/bluehead/net/GroupName"), (0, .methodref 16 19), (0, .nameAndType 5 20), (0, u "(Ljava/lang/String;Ljava/lang/String;)V"), (0, .methodref 16 22), (0, .nameAndType 23 24), (0, u "toString"), (0, u "()Ljava/lang/String;"), (0, .methodref 7 26), (0, .nameAndType 27 28), (0, u "equals"), (0, u "(Ljava/lang/Object;)Z"), (0, .class_ 30), (0, u "com/example/bluehead/bluehead/net/GroupNameToStringPinLaw"), (2, u "law"), (0, u "(III)Z")] 5

def k1m0 : Method := { name := "<init>", desc := "()V", sig := { parameters := [], returnType := none }, accessFlags := 1, code := none }
def k1c1 : Code := { maxStack := 6, maxLocals := 13, code := code, exceptionTable := #[], attributes := #[] }
def k1m1 : Method := { name := "law", desc := "(III)Z", sig := { parameters := [.int, .int, .int], returnType := some .boolean }, accessFlags := 9, code := some k1c1 }
/-- com/example/bluehead/bluehead/net/GroupNameToStringPinLaw -/
def k1 : Class := { plain "com/example/bluehead/bluehead/net/GroupNameToStringPinLaw" (some 0) with
  accessFlags := 49
  interfaces := #[]
  cf := some (fileOf pool1 29 #[] #[{ accessFlags := 1, nameIndex := 5, descriptorIndex := 6, attributes := #[] }, { accessFlags := 9, nameIndex := 33, descriptorIndex := 34, attributes := #[] }] 49 2 #[] #[])
  fields := #[]
  methods := #[k1m0, k1m1]
  instanceTypes := #[]
  staticTypes := #[]
  resolved := Array.replicate 40 none
  statics := none }

def pool2 : Array CpInfo := pool [(1, .class_ 2), (0, u "java/io/Serializable"), (0, .class_ 4), (0, u "java/lang/Object")] 2

/-- java/io/Serializable -/
def k2 : Class := { plain "java/io/Serializable" (some 0) with
  accessFlags := 1537
  interfaces := #[]
  cf := some (fileOf pool2 1 #[] #[] 1537 3 #[] #[])
  fields := #[]
  methods := #[]
  instanceTypes := #[]
  staticTypes := #[]
  resolved := Array.replicate 7 none
  statics := none }

def pool3 : Array CpInfo := pool [(1, .class_ 2), (0, u "java/lang/Comparable"), (0, .class_ 4), (0, u "java/lang/Object")] 7

/-- java/lang/Comparable -/
def k3 : Class := { plain "java/lang/Comparable" (some 0) with
  accessFlags := 1537
  interfaces := #[]
  cf := some (fileOf pool3 1 #[] #[] 1537 3 #[] #[])
  fields := #[]
  methods := #[]
  instanceTypes := #[]
  staticTypes := #[]
  resolved := Array.replicate 12 none
  statics := none }

def pool4 : Array CpInfo := pool [(2, .class_ 4), (1, u "java/lang/CharSequence"), (42, .class_ 48), (0, u "java/lang/CharSequence$1CodePointIterator"), (10, .class_ 60), (0, u "java/lang/CharSequence$1CharIterator"), (5, .class_ 67), (0, u "java/lang/Object")] 63

/-- java/lang/CharSequence -/
def k4 : Class := { plain "java/lang/CharSequence" (some 0) with
  accessFlags := 1537
  interfaces := #[]
  cf := some (fileOf pool4 2 #[.nestMembers #[47, 59]] #[] 1537 66 #[] #[])
  fields := #[]
  methods := #[]
  instanceTypes := #[]
  staticTypes := #[]
  resolved := Array.replicate 131 none
  statics := none }

def pool5 : Array CpInfo := pool [(1, .class_ 2), (0, u "java/lang/constant/Constable"), (0, .class_ 4), (0, u "java/lang/Object")] 6

/-- java/lang/constant/Constable -/
def k5 : Class := { plain "java/lang/constant/Constable" (some 0) with
  accessFlags := 1537
  interfaces := #[]
  cf := some (fileOf pool5 1 #[] #[] 1537 3 #[] #[])
  fields := #[]
  methods := #[]
  instanceTypes := #[]
  staticTypes := #[]
  resolved := Array.replicate 11 none
  statics := none }

def pool6 : Array CpInfo := pool [(1, .class_ 2), (0, u "java/lang/constant/ConstantDesc"), (0, .class_ 4), (0, u "java/lang/Object")] 32

/-- java/lang/constant/ConstantDesc -/
def k6 : Class := { plain "java/lang/constant/ConstantDesc" (some 0) with
  accessFlags := 1537
  interfaces := #[]
  cf := some (fileOf pool6 1 #[] #[] 1537 3 #[] #[])
  fields := #[]
  methods := #[]
  instanceTypes := #[]
  staticTypes := #[]
  resolved := Array.replicate 37 none
  statics := none }

def pool7 : Array CpInfo := pool [(1, .methodref 2 3), (0, .class_ 4), (0, .nameAndType 5 6), (0, u "java/lang/Object"), (0, u "<init>"), (0, u "()V"), (2, .fieldref 10 11), (0, .class_ 12), (0, .nameAndType 13 14), (0, u "java/lang/String"), (0, u "value"), (0, u "[B"), (0, .fieldref 10 16), (0, .nameAndType 17 18), (0, u "coder"), (0, u "B"), (2, u "hash"), (0, u "I"), (2, u "hashIsZero"), (0, u "Z"), (0, .methodref 10 28), (0, .nameAndType 5 29), (0, u "([CIILjava/lang/Void;)V"), (8, .fieldref 10 39), (0, .nameAndType 40 26), (0, u "COMPACT_STRINGS"), (1, .class_ 44), (1, u "java/lang/StringUTF16"), (0, u "compress"), (1, .methodref 42 48), (0, .nameAndType 49 50), (0, u "coderFromArrayLen"), (0, u "([BI)B"), (2, u "toBytes"), (0, .methodref 55 56), (0, .class_ 57), (0, .nameAndType 58 59), (0, u "java/util/Arrays"), (0, u "copyOfRange"), (0, u "([BII)[B"), (47, .class_ 109), (1, u "java/lang/StringLatin1"), (32, u "()Z"), (34, .methodref 42 178), (0, .nameAndType 45 179), (0, u "([CII)[B"), (13, .class_ 195), (1, u "java/lang/System"), (13, .methodref 10 210), (0, .nameAndType 5 211), (0, u "([BB)V"), (0, .methodref 193 213), (0, .nameAndType 214 215), (0, u "arraycopy"), (0, u "(Ljava/lang/Object;ILjava/lang/Object;II)V"), (118, u "()I"), (0, .methodref 10 336), (0, .nameAndType 17 337), (0, u "()B"), (2, u "()[B"), (28, u "(C)Z"), (119, .methodref 10 490), (0, .nameAndType 5 491), (0, u "(Ljava/lang/AbstractStringBuilder;Ljava/lang/Void;)V"), (1, .nameAndType 494 142), (0, u "isLatin1"), (11, .nameAndType 507 334), (0, u "length"), (24, u "getBytes"), (8, .methodref 107 542), (0, .nameAndType 543 544), (0, u "equals"), (0, u "([B[B)Z"), (4, .methodref 550 506), (0, .class_ 551), (0, u "java/lang/AbstractStringBuilder"), (0, .methodref 550 553), (0, .nameAndType 554 340), (0, u "getValue"), (18, u "(Ljava/lang/Object;)Z"), (1, .class_ 576), (0, u "java/lang/CharSequence"), (22, u "CASE_INSENSITIVE_ORDER"), (0, u "Ljava/util/Comparator;"), (91, u "isEmpty"), (89, u "valueOf"), (0, u "(C)Ljava/lang/String;"), (37, u "([BIB)V"), (188, u "([C)V"), (4, .methodref 107 1016), (0, .nameAndType 1017 369), (0, u "canEncode"), (0, .methodref 107 1019), (0, .nameAndType 53 1020), (0, u "(C)[B"), (26, .methodref 550 493), (53, u "serialPersistentFields"), (0, u "[Ljava/io/ObjectStreamField;"), (0, .class_ 1104), (0, u "java/lang/String$CaseInsensitiveComparator"), (1, .class_ 1107), (0, u "java/io/Serializable"), (0, .class_ 1109), (0, u "java/lang/Comparable"), (0, .class_ 1111), (0, u "java/lang/constant/Constable"), (0, .class_ 1113), (0, u "java/lang/constant/ConstantDesc"), (2, u "serialVersionUID"), (0, u "J"), (3, u "REPL"), (0, u "C"), (2, u "LATIN1"), (1, u "UTF16"), (105, u "(Ljava/lang/StringBuilder;)V")] 217

def k7m0 : Method := { name := "<init>", desc := "()V", sig := { parameters := [], returnType := none }, accessFlags := 1, code := none }
def k7c1 : Code := { maxStack := 5, maxLocals := 2, code := jdk_42_method_3_code, exceptionTable := #[], attributes := #[] }
def k7m1 : Method := { name := "<init>", desc := "([C)V", sig := { parameters := [(.array .char)], returnType := none }, accessFlags := 1, code := some k7c1 }
def k7c2 : Code := { maxStack := 3, maxLocals := 2, code := jdk_42_method_53_code, exceptionTable := #[], attributes := #[] }
def k7m2 : Method := { name := "<init>", desc := "(Ljava/lang/StringBuilder;)V", sig := { parameters := [(.object "java/lang/StringBuilder")], returnType := none }, accessFlags := 1, code := some k7c2 }
def k7c3 : Code := { maxStack := 2, maxLocals := 1, code := jdk_42_method_54_code, exceptionTable := #[], attributes := #[] }
def k7m3 : Method := { name := "length", desc := "()I", sig := { parameters := [], returnType := some .int }, accessFlags := 1, code := some k7c3 }
def k7c4 : Code := { maxStack := 1, maxLocals := 1, code := jdk_42_method_55_code, exceptionTable := #[], attributes := #[] }
def k7m4 : Method := { name := "isEmpty", desc := "()Z", sig := { parameters := [], returnType := some .boolean }, accessFlags := 1, code := some k7c4 }
def k7c5 : Code := { maxStack := 2, maxLocals := 3, code := jdk_42_method_66_code, exceptionTable := #[], attributes := #[] }
def k7m5 : Method := { name := "equals", desc := "(Ljava/lang/Object;)Z", sig := { parameters := [(.object "java/lang/Object")], returnType := some .boolean }, accessFlags := 1, code := some k7c5 }
def k7c6 : Code := { maxStack := 4, maxLocals := 1, code := jdk_42_method_139_code, exceptionTable := #[], attributes := #[] }
def k7m6 : Method := { name := "valueOf", desc := "(C)Ljava/lang/String;", sig := { parameters := [.char], returnType := some (.object "java/lang/String") }, accessFlags := 9, code := some k7c6 }
def k7c7 : Code := { maxStack := 5, maxLocals := 4, code := jdk_42_method_147_code, exceptionTable := #[], attributes := #[] }
def k7m7 : Method := { name := "getBytes", desc := "([BIB)V", sig := { parameters := [(.array .byte), .int, .byte], returnType := none }, accessFlags := 0, code := some k7c7 }
def k7c8 : Code := { maxStack := 4, maxLocals := 6, code := jdk_42_method_149_code, exceptionTable := #[], attributes := #[] }
def k7m8 : Method := { name := "<init>", desc := "([CIILjava/lang/Void;)V", sig := { parameters := [(.array .char), .int, .int, (.object "java/lang/Void")], returnType := none }, accessFlags := 2, code := some k7c8 }
def k7c9 : Code := { maxStack := 5, maxLocals := 5, code := jdk_42_method_150_code, exceptionTable := #[], attributes := #[] }
def k7m9 : Method := { name := "<init>", desc := "(Ljava/lang/AbstractStringBuilder;Ljava/lang/Void;)V", sig := { parameters := [(.object "java/lang/AbstractStringBuilder"), (.object "java/lang/Void")], returnType := none }, accessFlags := 0, code := some k7c9 }
def k7c10 : Code := { maxStack := 2, maxLocals := 3, code := jdk_42_method_151_code, exceptionTable := #[], attributes := #[] }
def k7m10 : Method := { name := "<init>", desc := "([BB)V", sig := { parameters := [(.array .byte), .byte], returnType := none }, accessFlags := 0, code := some k7c10 }
def k7c11 : Code := { maxStack := 1, maxLocals := 1, code := jdk_42_method_152_code, exceptionTable := #[], attributes := #[] }
def k7m11 : Method := { name := "coder", desc := "()B", sig := { parameters := [], returnType := some .byte }, accessFlags := 0, code := some k7c11 }
/-- java/lang/String -/
def k7 : Class := { plain "java/lang/String" (some 0) with
  accessFlags := 49
  interfaces := #[2, 3, 4, 5, 6]
  cf := some (fileOf pool7 10 #[.nestMembers #[1103]] #[{ accessFlags := 1, nameIndex := 5, descriptorIndex := 6, attributes := #[] }, { accessFlags := 1, nameIndex := 5, descriptorIndex := 1010, attributes := #[] }, { accessFlags := 1, nameIndex := 5, descriptorIndex := 1233, attributes := #[] }, { accessFlags := 1, nameIndex := 507, descriptorIndex := 334, attributes := #[] }, { accessFlags := 1, nameIndex := 692, descriptorIndex := 142, attributes := #[] }, { accessFlags := 1, nameIndex := 543, descriptorIndex := 573, attributes := #[] }, { accessFlags := 9, nameIndex := 782, descriptorIndex := 783, attributes := #[] }, { accessFlags := 0, nameIndex := 532, descriptorIndex := 821, attributes := #[] }, { accessFlags := 2, nameIndex := 5, descriptorIndex := 29, attributes := #[] }, { accessFlags := 0, nameIndex := 5, descriptorIndex := 491, attributes := #[] }, { accessFlags := 0, nameIndex := 5, descriptorIndex := 211, attributes := #[] }, { accessFlags := 0, nameIndex := 17, descriptorIndex := 337, attributes := #[] }] 49 2 #[1106, 1108, 575, 1110, 1112] #[{ accessFlags := 18, nameIndex := 13, descriptorIndex := 14, attributes := #[] }, { accessFlags := 18, nameIndex := 17, descriptorIndex := 18, attributes := #[] }, { accessFlags := 2, nameIndex := 21, descriptorIndex := 22, attributes := #[] }, { accessFlags := 2, nameIndex := 25, descriptorIndex := 26, attributes := #[] }, { accessFlags := 26, nameIndex := 1116, descriptorIndex := 1117, attributes := #[] }, { accessFlags := 24, nameIndex := 40, descriptorIndex := 26, attributes := #[] }, { accessFlags := 26, nameIndex := 1101, descriptorIndex := 1102, attributes := #[] }, { accessFlags := 26, nameIndex := 1121, descriptorIndex := 1122, attributes := #[] }, { accessFlags := 25, nameIndex := 599, descriptorIndex := 600, attributes := #[] }, { accessFlags := 24, nameIndex := 1125, descriptorIndex := 18, attributes := #[] }, { accessFlags := 24, nameIndex := 1127, descriptorIndex := 18, attributes := #[] }])
  fields := #[{ name := "value", type := (.array .byte), accessFlags := 18, slot := 0, constantValue := 0 }, { name := "coder", type := .byte, accessFlags := 18, slot := 1, constantValue := 0 }, { name := "hash", type := .int, accessFlags := 2, slot := 2, constantValue := 0 }, { name := "hashIsZero", type := .boolean, accessFlags := 2, slot := 3, constantValue := 0 }, { name := "serialVersionUID", type := .long, accessFlags := 26, slot := 0, constantValue := 0 }, { name := "COMPACT_STRINGS", type := .boolean, accessFlags := 24, slot := 1, constantValue := 0 }, { name := "serialPersistentFields", type := (.array (.object "java/io/ObjectStreamField")), accessFlags := 26, slot := 2, constantValue := 0 }, { name := "REPL", type := .char, accessFlags := 26, slot := 3, constantValue := 0 }, { name := "CASE_INSENSITIVE_ORDER", type := (.object "java/util/Comparator"), accessFlags := 25, slot := 4, constantValue := 0 }, { name := "LATIN1", type := .byte, accessFlags := 24, slot := 5, constantValue := 0 }, { name := "UTF16", type := .byte, accessFlags := 24, slot := 6, constantValue := 0 }]
  methods := #[k7m0, k7m1, k7m2, k7m3, k7m4, k7m5, k7m6, k7m7, k7m8, k7m9, k7m10, k7m11]
  instanceTypes := #[(.array .byte), .byte, .int, .boolean]
  staticTypes := #[.long, .boolean, (.array (.object "java/io/ObjectStreamField")), .char, (.object "java/util/Comparator"), .byte, .byte]
  resolved := Array.replicate 1451 none
  statics := some 0 }

def pool8 : Array CpInfo := pool [(4, .class_ 6), (1, u "java/lang/Object"), (0, u "<init>"), (0, u "()V"), (5, .class_ 16), (1, u "java/lang/StringLatin1"), (73, u "canEncode"), (14, u "(C)Z"), (15, u "$assertionsDisabled"), (0, u "Z"), (98, .class_ 223), (1, u "java/lang/StringLatin1$LinesSpliterator"), (57, u "equals"), (0, u "([B[B)Z"), (97, u "toBytes"), (1, u "(C)[B"), (7, .class_ 391), (0, u "java/lang/StringLatin1$CharsSpliterator")] 3

def k8m0 : Method := { name := "<init>", desc := "()V", sig := { parameters := [], returnType := none }, accessFlags := 0, code := none }
def k8c1 : Code := { maxStack := 2, maxLocals := 1, code := jdk_43_method_3_code, exceptionTable := #[], attributes := #[] }
def k8m1 : Method := { name := "canEncode", desc := "(C)Z", sig := { parameters := [.char], returnType := some .boolean }, accessFlags := 9, code := some k8c1 }
def k8c2 : Code := { maxStack := 3, maxLocals := 3, code := jdk_43_method_13_code, exceptionTable := #[], attributes := #[] }
def k8m2 : Method := { name := "equals", desc := "([B[B)Z", sig := { parameters := [(.array .byte), (.array .byte)], returnType := some .boolean }, accessFlags := 9, code := some k8c2 }
def k8c3 : Code := { maxStack := 4, maxLocals := 1, code := jdk_43_method_46_code, exceptionTable := #[], attributes := #[] }
def k8m3 : Method := { name := "toBytes", desc := "(C)[B", sig := { parameters := [.char], returnType := some (.array .byte) }, accessFlags := 9, code := some k8c3 }
/-- java/lang/StringLatin1 -/
def k8 : Class := { plain "java/lang/StringLatin1" (some 0) with
  accessFlags := 48
  interfaces := #[]
  cf := some (fileOf pool8 14 #[.nestMembers #[390, 221]] #[{ accessFlags := 0, nameIndex := 7, descriptorIndex := 8, attributes := #[] }, { accessFlags := 9, nameIndex := 90, descriptorIndex := 105, attributes := #[] }, { accessFlags := 9, nameIndex := 281, descriptorIndex := 282, attributes := #[] }, { accessFlags := 9, nameIndex := 380, descriptorIndex := 382, attributes := #[] }] 48 4 #[] #[{ accessFlags := 4120, nameIndex := 121, descriptorIndex := 122, attributes := #[] }])
  fields := #[{ name := "$assertionsDisabled", type := .boolean, accessFlags := 4120, slot := 0, constantValue := 0 }]
  methods := #[k8m0, k8m1, k8m2, k8m3]
  instanceTypes := #[]
  staticTypes := #[.boolean]
  resolved := Array.replicate 395 none
  statics := none }

def pool9 : Array CpInfo := pool [(6, .class_ 8), (1, u "java/lang/Object"), (0, u "<init>"), (0, u "()V"), (1, .class_ 14), (1, u "java/lang/StringUTF16"), (31, u "$assertionsDisabled"), (0, u "Z"), (13, u "HI_BYTE_SHIFT"), (0, u "I"), (2, u "LO_BYTE_SHIFT"), (49, .methodref 12 116), (0, .nameAndType 117 118), (0, u "compress"), (0, u "([CI[BII)I"), (3, u "([CII)[B"), (138, u "coderFromArrayLen"), (0, u "([BI)B"), (106, .class_ 371), (1, u "java/lang/StringUTF16$LinesSpliterator"), (58, u "MAX_LENGTH"), (196, .class_ 628), (0, u "java/lang/StringUTF16$CodePointsSpliterator"), (0, .class_ 630), (0, u "java/lang/StringUTF16$CharsSpliterator")] 4

def k9m0 : Method := { name := "<init>", desc := "()V", sig := { parameters := [], returnType := none }, accessFlags := 0, code := none }
def k9c1 : Code := { maxStack := 2, maxLocals := 2, code := jdk_52_method_15_code, exceptionTable := #[], attributes := #[] }
def k9m1 : Method := { name := "coderFromArrayLen", desc := "([BI)B", sig := { parameters := [(.array .byte), .int], returnType := some .byte }, accessFlags := 8, code := some k9c1 }
def k9c2 : Code := { maxStack := 5, maxLocals := 6, code := jdk_52_method_16_code, exceptionTable := #[], attributes := #[] }
def k9m2 : Method := { name := "compress", desc := "([CII)[B", sig := { parameters := [(.array .char), .int, .int], returnType := some (.array .byte) }, accessFlags := 9, code := some k9c2 }
def k9c3 : Code := { maxStack := 3, maxLocals := 7, code := jdk_52_method_21_code, exceptionTable := #[], attributes := #[] }
def k9m3 : Method := { name := "compress", desc := "([CI[BII)I", sig := { parameters := [(.array .char), .int, (.array .byte), .int, .int], returnType := some .int }, accessFlags := 9, code := some k9c3 }
/-- java/lang/StringUTF16 -/
def k9 : Class := { plain "java/lang/StringUTF16" (some 0) with
  accessFlags := 48
  interfaces := #[]
  cf := some (fileOf pool9 12 #[.nestMembers #[627, 629, 369]] #[{ accessFlags := 0, nameIndex := 9, descriptorIndex := 10, attributes := #[] }, { accessFlags := 8, nameIndex := 261, descriptorIndex := 262, attributes := #[] }, { accessFlags := 9, nameIndex := 117, descriptorIndex := 122, attributes := #[] }, { accessFlags := 9, nameIndex := 117, descriptorIndex := 118, attributes := #[] }] 48 6 #[] #[{ accessFlags := 26, nameIndex := 61, descriptorIndex := 62, attributes := #[] }, { accessFlags := 26, nameIndex := 65, descriptorIndex := 62, attributes := #[] }, { accessFlags := 24, nameIndex := 430, descriptorIndex := 62, attributes := #[] }, { accessFlags := 4120, nameIndex := 46, descriptorIndex := 47, attributes := #[] }])
  fields := #[{ name := "HI_BYTE_SHIFT", type := .int, accessFlags := 26, slot := 0, constantValue := 0 }, { name := "LO_BYTE_SHIFT", type := .int, accessFlags := 26, slot := 1, constantValue := 0 }, { name := "MAX_LENGTH", type := .int, accessFlags := 24, slot := 2, constantValue := 0 }, { name := "$assertionsDisabled", type := .boolean, accessFlags := 4120, slot := 3, constantValue := 0 }]
  methods := #[k9m0, k9m1, k9m2, k9m3]
  instanceTypes := #[]
  staticTypes := #[.int, .int, .int, .boolean]
  resolved := Array.replicate 635 none
  statics := none }

def pool10 : Array CpInfo := pool [(1, .methodref 2 3), (0, .class_ 4), (0, .nameAndType 5 6), (0, u "java/lang/Object"), (0, u "<init>"), (0, u "()V"), (0, .class_ 8), (0, u "java/lang/Record")] 13

def k10c0 : Code := { maxStack := 1, maxLocals := 1, code := jdk_30_method_1_code, exceptionTable := #[], attributes := #[] }
def k10m0 : Method := { name := "<init>", desc := "()V", sig := { parameters := [], returnType := none }, accessFlags := 4, code := some k10c0 }
/-- java/lang/Record -/
def k10 : Class := { plain "java/lang/Record" (some 0) with
  accessFlags := 1057
  interfaces := #[]
  cf := some (fileOf pool10 7 #[] #[{ accessFlags := 4, nameIndex := 5, descriptorIndex := 6, attributes := #[] }] 1057 2 #[] #[])
  fields := #[]
  methods := #[k10m0]
  instanceTypes := #[]
  staticTypes := #[]
  resolved := Array.replicate 22 none
  statics := none }

def pool11 : Array CpInfo := pool [(1, .methodref 2 3), (0, .class_ 4), (0, .nameAndType 5 6), (0, u "java/lang/Record"), (0, u "<init>"), (0, u "()V"), (0, .string 8), (0, u "cluster"), (0, .methodref 10 11), (0, .class_ 12), (0, .nameAndType 13 14), (0, u "java/util/Objects"), (0, u "requireNonNull"), (0, u "(Ljava/lang/Object;Ljava/lang/String;)Ljava/lang/Object;"), (0, .string 16), (0, u "group"), (0, .methodref 18 19), (0, .class_ 20), (0, .nameAndType 21 22), (0, u "java/lang/String"), (0, u "isEmpty"), (0, u "()Z"), (7, .fieldref 31 32), (0, .class_ 33), (0, .nameAndType 8 34), (0, u "com/example/bluehead/bluehead/net/GroupName"), (0, u "Ljava/lang/String;"), (0, .fieldref 31 36), (0, .nameAndType 16 34), (2, u "ORDER"), (0, u "Ljava/util/Comparator;"), (6, .class_ 48), (0, u "java/lang/StringBuilder"), (0, .methodref 47 3), (0, .methodref 47 51), (0, .nameAndType 52 53), (0, u "append"), (0, u "(Ljava/lang/String;)Ljava/lang/StringBuilder;"), (0, .string 55), (0, u "/"), (0, .methodref 47 57), (0, .nameAndType 58 59), (0, u "toString"), (0, u "()Ljava/lang/String;"), (23, .class_ 84), (0, u "java/lang/Comparable"), (2, u "(Ljava/lang/String;Ljava/lang/String;)V")] 47

def k11c0 : Code := { maxStack := 3, maxLocals := 3, code := prog_25_method_1_code, exceptionTable := #[], attributes := #[] }
def k11m0 : Method := { name := "<init>", desc := "(Ljava/lang/String;Ljava/lang/String;)V", sig := { parameters := [(.object "java/lang/String"), (.object "java/lang/String")], returnType := none }, accessFlags := 1, code := some k11c0 }
def k11c1 : Code := { maxStack := 2, maxLocals := 1, code := prog_25_method_3_code, exceptionTable := #[], attributes := #[] }
def k11m1 : Method := { name := "toString", desc := "()Ljava/lang/String;", sig := { parameters := [], returnType := some (.object "java/lang/String") }, accessFlags := 1, code := some k11c1 }
/-- com/example/bluehead/bluehead/net/GroupName -/
def k11 : Class := { plain "com/example/bluehead/bluehead/net/GroupName" (some 10) with
  accessFlags := 49
  interfaces := #[3]
  cf := some (fileOf pool11 31 #[] #[{ accessFlags := 1, nameIndex := 5, descriptorIndex := 87, attributes := #[] }, { accessFlags := 1, nameIndex := 58, descriptorIndex := 59, attributes := #[] }] 49 2 #[83] #[{ accessFlags := 18, nameIndex := 8, descriptorIndex := 34, attributes := #[] }, { accessFlags := 18, nameIndex := 16, descriptorIndex := 34, attributes := #[] }, { accessFlags := 26, nameIndex := 39, descriptorIndex := 40, attributes := #[] }])
  fields := #[{ name := "cluster", type := (.object "java/lang/String"), accessFlags := 18, slot := 0, constantValue := 0 }, { name := "group", type := (.object "java/lang/String"), accessFlags := 18, slot := 1, constantValue := 0 }, { name := "ORDER", type := (.object "java/util/Comparator"), accessFlags := 26, slot := 0, constantValue := 0 }]
  methods := #[k11m0, k11m1]
  instanceTypes := #[(.object "java/lang/String"), (.object "java/lang/String")]
  staticTypes := #[(.object "java/util/Comparator")]
  resolved := Array.replicate 135 none
  statics := none }

def pool12 : Array CpInfo := pool [(2, .class_ 4), (1, u "java/lang/Object"), (0, u "<init>"), (0, u "()V"), (35, .class_ 44), (1, u "java/util/Objects"), (0, u "requireNonNull"), (48, u "(Ljava/lang/Object;Ljava/lang/String;)Ljava/lang/Object;")] 89

def k12m0 : Method := { name := "<init>", desc := "()V", sig := { parameters := [], returnType := none }, accessFlags := 2, code := none }
def k12c1 : Code := { maxStack := 3, maxLocals := 2, code := jdk_31_method_11_code, exceptionTable := #[], attributes := #[] }
def k12m1 : Method := { name := "requireNonNull", desc := "(Ljava/lang/Object;Ljava/lang/String;)Ljava/lang/Object;", sig := { parameters := [(.object "java/lang/Object"), (.object "java/lang/String")], returnType := some (.object "java/lang/Object") }, accessFlags := 9, code := some k12c1 }
/-- java/util/Objects -/
def k12 : Class := { plain "java/util/Objects" (some 0) with
  accessFlags := 49
  interfaces := #[]
  cf := some (fileOf pool12 42 #[] #[{ accessFlags := 2, nameIndex := 5, descriptorIndex := 6, attributes := #[] }, { accessFlags := 9, nameIndex := 45, descriptorIndex := 94, attributes := #[] }] 49 2 #[] #[])
  fields := #[]
  methods := #[k12m0, k12m1]
  instanceTypes := #[]
  staticTypes := #[]
  resolved := Array.replicate 184 none
  statics := none }

def pool13 : Array CpInfo := pool [(1, .class_ 2), (0, u "java/lang/Appendable"), (0, .class_ 4), (0, u "java/lang/Object")] 9

/-- java/lang/Appendable -/
def k13 : Class := { plain "java/lang/Appendable" (some 0) with
  accessFlags := 1537
  interfaces := #[]
  cf := some (fileOf pool13 1 #[] #[] 1537 3 #[] #[])
  fields := #[]
  methods := #[]
  instanceTypes := #[]
  staticTypes := #[]
  resolved := Array.replicate 14 none
  statics := none }

def pool14 : Array CpInfo := pool [(1, .class_ 2), (0, u "java/lang/String"), (0, .methodref 4 5), (0, .class_ 6), (0, .nameAndType 7 8), (0, u "java/lang/Object"), (0, u "<init>"), (0, u "()V"), (1, .class_ 12), (1, u "java/lang/AbstractStringBuilder"), (0, u "EMPTYVALUE"), (0, u "[B"), (0, .fieldref 10 16), (0, .nameAndType 17 14), (0, u "value"), (0, .fieldref 1 19), (0, .nameAndType 20 21), (0, u "COMPACT_STRINGS"), (0, u "Z"), (0, .fieldref 10 23), (0, .nameAndType 24 25), (0, u "coder"), (0, u "B"), (6, .methodref 1 33), (0, .nameAndType 34 35), (0, u "length"), (0, u "()I"), (4, .methodref 1 41), (0, .nameAndType 24 42), (0, u "()B"), (2, u "append"), (0, u "(Ljava/lang/String;)Ljava/lang/AbstractStringBuilder;"), (1, .class_ 49), (0, u "java/lang/CharSequence"), (19, u "(Ljava/lang/String;)V"), (5, u "maybeLatin1"), (3, .fieldref 10 80), (0, .nameAndType 81 82), (0, u "count"), (0, u "I"), (2, u "isLatin1"), (0, u "()Z"), (13, .methodref 10 101), (0, .nameAndType 102 103), (0, u "ensureCapacityInternal"), (0, u "(I)V"), (104, .methodref 10 209), (0, .nameAndType 210 211), (0, u "putStringAt"), (0, u "(ILjava/lang/String;)V"), (5, u "inflateIfNeededFor"), (2, .nameAndType 221 222), (0, u "getBytes"), (0, u "([BIB)V"), (174, .methodref 10 398), (0, .nameAndType 217 69), (0, .methodref 1 220), (3, u "()[B"), (40, .class_ 445), (0, u "java/lang/Appendable"), (106, u "getValue")] 56

def k14m0 : Method := { name := "<init>", desc := "()V", sig := { parameters := [], returnType := none }, accessFlags := 0, code := none }
def k14c1 : Code := { maxStack := 2, maxLocals := 2, code := jdk_68_method_2_code, exceptionTable := #[], attributes := #[] }
def k14m1 : Method := { name := "<init>", desc := "(I)V", sig := { parameters := [.int], returnType := none }, accessFlags := 0, code := some k14c1 }
def k14c2 : Code := { maxStack := 1, maxLocals := 1, code := jdk_68_method_6_code, exceptionTable := #[], attributes := #[] }
def k14m2 : Method := { name := "length", desc := "()I", sig := { parameters := [], returnType := some .int }, accessFlags := 1, code := some k14c2 }
def k14c3 : Code := { maxStack := 4, maxLocals := 3, code := jdk_68_method_9_code, exceptionTable := #[], attributes := #[] }
def k14m3 : Method := { name := "ensureCapacityInternal", desc := "(I)V", sig := { parameters := [.int], returnType := none }, accessFlags := 2, code := some k14c3 }
def k14c4 : Code := { maxStack := 3, maxLocals := 3, code := jdk_68_method_22_code, exceptionTable := #[], attributes := #[] }
def k14m4 : Method := { name := "append", desc := "(Ljava/lang/String;)Ljava/lang/AbstractStringBuilder;", sig := { parameters := [(.object "java/lang/String")], returnType := some (.object "java/lang/AbstractStringBuilder") }, accessFlags := 1, code := some k14c4 }
def k14c5 : Code := { maxStack := 1, maxLocals := 1, code := jdk_68_method_64_code, exceptionTable := #[], attributes := #[] }
def k14m5 : Method := { name := "getValue", desc := "()[B", sig := { parameters := [], returnType := some (.array .byte) }, accessFlags := 16, code := some k14c5 }
def k14c6 : Code := { maxStack := 1, maxLocals := 1, code := jdk_68_method_68_code, exceptionTable := #[], attributes := #[] }
def k14m6 : Method := { name := "isLatin1", desc := "()Z", sig := { parameters := [], returnType := some .boolean }, accessFlags := 16, code := some k14c6 }
def k14c7 : Code := { maxStack := 2, maxLocals := 2, code := jdk_68_method_71_code, exceptionTable := #[], attributes := #[] }
def k14m7 : Method := { name := "inflateIfNeededFor", desc := "(Ljava/lang/String;)V", sig := { parameters := [(.object "java/lang/String")], returnType := none }, accessFlags := 2, code := some k14c7 }
def k14c8 : Code := { maxStack := 4, maxLocals := 3, code := jdk_68_method_73_code, exceptionTable := #[], attributes := #[] }
def k14m8 : Method := { name := "putStringAt", desc := "(ILjava/lang/String;)V", sig := { parameters := [.int, (.object "java/lang/String")], returnType := none }, accessFlags := 2, code := some k14c8 }
/-- java/lang/AbstractStringBuilder -/
def k14 : Class := { plain "java/lang/AbstractStringBuilder" (some 0) with
  accessFlags := 1056
  interfaces := #[13, 4]
  cf := some (fileOf pool14 10 #[] #[{ accessFlags := 0, nameIndex := 7, descriptorIndex := 8, attributes := #[] }, { accessFlags := 0, nameIndex := 7, descriptorIndex := 103, attributes := #[] }, { accessFlags := 1, nameIndex := 34, descriptorIndex := 35, attributes := #[] }, { accessFlags := 2, nameIndex := 102, descriptorIndex := 103, attributes := #[] }, { accessFlags := 1, nameIndex := 45, descriptorIndex := 46, attributes := #[] }, { accessFlags := 16, nameIndex := 552, descriptorIndex := 403, attributes := #[] }, { accessFlags := 16, nameIndex := 85, descriptorIndex := 86, attributes := #[] }, { accessFlags := 2, nameIndex := 217, descriptorIndex := 69, attributes := #[] }, { accessFlags := 2, nameIndex := 210, descriptorIndex := 211, attributes := #[] }] 1056 4 #[444, 48] #[{ accessFlags := 0, nameIndex := 17, descriptorIndex := 14, attributes := #[] }, { accessFlags := 0, nameIndex := 24, descriptorIndex := 25, attributes := #[] }, { accessFlags := 0, nameIndex := 75, descriptorIndex := 21, attributes := #[] }, { accessFlags := 0, nameIndex := 81, descriptorIndex := 82, attributes := #[] }, { accessFlags := 26, nameIndex := 13, descriptorIndex := 14, attributes := #[] }])
  fields := #[{ name := "value", type := (.array .byte), accessFlags := 0, slot := 0, constantValue := 0 }, { name := "coder", type := .byte, accessFlags := 0, slot := 1, constantValue := 0 }, { name := "maybeLatin1", type := .boolean, accessFlags := 0, slot := 2, constantValue := 0 }, { name := "count", type := .int, accessFlags := 0, slot := 3, constantValue := 0 }, { name := "EMPTYVALUE", type := (.array .byte), accessFlags := 26, slot := 0, constantValue := 0 }]
  methods := #[k14m0, k14m1, k14m2, k14m3, k14m4, k14m5, k14m6, k14m7, k14m8]
  instanceTypes := #[(.array .byte), .byte, .boolean, .int]
  staticTypes := #[(.array .byte)]
  resolved := Array.replicate 609 none
  statics := none }

def pool15 : Array CpInfo := pool [(1, .methodref 2 3), (0, .class_ 4), (0, .nameAndType 5 6), (0, u "java/lang/AbstractStringBuilder"), (0, u "<init>"), (0, u "(I)V"), (11, .class_ 20), (1, u "java/lang/String"), (3, .class_ 26), (1, u "java/lang/StringBuilder"), (0, u "append"), (0, u "(Ljava/lang/String;)Ljava/lang/StringBuilder;"), (0, .methodref 2 30), (0, .nameAndType 27 31), (0, u "(Ljava/lang/String;)Ljava/lang/AbstractStringBuilder;"), (105, .methodref 18 138), (0, .nameAndType 5 139), (0, u "(Ljava/lang/StringBuilder;)V"), (5, u "()V"), (10, u "()I"), (186, .methodref 2 344), (0, .nameAndType 345 156), (0, u "length"), (3, .class_ 350), (0, u "java/lang/Appendable"), (0, .class_ 352), (0, u "java/io/Serializable"), (0, .class_ 354), (0, u "java/lang/Comparable"), (0, .class_ 356), (0, u "java/lang/CharSequence"), (0, u "serialVersionUID"), (0, u "J"), (40, u "toString"), (0, u "()Ljava/lang/String;")] 21

def k15c0 : Code := { maxStack := 2, maxLocals := 1, code := jdk_67_method_1_code, exceptionTable := #[], attributes := #[] }
def k15m0 : Method := { name := "<init>", desc := "()V", sig := { parameters := [], returnType := none }, accessFlags := 1, code := some k15c0 }
def k15c1 : Code := { maxStack := 2, maxLocals := 2, code := jdk_67_method_7_code, exceptionTable := #[], attributes := #[] }
def k15m1 : Method := { name := "append", desc := "(Ljava/lang/String;)Ljava/lang/StringBuilder;", sig := { parameters := [(.object "java/lang/String")], returnType := some (.object "java/lang/StringBuilder") }, accessFlags := 1, code := some k15c1 }
def k15c2 : Code := { maxStack := 3, maxLocals := 1, code := jdk_67_method_42_code, exceptionTable := #[], attributes := #[] }
def k15m2 : Method := { name := "toString", desc := "()Ljava/lang/String;", sig := { parameters := [], returnType := some (.object "java/lang/String") }, accessFlags := 1, code := some k15c2 }
def k15c3 : Code := { maxStack := 1, maxLocals := 1, code := jdk_67_method_93_code, exceptionTable := #[], attributes := #[] }
def k15m3 : Method := { name := "length", desc := "()I", sig := { parameters := [], returnType := some .int }, accessFlags := 4161, code := some k15c3 }
/-- java/lang/StringBuilder -/
def k15 : Class := { plain "java/lang/StringBuilder" (some 14) with
  accessFlags := 49
  interfaces := #[13, 2, 3, 4]
  cf := some (fileOf pool15 24 #[] #[{ accessFlags := 1, nameIndex := 5, descriptorIndex := 145, attributes := #[] }, { accessFlags := 1, nameIndex := 27, descriptorIndex := 28, attributes := #[] }, { accessFlags := 1, nameIndex := 399, descriptorIndex := 400, attributes := #[] }, { accessFlags := 4161, nameIndex := 345, descriptorIndex := 156, attributes := #[] }] 49 2 #[349, 351, 353, 355] #[{ accessFlags := 24, nameIndex := 357, descriptorIndex := 358, attributes := #[] }])
  fields := #[{ name := "serialVersionUID", type := .long, accessFlags := 24, slot := 0, constantValue := 0 }]
  methods := #[k15m0, k15m1, k15m2, k15m3]
  instanceTypes := #[(.array .byte), .byte, .boolean, .int]
  staticTypes := #[.long]
  resolved := Array.replicate 422 none
  statics := none }

def pool16 : Array CpInfo := pool [(2, .class_ 4), (1, u "java/lang/Object"), (0, u "<init>"), (0, u "()V"), (1, .class_ 10), (1, u "java/lang/System"), (0, u "allowSecurityManager"), (0, u "I"), (16, u "cons"), (0, u "Ljava/io/Console;"), (77, .class_ 110), (1, u "java/lang/System$CallersHolder"), (43, u "initialErrStream"), (0, u "Ljava/io/PrintStream;"), (19, u "security"), (0, u "Ljava/lang/SecurityManager;"), (31, .class_ 209), (0, u "java/lang/System$1"), (7, u "props"), (0, u "Ljava/util/Properties;"), (2, u "lineSeparator"), (0, u "Ljava/lang/String;"), (96, .class_ 321), (1, u "java/lang/System$LoggerFinder"), (5, .class_ 328), (0, u "java/lang/System$Logger"), (67, u "err"), (2, u "out"), (91, u "notSupportedJnuEncoding"), (15, u "in"), (17, u "initialIn"), (0, u "Ljava/io/InputStream;"), (35, u "bootLayer"), (0, u "Ljava/lang/ModuleLayer;"), (99, .class_ 664), (0, u "java/lang/System$2"), (9, u "NEVER"), (2, u "MAYBE"), (49, u "arraycopy"), (0, u "(Ljava/lang/Object;ILjava/lang/Object;II)V"), (72, .class_ 802), (0, u "java/lang/System$Logger$Level")] 31

def k16m0 : Method := { name := "<init>", desc := "()V", sig := { parameters := [], returnType := none }, accessFlags := 2, code := none }
def k16m1 : Method := { name := "arraycopy", desc := "(Ljava/lang/Object;ILjava/lang/Object;II)V", sig := { parameters := [(.object "java/lang/Object"), .int, (.object "java/lang/Object"), .int, .int], returnType := none }, accessFlags := 265, code := none }
/-- java/lang/System -/
def k16 : Class := { plain "java/lang/System" (some 0) with
  accessFlags := 49
  interfaces := #[]
  cf := some (fileOf pool16 8 #[.nestMembers #[319, 327, 801, 108, 663, 208]] #[{ accessFlags := 2, nameIndex := 5, descriptorIndex := 6, attributes := #[] }, { accessFlags := 265, nameIndex := 727, descriptorIndex := 728, attributes := #[] }] 49 2 #[] #[{ accessFlags := 25, nameIndex := 507, descriptorIndex := 526, attributes := #[] }, { accessFlags := 25, nameIndex := 399, descriptorIndex := 155, attributes := #[] }, { accessFlags := 25, nameIndex := 396, descriptorIndex := 155, attributes := #[] }, { accessFlags := 10, nameIndex := 525, descriptorIndex := 526, attributes := #[] }, { accessFlags := 26, nameIndex := 674, descriptorIndex := 12, attributes := #[] }, { accessFlags := 26, nameIndex := 677, descriptorIndex := 12, attributes := #[] }, { accessFlags := 10, nameIndex := 11, descriptorIndex := 12, attributes := #[] }, { accessFlags := 74, nameIndex := 175, descriptorIndex := 176, attributes := #[] }, { accessFlags := 10, nameIndex := 491, descriptorIndex := 222, attributes := #[] }, { accessFlags := 74, nameIndex := 29, descriptorIndex := 30, attributes := #[] }, { accessFlags := 74, nameIndex := 154, descriptorIndex := 155, attributes := #[] }, { accessFlags := 10, nameIndex := 217, descriptorIndex := 218, attributes := #[] }, { accessFlags := 10, nameIndex := 221, descriptorIndex := 222, attributes := #[] }, { accessFlags := 8, nameIndex := 562, descriptorIndex := 563, attributes := #[] }])
  fields := #[{ name := "in", type := (.object "java/io/InputStream"), accessFlags := 25, slot := 0, constantValue := 0 }, { name := "out", type := (.object "java/io/PrintStream"), accessFlags := 25, slot := 1, constantValue := 0 }, { name := "err", type := (.object "java/io/PrintStream"), accessFlags := 25, slot := 2, constantValue := 0 }, { name := "initialIn", type := (.object "java/io/InputStream"), accessFlags := 10, slot := 3, constantValue := 0 }, { name := "NEVER", type := .int, accessFlags := 26, slot := 4, constantValue := 0 }, { name := "MAYBE", type := .int, accessFlags := 26, slot := 5, constantValue := 0 }, { name := "allowSecurityManager", type := .int, accessFlags := 10, slot := 6, constantValue := 0 }, { name := "security", type := (.object "java/lang/SecurityManager"), accessFlags := 74, slot := 7, constantValue := 0 }, { name := "notSupportedJnuEncoding", type := (.object "java/lang/String"), accessFlags := 10, slot := 8, constantValue := 0 }, { name := "cons", type := (.object "java/io/Console"), accessFlags := 74, slot := 9, constantValue := 0 }, { name := "initialErrStream", type := (.object "java/io/PrintStream"), accessFlags := 74, slot := 10, constantValue := 0 }, { name := "props", type := (.object "java/util/Properties"), accessFlags := 10, slot := 11, constantValue := 0 }, { name := "lineSeparator", type := (.object "java/lang/String"), accessFlags := 10, slot := 12, constantValue := 0 }, { name := "bootLayer", type := (.object "java/lang/ModuleLayer"), accessFlags := 8, slot := 13, constantValue := 0 }]
  methods := #[k16m0, k16m1]
  instanceTypes := #[]
  staticTypes := #[(.object "java/io/InputStream"), (.object "java/io/PrintStream"), (.object "java/io/PrintStream"), (.object "java/io/InputStream"), .int, .int, .int, (.object "java/lang/SecurityManager"), (.object "java/lang/String"), (.object "java/io/Console"), (.object "java/io/PrintStream"), (.object "java/util/Properties"), (.object "java/lang/String"), (.object "java/lang/ModuleLayer")]
  resolved := Array.replicate 834 none
  statics := none }

def pool17 : Array CpInfo := pool [(2, .class_ 4), (1, u "java/lang/Object"), (0, u "<init>"), (0, u "()V"), (7, .class_ 16), (1, u "java/util/Arrays"), (57, .class_ 76), (1, u "java/util/Arrays$NaturalOrder"), (36, .class_ 115), (1, u "java/util/Arrays$LegacyMergeSort"), (1, u "Z"), (21, u "copyOfRange"), (10, .methodref 151 152), (0, .class_ 153), (0, .nameAndType 154 155), (0, u "java/lang/System"), (0, u "arraycopy"), (0, u "(Ljava/lang/Object;ILjava/lang/Object;II)V"), (148, .methodref 305 306), (0, .class_ 307), (0, .nameAndType 308 309), (0, u "java/lang/Math"), (0, u "min"), (0, u "(II)I"), (29, .methodref 14 340), (0, .nameAndType 341 342), (0, u "copyOfRangeByte"), (0, u "([BII)[B"), (0, .methodref 14 344), (0, .nameAndType 345 346), (0, u "checkLength"), (0, u "(II)V"), (28, .class_ 376), (0, u "java/util/Arrays$ArrayList"), (68, u "$assertionsDisabled"), (269, u "MIN_ARRAY_SORT_GRAN"), (0, u "I"), (2, u "INSERTIONSORT_THRESHOLD"), (255, .class_ 976), (0, u "java/util/Arrays$ArrayItr")] 52

def k17m0 : Method := { name := "<init>", desc := "()V", sig := { parameters := [], returnType := none }, accessFlags := 2, code := none }
def k17c1 : Code := { maxStack := 4, maxLocals := 2, code := jdk_65_method_131_code, exceptionTable := #[], attributes := #[] }
def k17m1 : Method := { name := "checkLength", desc := "(II)V", sig := { parameters := [.int, .int], returnType := none }, accessFlags := 10, code := some k17c1 }
def k17c2 : Code := { maxStack := 3, maxLocals := 3, code := jdk_65_method_132_code, exceptionTable := #[], attributes := #[] }
def k17m2 : Method := { name := "copyOfRange", desc := "([BII)[B", sig := { parameters := [(.array .byte), .int, .int], returnType := some (.array .byte) }, accessFlags := 9, code := some k17c2 }
def k17c3 : Code := { maxStack := 6, maxLocals := 5, code := jdk_65_method_133_code, exceptionTable := #[], attributes := #[] }
def k17m3 : Method := { name := "copyOfRangeByte", desc := "([BII)[B", sig := { parameters := [(.array .byte), .int, .int], returnType := some (.array .byte) }, accessFlags := 10, code := some k17c3 }
/-- java/util/Arrays -/
def k17 : Class := { plain "java/util/Arrays" (some 0) with
  accessFlags := 49
  interfaces := #[]
  cf := some (fileOf pool17 14 #[.nestMembers #[975, 375, 113, 74]] #[{ accessFlags := 2, nameIndex := 5, descriptorIndex := 6, attributes := #[] }, { accessFlags := 10, nameIndex := 345, descriptorIndex := 346, attributes := #[] }, { accessFlags := 9, nameIndex := 139, descriptorIndex := 342, attributes := #[] }, { accessFlags := 10, nameIndex := 341, descriptorIndex := 342, attributes := #[] }] 49 2 #[] #[{ accessFlags := 26, nameIndex := 715, descriptorIndex := 716, attributes := #[] }, { accessFlags := 26, nameIndex := 719, descriptorIndex := 716, attributes := #[] }, { accessFlags := 4120, nameIndex := 445, descriptorIndex := 117, attributes := #[] }])
  fields := #[{ name := "MIN_ARRAY_SORT_GRAN", type := .int, accessFlags := 26, slot := 0, constantValue := 0 }, { name := "INSERTIONSORT_THRESHOLD", type := .int, accessFlags := 26, slot := 1, constantValue := 0 }, { name := "$assertionsDisabled", type := .boolean, accessFlags := 4120, slot := 2, constantValue := 0 }]
  methods := #[k17m0, k17m1, k17m2, k17m3]
  instanceTypes := #[]
  staticTypes := #[.int, .int, .boolean]
  resolved := Array.replicate 1029 none
  statics := none }

def pool18 : Array CpInfo := pool [(1, .class_ 2), (0, u "java/lang/Math"), (1, .class_ 6), (1, u "java/lang/Object"), (0, u "<init>"), (0, u "()V"), (89, .class_ 100), (1, u "java/lang/Math$RandomNumberGeneratorHolder"), (71, u "negativeZeroFloatBits"), (0, u "J"), (2, u "negativeZeroDoubleBits"), (24, u "min"), (43, u "$assertionsDisabled"), (0, u "Z"), (88, u "(II)I"), (2, u "twoToTheDoubleScaleDown"), (0, u "D"), (4, u "twoToTheDoubleScaleUp"), (9, u "E"), (3, u "PI"), (2, u "TAU"), (2, u "DEGREES_TO_RADIANS"), (0, u "RADIANS_TO_DEGREES")] 94

def k18m0 : Method := { name := "<init>", desc := "()V", sig := { parameters := [], returnType := none }, accessFlags := 2, code := none }
def k18c1 : Code := { maxStack := 2, maxLocals := 2, code := jdk_29_method_69_code, exceptionTable := #[], attributes := #[] }
def k18m1 : Method := { name := "min", desc := "(II)I", sig := { parameters := [.int, .int], returnType := some .int }, accessFlags := 9, code := some k18c1 }
/-- java/lang/Math -/
def k18 : Class := { plain "java/lang/Math" (some 0) with
  accessFlags := 49
  interfaces := #[]
  cf := some (fileOf pool18 1 #[.nestMembers #[98]] #[{ accessFlags := 2, nameIndex := 7, descriptorIndex := 8, attributes := #[] }, { accessFlags := 9, nameIndex := 201, descriptorIndex := 335, attributes := #[] }] 49 4 #[] #[{ accessFlags := 25, nameIndex := 354, descriptorIndex := 339, attributes := #[] }, { accessFlags := 25, nameIndex := 358, descriptorIndex := 339, attributes := #[] }, { accessFlags := 25, nameIndex := 361, descriptorIndex := 339, attributes := #[] }, { accessFlags := 26, nameIndex := 364, descriptorIndex := 339, attributes := #[] }, { accessFlags := 26, nameIndex := 365, descriptorIndex := 339, attributes := #[] }, { accessFlags := 26, nameIndex := 172, descriptorIndex := 173, attributes := #[] }, { accessFlags := 26, nameIndex := 176, descriptorIndex := 173, attributes := #[] }, { accessFlags := 8, nameIndex := 344, descriptorIndex := 339, attributes := #[] }, { accessFlags := 8, nameIndex := 338, descriptorIndex := 339, attributes := #[] }, { accessFlags := 4120, nameIndex := 245, descriptorIndex := 246, attributes := #[] }])
  fields := #[{ name := "E", type := .double, accessFlags := 25, slot := 0, constantValue := 0 }, { name := "PI", type := .double, accessFlags := 25, slot := 1, constantValue := 0 }, { name := "TAU", type := .double, accessFlags := 25, slot := 2, constantValue := 0 }, { name := "DEGREES_TO_RADIANS", type := .double, accessFlags := 26, slot := 3, constantValue := 0 }, { name := "RADIANS_TO_DEGREES", type := .double, accessFlags := 26, slot := 4, constantValue := 0 }, { name := "negativeZeroFloatBits", type := .long, accessFlags := 26, slot := 5, constantValue := 0 }, { name := "negativeZeroDoubleBits", type := .long, accessFlags := 26, slot := 6, constantValue := 0 }, { name := "twoToTheDoubleScaleUp", type := .double, accessFlags := 8, slot := 7, constantValue := 0 }, { name := "twoToTheDoubleScaleDown", type := .double, accessFlags := 8, slot := 8, constantValue := 0 }, { name := "$assertionsDisabled", type := .boolean, accessFlags := 4120, slot := 9, constantValue := 0 }]
  methods := #[k18m0, k18m1]
  instanceTypes := #[]
  staticTypes := #[.double, .double, .double, .double, .double, .long, .long, .double, .double, .boolean]
  resolved := Array.replicate 460 none
  statics := none }

def pool19 : Array CpInfo := pool [(2, .class_ 4), (1, u "java/lang/Object"), (0, u "<init>"), (0, u "()V"), (17, .class_ 26), (1, u "jdk/internal/util/Preconditions"), (28, .class_ 56), (0, u "jdk/internal/util/Preconditions$4"), (57, .class_ 115), (0, u "jdk/internal/util/Preconditions$1"), (7, u "SIOOBE_FORMATTER"), (0, u "Ljava/util/function/BiFunction;"), (0, .class_ 126), (0, u "jdk/internal/util/Preconditions$2"), (3, u "AIOOBE_FORMATTER"), (0, .class_ 132), (0, u "jdk/internal/util/Preconditions$3"), (3, u "IOOBE_FORMATTER")] 57

def k19m0 : Method := { name := "<init>", desc := "()V", sig := { parameters := [], returnType := none }, accessFlags := 1, code := none }
/-- jdk/internal/util/Preconditions -/
def k19 : Class := { plain "jdk/internal/util/Preconditions" (some 0) with
  accessFlags := 33
  interfaces := #[]
  cf := some (fileOf pool19 24 #[.nestMembers #[55, 131, 125, 114]] #[{ accessFlags := 1, nameIndex := 5, descriptorIndex := 6, attributes := #[] }] 33 2 #[] #[{ accessFlags := 25, nameIndex := 123, descriptorIndex := 124, attributes := #[] }, { accessFlags := 25, nameIndex := 130, descriptorIndex := 124, attributes := #[] }, { accessFlags := 25, nameIndex := 136, descriptorIndex := 124, attributes := #[] }])
  fields := #[{ name := "SIOOBE_FORMATTER", type := (.object "java/util/function/BiFunction"), accessFlags := 25, slot := 0, constantValue := 0 }, { name := "AIOOBE_FORMATTER", type := (.object "java/util/function/BiFunction"), accessFlags := 25, slot := 1, constantValue := 0 }, { name := "IOOBE_FORMATTER", type := (.object "java/util/function/BiFunction"), accessFlags := 25, slot := 2, constantValue := 0 }]
  methods := #[k19m0]
  instanceTypes := #[]
  staticTypes := #[(.object "java/util/function/BiFunction"), (.object "java/util/function/BiFunction"), (.object "java/util/function/BiFunction")]
  resolved := Array.replicate 194 none
  statics := some 1 }

def pool20 : Array CpInfo := pool [(9, u "<init>"), (6, .class_ 18), (1, u "java/lang/Object"), (0, u "()V"), (1, .class_ 23), (1, u "jdk/internal/util/ArraysSupport"), (0, u "LOG2_ARRAY_LONG_INDEX_SCALE"), (0, u "I"), (2, u "U"), (0, u "Ljdk/internal/misc/Unsafe;"), (8, u "BIG_ENDIAN"), (0, u "Z"), (8, u "LOG2_BYTE_BIT_SIZE"), (4, u "LOG2_ARRAY_INT_INDEX_SCALE"), (54, u "JLA"), (0, u "Ljdk/internal/access/JavaLangAccess;"), (11, u "LOG2_ARRAY_BOOLEAN_INDEX_SCALE"), (9, u "LOG2_ARRAY_BYTE_INDEX_SCALE"), (5, u "LOG2_ARRAY_CHAR_INDEX_SCALE"), (5, u "LOG2_ARRAY_SHORT_INDEX_SCALE"), (18, u "LOG2_ARRAY_FLOAT_INDEX_SCALE"), (24, u "LOG2_ARRAY_DOUBLE_INDEX_SCALE"), (89, u "T_BOOLEAN"), (2, u "T_CHAR"), (1, u "T_FLOAT"), (1, u "T_DOUBLE"), (1, u "T_BYTE"), (1, u "T_SHORT"), (1, u "T_INT"), (1, u "T_LONG"), (1, u "SOFT_MAX_ARRAY_LENGTH")] 83

def k20m0 : Method := { name := "<init>", desc := "()V", sig := { parameters := [], returnType := none }, accessFlags := 2, code := none }
/-- jdk/internal/util/ArraysSupport -/
def k20 : Class := { plain "jdk/internal/util/ArraysSupport" (some 0) with
  accessFlags := 33
  interfaces := #[]
  cf := some (fileOf pool20 21 #[] #[{ accessFlags := 2, nameIndex := 9, descriptorIndex := 19, attributes := #[] }] 33 16 #[] #[{ accessFlags := 24, nameIndex := 28, descriptorIndex := 29, attributes := #[] }, { accessFlags := 26, nameIndex := 38, descriptorIndex := 39, attributes := #[] }, { accessFlags := 25, nameIndex := 121, descriptorIndex := 25, attributes := #[] }, { accessFlags := 25, nameIndex := 131, descriptorIndex := 25, attributes := #[] }, { accessFlags := 25, nameIndex := 137, descriptorIndex := 25, attributes := #[] }, { accessFlags := 25, nameIndex := 143, descriptorIndex := 25, attributes := #[] }, { accessFlags := 25, nameIndex := 53, descriptorIndex := 25, attributes := #[] }, { accessFlags := 25, nameIndex := 24, descriptorIndex := 25, attributes := #[] }, { accessFlags := 25, nameIndex := 162, descriptorIndex := 25, attributes := #[] }, { accessFlags := 25, nameIndex := 187, descriptorIndex := 25, attributes := #[] }, { accessFlags := 26, nameIndex := 48, descriptorIndex := 25, attributes := #[] }, { accessFlags := 25, nameIndex := 277, descriptorIndex := 25, attributes := #[] }, { accessFlags := 25, nameIndex := 280, descriptorIndex := 25, attributes := #[] }, { accessFlags := 25, nameIndex := 282, descriptorIndex := 25, attributes := #[] }, { accessFlags := 25, nameIndex := 284, descriptorIndex := 25, attributes := #[] }, { accessFlags := 25, nameIndex := 286, descriptorIndex := 25, attributes := #[] }, { accessFlags := 25, nameIndex := 288, descriptorIndex := 25, attributes := #[] }, { accessFlags := 25, nameIndex := 290, descriptorIndex := 25, attributes := #[] }, { accessFlags := 25, nameIndex := 292, descriptorIndex := 25, attributes := #[] }, { accessFlags := 26, nameIndex := 108, descriptorIndex := 109, attributes := #[] }, { accessFlags := 25, nameIndex := 294, descriptorIndex := 25, attributes := #[] }])
  fields := #[{ name := "U", type := (.object "jdk/internal/misc/Unsafe"), accessFlags := 24, slot := 0, constantValue := 0 }, { name := "BIG_ENDIAN", type := .boolean, accessFlags := 26, slot := 1, constantValue := 0 }, { name := "LOG2_ARRAY_BOOLEAN_INDEX_SCALE", type := .int, accessFlags := 25, slot := 2, constantValue := 0 }, { name := "LOG2_ARRAY_BYTE_INDEX_SCALE", type := .int, accessFlags := 25, slot := 3, constantValue := 0 }, { name := "LOG2_ARRAY_CHAR_INDEX_SCALE", type := .int, accessFlags := 25, slot := 4, constantValue := 0 }, { name := "LOG2_ARRAY_SHORT_INDEX_SCALE", type := .int, accessFlags := 25, slot := 5, constantValue := 0 }, { name := "LOG2_ARRAY_INT_INDEX_SCALE", type := .int, accessFlags := 25, slot := 6, constantValue := 0 }, { name := "LOG2_ARRAY_LONG_INDEX_SCALE", type := .int, accessFlags := 25, slot := 7, constantValue := 0 }, { name := "LOG2_ARRAY_FLOAT_INDEX_SCALE", type := .int, accessFlags := 25, slot := 8, constantValue := 0 }, { name := "LOG2_ARRAY_DOUBLE_INDEX_SCALE", type := .int, accessFlags := 25, slot := 9, constantValue := 0 }, { name := "LOG2_BYTE_BIT_SIZE", type := .int, accessFlags := 26, slot := 10, constantValue := 0 }, { name := "T_BOOLEAN", type := .int, accessFlags := 25, slot := 11, constantValue := 0 }, { name := "T_CHAR", type := .int, accessFlags := 25, slot := 12, constantValue := 0 }, { name := "T_FLOAT", type := .int, accessFlags := 25, slot := 13, constantValue := 0 }, { name := "T_DOUBLE", type := .int, accessFlags := 25, slot := 14, constantValue := 0 }, { name := "T_BYTE", type := .int, accessFlags := 25, slot := 15, constantValue := 0 }, { name := "T_SHORT", type := .int, accessFlags := 25, slot := 16, constantValue := 0 }, { name := "T_INT", type := .int, accessFlags := 25, slot := 17, constantValue := 0 }, { name := "T_LONG", type := .int, accessFlags := 25, slot := 18, constantValue := 0 }, { name := "JLA", type := (.object "jdk/internal/access/JavaLangAccess"), accessFlags := 26, slot := 19, constantValue := 0 }, { name := "SOFT_MAX_ARRAY_LENGTH", type := .int, accessFlags := 25, slot := 20, constantValue := 0 }]
  methods := #[k20m0]
  instanceTypes := #[]
  staticTypes := #[(.object "jdk/internal/misc/Unsafe"), .boolean, .int, .int, .int, .int, .int, .int, .int, .int, .int, .int, .int, .int, .int, .int, .int, .int, .int, (.object "jdk/internal/access/JavaLangAccess"), .int]
  resolved := Array.replicate 378 none
  statics := none }

def pool21 : Array CpInfo := pool [(1, u "java/lang/Cloneable"), (0, .class_ 1), (0, u "java/lang/Object"), (0, .class_ 3)] 3

/-- java/lang/Cloneable -/
def k21 : Class := { plain "java/lang/Cloneable" (some 0) with
  accessFlags := 1537
  interfaces := #[]
  cf := some (fileOf pool21 2 #[] #[] 1537 4 #[] #[])
  fields := #[]
  methods := #[]
  instanceTypes := #[]
  staticTypes := #[]
  resolved := Array.replicate 8 none
  statics := none }

/-- the primitive byte -/
def k22 : Class := { plain "byte" none with kind := .primitive 'B', accessFlags := 0x411 }
/-- [B -/
def k23 : Class := { plain "[B" (some 0) with kind := .array 22 .byte, interfaces := #[21, 2], accessFlags := 1041 }

/-- the primitive char -/
def k24 : Class := { plain "char" none with kind := .primitive 'C', accessFlags := 0x411 }
/-- [C -/
def k25 : Class := { plain "[C" (some 0) with kind := .array 24 .char, interfaces := #[21, 2], accessFlags := 1041 }

/-- the primitive int -/
def k26 : Class := { plain "int" none with kind := .primitive 'I', accessFlags := 0x411 }
/-- [I -/
def k27 : Class := { plain "[I" (some 0) with kind := .array 26 .int, interfaces := #[21, 2], accessFlags := 1041 }

def heap : Heap := #[{ cls := 7, slots := #[.long 0, .int 1, .null, .int 0, .null, .int 0, .int 0], vm := .statics 7 },
  { cls := 19, slots := #[.null, .null, .null], vm := .statics 19 }]
def classes : Array Class := #[k0, k1, k2, k3, k4, k5, k6, k7, k8, k9, k10, k11, k12, k13, k14, k15, k16, k17, k18, k19, k20, k21, k22, k23, k24, k25, k26, k27]
def interned : List (Array UInt16 × Addr) := []
def slotsUsed : Nat := 10
def theMethod : MethodId := ⟨1, 1⟩
def args0 : Array Value := #[.int 16961, .int 17475, .int 1]
def aboutOver (below : List Frame) : State where
  vm := { classes := classes, interned := interned.toArray }
  heap := heap
  slotsUsed := slotsUsed
  threads := #[{ frames := .invoking theMethod args0 :: below }]
def below0 : List Frame := [.native { method := ⟨0, 0⟩, args := #[] }]
def about1 : State := aboutOver below0
def p0 : Program := .bare "" "" ""
def e0 : Env := launch0.env 0 0 0
theorem w_frames : about1.frames = Frame.invoking theMethod args0 :: below0 := rfl
set_option maxRecDepth 65536 in
theorem w_args : argsFit about1.vm theMethod args0 = true := by decide +kernel
set_option maxRecDepth 65536 in
theorem w_heap : heapFits about1 = true := by decide +kernel
set_option maxRecDepth 65536 in
theorem w_runnable : about1.curStatus? = some .runnable := by decide +kernel
set_option maxRecDepth 65536 in
theorem w_alone : about1.alone = true := by decide +kernel
set_option maxRecDepth 65536 in
theorem w_named : about1.methodNamed? x = some theMethod := by decide +kernel
set_option maxRecDepth 65536 in
theorem w_hears : about1.hears theMethod below0 = true := by decide +kernel
set_option maxRecDepth 65536 in
theorem w_ripe : about1.ripe theMethod args0 below0 = true := by decide +kernel
theorem w_running : about1.status = .running := rfl
set_option maxRecDepth 65536 in
theorem w_room : about1.hasRoom e0.platform room_1 = true :=
  launch0.hasRoom_least _ room_1 (by decide +kernel) (by decide +kernel) (by decide +kernel) (by decide +kernel) (by decide +kernel) (by decide +kernel)
theorem allAtoms_all (ts : List Jvm.Cond) (a : Array Jvm.Value) (st : Jvm.State) : (allAtoms ts).before a st = ts.all (fun c => c.before a st) := by
  induction ts with
  | nil => rfl
  | cons c t ih =>
    show (Jvm.Cond.and c (allAtoms t)).before a st = _
    rw [Jvm.Cond.before_and, ih, List.all_cons]
def words1 : List Jvm.Cond := Jvm.Cond.code x code maxLocals ret :: tables_1
/-- a 'code' word, met by the world's own term for the bytes: nothing is compared byte by byte -/
theorem code_word {y : MethodName} {bytes : ByteArray} {mx : Nat} {rt : Option FieldType} {a : Array Value} {s : State} {m : MethodId} {meth : Method} {c : Code} (h1 : s.methodNamed? y = some m) (h2 : s.vm.method? m = some meth) (h3 : meth.code = some c) (h4 : c.code = bytes)
    (h5 : (c.maxLocals == mx && c.exceptionTable.isEmpty && decide (c.maxStack ≤ mostOperands) && decide (meth.sig.returnType = rt) && !meth.locks && decide (parseMethodDescriptor y.desc = some meth.sig)) = true) : (Jvm.Cond.code y bytes mx rt).before a s = true := by
  simp only [Bool.and_eq_true, beq_iff_eq, Bool.not_eq_true', decide_eq_true_eq] at h5
  obtain ⟨⟨⟨⟨⟨g1, g2⟩, g3⟩, g4⟩, g5⟩, g6⟩ := h5
  simp [Cond.before, Cond.holds, Cond.value, h1, h2, h3, h4, g1, g2, g3, g4, g5, g6]
def isCode : Jvm.Cond → Bool
  | .code _ _ _ _ => true
  | _ => false
theorem all_split {L : List Jvm.Cond} {P : Jvm.Cond → Bool} (h1 : L.all (fun c => isCode c || P c) = true) (h2 : ∀ c ∈ L.filter isCode, P c = true) : L.all P = true := by
  refine List.all_eq_true.mpr fun c hc => ?_
  have h := List.all_eq_true.mp h1 c hc
  rcases Bool.eq_false_or_eq_true (isCode c) with hi | hi
  · exact h2 c (List.mem_filter.mpr ⟨hc, hi⟩)
  · simpa [hi] using h
set_option maxRecDepth 65536 in
theorem w_c0 : (Jvm.Cond.code x code maxLocals ret).before args0 about1 = true := code_word (m := ⟨1, 1⟩) (meth := k1m1) (c := k1c1) (by decide +kernel) rfl rfl rfl (by decide +kernel)
set_option maxRecDepth 65536 in
theorem w_c1 : (Jvm.Cond.code ({ cls := "java/lang/String", name := "valueOf", desc := "(C)Ljava/lang/String;" } : Jvm.MethodName) jdk_42_method_139_code (1 : Nat) (Option.some (Jvm.ClassFile.FieldType.object "java/lang/String"))).before args0 about1 = true := code_word (m := ⟨7, 6⟩) (meth := k7m6) (c := k7c6) (by decide +kernel) rfl rfl rfl (by decide +kernel)
set_option maxRecDepth 65536 in
theorem w_c2 : (Jvm.Cond.code ({ cls := "java/lang/StringLatin1", name := "canEncode", desc := "(C)Z" } : Jvm.MethodName) jdk_43_method_3_code (1 : Nat) (Option.some Jvm.ClassFile.FieldType.boolean)).before args0 about1 = true := code_word (m := ⟨8, 1⟩) (meth := k8m1) (c := k8c1) (by decide +kernel) rfl rfl rfl (by decide +kernel)
set_option maxRecDepth 65536 in
theorem w_c3 : (Jvm.Cond.code ({ cls := "java/lang/StringLatin1", name := "toBytes", desc := "(C)[B" } : Jvm.MethodName) jdk_43_method_46_code (1 : Nat) (Option.some (Jvm.ClassFile.FieldType.array Jvm.ClassFile.FieldType.byte))).before args0 about1 = true := code_word (m := ⟨8, 3⟩) (meth := k8m3) (c := k8c3) (by decide +kernel) rfl rfl rfl (by decide +kernel)
set_option maxRecDepth 65536 in
theorem w_c4 : (Jvm.Cond.code ({ cls := "java/lang/String", name := "<init>", desc := "([BB)V" } : Jvm.MethodName) jdk_42_method_151_code (3 : Nat) (Option.none : Option Jvm.ClassFile.FieldType)).before args0 about1 = true := code_word (m := ⟨7, 10⟩) (meth := k7m10) (c := k7c10) (by decide +kernel) rfl rfl rfl (by decide +kernel)
set_option maxRecDepth 65536 in
theorem w_c5 : (Jvm.Cond.code ({ cls := "java/lang/Object", name := "<init>", desc := "()V" } : Jvm.MethodName) object_method_1_code (1 : Nat) (Option.none : Option Jvm.ClassFile.FieldType)).before args0 about1 = true := code_word (m := ⟨0, 0⟩) (meth := k0m0) (c := k0c0) (by decide +kernel) rfl rfl rfl (by decide +kernel)
set_option maxRecDepth 65536 in
theorem w_c6 : (Jvm.Cond.code ({ cls := "java/lang/String", name := "<init>", desc := "([C)V" } : Jvm.MethodName) jdk_42_method_3_code (2 : Nat) (Option.none : Option Jvm.ClassFile.FieldType)).before args0 about1 = true := code_word (m := ⟨7, 1⟩) (meth := k7m1) (c := k7c1) (by decide +kernel) rfl rfl rfl (by decide +kernel)
set_option maxRecDepth 65536 in
theorem w_c7 : (Jvm.Cond.code ({ cls := "java/lang/String", name := "<init>", desc := "([CIILjava/lang/Void;)V" } : Jvm.MethodName) jdk_42_method_149_code (6 : Nat) (Option.none : Option Jvm.ClassFile.FieldType)).before args0 about1 = true := code_word (m := ⟨7, 8⟩) (meth := k7m8) (c := k7c8) (by decide +kernel) rfl rfl rfl (by decide +kernel)
set_option maxRecDepth 65536 in
theorem w_c8 : (Jvm.Cond.code ({ cls := "java/lang/StringUTF16", name := "compress", desc := "([CII)[B" } : Jvm.MethodName) jdk_52_method_16_code (6 : Nat) (Option.some (Jvm.ClassFile.FieldType.array Jvm.ClassFile.FieldType.byte))).before args0 about1 = true := code_word (m := ⟨9, 2⟩) (meth := k9m2) (c := k9c2) (by decide +kernel) rfl rfl rfl (by decide +kernel)
set_option maxRecDepth 65536 in
theorem w_c9 : (Jvm.Cond.code ({ cls := "java/lang/StringUTF16", name := "compress", desc := "([CI[BII)I" } : Jvm.MethodName) jdk_52_method_21_code (7 : Nat) (Option.some Jvm.ClassFile.FieldType.int)).before args0 about1 = true := code_word (m := ⟨9, 3⟩) (meth := k9m3) (c := k9c3) (by decide +kernel) rfl rfl rfl (by decide +kernel)
set_option maxRecDepth 65536 in
theorem w_c10 : (Jvm.Cond.code ({ cls := "java/lang/StringUTF16", name := "coderFromArrayLen", desc := "([BI)B" } : Jvm.MethodName) jdk_52_method_15_code (2 : Nat) (Option.some Jvm.ClassFile.FieldType.byte)).before args0 about1 = true := code_word (m := ⟨9, 1⟩) (meth := k9m1) (c := k9c1) (by decide +kernel) rfl rfl rfl (by decide +kernel)
set_option maxRecDepth 65536 in
theorem w_c11 : (Jvm.Cond.code ({ cls := "com/example/bluehead/bluehead/net/GroupName", name := "<init>", desc := "(Ljava/lang/String;Ljava/lang/String;)V" } : Jvm.MethodName) prog_25_method_1_code (3 : Nat) (Option.none : Option Jvm.ClassFile.FieldType)).before args0 about1 = true := code_word (m := ⟨11, 0⟩) (meth := k11m0) (c := k11c0) (by decide +kernel) rfl rfl rfl (by decide +kernel)
set_option maxRecDepth 65536 in
theorem w_c12 : (Jvm.Cond.code ({ cls := "java/lang/Record", name := "<init>", desc := "()V" } : Jvm.MethodName) jdk_30_method_1_code (1 : Nat) (Option.none : Option Jvm.ClassFile.FieldType)).before args0 about1 = true := code_word (m := ⟨10, 0⟩) (meth := k10m0) (c := k10c0) (by decide +kernel) rfl rfl rfl (by decide +kernel)
set_option maxRecDepth 65536 in
theorem w_c13 : (Jvm.Cond.code ({ cls := "java/util/Objects", name := "requireNonNull", desc := "(Ljava/lang/Object;Ljava/lang/String;)Ljava/lang/Object;" } : Jvm.MethodName) jdk_31_method_11_code (2 : Nat) (Option.some (Jvm.ClassFile.FieldType.object "java/lang/Object"))).before args0 about1 = true := code_word (m := ⟨12, 1⟩) (meth := k12m1) (c := k12c1) (by decide +kernel) rfl rfl rfl (by decide +kernel)
set_option maxRecDepth 65536 in
theorem w_c14 : (Jvm.Cond.code ({ cls := "java/lang/String", name := "isEmpty", desc := "()Z" } : Jvm.MethodName) jdk_42_method_55_code (1 : Nat) (Option.some Jvm.ClassFile.FieldType.boolean)).before args0 about1 = true := code_word (m := ⟨7, 4⟩) (meth := k7m4) (c := k7c4) (by decide +kernel) rfl rfl rfl (by decide +kernel)
set_option maxRecDepth 65536 in
theorem w_c15 : (Jvm.Cond.code ({ cls := "com/example/bluehead/bluehead/net/GroupName", name := "toString", desc := "()Ljava/lang/String;" } : Jvm.MethodName) prog_25_method_3_code (1 : Nat) (Option.some (Jvm.ClassFile.FieldType.object "java/lang/String"))).before args0 about1 = true := code_word (m := ⟨11, 1⟩) (meth := k11m1) (c := k11c1) (by decide +kernel) rfl rfl rfl (by decide +kernel)
set_option maxRecDepth 65536 in
theorem w_c16 : (Jvm.Cond.code ({ cls := "java/lang/StringBuilder", name := "<init>", desc := "()V" } : Jvm.MethodName) jdk_67_method_1_code (1 : Nat) (Option.none : Option Jvm.ClassFile.FieldType)).before args0 about1 = true := code_word (m := ⟨15, 0⟩) (meth := k15m0) (c := k15c0) (by decide +kernel) rfl rfl rfl (by decide +kernel)
set_option maxRecDepth 65536 in
theorem w_c17 : (Jvm.Cond.code ({ cls := "java/lang/AbstractStringBuilder", name := "<init>", desc := "(I)V" } : Jvm.MethodName) jdk_68_method_2_code (2 : Nat) (Option.none : Option Jvm.ClassFile.FieldType)).before args0 about1 = true := code_word (m := ⟨14, 1⟩) (meth := k14m1) (c := k14c1) (by decide +kernel) rfl rfl rfl (by decide +kernel)
set_option maxRecDepth 65536 in
theorem w_c18 : (Jvm.Cond.code ({ cls := "java/lang/StringBuilder", name := "append", desc := "(Ljava/lang/String;)Ljava/lang/StringBuilder;" } : Jvm.MethodName) jdk_67_method_7_code (2 : Nat) (Option.some (Jvm.ClassFile.FieldType.object "java/lang/StringBuilder"))).before args0 about1 = true := code_word (m := ⟨15, 1⟩) (meth := k15m1) (c := k15c1) (by decide +kernel) rfl rfl rfl (by decide +kernel)
set_option maxRecDepth 65536 in
theorem w_c19 : (Jvm.Cond.code ({ cls := "java/lang/AbstractStringBuilder", name := "append", desc := "(Ljava/lang/String;)Ljava/lang/AbstractStringBuilder;" } : Jvm.MethodName) jdk_68_method_22_code (3 : Nat) (Option.some (Jvm.ClassFile.FieldType.object "java/lang/AbstractStringBuilder"))).before args0 about1 = true := code_word (m := ⟨14, 4⟩) (meth := k14m4) (c := k14c4) (by decide +kernel) rfl rfl rfl (by decide +kernel)
set_option maxRecDepth 65536 in
theorem w_c20 : (Jvm.Cond.code ({ cls := "java/lang/String", name := "length", desc := "()I" } : Jvm.MethodName) jdk_42_method_54_code (1 : Nat) (Option.some Jvm.ClassFile.FieldType.int)).before args0 about1 = true := code_word (m := ⟨7, 3⟩) (meth := k7m3) (c := k7c3) (by decide +kernel) rfl rfl rfl (by decide +kernel)
set_option maxRecDepth 65536 in
theorem w_c21 : (Jvm.Cond.code ({ cls := "java/lang/String", name := "coder", desc := "()B" } : Jvm.MethodName) jdk_42_method_152_code (1 : Nat) (Option.some Jvm.ClassFile.FieldType.byte)).before args0 about1 = true := code_word (m := ⟨7, 11⟩) (meth := k7m11) (c := k7c11) (by decide +kernel) rfl rfl rfl (by decide +kernel)
set_option maxRecDepth 65536 in
theorem w_c22 : (Jvm.Cond.code ({ cls := "java/lang/AbstractStringBuilder", name := "ensureCapacityInternal", desc := "(I)V" } : Jvm.MethodName) jdk_68_method_9_code (3 : Nat) (Option.none : Option Jvm.ClassFile.FieldType)).before args0 about1 = true := code_word (m := ⟨14, 3⟩) (meth := k14m3) (c := k14c3) (by decide +kernel) rfl rfl rfl (by decide +kernel)
set_option maxRecDepth 65536 in
theorem w_c23 : (Jvm.Cond.code ({ cls := "java/lang/AbstractStringBuilder", name := "putStringAt", desc := "(ILjava/lang/String;)V" } : Jvm.MethodName) jdk_68_method_73_code (3 : Nat) (Option.none : Option Jvm.ClassFile.FieldType)).before args0 about1 = true := code_word (m := ⟨14, 8⟩) (meth := k14m8) (c := k14c8) (by decide +kernel) rfl rfl rfl (by decide +kernel)
set_option maxRecDepth 65536 in
theorem w_c24 : (Jvm.Cond.code ({ cls := "java/lang/AbstractStringBuilder", name := "inflateIfNeededFor", desc := "(Ljava/lang/String;)V" } : Jvm.MethodName) jdk_68_method_71_code (2 : Nat) (Option.none : Option Jvm.ClassFile.FieldType)).before args0 about1 = true := code_word (m := ⟨14, 7⟩) (meth := k14m7) (c := k14c7) (by decide +kernel) rfl rfl rfl (by decide +kernel)
set_option maxRecDepth 65536 in
theorem w_c25 : (Jvm.Cond.code ({ cls := "java/lang/String", name := "getBytes", desc := "([BIB)V" } : Jvm.MethodName) jdk_42_method_147_code (4 : Nat) (Option.none : Option Jvm.ClassFile.FieldType)).before args0 about1 = true := code_word (m := ⟨7, 7⟩) (meth := k7m7) (c := k7c7) (by decide +kernel) rfl rfl rfl (by decide +kernel)
set_option maxRecDepth 65536 in
theorem w_c26 : (Jvm.Cond.code ({ cls := "java/lang/StringBuilder", name := "toString", desc := "()Ljava/lang/String;" } : Jvm.MethodName) jdk_67_method_42_code (1 : Nat) (Option.some (Jvm.ClassFile.FieldType.object "java/lang/String"))).before args0 about1 = true := code_word (m := ⟨15, 2⟩) (meth := k15m2) (c := k15c2) (by decide +kernel) rfl rfl rfl (by decide +kernel)
set_option maxRecDepth 65536 in
theorem w_c27 : (Jvm.Cond.code ({ cls := "java/lang/String", name := "<init>", desc := "(Ljava/lang/StringBuilder;)V" } : Jvm.MethodName) jdk_42_method_53_code (2 : Nat) (Option.none : Option Jvm.ClassFile.FieldType)).before args0 about1 = true := code_word (m := ⟨7, 2⟩) (meth := k7m2) (c := k7c2) (by decide +kernel) rfl rfl rfl (by decide +kernel)
set_option maxRecDepth 65536 in
theorem w_c28 : (Jvm.Cond.code ({ cls := "java/lang/String", name := "<init>", desc := "(Ljava/lang/AbstractStringBuilder;Ljava/lang/Void;)V" } : Jvm.MethodName) jdk_42_method_150_code (5 : Nat) (Option.none : Option Jvm.ClassFile.FieldType)).before args0 about1 = true := code_word (m := ⟨7, 9⟩) (meth := k7m9) (c := k7c9) (by decide +kernel) rfl rfl rfl (by decide +kernel)
set_option maxRecDepth 65536 in
theorem w_c29 : (Jvm.Cond.code ({ cls := "java/lang/AbstractStringBuilder", name := "getValue", desc := "()[B" } : Jvm.MethodName) jdk_68_method_64_code (1 : Nat) (Option.some (Jvm.ClassFile.FieldType.array Jvm.ClassFile.FieldType.byte))).before args0 about1 = true := code_word (m := ⟨14, 5⟩) (meth := k14m5) (c := k14c5) (by decide +kernel) rfl rfl rfl (by decide +kernel)
set_option maxRecDepth 65536 in
theorem w_c30 : (Jvm.Cond.code ({ cls := "java/lang/StringBuilder", name := "length", desc := "()I" } : Jvm.MethodName) jdk_67_method_93_code (1 : Nat) (Option.some Jvm.ClassFile.FieldType.int)).before args0 about1 = true := code_word (m := ⟨15, 3⟩) (meth := k15m3) (c := k15c3) (by decide +kernel) rfl rfl rfl (by decide +kernel)
set_option maxRecDepth 65536 in
theorem w_c31 : (Jvm.Cond.code ({ cls := "java/lang/AbstractStringBuilder", name := "length", desc := "()I" } : Jvm.MethodName) jdk_68_method_6_code (1 : Nat) (Option.some Jvm.ClassFile.FieldType.int)).before args0 about1 = true := code_word (m := ⟨14, 2⟩) (meth := k14m2) (c := k14c2) (by decide +kernel) rfl rfl rfl (by decide +kernel)
set_option maxRecDepth 65536 in
theorem w_c32 : (Jvm.Cond.code ({ cls := "java/lang/AbstractStringBuilder", name := "isLatin1", desc := "()Z" } : Jvm.MethodName) jdk_68_method_68_code (1 : Nat) (Option.some Jvm.ClassFile.FieldType.boolean)).before args0 about1 = true := code_word (m := ⟨14, 6⟩) (meth := k14m6) (c := k14c6) (by decide +kernel) rfl rfl rfl (by decide +kernel)
set_option maxRecDepth 65536 in
theorem w_c33 : (Jvm.Cond.code ({ cls := "java/util/Arrays", name := "copyOfRange", desc := "([BII)[B" } : Jvm.MethodName) jdk_65_method_132_code (3 : Nat) (Option.some (Jvm.ClassFile.FieldType.array Jvm.ClassFile.FieldType.byte))).before args0 about1 = true := code_word (m := ⟨17, 2⟩) (meth := k17m2) (c := k17c2) (by decide +kernel) rfl rfl rfl (by decide +kernel)
set_option maxRecDepth 65536 in
theorem w_c34 : (Jvm.Cond.code ({ cls := "java/util/Arrays", name := "copyOfRangeByte", desc := "([BII)[B" } : Jvm.MethodName) jdk_65_method_133_code (5 : Nat) (Option.some (Jvm.ClassFile.FieldType.array Jvm.ClassFile.FieldType.byte))).before args0 about1 = true := code_word (m := ⟨17, 3⟩) (meth := k17m3) (c := k17c3) (by decide +kernel) rfl rfl rfl (by decide +kernel)
set_option maxRecDepth 65536 in
theorem w_c35 : (Jvm.Cond.code ({ cls := "java/util/Arrays", name := "checkLength", desc := "(II)V" } : Jvm.MethodName) jdk_65_method_131_code (2 : Nat) (Option.none : Option Jvm.ClassFile.FieldType)).before args0 about1 = true := code_word (m := ⟨17, 1⟩) (meth := k17m1) (c := k17c1) (by decide +kernel) rfl rfl rfl (by decide +kernel)
set_option maxRecDepth 65536 in
theorem w_c36 : (Jvm.Cond.code ({ cls := "java/lang/Math", name := "min", desc := "(II)I" } : Jvm.MethodName) jdk_29_method_69_code (2 : Nat) (Option.some Jvm.ClassFile.FieldType.int)).before args0 about1 = true := code_word (m := ⟨18, 1⟩) (meth := k18m1) (c := k18c1) (by decide +kernel) rfl rfl rfl (by decide +kernel)
set_option maxRecDepth 65536 in
theorem w_c37 : (Jvm.Cond.code ({ cls := "java/lang/String", name := "equals", desc := "(Ljava/lang/Object;)Z" } : Jvm.MethodName) jdk_42_method_66_code (3 : Nat) (Option.some Jvm.ClassFile.FieldType.boolean)).before args0 about1 = true := code_word (m := ⟨7, 5⟩) (meth := k7m5) (c := k7c5) (by decide +kernel) rfl rfl rfl (by decide +kernel)
set_option maxRecDepth 65536 in
theorem w_c38 : (Jvm.Cond.code ({ cls := "java/lang/StringLatin1", name := "equals", desc := "([B[B)Z" } : Jvm.MethodName) jdk_43_method_13_code (3 : Nat) (Option.some Jvm.ClassFile.FieldType.boolean)).before args0 about1 = true := code_word (m := ⟨8, 2⟩) (meth := k8m2) (c := k8c2) (by decide +kernel) rfl rfl rfl (by decide +kernel)
def codes1 : List Jvm.Cond := [Jvm.Cond.code x code maxLocals ret, Jvm.Cond.code ({ cls := "java/lang/String", name := "valueOf", desc := "(C)Ljava/lang/String;" } : Jvm.MethodName) jdk_42_method_139_code (1 : Nat) (Option.some (Jvm.ClassFile.FieldType.object "java/lang/String")), Jvm.Cond.code ({ cls := "java/lang/StringLatin1", name := "canEncode", desc := "(C)Z" } : Jvm.MethodName) jdk_43_method_3_code (1 : Nat) (Option.some Jvm.ClassFile.FieldType.boolean), Jvm.Cond.code ({ cls := "java/lang/StringLatin1", name := "toBytes", desc := "(C)[B" } : Jvm.MethodName) jdk_43_method_46_code (1 : Nat) (Option.some (Jvm.ClassFile.FieldType.array Jvm.ClassFile.FieldType.byte)), Jvm.Cond.code ({ cls := "java/lang/String", name := "<init>", desc := "([BB)V" } : Jvm.MethodName) jdk_42_method_151_code (3 : Nat) (Option.none : Option Jvm.ClassFile.FieldType), Jvm.Cond.code ({ cls := "java/lang/Object", name := "<init>", desc := "()V" } : Jvm.MethodName) object_method_1_code (1 : Nat) (Option.none : Option Jvm.ClassFile.FieldType), Jvm.Cond.code ({ cls := "java/lang/String", name := "<init>", desc := "([C)V" } : Jvm.MethodName) jdk_42_method_3_code (2 : Nat) (Option.none : Option Jvm.ClassFile.FieldType), Jvm.Cond.code ({ cls := "java/lang/String", name := "<init>", desc := "([CIILjava/lang/Void;)V" } : Jvm.MethodName) jdk_42_method_149_code (6 : Nat) (Option.none : Option Jvm.ClassFile.FieldType), Jvm.Cond.code ({ cls := "java/lang/StringUTF16", name := "compress", desc := "([CII)[B" } : Jvm.MethodName) jdk_52_method_16_code (6 : Nat) (Option.some (Jvm.ClassFile.FieldType.array Jvm.ClassFile.FieldType.byte)), Jvm.Cond.code ({ cls := "java/lang/StringUTF16", name := "compress", desc := "([CI[BII)I" } : Jvm.MethodName) jdk_52_method_21_code (7 : Nat) (Option.some Jvm.ClassFile.FieldType.int), Jvm.Cond.code ({ cls := "java/lang/StringUTF16", name := "coderFromArrayLen", desc := "([BI)B" } : Jvm.MethodName) jdk_52_method_15_code (2 : Nat) (Option.some Jvm.ClassFile.FieldType.byte), Jvm.Cond.code ({ cls := "com/example/bluehead/bluehead/net/GroupName", name := "<init>", desc := "(Ljava/lang/String;Ljava/lang/String;)V" } : Jvm.MethodName) prog_25_method_1_code (3 : Nat) (Option.none : Option Jvm.ClassFile.FieldType), Jvm.Cond.code ({ cls := "java/lang/Record", name := "<init>", desc := "()V" } : Jvm.MethodName) jdk_30_method_1_code (1 : Nat) (Option.none : Option Jvm.ClassFile.FieldType), Jvm.Cond.code ({ cls := "java/util/Objects", name := "requireNonNull", desc := "(Ljava/lang/Object;Ljava/lang/String;)Ljava/lang/Object;" } : Jvm.MethodName) jdk_31_method_11_code (2 : Nat) (Option.some (Jvm.ClassFile.FieldType.object "java/lang/Object")), Jvm.Cond.code ({ cls := "java/lang/String", name := "isEmpty", desc := "()Z" } : Jvm.MethodName) jdk_42_method_55_code (1 : Nat) (Option.some Jvm.ClassFile.FieldType.boolean), Jvm.Cond.code ({ cls := "com/example/bluehead/bluehead/net/GroupName", name := "toString", desc := "()Ljava/lang/String;" } : Jvm.MethodName) prog_25_method_3_code (1 : Nat) (Option.some (Jvm.ClassFile.FieldType.object "java/lang/String")), Jvm.Cond.code ({ cls := "java/lang/StringBuilder", name := "<init>", desc := "()V" } : Jvm.MethodName) jdk_67_method_1_code (1 : Nat) (Option.none : Option Jvm.ClassFile.FieldType), Jvm.Cond.code ({ cls := "java/lang/AbstractStringBuilder", name := "<init>", desc := "(I)V" } : Jvm.MethodName) jdk_68_method_2_code (2 : Nat) (Option.none : Option Jvm.ClassFile.FieldType), Jvm.Cond.code ({ cls := "java/lang/StringBuilder", name := "append", desc := "(Ljava/lang/String;)Ljava/lang/StringBuilder;" } : Jvm.MethodName) jdk_67_method_7_code (2 : Nat) (Option.some (Jvm.ClassFile.FieldType.object "java/lang/StringBuilder")), Jvm.Cond.code ({ cls := "java/lang/AbstractStringBuilder", name := "append", desc := "(Ljava/lang/String;)Ljava/lang/AbstractStringBuilder;" } : Jvm.MethodName) jdk_68_method_22_code (3 : Nat) (Option.some (Jvm.ClassFile.FieldType.object "java/lang/AbstractStringBuilder")), Jvm.Cond.code ({ cls := "java/lang/String", name := "length", desc := "()I" } : Jvm.MethodName) jdk_42_method_54_code (1 : Nat) (Option.some Jvm.ClassFile.FieldType.int), Jvm.Cond.code ({ cls := "java/lang/String", name := "coder", desc := "()B" } : Jvm.MethodName) jdk_42_method_152_code (1 : Nat) (Option.some Jvm.ClassFile.FieldType.byte), Jvm.Cond.code ({ cls := "java/lang/AbstractStringBuilder", name := "ensureCapacityInternal", desc := "(I)V" } : Jvm.MethodName) jdk_68_method_9_code (3 : Nat) (Option.none : Option Jvm.ClassFile.FieldType), Jvm.Cond.code ({ cls := "java/lang/AbstractStringBuilder", name := "putStringAt", desc := "(ILjava/lang/String;)V" } : Jvm.MethodName) jdk_68_method_73_code (3 : Nat) (Option.none : Option Jvm.ClassFile.FieldType), Jvm.Cond.code ({ cls := "java/lang/AbstractStringBuilder", name := "inflateIfNeededFor", desc := "(Ljava/lang/String;)V" } : Jvm.MethodName) jdk_68_method_71_code (2 : Nat) (Option.none : Option Jvm.ClassFile.FieldType), Jvm.Cond.code ({ cls := "java/lang/String", name := "getBytes", desc := "([BIB)V" } : Jvm.MethodName) jdk_42_method_147_code (4 : Nat) (Option.none : Option Jvm.ClassFile.FieldType), Jvm.Cond.code ({ cls := "java/lang/StringBuilder", name := "toString", desc := "()Ljava/lang/String;" } : Jvm.MethodName) jdk_67_method_42_code (1 : Nat) (Option.some (Jvm.ClassFile.FieldType.object "java/lang/String")), Jvm.Cond.code ({ cls := "java/lang/String", name := "<init>", desc := "(Ljava/lang/StringBuilder;)V" } : Jvm.MethodName) jdk_42_method_53_code (2 : Nat) (Option.none : Option Jvm.ClassFile.FieldType), Jvm.Cond.code ({ cls := "java/lang/String", name := "<init>", desc := "(Ljava/lang/AbstractStringBuilder;Ljava/lang/Void;)V" } : Jvm.MethodName) jdk_42_method_150_code (5 : Nat) (Option.none : Option Jvm.ClassFile.FieldType), Jvm.Cond.code ({ cls := "java/lang/AbstractStringBuilder", name := "getValue", desc := "()[B" } : Jvm.MethodName) jdk_68_method_64_code (1 : Nat) (Option.some (Jvm.ClassFile.FieldType.array Jvm.ClassFile.FieldType.byte)), Jvm.Cond.code ({ cls := "java/lang/StringBuilder", name := "length", desc := "()I" } : Jvm.MethodName) jdk_67_method_93_code (1 : Nat) (Option.some Jvm.ClassFile.FieldType.int), Jvm.Cond.code ({ cls := "java/lang/AbstractStringBuilder", name := "length", desc := "()I" } : Jvm.MethodName) jdk_68_method_6_code (1 : Nat) (Option.some Jvm.ClassFile.FieldType.int), Jvm.Cond.code ({ cls := "java/lang/AbstractStringBuilder", name := "isLatin1", desc := "()Z" } : Jvm.MethodName) jdk_68_method_68_code (1 : Nat) (Option.some Jvm.ClassFile.FieldType.boolean), Jvm.Cond.code ({ cls := "java/util/Arrays", name := "copyOfRange", desc := "([BII)[B" } : Jvm.MethodName) jdk_65_method_132_code (3 : Nat) (Option.some (Jvm.ClassFile.FieldType.array Jvm.ClassFile.FieldType.byte)), Jvm.Cond.code ({ cls := "java/util/Arrays", name := "copyOfRangeByte", desc := "([BII)[B" } : Jvm.MethodName) jdk_65_method_133_code (5 : Nat) (Option.some (Jvm.ClassFile.FieldType.array Jvm.ClassFile.FieldType.byte)), Jvm.Cond.code ({ cls := "java/util/Arrays", name := "checkLength", desc := "(II)V" } : Jvm.MethodName) jdk_65_method_131_code (2 : Nat) (Option.none : Option Jvm.ClassFile.FieldType), Jvm.Cond.code ({ cls := "java/lang/Math", name := "min", desc := "(II)I" } : Jvm.MethodName) jdk_29_method_69_code (2 : Nat) (Option.some Jvm.ClassFile.FieldType.int), Jvm.Cond.code ({ cls := "java/lang/String", name := "equals", desc := "(Ljava/lang/Object;)Z" } : Jvm.MethodName) jdk_42_method_66_code (3 : Nat) (Option.some Jvm.ClassFile.FieldType.boolean), Jvm.Cond.code ({ cls := "java/lang/StringLatin1", name := "equals", desc := "([B[B)Z" } : Jvm.MethodName) jdk_43_method_13_code (3 : Nat) (Option.some Jvm.ClassFile.FieldType.boolean)]
set_option maxRecDepth 65536 in
theorem codes_eq : words1.filter isCode = codes1 := rfl
theorem w_codes : ∀ c ∈ words1.filter isCode, c.before args0 about1 = true := by
  rw [codes_eq]
  intro c hc
  simp only [codes1, List.mem_cons, List.not_mem_nil, or_false] at hc
  rcases hc with rfl | rfl | rfl | rfl | rfl | rfl | rfl | rfl | rfl | rfl | rfl | rfl | rfl | rfl | rfl | rfl | rfl | rfl | rfl | rfl | rfl | rfl | rfl | rfl | rfl | rfl | rfl | rfl | rfl | rfl | rfl | rfl | rfl | rfl | rfl | rfl | rfl | rfl | rfl
  · exact w_c0
  · exact w_c1
  · exact w_c2
  · exact w_c3
  · exact w_c4
  · exact w_c5
  · exact w_c6
  · exact w_c7
  · exact w_c8
  · exact w_c9
  · exact w_c10
  · exact w_c11
  · exact w_c12
  · exact w_c13
  · exact w_c14
  · exact w_c15
  · exact w_c16
  · exact w_c17
  · exact w_c18
  · exact w_c19
  · exact w_c20
  · exact w_c21
  · exact w_c22
  · exact w_c23
  · exact w_c24
  · exact w_c25
  · exact w_c26
  · exact w_c27
  · exact w_c28
  · exact w_c29
  · exact w_c30
  · exact w_c31
  · exact w_c32
  · exact w_c33
  · exact w_c34
  · exact w_c35
  · exact w_c36
  · exact w_c37
  · exact w_c38
set_option maxRecDepth 65536 in
theorem w_t1 : (words1.take 24).all (fun c => isCode c || c.before args0 about1) = true := by decide +kernel
set_option maxRecDepth 65536 in
theorem w_t2 : ((words1.drop 24).take 24).all (fun c => isCode c || c.before args0 about1) = true := by decide +kernel
set_option maxRecDepth 65536 in
theorem w_t3 : (((words1.drop 24).drop 24).take 24).all (fun c => isCode c || c.before args0 about1) = true := by decide +kernel
set_option maxRecDepth 65536 in
theorem w_t4 : ((((words1.drop 24).drop 24).drop 24).take 24).all (fun c => isCode c || c.before args0 about1) = true := by decide +kernel
set_option maxRecDepth 65536 in
theorem w_t5 : (((((words1.drop 24).drop 24).drop 24).drop 24).take 24).all (fun c => isCode c || c.before args0 about1) = true := by decide +kernel
set_option maxRecDepth 65536 in
theorem w_t6 : ((((((words1.drop 24).drop 24).drop 24).drop 24).drop 24).take 24).all (fun c => isCode c || c.before args0 about1) = true := by decide +kernel
set_option maxRecDepth 65536 in
theorem w_t7 : (((((((words1.drop 24).drop 24).drop 24).drop 24).drop 24).drop 24).take 24).all (fun c => isCode c || c.before args0 about1) = true := by decide +kernel
set_option maxRecDepth 65536 in
theorem w_t8 : ((((((((words1.drop 24).drop 24).drop 24).drop 24).drop 24).drop 24).drop 24).take 24).all (fun c => isCode c || c.before args0 about1) = true := by decide +kernel
set_option maxRecDepth 65536 in
theorem w_t9 : ((((((((words1.drop 24).drop 24).drop 24).drop 24).drop 24).drop 24).drop 24).drop 24).all (fun c => isCode c || c.before args0 about1) = true := by decide +kernel
theorem w_tables : (allAtoms (Jvm.Cond.code x code maxLocals ret :: tables_1)).before args0 about1 = true := by
  rw [allAtoms_all]
  show words1.all (fun c => c.before args0 about1) = true
  refine all_split ?_ w_codes
  rw [← List.take_append_drop 24 words1, List.all_append, w_t1, ← List.take_append_drop 24 (words1.drop 24), List.all_append, w_t2, ← List.take_append_drop 24 ((words1.drop 24).drop 24), List.all_append, w_t3, ← List.take_append_drop 24 (((words1.drop 24).drop 24).drop 24), List.all_append, w_t4, ← List.take_append_drop 24 ((((words1.drop 24).drop 24).drop 24).drop 24), List.all_append, w_t5, ← List.take_append_drop 24 (((((words1.drop 24).drop 24).drop 24).drop 24).drop 24), List.all_append, w_t6, ← List.take_append_drop 24 ((((((words1.drop 24).drop 24).drop 24).drop 24).drop 24).drop 24), List.all_append, w_t7, ← List.take_append_drop 24 (((((((words1.drop 24).drop 24).drop 24).drop 24).drop 24).drop 24).drop 24), List.all_append, w_t8, w_t9]
  rfl
set_option maxRecDepth 65536 in
theorem w_rest : rest_1_c.before args0 about1 = true := by decide +kernel
set_option maxRecDepth 65536 in
theorem w_case : (Jvm.Cond.and given_1 narrow_1).before args0 about1 = true := by decide +kernel
set_option maxRecDepth 65536 in
theorem w_consts : constsHeld consts_1 about1 := Jvm.Lit.constsHeldB_iff.mp (by decide +kernel)
theorem w_applies : (headSpec (Jvm.Cond.code x code maxLocals ret :: tables_1) room_1).applies x e0.platform about1 = true :=
  (Spec.applies_iff w_frames).mpr ⟨w_running, w_runnable, w_alone, w_named, w_hears, w_ripe, w_room, w_tables⟩
theorem atStart : AtStart classFile x code maxLocals ret World_1 tables_1 room_1 Calls_1 rest_1 Pre_1 launch0 p0 e0 about1 theMethod args0 below0 :=
  ⟨lists_1, trivial, launch0.admits_env _ _ _, launch0.least_env, fairChoices_fair.cas, fairChoices_fair.clock, w_frames, w_args, w_heap, w_applies, ⟨w_consts, trivial⟩, w_rest, w_case⟩
end start1
theorem witness_1 : WitnessClaimed_1 := ⟨start1.p0, start1.e0, start1.about1, start1.theMethod, start1.args0, start1.below0, start1.atStart⟩
end Jvm.Pilot.@@N@@
