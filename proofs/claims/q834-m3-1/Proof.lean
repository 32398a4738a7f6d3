import JvmDerived
import JvmDerived.Pilot.@@N@@Statement
import JvmDerived.Pilot.@@N@@Code
set_option linter.unusedVariables false
set_option linter.unusedSimpArgs false
/- laws to paste: Road.lenW, Road.codOf, StrChars.pair_says, StrChars.narrow_ch, StrChars.shr1, StrChars.chr8_lo8, Road.low_at, Road.wide_hi (cut by pick.py; bodies as the Statement names them) -/
namespace Jvm.Pilot.@@N@@
namespace StrChars
open Jvm Sem ClassFile Op Lib Jvm.Stand Jvm.Free.XT Jvm.Free.ALB Jvm.Free.JM Jvm.Free
open Jvm.Lib.Cold (StaticIs)
/-- a char array whose places are chars -/
def Ch (a : Addr) (A : Cell) (U : State) : Prop := Arr .char a A U ∧ Typed .char A
theorem Ch.mv {a : Addr} {A : Cell} {U U' : State} (h : Ch a A U) (hal : U.vm.Alike U'.vm) (hh : U'.heap = U.heap) : Ch a A U' := ⟨h.1.mv hal hh, h.2⟩
theorem Ch.keep {a : Addr} {A : Cell} {U U' : State} (h : Ch a A U) (hal : U.vm.Alike U'.vm) (hk : U'.heap[a]? = some A) : Ch a A U' := ⟨h.1.keep hal hk, h.2⟩
/-- what place i of a char[]'s cell holds -/
def cv (A : Cell) (i : Nat) : Int32 := match A.slots[i]? with | some (.int x) => x | _ => 0
theorem Ch.get {a : Addr} {A : Cell} {U : State} (h : Ch a A U) {i : Nat} (hi : i < A.slots.size) : A.slots[i]? = some (.int (cv A i)) := by
  have e := Array.getElem?_eq_getElem hi
  have f := h.2 i _ e
  unfold cv; rw [e]
  generalize A.slots[i] = v at f
  cases v <;> simp [fits] at f ⊢
/-- the byte that i2b leaves of a char -/
def lo8 (x : Int32) : Int32 := x.toInt8.toInt32
theorem fits_lo8 (y : Int32) : fits .byte (.int (lo8 y)) = true := by
  have h1 := y.toInt8.le_toInt
  have h2 := y.toInt8.toInt_lt
  simp only [lo8, fits, Bool.and_eq_true, decide_eq_true_eq, Int32.le_iff_toInt_le, Int8.toInt_toInt32, show (-128 : Int32).toInt = -128 from by decide, show (127 : Int32).toInt = 127 from by decide]
  omega
/-- A' is A but that each place j of lo .. hi - 1 holds f j -/
def Laid (A A' : Cell) (lo hi : Nat) (f : Nat → Value) : Prop := A'.cls = A.cls ∧ A'.vm = A.vm ∧ A'.slots.size = A.slots.size ∧ ∀ i, A'.slots[i]? = if lo ≤ i ∧ i < hi then some (f i) else A.slots[i]?
theorem Laid.zero (A : Cell) (lo : Nat) (f : Nat → Value) : Laid A A lo (lo + 0) f := ⟨rfl, rfl, rfl, fun i => by rw [if_neg (by omega)]⟩
theorem Laid.step {A Ak : Cell} {lo k : Nat} {f : Nat → Value} {v : Value} (h : Laid A Ak lo k f) (hlo : lo ≤ k) (hk : k < Ak.slots.size) (hv : v = f k) : Laid A (Ak.setSlot k v) lo (k + 1) f := by
  refine ⟨h.1, h.2.1, by simpa [Cell.setSlot] using h.2.2.1, fun i => ?_⟩
  by_cases e : k = i
  · subst e; rw [Cell.slots_setSlot_self v hk, if_pos (by omega), hv]
  · rw [Cell.slots_setSlot_ne v e, h.2.2.2 i]
    by_cases q : lo ≤ i ∧ i < k
    · rw [if_pos q, if_pos (by omega)]
    · rw [if_neg q, if_neg (by omega)]
def U16 : String := "java/lang/StringUTF16"
namespace Cmp5
def yN : MethodName := ⟨"java/lang/StringUTF16", "compress", "([CI[BII)I"⟩
abbrev yB : ByteArray := jdk_52_method_21_code
theorem d0 : decode yB 0 = .ok (.iconst 0, 1) := by decide +kernel
theorem d1 : decode yB 1 = .ok (.istore 5, 2) := by decide +kernel
theorem d3 : decode yB 3 = .ok (.iload 5, 2) := by decide +kernel
theorem d5 : decode yB 5 = .ok (.iload 4, 2) := by decide +kernel
theorem d7 : decode yB 7 = .ok (.if_icmp (.ge) 37, 3) := by decide +kernel
theorem d10 : decode yB 10 = .ok (.aload_n 0, 1) := by decide +kernel
theorem d11 : decode yB 11 = .ok (.iload_n 1, 1) := by decide +kernel
theorem d12 : decode yB 12 = .ok (.caload, 1) := by decide +kernel
theorem d13 : decode yB 13 = .ok (.istore 6, 2) := by decide +kernel
theorem d15 : decode yB 15 = .ok (.iload 6, 2) := by decide +kernel
theorem d17 : decode yB 17 = .ok (.sipush 255, 3) := by decide +kernel
theorem d20 : decode yB 20 = .ok (.if_icmp (.le) 6, 3) := by decide +kernel
theorem d26 : decode yB 26 = .ok (.aload_n 2, 1) := by decide +kernel
theorem d27 : decode yB 27 = .ok (.iload_n 3, 1) := by decide +kernel
theorem d28 : decode yB 28 = .ok (.iload 6, 2) := by decide +kernel
theorem d30 : decode yB 30 = .ok (.i2b, 1) := by decide +kernel
theorem d31 : decode yB 31 = .ok (.bastore, 1) := by decide +kernel
theorem d32 : decode yB 32 = .ok (.iinc 1 1, 3) := by decide +kernel
theorem d35 : decode yB 35 = .ok (.iinc 3 1, 3) := by decide +kernel
theorem d38 : decode yB 38 = .ok (.iinc 5 1, 3) := by decide +kernel
theorem d41 : decode yB 41 = .ok (.goto (-38), 3) := by decide +kernel
theorem d44 : decode yB 44 = .ok (.iload 4, 2) := by decide +kernel
theorem d46 : decode yB 46 = .ok (.ireturn, 1) := by decide +kernel
def site : List Cond := []
def tab : Cond := tabOf yN yB 7 (some .int) site
def P (b : Addr) (A : Cell) (d : Addr) (B : Cell) (o q len : Nat) (args : Array Value) (s : State) : Prop := args = #[.ref b, .int (Int32.ofNat o), .ref d, .int (Int32.ofNat q), .int (Int32.ofNat len)] ∧ Ch b A s ∧ Arr .byte d B s ∧ b ≠ d ∧ o + len ≤ A.slots.size ∧ q + len ≤ B.slots.size ∧ ∀ i, i < len → ¬ 255 < cv A (o + i)
def E (b : Addr) (A : Cell) (d : Addr) (B : Cell) (o q len : Nat) (r : Option Value) (s u : State) : Prop := r = some (.int (Int32.ofNat len)) ∧ ∃ B', Put d B' s u ∧ Laid B B' q (q + len) (fun j => Value.int (lo8 (cv A (o + (j - q)))))
/-- no char of the range above 255: len; the places written hold each char's low byte -/
theorem law (l : Launch) (b : Addr) (A : Cell) (d : Addr) (B : Cell) (o q len : Nat) : Law l yN 5 5 0 0 yB 7 (some .int) site (P b A d B o q len) (E b A d B o q len) (copyLocs d q len) 0 0 := by
  refine Law.of_walk (plainFor_of_name (by decide +kernel)) (by decide +kernel) (by decide +kernel) (by decide) (fun _ _ h => by rw [h.1]; rfl) (fun _ U U' hal hh h => ⟨h.1, h.2.1.mv hal hh, h.2.2.1.mv hal hh, h.2.2.2⟩) (fun r U U' V V' h1 hal h2 h => ⟨h.1, h.2.elim fun B' q => ⟨B', q.1.mv h1 h2, q.2⟩⟩) ?_
  intro p e s m args below meth c s₁ X0 hexec hbytes hml hret hlk hnm hown hh0 W hP
  obtain ⟨rfl, hA, hB, hne, l1, l2, hp⟩ := hP
  have c1 : Steps p.tables e below (s₁.setTop (entryFrame m #[.ref b, .int (Int32.ofNat o), .ref d, .int (Int32.ofNat q), .int (Int32.ofNat len)] 7)) (s₁.setTop (mkF m 0 #[.val (.ref b), .val (.int (Int32.ofNat o)), .val (.ref d), .val (.int (Int32.ofNat q)), .val (.int (Int32.ofNat len)), .unset, .unset] [])) := entry rfl
  have hA0 := hA.1.mv X0.warmed.alike hh0
  have hB0 := hB.mv X0.warmed.alike hh0
  have a31 := hA.1.2.2.2
  have c2 : Steps p.tables e below (s₁.setTop (entryFrame m #[.ref b, .int (Int32.ofNat o), .ref d, .int (Int32.ofNat q), .int (Int32.ofNat len)] 7)) (s₁.setTop (mkF m 3 #[.val (.ref b), .val (.int (Int32.ofNat o)), .val (.ref d), .val (.int (Int32.ofNat q)), .val (.int (Int32.ofNat len)), .val (.int 0), .unset] [])) := c1.trans (by
    refine iconstV X0.here hexec rfl 0 (hb hbytes d0) (by decide) ?_
    refine XS.istore X0.here hexec rfl (hb hbytes d1) rfl rfl ?_
    exact Steps.refl _)
  have loop : ∀ (r i : Nat), i + r = len → ∀ (z : Slot), (z = .unset ∨ ∃ w, z = .val w ∧ w.category = 1) → ∀ (Tl : State) (Bk : Cell), Stand p l e { frames := 0, locals := 0, cells := 0, slots := 0 } s m #[.ref b, .int (Int32.ofNat o), .ref d, .int (Int32.ofNat q), .int (Int32.ofNat len)] below meth c Tl ([] ++ copyLocs d q i) 0 0 → Put d Bk s₁ Tl → Laid B Bk q (q + i) (fun j => Value.int (lo8 (cv A (o + (j - q))))) →
      Steps p.tables e below (s₁.setTop (entryFrame m #[.ref b, .int (Int32.ofNat o), .ref d, .int (Int32.ofNat q), .int (Int32.ofNat len)] 7)) (Tl.setTop (mkF m 3 #[.val (.ref b), .val (.int (Int32.ofNat (o + i))), .val (.ref d), .val (.int (Int32.ofNat (q + i))), .val (.int (Int32.ofNat len)), .val (.int (Int32.ofNat i)), z] [])) → ∃ (T' : State) (B' : Cell) (z' : Slot), Stand p l e { frames := 0, locals := 0, cells := 0, slots := 0 } s m #[.ref b, .int (Int32.ofNat o), .ref d, .int (Int32.ofNat q), .int (Int32.ofNat len)] below meth c T' ([] ++ copyLocs d q len) 0 0 ∧ Put d B' s₁ T' ∧ Laid B B' q (q + len) (fun j => Value.int (lo8 (cv A (o + (j - q))))) ∧
      Steps p.tables e below (s₁.setTop (entryFrame m #[.ref b, .int (Int32.ofNat o), .ref d, .int (Int32.ofNat q), .int (Int32.ofNat len)] 7)) (T'.setTop (mkF m 3 #[.val (.ref b), .val (.int (Int32.ofNat (o + len))), .val (.ref d), .val (.int (Int32.ofNat (q + len))), .val (.int (Int32.ofNat len)), .val (.int (Int32.ofNat len)), z'] [])) := by
    intro r
    induction r with
    | zero =>
      intro i hi z hz Tl Bk Xl pl fl cl
      have hil : i = len := by omega
      rw [hil] at Xl fl cl
      exact ⟨Tl, Bk, z, Xl, pl, fl, cl⟩
    | succ r ih =>
      intro i hi z hz Tl Bk Xl pl fl cl
      have all := X0.warmed.alike.symm.trans Xl.warmed.alike
      have hAl := hA0.keep all (pl.other hne hA0.1)
      have hBk := hB0.like all pl.1 fl.1 fl.2.1 fl.2.2.1
      have hlt : q + i < Bk.slots.size := by rw [fl.2.2.1]; omega
      have c3 : Steps p.tables e below (s₁.setTop (entryFrame m #[.ref b, .int (Int32.ofNat o), .ref d, .int (Int32.ofNat q), .int (Int32.ofNat len)] 7)) (Tl.setTop (mkF m 12 #[.val (.ref b), .val (.int (Int32.ofNat (o + i))), .val (.ref d), .val (.int (Int32.ofNat (q + i))), .val (.int (Int32.ofNat len)), .val (.int (Int32.ofNat i)), z] [.int (Int32.ofNat (o + i)), .ref b])) := cl.trans (by
        refine XS.iload Xl.here hexec rfl (hb hbytes d3) rfl ?_
        refine XS.iload Xl.here hexec rfl (hb hbytes d5) rfl ?_
        refine XS.icmpNo Xl.here hexec rfl (hb hbytes d7) rfl (ii_ge_f (lt32 (by omega) (by omega))) ?_
        refine XS.aloadN Xl.here hexec rfl (hb hbytes d10) rfl rfl ?_
        refine XS.iloadN Xl.here hexec rfl (hb hbytes d11) rfl ?_
        exact Steps.refl _)
      have c4 : Steps p.tables e below (s₁.setTop (entryFrame m #[.ref b, .int (Int32.ofNat o), .ref d, .int (Int32.ofNat q), .int (Int32.ofNat len)] 7)) (Tl.setTop (mkF m 13 #[.val (.ref b), .val (.int (Int32.ofNat (o + i))), .val (.ref d), .val (.int (Int32.ofNat (q + i))), .val (.int (Int32.ofNat len)), .val (.int (Int32.ofNat i)), z] [.int (cv A (o + i))])) := c3.trans (by
        refine Xl.aget hexec hAl rfl (hA.get (i := o + i) (by omega)) rfl rfl (hb hbytes d12) ?_
        exact Steps.refl _)
      have c5 : Steps p.tables e below (s₁.setTop (entryFrame m #[.ref b, .int (Int32.ofNat o), .ref d, .int (Int32.ofNat q), .int (Int32.ofNat len)] 7)) (Tl.setTop (mkF m 15 #[.val (.ref b), .val (.int (Int32.ofNat (o + i))), .val (.ref d), .val (.int (Int32.ofNat (q + i))), .val (.int (Int32.ofNat len)), .val (.int (Int32.ofNat i)), .val (.int (cv A (o + i)))] [])) := c4.trans (by
        refine XS.istoreS Xl.here hexec rfl (hb hbytes d13) rfl rfl hz ?_
        exact Steps.refl _)
      have c6 : Steps p.tables e below (s₁.setTop (entryFrame m #[.ref b, .int (Int32.ofNat o), .ref d, .int (Int32.ofNat q), .int (Int32.ofNat len)] 7)) (Tl.setTop (mkF m 31 #[.val (.ref b), .val (.int (Int32.ofNat (o + i))), .val (.ref d), .val (.int (Int32.ofNat (q + i))), .val (.int (Int32.ofNat len)), .val (.int (Int32.ofNat i)), .val (.int (cv A (o + i)))] [.int (lo8 (cv A (o + i))), .int (Int32.ofNat (q + i)), .ref d])) := c5.trans (by
        refine XS.iload Xl.here hexec rfl (hb hbytes d15) rfl ?_
        refine sipushV Xl.here hexec rfl 255 (hb hbytes d17) (by decide) ?_
        refine XS.icmpYes Xl.here hexec rfl (pc0 := 20) rfl (hb hbytes d20) rfl (ii_le_t (hp i (by omega))) (by decide) rfl ?_
        refine XS.aloadN Xl.here hexec rfl (hb hbytes d26) rfl rfl ?_
        refine XS.iloadN Xl.here hexec rfl (hb hbytes d27) rfl ?_
        refine XS.iload Xl.here hexec rfl (hb hbytes d28) rfl ?_
        refine i2b Xl.here hexec rfl (hb hbytes d30) rfl ?_
        exact Steps.refl _)
      obtain ⟨T7, X7, p7, st7⟩ := Xl.aput hexec hBk rfl hlt rfl (fits_lo8 (cv A (o + i))) (g := (mkF m 31 #[.val (.ref b), .val (.int (Int32.ofNat (o + i))), .val (.ref d), .val (.int (Int32.ofNat (q + i))), .val (.int (Int32.ofNat len)), .val (.int (Int32.ofNat i)), .val (.int (cv A (o + i)))] [.int (lo8 (cv A (o + i))), .int (Int32.ofNat (q + i)), .ref d])) rfl (rest := []) rfl (hb hbytes d31)
      have c8 : Steps p.tables e below (s₁.setTop (entryFrame m #[.ref b, .int (Int32.ofNat o), .ref d, .int (Int32.ofNat q), .int (Int32.ofNat len)] 7)) (T7.setTop (mkF m 32 #[.val (.ref b), .val (.int (Int32.ofNat (o + i))), .val (.ref d), .val (.int (Int32.ofNat (q + i))), .val (.int (Int32.ofNat len)), .val (.int (Int32.ofNat i)), .val (.int (cv A (o + i)))] [])) := c6.trans (st7 _ (Steps.refl _))
      have c9 : Steps p.tables e below (s₁.setTop (entryFrame m #[.ref b, .int (Int32.ofNat o), .ref d, .int (Int32.ofNat q), .int (Int32.ofNat len)] 7)) (T7.setTop (mkF m 3 #[.val (.ref b), .val (.int (Int32.ofNat (o + i) + 1)), .val (.ref d), .val (.int (Int32.ofNat (q + i) + 1)), .val (.int (Int32.ofNat len)), .val (.int (Int32.ofNat i + 1)), .val (.int (cv A (o + i)))] [])) := c8.trans (by
        refine iincV X7.here hexec rfl 1 (hb hbytes d32) (by decide) rfl rfl ?_
        refine iincV X7.here hexec rfl 1 (hb hbytes d35) (by decide) rfl rfl ?_
        refine iincV X7.here hexec rfl 1 (hb hbytes d38) (by decide) rfl rfl ?_
        refine XS.goto X7.here hexec rfl (pc0 := 41) rfl (hb hbytes d41) (by decide) rfl ?_
        exact Steps.refl _)
      have c10 : Steps p.tables e below (s₁.setTop (entryFrame m #[.ref b, .int (Int32.ofNat o), .ref d, .int (Int32.ofNat q), .int (Int32.ofNat len)] 7)) (T7.setTop (mkF m 3 #[.val (.ref b), .val (.int (Int32.ofNat (o + (i + 1)))), .val (.ref d), .val (.int (Int32.ofNat (q + (i + 1)))), .val (.int (Int32.ofNat len)), .val (.int (Int32.ofNat (i + 1))), .val (.int (cv A (o + i)))] [])) := by
        have := c9
        rw [succ32, succ32, succ32] at this
        exact this
      exact ih (i + 1) (by omega) _ (Or.inr ⟨_, rfl, rfl⟩) T7 _ (by rw [copyLocs_step, ← List.append_assoc]; exact X7) (pl.trans p7) (fl.step (by omega) hlt (by simp)) c10
  obtain ⟨T9, B9, z9, X9, p9, f9, g9⟩ := loop len 0 (by omega) .unset (Or.inl rfl) s₁ B (by simpa [copyLocs] using X0) ⟨hB0.1, fun _ _ => rfl, rfl⟩ (Laid.zero _ _ _) c2
  have c11 : Steps p.tables e below (s₁.setTop (entryFrame m #[.ref b, .int (Int32.ofNat o), .ref d, .int (Int32.ofNat q), .int (Int32.ofNat len)] 7)) (T9.setTop (mkF m 46 #[.val (.ref b), .val (.int (Int32.ofNat (o + len))), .val (.ref d), .val (.int (Int32.ofNat (q + len))), .val (.int (Int32.ofNat len)), .val (.int (Int32.ofNat len)), z9] [.int (Int32.ofNat len)])) := g9.trans (by
    refine XS.iload X9.here hexec rfl (hb hbytes d3) rfl ?_
    refine XS.iload X9.here hexec rfl (hb hbytes d5) rfl ?_
    refine XS.icmpYes X9.here hexec rfl (pc0 := 7) rfl (hb hbytes d7) rfl (ii_ge_t (nlt32 (by omega) (Nat.le_refl _))) (by decide) rfl ?_
    refine XS.iload X9.here hexec rfl (hb hbytes d44) rfl ?_
    exact Steps.refl _)
  exact ⟨T9, some (.int (Int32.ofNat len)), _, _, _, X9, by simp, rfl, rfl, (fun h => by cases h), ⟨rfl, B9, p9.from hh0, f9⟩, fun fs hl => c11.trans (X9.ireturnOut hexec hret rfl (Or.inl rfl) (hb hbytes d46) hl)⟩
end Cmp5
namespace Cmp3
def yN : MethodName := ⟨"java/lang/StringUTF16", "compress", "([CII)[B"⟩
abbrev yB : ByteArray := jdk_52_method_16_code
theorem d0 : decode yB 0 = .ok (.iload_n 2, 1) := by decide +kernel
theorem d1 : decode yB 1 = .ok (.newarray .byte, 2) := by decide +kernel
theorem d3 : decode yB 3 = .ok (.astore_n 3, 1) := by decide +kernel
theorem d4 : decode yB 4 = .ok (.aload_n 0, 1) := by decide +kernel
theorem d5 : decode yB 5 = .ok (.iload_n 1, 1) := by decide +kernel
theorem d6 : decode yB 6 = .ok (.aload_n 3, 1) := by decide +kernel
theorem d7 : decode yB 7 = .ok (.iconst 0, 1) := by decide +kernel
theorem d8 : decode yB 8 = .ok (.iload_n 2, 1) := by decide +kernel
theorem d9 : decode yB 9 = .ok (.invokestatic 115, 3) := by decide +kernel
theorem d12 : decode yB 12 = .ok (.istore 4, 2) := by decide +kernel
theorem d14 : decode yB 14 = .ok (.iload 4, 2) := by decide +kernel
theorem d16 : decode yB 16 = .ok (.iload_n 2, 1) := by decide +kernel
theorem d17 : decode yB 17 = .ok (.if_icmp (.eq) 40, 3) := by decide +kernel
theorem d57 : decode yB 57 = .ok (.aload_n 3, 1) := by decide +kernel
theorem d58 : decode yB 58 = .ok (.areturn, 1) := by decide +kernel
def site : List Cond := [.arrayClass .byte, Cmp5.tab] ++ staticW U16 115 Cmp5.yN
def tab : Cond := tabOf yN yB 6 (some (.array .byte)) site
def P (b : Addr) (A : Cell) (o len : Nat) (args : Array Value) (s : State) : Prop := args = #[.ref b, .int (Int32.ofNat o), .int (Int32.ofNat len)] ∧ Ch b A s ∧ o + len ≤ A.slots.size ∧ len ≤ 536870912 ∧ ∀ i, i < len → ¬ 255 < cv A (o + i)
def E (b : Addr) (A : Cell) (o len : Nat) (r : Option Value) (s u : State) : Prop := NewArr .byte "[B" len (fun j => .int (lo8 (cv A (o + j)))) r s u ∧ u.heap.size = s.heap.size + 1
/-- no char of the range above 255: a new byte[] of their low bytes -/
theorem law (l : Launch) (b : Addr) (A : Cell) (o len : Nat) : Law l yN 3 3 1 18 yB 6 (some (.array .byte)) site (P b A o len) (E b A o len) [] 1 len := by
  refine Law.of_walk (plainFor_of_name (by decide +kernel)) (by decide +kernel) (by decide +kernel) (by decide) (fun _ _ h => by rw [h.1]; rfl) (fun _ U U' hal hh h => ⟨h.1, h.2.1.mv hal hh, h.2.2⟩) (fun r U U' V V' h1 hal h2 h => ⟨NewArr.mv r U U' V V' h1 hal h2 h.1, by rw [h1, h2]; exact h.2⟩) ?_
  intro p e s m args below meth c s₁ X0 hexec hbytes hml hret hlk hnm hown hh0 W hP
  obtain ⟨rfl, hA, l1, l2, hp⟩ := hP
  have a31 := hA.1.2.2.2
  have c1 : Steps p.tables e below (s₁.setTop (entryFrame m #[.ref b, .int (Int32.ofNat o), .int (Int32.ofNat len)] 6)) (s₁.setTop (mkF m 0 #[.val (.ref b), .val (.int (Int32.ofNat o)), .val (.int (Int32.ofNat len)), .unset, .unset, .unset] [])) := entry rfl
  have c2 : Steps p.tables e below (s₁.setTop (entryFrame m #[.ref b, .int (Int32.ofNat o), .int (Int32.ofNat len)] 6)) (s₁.setTop (mkF m 1 #[.val (.ref b), .val (.int (Int32.ofNat o)), .val (.int (Int32.ofNat len)), .unset, .unset, .unset] [.int (Int32.ofNat len)])) := c1.trans (by
    refine XS.iloadN X0.here hexec rfl (hb hbytes d0) rfl ?_
    exact Steps.refl _)
  obtain ⟨T3, B3, X3, ba3, bs3, bv3, bh3, bf3, st3⟩ := X0.anew hexec (atype := .byte) (wk W (.arrayClass .byte)) rfl (by show len * 1 ≤ _; omega) (by omega) (g := (mkF m 1 #[.val (.ref b), .val (.int (Int32.ofNat o)), .val (.int (Int32.ofNat len)), .unset, .unset, .unset] [.int (Int32.ofNat len)])) rfl (hb hbytes d1) (rest := []) rfl (Nat.le_refl _) (by show 0 + len ≤ len; omega)
  rw [hh0] at ba3 st3
  have kp3 : XT.Kept s T3 := (XT.Kept.of_eq hh0).push bh3
  have hA3 := hA.keep X3.warmed.alike (kp3 _ _ hA.1.1)
  have hne : b ≠ s.heap.size := hA.1.ne
  have c4 : Steps p.tables e below (s₁.setTop (entryFrame m #[.ref b, .int (Int32.ofNat o), .int (Int32.ofNat len)] 6)) (T3.setTop (mkF m 3 #[.val (.ref b), .val (.int (Int32.ofNat o)), .val (.int (Int32.ofNat len)), .unset, .unset, .unset] [.ref s.heap.size])) := c2.trans (st3 _ (Steps.refl _))
  have c5 : Steps p.tables e below (s₁.setTop (entryFrame m #[.ref b, .int (Int32.ofNat o), .int (Int32.ofNat len)] 6)) (T3.setTop (mkF m 9 #[.val (.ref b), .val (.int (Int32.ofNat o)), .val (.int (Int32.ofNat len)), .val (.ref s.heap.size), .unset, .unset] [.int (Int32.ofNat len), .int 0, .ref s.heap.size, .int (Int32.ofNat o), .ref b])) := c4.trans (by
    refine XS.astoreN X3.here hexec rfl (hb hbytes d3) rfl rfl rfl ?_
    refine XS.aloadN X3.here hexec rfl (hb hbytes d4) rfl rfl ?_
    refine XS.iloadN X3.here hexec rfl (hb hbytes d5) rfl ?_
    refine XS.aloadN X3.here hexec rfl (hb hbytes d6) rfl rfl ?_
    refine iconstV X3.here hexec rfl 0 (hb hbytes d7) (by decide) ?_
    refine XS.iloadN X3.here hexec rfl (hb hbytes d8) rfl ?_
    exact Steps.refl _)
  obtain ⟨v6, T6, X6, E6, g6⟩ := X3.callS hexec (Cmp5.law l b A s.heap.size B3 o 0 len) hown (wks W (staticW U16 115 Cmp5.yN)) (wk W Cmp5.tab) (W := 0) (Nat.le_of_ble_eq_true rfl) (Nat.le_of_ble_eq_true rfl) (Nat.le_refl _) (by show 0 + len + 0 ≤ len; omega) (g := (mkF m 9 #[.val (.ref b), .val (.int (Int32.ofNat o)), .val (.int (Int32.ofNat len)), .val (.ref s.heap.size), .unset, .unset] [.int (Int32.ofNat len), .int (Int32.ofNat 0), .ref s.heap.size, .int (Int32.ofNat o), .ref b])) rfl (by rw [hml]; rfl) c5 (argsL := [.ref b, .int (Int32.ofNat o), .ref s.heap.size, .int (Int32.ofNat 0), .int (Int32.ofNat len)]) (rest := []) rfl rfl (by show 2 * 0 + 0 ≤ _; decide) (hb hbytes d9) (⟨rfl, hA3, ba3, hne, l1, by rw [bs3]; simp, hp⟩)
  obtain ⟨rfl, B6, p6, f6⟩ := E6
  have c7 : Steps p.tables e below (s₁.setTop (entryFrame m #[.ref b, .int (Int32.ofNat o), .int (Int32.ofNat len)] 6)) (T6.setTop (mkF m 12 #[.val (.ref b), .val (.int (Int32.ofNat o)), .val (.int (Int32.ofNat len)), .val (.ref s.heap.size), .unset, .unset] [.int (Int32.ofNat len)])) := g6
  have c8 : Steps p.tables e below (s₁.setTop (entryFrame m #[.ref b, .int (Int32.ofNat o), .int (Int32.ofNat len)] 6)) (T6.setTop (mkF m 58 #[.val (.ref b), .val (.int (Int32.ofNat o)), .val (.int (Int32.ofNat len)), .val (.ref s.heap.size), .val (.int (Int32.ofNat len)), .unset] [.ref s.heap.size])) := c7.trans (by
    refine XS.istore X6.here hexec rfl (hb hbytes d12) rfl rfl ?_
    refine XS.iload X6.here hexec rfl (hb hbytes d14) rfl ?_
    refine XS.iloadN X6.here hexec rfl (hb hbytes d16) rfl ?_
    refine XS.icmpYes X6.here hexec rfl (pc0 := 17) rfl (hb hbytes d17) rfl (ii_eq_t rfl) (by decide) rfl ?_
    refine XS.aloadN X6.here hexec rfl (hb hbytes d57) rfl rfl ?_
    exact Steps.refl _)
  have X8 := X6.wide (L' := []) (cells' := 1) (slots' := len) (fun x hx hlt => by
    simp only [List.nil_append, copyLocs, List.mem_map, List.mem_range] at hx
    obtain ⟨i, -, rfl⟩ := hx
    exact absurd hlt (Nat.lt_irrefl _)) (Nat.le_refl _) (by omega)
  exact ⟨T6, some (.ref s.heap.size), _, _, _, X8, rfl, rfl, rfl, (fun h => by cases h), ⟨⟨rfl, B6, ba3.like (X3.warmed.alike.symm.trans X6.warmed.alike) p6.1 f6.1 f6.2.1 f6.2.2.1, f6.2.1.trans bv3, by rw [X6.warmed.alike.findClass, f6.1]; exact bf3, by rw [f6.2.2.1, bs3]; simp, fun j hj => by rw [f6.2.2.2 j, if_pos (by omega)]; rfl, kp3.put p6 (Nat.le_refl _)⟩, by rw [p6.2.2, bh3, hh0]; simp⟩, fun fs hl => c8.trans (X8.areturnOut hexec rfl hret rfl (hb hbytes d58) hl)⟩
end Cmp3
namespace CodL
def yN : MethodName := ⟨"java/lang/StringUTF16", "coderFromArrayLen", "([BI)B"⟩
abbrev yB : ByteArray := jdk_52_method_15_code
theorem d0 : decode yB 0 = .ok (.iload_n 1, 1) := by decide +kernel
theorem d1 : decode yB 1 = .ok (.aload_n 0, 1) := by decide +kernel
theorem d2 : decode yB 2 = .ok (.arraylength, 1) := by decide +kernel
theorem d3 : decode yB 3 = .ok (.isub, 1) := by decide +kernel
theorem d4 : decode yB 4 = .ok (.bipush 31, 2) := by decide +kernel
theorem d6 : decode yB 6 = .ok (.iushr, 1) := by decide +kernel
theorem d7 : decode yB 7 = .ok (.i2b, 1) := by decide +kernel
theorem d8 : decode yB 8 = .ok (.ireturn, 1) := by decide +kernel
def site : List Cond := []
def tab : Cond := tabOf yN yB 2 (some .byte) site
def P (d : Addr) (B : Cell) (args : Array Value) (s : State) : Prop := args = #[.ref d, .int (Int32.ofNat B.slots.size)] ∧ Arr .byte d B s
def E (r : Option Value) (s u : State) : Prop := XT.PureE (some (.int 0)) r s u
/-- an array as long as the number of chars: LATIN1 -/
theorem law (l : Launch) (d : Addr) (B : Cell) : Law l yN 2 2 0 0 yB 2 (some .byte) site (P d B) E [] 0 0 := by
  refine Law.of_walk (plainFor_of_name (by decide +kernel)) (by decide +kernel) (by decide +kernel) (by decide) (fun _ _ h => by rw [h.1]; rfl) (fun _ U U' hal hh h => ⟨h.1, h.2.mv hal hh⟩) (fun r U U' V V' h1 hal h2 h => XT.PureE.mv r U U' V V' h1 hal h2 h) ?_
  intro p e s m args below meth c s₁ X0 hexec hbytes hml hret hlk hnm hown hh0 W hP
  obtain ⟨rfl, hB⟩ := hP
  have hB0 := hB.mv X0.warmed.alike hh0
  have c1 : Steps p.tables e below (s₁.setTop (entryFrame m #[.ref d, .int (Int32.ofNat B.slots.size)] 2)) (s₁.setTop (mkF m 0 #[.val (.ref d), .val (.int (Int32.ofNat B.slots.size))] [])) := entry rfl
  have c2 : Steps p.tables e below (s₁.setTop (entryFrame m #[.ref d, .int (Int32.ofNat B.slots.size)] 2)) (s₁.setTop (mkF m 2 #[.val (.ref d), .val (.int (Int32.ofNat B.slots.size))] [.ref d, .int (Int32.ofNat B.slots.size)])) := c1.trans (by
    refine XS.iloadN X0.here hexec rfl (hb hbytes d0) rfl ?_
    refine XS.aloadN X0.here hexec rfl (hb hbytes d1) rfl rfl ?_
    exact Steps.refl _)
  have c3 : Steps p.tables e below (s₁.setTop (entryFrame m #[.ref d, .int (Int32.ofNat B.slots.size)] 2)) (s₁.setTop (mkF m 8 #[.val (.ref d), .val (.int (Int32.ofNat B.slots.size))] [.int (lo8 (ushr (Int32.ofNat B.slots.size - Int32.ofNat B.slots.size) 31))])) := c2.trans (by
    refine X0.alen hexec hB0 rfl rfl (hb hbytes d2) ?_
    refine XS.isub X0.here hexec rfl (hb hbytes d3) rfl ?_
    refine bipushV X0.here hexec rfl 31 (hb hbytes d4) (by decide) ?_
    refine iushr X0.here hexec rfl (hb hbytes d6) rfl ?_
    refine i2b X0.here hexec rfl (hb hbytes d7) rfl ?_
    exact Steps.refl _)
  have e0 : lo8 (ushr (Int32.ofNat B.slots.size - Int32.ofNat B.slots.size) 31) = 0 := by rw [Int32.sub_self]; decide
  rw [e0] at c3
  exact ⟨s₁, some (.int 0), _, _, _, X0, rfl, rfl, rfl, (fun h => by cases h), ⟨rfl, hh0⟩, fun fs hl => c3.trans (X0.ireturnOut hexec hret rfl (Or.inr (Or.inr (Or.inl rfl))) (hb hbytes d8) hl)⟩
end CodL
/-- the String at a is Latin-1 over a new byte[] (the heap's one new cell): the low bytes of the len chars of A from o on; every cell but a is kept -/
def Got (a : Addr) (D : Cell) (fV fC : Field) (A : Cell) (o len : Nat) (r : Option Value) (s u : State) : Prop := r = none ∧ ∃ D' V : Cell, Blank "java/lang/String" a D' u ∧ Same D D' [fV.slot, fC.slot] ∧ D'.slots[fV.slot]? = some (.ref s.heap.size) ∧ D'.slots[fC.slot]? = some (.int 0) ∧ Arr .byte s.heap.size V u ∧ V.vm = .none ∧ u.vm.findClass "[B" = some V.cls ∧ V.slots.size = len ∧ (∀ j, j < len → V.slots[j]? = some (.int (lo8 (cv A (o + j))))) ∧ (∀ (y : Addr) (c : Cell), y ≠ a → s.heap[y]? = some c → u.heap[y]? = some c) ∧ u.heap.size = s.heap.size + 1
theorem Got.mv {a : Addr} {D A : Cell} {fV fC : Field} {o len : Nat} : ∀ r (U U' V V' : State), U'.heap = U.heap → V.vm.Alike V'.vm → V'.heap = V.heap → Got a D fV fC A o len r U V → Got a D fV fC A o len r U' V' :=
  fun r U U' V V' h1 hal h2 ⟨e0, D', X, a1, a2, a3, a4, a5, a6, a7, a8, a9, a10, a11⟩ => ⟨e0, D', X, a1.mv hal h2, a2, by rw [h1]; exact a3, a4, by rw [h1]; exact a5.mv hal h2, a6, by rw [hal.findClass]; exact a7, a8, a9, by rw [h1, h2]; exact a10, by rw [h1, h2]; exact a11⟩
namespace New4
def yN : MethodName := ⟨"java/lang/String", "<init>", "([CIILjava/lang/Void;)V"⟩
abbrev yB : ByteArray := jdk_42_method_149_code
theorem d0 : decode yB 0 = .ok (.aload_n 0, 1) := by decide +kernel
theorem d1 : decode yB 1 = .ok (.invokespecial 1, 3) := by decide +kernel
theorem d4 : decode yB 4 = .ok (.iload_n 3, 1) := by decide +kernel
theorem d5 : decode yB 5 = .ok (.ifCond (.ne) 22, 3) := by decide +kernel
theorem d27 : decode yB 27 = .ok (.getstatic 38, 3) := by decide +kernel
theorem d30 : decode yB 30 = .ok (.ifCond (.eq) 28, 3) := by decide +kernel
theorem d33 : decode yB 33 = .ok (.aload_n 1, 1) := by decide +kernel
theorem d34 : decode yB 34 = .ok (.iload_n 2, 1) := by decide +kernel
theorem d35 : decode yB 35 = .ok (.iload_n 3, 1) := by decide +kernel
theorem d36 : decode yB 36 = .ok (.invokestatic 177, 3) := by decide +kernel
theorem d39 : decode yB 39 = .ok (.astore 5, 2) := by decide +kernel
theorem d41 : decode yB 41 = .ok (.aload_n 0, 1) := by decide +kernel
theorem d42 : decode yB 42 = .ok (.aload 5, 2) := by decide +kernel
theorem d44 : decode yB 44 = .ok (.iload_n 3, 1) := by decide +kernel
theorem d45 : decode yB 45 = .ok (.invokestatic 47, 3) := by decide +kernel
theorem d48 : decode yB 48 = .ok (.putfield 15, 3) := by decide +kernel
theorem d51 : decode yB 51 = .ok (.aload_n 0, 1) := by decide +kernel
theorem d52 : decode yB 52 = .ok (.aload 5, 2) := by decide +kernel
theorem d54 : decode yB 54 = .ok (.putfield 9, 3) := by decide +kernel
theorem d57 : decode yB 57 = .ok (.return_, 1) := by decide +kernel
def site : List Cond := [.fieldLink "java/lang/String" 38 "java/lang/String" "COMPACT_STRINGS" "Z", Cmp3.tab, CodL.tab, .laysFinal "java/lang/String" "java/lang/String" "value" "[B", .fieldLink "java/lang/String" 9 "java/lang/String" "value" "[B", .laysFinal "java/lang/String" "java/lang/String" "coder" "B", .fieldLink "java/lang/String" 15 "java/lang/String" "coder" "B"] ++ objW "java/lang/String" 1 ++ staticW "java/lang/String" 177 Cmp3.yN ++ staticW "java/lang/String" 47 CodL.yN
def tab : Cond := tabOf yN yB 6 none site
def P (a : Addr) (D : Cell) (fV fC : Field) (b : Addr) (A : Cell) (z : Int32) (o len : Nat) (args : Array Value) (s : State) : Prop := args = #[.ref a, .ref b, .int (Int32.ofNat o), .int (Int32.ofNat len), .null] ∧ Blank "java/lang/String" a D s ∧ Found "java/lang/String" "value" "[B" fV s ∧ Found "java/lang/String" "coder" "B" fC s ∧ Ch b A s ∧ StaticIs s "java/lang/String" "COMPACT_STRINGS" "Z" (.int z) ∧ ¬ z = 0 ∧ 0 < len ∧ o + len ≤ A.slots.size ∧ len ≤ 536870912 ∧ ∀ i, i < len → ¬ 255 < cv A (o + i)
def E (a : Addr) (D : Cell) (fV fC : Field) (A : Cell) (o len : Nat) (r : Option Value) (s u : State) : Prop := Got a D fV fC A o len r s u
/-- len > 0, no char of the range above 255: a Latin-1 String of their low bytes -/
theorem law (l : Launch) (a : Addr) (D : Cell) (fV fC : Field) (b : Addr) (A : Cell) (z : Int32) (o len : Nat) : Law l yN 5 4 2 35 yB 6 none site (P a D fV fC b A z o len) (E a D fV fC A o len) [⟨a, fC.slot⟩, ⟨a, fV.slot⟩] 1 len := by
  refine Law.of_walk (plainFor_of_name (by decide +kernel)) (by decide +kernel) (by decide +kernel) (by decide) (fun _ _ h => by rw [h.1]; rfl) (fun _ U U' hal hh h => ⟨h.1, h.2.1.mv hal hh, h.2.2.1.al hal, h.2.2.2.1.al hal, h.2.2.2.2.1.mv hal hh, h.2.2.2.2.2.1.there hal hh, h.2.2.2.2.2.2⟩) (fun r U U' V V' h1 hal h2 h => Got.mv r U U' V V' h1 hal h2 h) ?_
  intro p e s m args below meth c s₁ X0 hexec hbytes hml hret hlk hnm hown hh0 W hP
  obtain ⟨rfl, hB, f1, f2, hA, s1, hz, l0, l1, l2, hp⟩ := hP
  have a31 := hA.1.2.2.2
  have c1 : Steps p.tables e below (s₁.setTop (entryFrame m #[.ref a, .ref b, .int (Int32.ofNat o), .int (Int32.ofNat len), .null] 6)) (s₁.setTop (mkF m 0 #[.val (.ref a), .val (.ref b), .val (.int (Int32.ofNat o)), .val (.int (Int32.ofNat len)), .val .null, .unset] [])) := entry rfl
  have c2 : Steps p.tables e below (s₁.setTop (entryFrame m #[.ref a, .ref b, .int (Int32.ofNat o), .int (Int32.ofNat len), .null] 6)) (s₁.setTop (mkF m 1 #[.val (.ref a), .val (.ref b), .val (.int (Int32.ofNat o)), .val (.int (Int32.ofNat len)), .val .null, .unset] [.ref a])) := c1.trans (by
    refine XS.aloadN X0.here hexec rfl (hb hbytes d0) rfl rfl ?_
    exact Steps.refl _)
  obtain ⟨T3, X3, q3, st3⟩ := X0.oinit hexec hown (wks W (objW "java/lang/String" 1)) (g := (mkF m 1 #[.val (.ref a), .val (.ref b), .val (.int (Int32.ofNat o)), .val (.int (Int32.ofNat len)), .val .null, .unset] [.ref a])) rfl (by rw [hml]; rfl) (rest := []) rfl (hb hbytes d1) (W := 0) (by show 2 * 0 + 0 ≤ _; decide) (Nat.le_of_ble_eq_true rfl) (Nat.le_of_ble_eq_true rfl)
  have hh3 := q3.trans hh0
  have c4 : Steps p.tables e below (s₁.setTop (entryFrame m #[.ref a, .ref b, .int (Int32.ofNat o), .int (Int32.ofNat len), .null] 6)) (T3.setTop (mkF m 27 #[.val (.ref a), .val (.ref b), .val (.int (Int32.ofNat o)), .val (.int (Int32.ofNat len)), .val .null, .unset] [])) := (c2.trans (st3 _ (Steps.refl _))).trans (by
    refine XS.iloadN X3.here hexec rfl (hb hbytes d4) rfl ?_
    refine XS.ifYes X3.here hexec rfl (pc0 := 5) rfl (hb hbytes d5) rfl (i0_ne_t (nz32 (by omega) l0)) (by decide) rfl ?_
    exact Steps.refl _)
  obtain ⟨T5, X5, q5, st5⟩ := X3.sget hexec hown (wk W (.fieldLink "java/lang/String" 38 "java/lang/String" "COMPACT_STRINGS" "Z")) s1 (fun _ _ h => by rw [hh3]; exact h) (g := (mkF m 27 #[.val (.ref a), .val (.ref b), .val (.int (Int32.ofNat o)), .val (.int (Int32.ofNat len)), .val .null, .unset] [])) rfl (hb hbytes d27)
  have hh5 := q5.trans hh3
  have c6 : Steps p.tables e below (s₁.setTop (entryFrame m #[.ref a, .ref b, .int (Int32.ofNat o), .int (Int32.ofNat len), .null] 6)) (T5.setTop (mkF m 30 #[.val (.ref a), .val (.ref b), .val (.int (Int32.ofNat o)), .val (.int (Int32.ofNat len)), .val .null, .unset] [.int z])) := c4.trans (st5 _ (Steps.refl _))
  have c7 : Steps p.tables e below (s₁.setTop (entryFrame m #[.ref a, .ref b, .int (Int32.ofNat o), .int (Int32.ofNat len), .null] 6)) (T5.setTop (mkF m 36 #[.val (.ref a), .val (.ref b), .val (.int (Int32.ofNat o)), .val (.int (Int32.ofNat len)), .val .null, .unset] [.int (Int32.ofNat len), .int (Int32.ofNat o), .ref b])) := c6.trans (by
    refine XS.ifNo X5.here hexec rfl (hb hbytes d30) rfl (i0_eq_f hz) ?_
    refine XS.aloadN X5.here hexec rfl (hb hbytes d33) rfl rfl ?_
    refine XS.iloadN X5.here hexec rfl (hb hbytes d34) rfl ?_
    refine XS.iloadN X5.here hexec rfl (hb hbytes d35) rfl ?_
    exact Steps.refl _)
  obtain ⟨v8, T8, X8, E8, g8⟩ := X5.callS hexec (Cmp3.law l b A o len) hown (wks W (staticW "java/lang/String" 177 Cmp3.yN)) (wk W Cmp3.tab) (W := 0) (Nat.le_of_ble_eq_true rfl) (Nat.le_of_ble_eq_true rfl) (Nat.le_refl _) (by show 0 + len ≤ len; omega) (g := (mkF m 36 #[.val (.ref a), .val (.ref b), .val (.int (Int32.ofNat o)), .val (.int (Int32.ofNat len)), .val .null, .unset] [.int (Int32.ofNat len), .int (Int32.ofNat o), .ref b])) rfl (by rw [hml]; rfl) c7 (argsL := [.ref b, .int (Int32.ofNat o), .int (Int32.ofNat len)]) (rest := []) rfl rfl (by show 2 * 0 + 0 ≤ _; decide) (hb hbytes d36) (⟨rfl, hA.mv X5.warmed.alike hh5, l1, l2, hp⟩)
  obtain ⟨e8, z8⟩ := E8
  obtain ⟨rfl, N, n1, n2, n3, n4, n5, n6⟩ := NewArr.mv _ T5 s _ _ hh5.symm (Vm.Alike.refl _) rfl e8
  rw [hh5] at z8
  have hB1 := hB.keep X8.warmed.alike (n6 _ _ hB.1)
  have hne : s.heap.size ≠ a := (Nat.ne_of_lt (Array.getElem?_eq_some_iff.mp hB.1).1).symm
  have c9 : Steps p.tables e below (s₁.setTop (entryFrame m #[.ref a, .ref b, .int (Int32.ofNat o), .int (Int32.ofNat len), .null] 6)) (T8.setTop (mkF m 39 #[.val (.ref a), .val (.ref b), .val (.int (Int32.ofNat o)), .val (.int (Int32.ofNat len)), .val .null, .unset] [.ref s.heap.size])) := g8
  have c10 : Steps p.tables e below (s₁.setTop (entryFrame m #[.ref a, .ref b, .int (Int32.ofNat o), .int (Int32.ofNat len), .null] 6)) (T8.setTop (mkF m 45 #[.val (.ref a), .val (.ref b), .val (.int (Int32.ofNat o)), .val (.int (Int32.ofNat len)), .val .null, .val (.ref s.heap.size)] [.int (Int32.ofNat N.slots.size), .ref s.heap.size, .ref a])) := by
    have hc : Steps p.tables e below (s₁.setTop (entryFrame m #[.ref a, .ref b, .int (Int32.ofNat o), .int (Int32.ofNat len), .null] 6)) (T8.setTop (mkF m 45 #[.val (.ref a), .val (.ref b), .val (.int (Int32.ofNat o)), .val (.int (Int32.ofNat len)), .val .null, .val (.ref s.heap.size)] [.int (Int32.ofNat len), .ref s.heap.size, .ref a])) := c9.trans (by
      refine XS.astore X8.here hexec rfl (hb hbytes d39) rfl rfl rfl ?_
      refine XS.aloadN X8.here hexec rfl (hb hbytes d41) rfl rfl ?_
      refine XS.aload X8.here hexec rfl (hb hbytes d42) rfl rfl ?_
      refine XS.iloadN X8.here hexec rfl (hb hbytes d44) rfl ?_
      exact Steps.refl _)
    rw [n4]; exact hc
  obtain ⟨v11, T11, X11, E11, g11⟩ := X8.callS hexec (CodL.law l s.heap.size N) hown (wks W (staticW "java/lang/String" 47 CodL.yN)) (wk W CodL.tab) (W := 1) (Nat.le_of_ble_eq_true rfl) (Nat.le_of_ble_eq_true rfl) (Nat.le_refl _) (by show 0 + len + 0 ≤ len; omega) (g := (mkF m 45 #[.val (.ref a), .val (.ref b), .val (.int (Int32.ofNat o)), .val (.int (Int32.ofNat len)), .val .null, .val (.ref s.heap.size)] [.int (Int32.ofNat N.slots.size), .ref s.heap.size, .ref a])) rfl (by rw [hml]; rfl) c10 (argsL := [.ref s.heap.size, .int (Int32.ofNat N.slots.size)]) (rest := [.ref a]) rfl rfl (by show 2 * 0 + (1 + 0) ≤ _; decide) (hb hbytes d45) (⟨rfl, n1⟩)
  obtain ⟨rfl, q11⟩ := E11
  have hB11 := hB1.mv (X8.warmed.alike.symm.trans X11.warmed.alike) q11
  have c12 : Steps p.tables e below (s₁.setTop (entryFrame m #[.ref a, .ref b, .int (Int32.ofNat o), .int (Int32.ofNat len), .null] 6)) (T11.setTop (mkF m 48 #[.val (.ref a), .val (.ref b), .val (.int (Int32.ofNat o)), .val (.int (Int32.ofNat len)), .val .null, .val (.ref s.heap.size)] [.int 0, .ref a])) := g11
  obtain ⟨T13, X13, p13, bl13, sl13, st13⟩ := X11.finit hexec hown (wk W (.fieldLink "java/lang/String" 15 "java/lang/String" "coder" "B")) (Or.inr ⟨_, (wk W (.laysFinal "java/lang/String" "java/lang/String" "coder" "B"))⟩) (Or.inl ⟨rfl, hnm⟩) f2 (Or.inl rfl) hB11 (t := .byte) (by decide +kernel) rfl (g := (mkF m 48 #[.val (.ref a), .val (.ref b), .val (.int (Int32.ofNat o)), .val (.int (Int32.ofNat len)), .val .null, .val (.ref s.heap.size)] [.int 0, .ref a])) rfl (rest := []) rfl (hb hbytes d48)
  have c14 : Steps p.tables e below (s₁.setTop (entryFrame m #[.ref a, .ref b, .int (Int32.ofNat o), .int (Int32.ofNat len), .null] 6)) (T13.setTop (mkF m 54 #[.val (.ref a), .val (.ref b), .val (.int (Int32.ofNat o)), .val (.int (Int32.ofNat len)), .val .null, .val (.ref s.heap.size)] [.ref s.heap.size, .ref a])) := (c12.trans (st13 _ (Steps.refl _))).trans (by
    refine XS.aloadN X13.here hexec rfl (hb hbytes d51) rfl rfl ?_
    refine XS.aload X13.here hexec rfl (hb hbytes d52) rfl rfl ?_
    exact Steps.refl _)
  obtain ⟨T15, X15, p15, bl15, sl15, st15⟩ := X13.finit hexec hown (wk W (.fieldLink "java/lang/String" 9 "java/lang/String" "value" "[B")) (Or.inr ⟨_, (wk W (.laysFinal "java/lang/String" "java/lang/String" "value" "[B"))⟩) (Or.inl ⟨rfl, hnm⟩) f1 (Or.inl rfl) bl13 (t := (.array .byte)) (by decide +kernel) rfl (g := (mkF m 54 #[.val (.ref a), .val (.ref b), .val (.int (Int32.ofNat o)), .val (.int (Int32.ofNat len)), .val .null, .val (.ref s.heap.size)] [.ref s.heap.size, .ref a])) rfl (rest := []) rfl (hb hbytes d54)
  have c16 : Steps p.tables e below (s₁.setTop (entryFrame m #[.ref a, .ref b, .int (Int32.ofNat o), .int (Int32.ofNat len), .null] 6)) (T15.setTop (mkF m 57 #[.val (.ref a), .val (.ref b), .val (.int (Int32.ofNat o)), .val (.int (Int32.ofNat len)), .val .null, .val (.ref s.heap.size)] [])) := c14.trans (st15 _ (Steps.refl _))
  have ap := apart (Or.inr ⟨_, (wk W (.laysFinal "java/lang/String" "java/lang/String" "value" "[B"))⟩) (Or.inr ⟨_, (wk W (.laysFinal "java/lang/String" "java/lang/String" "coder" "B"))⟩) f1 f2 (t₁ := .array .byte) (t₂ := .byte) (by decide +kernel) (by decide +kernel) (by decide)
  have al := X8.warmed.alike.symm.trans X15.warmed.alike
  have n7 : T11.heap[s.heap.size]? = some N := by rw [q11]; exact n1.1
  exact ⟨T15, none, _, _, _, X15, by simp, rfl, by omega, (fun _ => rfl), ⟨rfl, _, N, bl15, ((Same.refl D _).set _ (by simp)).set _ (by simp), sl15, (Cell.slots_setSlot_ne _ ap).trans sl13, n1.keep al (p15.other hne (p13.other hne n7)), n2, by rw [al.findClass]; exact n3, n4, n5, fun y c h1 h2 => p15.other h1 (p13.other h1 (by rw [q11]; exact n6 y c h2)), by rw [p15.2.2, p13.2.2, q11]; exact z8⟩, fun fs hl => c16.trans (X15.returnOut hexec hret (hb hbytes d57) hl)⟩
end New4
namespace New1
def yN : MethodName := ⟨"java/lang/String", "<init>", "([C)V"⟩
abbrev yB : ByteArray := jdk_42_method_3_code
theorem d0 : decode yB 0 = .ok (.aload_n 0, 1) := by decide +kernel
theorem d1 : decode yB 1 = .ok (.aload_n 1, 1) := by decide +kernel
theorem d2 : decode yB 2 = .ok (.iconst 0, 1) := by decide +kernel
theorem d3 : decode yB 3 = .ok (.aload_n 1, 1) := by decide +kernel
theorem d4 : decode yB 4 = .ok (.arraylength, 1) := by decide +kernel
theorem d5 : decode yB 5 = .ok (.aconst_null, 1) := by decide +kernel
theorem d6 : decode yB 6 = .ok (.invokespecial 27, 3) := by decide +kernel
theorem d9 : decode yB 9 = .ok (.return_, 1) := by decide +kernel
def site : List Cond := [New4.tab] ++ initW "java/lang/String" 27 New4.yN
def tab : Cond := tabOf yN yB 2 none site
def P (a : Addr) (D : Cell) (fV fC : Field) (b : Addr) (A : Cell) (z : Int32) (args : Array Value) (s : State) : Prop := args = #[.ref a, .ref b] ∧ Blank "java/lang/String" a D s ∧ Found "java/lang/String" "value" "[B" fV s ∧ Found "java/lang/String" "coder" "B" fC s ∧ Ch b A s ∧ StaticIs s "java/lang/String" "COMPACT_STRINGS" "Z" (.int z) ∧ ¬ z = 0 ∧ 0 < A.slots.size ∧ A.slots.size ≤ 536870912 ∧ ∀ i, i < A.slots.size → ¬ 255 < cv A i
def E (a : Addr) (D : Cell) (fV fC : Field) (A : Cell) (r : Option Value) (s u : State) : Prop := Got a D fV fC A 0 A.slots.size r s u
/-- new String(chars), not empty, no char above 255: a Latin-1 String of their low bytes -/
theorem law (l : Launch) (a : Addr) (D : Cell) (fV fC : Field) (b : Addr) (A : Cell) (z : Int32) : Law l yN 2 1 3 52 yB 2 none site (P a D fV fC b A z) (E a D fV fC A) [⟨a, fC.slot⟩, ⟨a, fV.slot⟩] 1 A.slots.size := by
  refine Law.of_walk (plainFor_of_name (by decide +kernel)) (by decide +kernel) (by decide +kernel) (by decide) (fun _ _ h => by rw [h.1]; rfl) (fun _ U U' hal hh h => ⟨h.1, h.2.1.mv hal hh, h.2.2.1.al hal, h.2.2.2.1.al hal, h.2.2.2.2.1.mv hal hh, h.2.2.2.2.2.1.there hal hh, h.2.2.2.2.2.2⟩) (fun r U U' V V' h1 hal h2 h => Got.mv r U U' V V' h1 hal h2 h) ?_
  intro p e s m args below meth c s₁ X0 hexec hbytes hml hret hlk hnm hown hh0 W hP
  obtain ⟨rfl, hB, f1, f2, hA, s1, hz, l0, l2, hp⟩ := hP
  have c1 : Steps p.tables e below (s₁.setTop (entryFrame m #[.ref a, .ref b] 2)) (s₁.setTop (mkF m 0 #[.val (.ref a), .val (.ref b)] [])) := entry rfl
  have c2 : Steps p.tables e below (s₁.setTop (entryFrame m #[.ref a, .ref b] 2)) (s₁.setTop (mkF m 6 #[.val (.ref a), .val (.ref b)] [.null, .int (Int32.ofNat A.slots.size), .int 0, .ref b, .ref a])) := c1.trans (by
    refine XS.aloadN X0.here hexec rfl (hb hbytes d0) rfl rfl ?_
    refine XS.aloadN X0.here hexec rfl (hb hbytes d1) rfl rfl ?_
    refine iconstV X0.here hexec rfl 0 (hb hbytes d2) (by decide) ?_
    refine XS.aloadN X0.here hexec rfl (hb hbytes d3) rfl rfl ?_
    refine X0.alen hexec (hA.1.mv X0.warmed.alike hh0) rfl rfl (hb hbytes d4) ?_
    refine XS.aconstNull X0.here hexec rfl (hb hbytes d5) ?_
    exact Steps.refl _)
  obtain ⟨v3, T3, X3, E3, g3⟩ := X0.callN hexec (New4.law l a D fV fC b A z 0 A.slots.size) rfl hown (wks W (initW "java/lang/String" 27 New4.yN)) (W New4.tab (by simp only [site, List.mem_cons, List.mem_append, true_or, or_true])) (W := 0) (Nat.le_of_ble_eq_true rfl) (Nat.le_of_ble_eq_true rfl) (Nat.le_refl _) (by show 0 + A.slots.size ≤ A.slots.size; omega) (g := (mkF m 6 #[.val (.ref a), .val (.ref b)] [.null, .int (Int32.ofNat A.slots.size), .int (Int32.ofNat 0), .ref b, .ref a])) rfl (by rw [hml]; rfl) c2 (argsL := [.ref b, .int (Int32.ofNat 0), .int (Int32.ofNat A.slots.size), .null]) (rest := []) rfl rfl (by show 2 * 0 + 0 ≤ _; decide) (hb hbytes d6) (⟨rfl, hB.mv X0.warmed.alike hh0, f1.al X0.warmed.alike, f2.al X0.warmed.alike, hA.mv X0.warmed.alike hh0, s1.there X0.warmed.alike hh0, hz, l0, by omega, l2, fun i hi => by rw [Nat.zero_add]; exact hp i hi⟩)
  have e0 := Got.mv _ s₁ s _ _ hh0.symm (Vm.Alike.refl _) rfl E3
  obtain rfl := e0.1
  have c4 : Steps p.tables e below (s₁.setTop (entryFrame m #[.ref a, .ref b] 2)) (T3.setTop (mkF m 9 #[.val (.ref a), .val (.ref b)] [])) := g3
  exact ⟨T3, none, _, _, _, X3, by simp, rfl, by omega, (fun _ => rfl), e0, fun fs hl => c4.trans (X3.returnOut hexec hret (hb hbytes d9) hl)⟩
theorem pays {l : Launch} {R : Room} {p : Program} {e : Env} {below : List Frame} {s : State} {sargs : Array Value} {len W : Nat} (a : Addr) (D : Cell) (fV fC : Field) (b : Addr) (A : Cell) (z : Int32) (htab : tab.before sargs s = true) (hfr : 4 ≤ R.frames) (hlo : W + 65 ≤ R.locals) :
    Back l R p e below s sargs yN len W (fun A₁ a₁ => A₁.cells + 1 ≤ R.cells ∧ A₁.slots + A.slots.size ≤ R.slots ∧ P a D fV fC b A z a₁ A₁.U) (fun A₁ _ v₁ B₁ => E a D fV fC A v₁ A₁.U B₁.U ∧ B₁.locs = A₁.locs ++ [⟨a, fC.slot⟩, ⟨a, fV.slot⟩] ∧ B₁.cells = A₁.cells + 1 ∧ B₁.slots = A₁.slots + A.slots.size) :=
  (law l a D fV fC b A z).pays htab hfr (by omega)
end New1
/-- the byte, read back as charAt reads it, is the char -/
theorem lo8_mask {x : Int32} (h0 : ¬ x < 0) (h1 : ¬ 255 < x) : lo8 x &&& 255 = x := by
  have t : ∀ k : Fin 256, lo8 (Int32.ofNat k.val) &&& 255 = Int32.ofNat k.val := by decide +kernel
  rw [Int32.lt_iff_toInt_lt] at h0 h1
  have e0 : (0 : Int32).toInt = 0 := rfl
  have e1 : (255 : Int32).toInt = 255 := rfl
  obtain ⟨k, hk⟩ : ∃ k : Nat, x.toInt = k := ⟨x.toInt.toNat, by omega⟩
  have hx : x = Int32.ofNat k := Int32.toInt_inj.mp (by rw [hk, Int32.toInt_ofNat_small (by omega)])
  rw [hx]
  exact t ⟨k, by omega⟩
end StrChars
namespace StrChars.Road
open Jvm Sem ClassFile Op Lib Jvm.Stand Jvm.Free Jvm.Free.XT
open Jvm.Lib.Cold (StaticIs)
abbrev ST : String := "java/lang/String"
/-- every table word that New1's law asks, flat -/
abbrev words : List Jvm.Cond := [.code New1.yN New1.yB 2 none, .initialized ST, .methodLink ST 27 New4.yN, .instanceMethod New4.yN,
  .code New4.yN New4.yB 6 none, .fieldLink ST 38 ST "COMPACT_STRINGS" "Z", .laysFinal ST ST "value" "[B", .fieldLink ST 9 ST "value" "[B", .laysFinal ST ST "coder" "B", .fieldLink ST 15 ST "coder" "B",
  .methodLink ST 1 Lib.objectInit, .instanceMethod Lib.objectInit, .code Lib.objectInit ⟨#[0xb1]⟩ 1 none, .methodLink ST 177 Cmp3.yN, .static Cmp3.yN, .methodLink ST 47 CodL.yN, .static CodL.yN,
  .code Cmp3.yN Cmp3.yB 6 (some (.array .byte)), .initialized U16, .arrayClass .byte, .methodLink U16 115 Cmp5.yN, .static Cmp5.yN, .code Cmp5.yN Cmp5.yB 7 (some .int), .code CodL.yN CodL.yB 2 (some .byte)]
theorem tab_of {a : Array Value} {s : State} (h : ∀ w ∈ words, w.before a s = true) : New1.tab.before a s = true := by
  have h5 : Cmp5.tab.before a s = true := unparts (wk h (.code Cmp5.yN Cmp5.yB 7 (some .int))) (wks h (.initialized Cmp5.yN.cls :: Cmp5.site))
  have hc : CodL.tab.before a s = true := unparts (wk h (.code CodL.yN CodL.yB 2 (some .byte))) (wks h (.initialized CodL.yN.cls :: CodL.site))
  have q5 : ∀ w ∈ Cmp5.tab :: words, w.before a s = true := fun w hw => (List.mem_cons.mp hw).elim (fun e => e ▸ h5) (h w)
  have h3 : Cmp3.tab.before a s = true := unparts (wk q5 (.code Cmp3.yN Cmp3.yB 6 (some (.array .byte)))) (wks q5 (.initialized Cmp3.yN.cls :: Cmp3.site))
  have q3 : ∀ w ∈ Cmp3.tab :: CodL.tab :: words, w.before a s = true := fun w hw => (List.mem_cons.mp hw).elim (fun e => e ▸ h3) fun hw => (List.mem_cons.mp hw).elim (fun e => e ▸ hc) (h w)
  have h4 : New4.tab.before a s = true := unparts (wk q3 (.code New4.yN New4.yB 6 none)) (wks q3 (.initialized New4.yN.cls :: New4.site))
  have q4 : ∀ w ∈ New4.tab :: words, w.before a s = true := fun w hw => (List.mem_cons.mp hw).elim (fun e => e ▸ h4) (h w)
  exact unparts (wk q4 (.code New1.yN New1.yB 2 none)) (wks q4 (.initialized New1.yN.cls :: New1.site))
/-- the words ride from the start Z to the walk's own state -/
theorem moved {Z s : State} {a0 args : Array Value} (hZ : Z.Warmed39 s.vm) (hw : ∀ d ∈ words, d.before a0 Z = true) : ∀ d ∈ words, d.before args s = true := fun d hd => by
  have q := hw d hd
  have t : ∀ d ∈ words, d = .arrayClass .byte ∨ (d.onTables && d.keepsFace) = true := by decide +kernel
  rcases t d hd with rfl | t
  · exact RoadKit.mvA hZ q
  · exact RoadKit.mv hZ q t
/-- WHAT COMES BACK, over the tables of the start Z: h the heap at the call, h' behind it -/
def Q (Z : State) (x : Addr) (A : Cell) (h : Heap) (v : Option Value) (h' : Heap) (L : List Loc) : Prop := v = none ∧ (∀ y ∈ L, y.base = x) ∧ RoadKit.Keep h h' [x] ∧ h'.size = h.size + 1 ∧ RoadKit.Exa Z h' x ST ∧ RoadKit.Fld Z h' x ST "value" "[B" (.ref h.size) ∧ RoadKit.Fld Z h' x ST "coder" "B" (.int 0) ∧
  (∃ V : Cell, RoadKit.Arr Z h' h.size V .byte ∧ V.vm = .none ∧ Z.vm.findClass "[B" = some V.cls ∧ V.slots.size = A.slots.size ∧ ∀ j, j < A.slots.size → V.slots[j]? = some (.int (lo8 (cv A j)))) ∧
  ∀ (O n d : String) (w : Value), RoadKit.Fld Z h x O n d w → RoadKit.slotOf Z O n d ≠ RoadKit.slotOf Z ST "value" "[B" → RoadKit.slotOf Z O n d ≠ RoadKit.slotOf Z ST "coder" "B" → RoadKit.Fld Z h' x O n d w
/-- **new String(chars) AT A CALL, IN THE ROAD'S FORM**: for specialBack behind newO: x the fresh String, b the char[] with the cell A -/
theorem back {p : Program} {l : Launch} {e : Env} {R : Room} {s : State} {args : Array Value} {below : List Frame} {len W : Nat} {Z : State} {a0 : Array Value} {h : Heap} (hZ : Z.Warmed39 s.vm) (hw : ∀ d ∈ words, d.before a0 Z = true) {kI : Nat} (wi : (Jvm.Cond.instantiable ST kI).before a0 Z = true)
    {x b : Addr} {A : Cell} {z : Int32} {v0 c0 : Value} (E : RoadKit.Exa Z h x ST) (V : RoadKit.Fld Z h x ST "value" "[B" v0) (C : RoadKit.Fld Z h x ST "coder" "B" c0) (K : RoadKit.Arr Z h b A .char) (hty : Typed .char A) (S : RoadKit.Sta Z h ST "COMPACT_STRINGS" "Z" (.int z)) (hz : ¬ z = 0)
    (l0 : 0 < A.slots.size) (l2 : A.slots.size ≤ 536870912) (hp : ∀ i, i < A.slots.size → ¬ 255 < cv A i) (hfr : 4 ≤ R.frames) (hlo : W + 65 ≤ R.locals) :
    Back l R p e below s args New1.yN len W (fun P a => a = #[.ref x, .ref b] ∧ P.U.heap = h ∧ P.cells + 1 ≤ R.cells ∧ P.slots + A.slots.size ≤ R.slots)
      (fun P _ v B => ∃ L, Q Z x A h v B.U.heap L ∧ B.locs = P.locs ++ L ∧ B.cells = P.cells + 1 ∧ B.slots = P.slots + A.slots.size) := by
  intro m meth c P g ig mk a X hg hsize hdg hW hn hp'
  obtain ⟨rfl, rfl, r1, r2⟩ := hp'
  have al : Z.vm.Alike P.U.vm := hZ.alike.trans X.warmed.alike
  obtain ⟨D, cfV, kV, iV, fV, hD, gV, stV, knV, obV, asV, slV⟩ := id V
  obtain ⟨D', cfC, kC, iC, fC, hD', gC, stC, -, -, asC, slC⟩ := id C
  cases hD.symm.trans hD'
  obtain ⟨D2, kD, e1, e2, e3, e4, e5⟩ := id E
  cases hD.symm.trans e1
  obtain ⟨c2, k2, i1, i2, i3, -⟩ := Cond.instantiable_spec wi
  cases e2.symm.trans i1
  cases e3.symm.trans i2
  obtain ⟨kU, u1, u2⟩ := al.2.2 _ _ e3
  have hB : Blank ST x D P.U := ⟨hD, ⟨knV, fun q hq => by rw [hq] at obV; cases obV⟩, by rw [al.findClass]; exact e2, kU, u1, by rw [u2]; exact i3, by rw [u2]; exact e5 i3⟩
  have F1 : Found ST "value" "[B" fV P.U := ⟨SBG.found_only al ⟨cfV, kV, iV, gV⟩, stV⟩
  have F2 : Found ST "coder" "B" fC P.U := ⟨SBG.found_only al ⟨cfC, kC, iC, gC⟩, stC⟩
  have hA : Ch b A P.U := ⟨⟨K.1, State.isArrayOf_alike al K.2.1, K.2.2, by omega⟩, hty⟩
  have hS : StaticIs P.U ST "COMPACT_STRINGS" "Z" (.int z) := by
    obtain ⟨cfS, iS, kS, fS, st, cS, t1, t2, t3, t4, t5, t6, t7⟩ := S
    exact StaticIs.there (s := { Z with heap := P.U.heap }) ⟨cfS, iS, kS, fS, st, cS, t1, t2, t3, t4, t5, (fun q => by rw [q] at t6; cases t6), t7⟩ al rfl
  obtain ⟨v, B, X', ⟨⟨hv, E', V', q1, q2, q3, q4, q5, q6, q7, q8, q9, q10, q11⟩, hl, hc, hs⟩, st⟩ := New1.pays x D fV fC b A z (tab_of (moved hZ hw)) hfr hlo m meth c P g ig mk _ X hg hsize hdg hW hn ⟨r1, r2, rfl, hB, F1, F2, hA, hS, hz, l0, l2, hp⟩
  have al' : Z.vm.Alike B.U.vm := hZ.alike.trans X'.warmed.alike
  have hsz : E'.slots.size = D.slots.size := by
    obtain ⟨-, -, -, kB, w1, w2, w3⟩ := q1
    obtain ⟨kB', y1, y2⟩ := al'.2.2 _ _ e3
    rw [q2.2.1] at w1
    cases w1.symm.trans y1
    rw [w3, e5 i3, y2]
  refine ⟨v, B, X', ⟨_, ⟨hv, ?_, ⟨by omega, fun y cy hy hn' => q10 y cy (by simpa using hn') hy, fun y cy hy => ?_⟩, q11, ⟨E', _, q1.1, by rw [q2.2.1]; exact e2, by rw [q2.2.1]; exact e3, by rw [q2.1]; exact obV, fun _ => by rw [hsz]; exact e5 i3⟩,
    ⟨E', cfV, kV, iV, fV, q1.1, gV, stV, by rw [q2.1]; exact knV, by rw [q2.1]; exact obV, by rw [q2.2.1]; exact asV, q3⟩, ⟨E', cfC, kC, iC, fC, q1.1, gC, stC, by rw [q2.1]; exact knV, by rw [q2.1]; exact obV, by rw [q2.2.1]; exact asC, q4⟩,
    ⟨V', ⟨q5.1, State.isArrayOf_alike al'.symm q5.2.1, q5.2.2.1⟩, q6, by rw [← al'.findClass]; exact q7, q8, fun j hj => by have := q9 j hj; rwa [Nat.zero_add] at this⟩, fun O n d w F n1 n2 => ?_⟩, hl, hc, hs⟩, st⟩
  · intro y hy
    simp only [List.mem_cons, List.not_mem_nil, or_false] at hy
    rcases hy with rfl | rfl <;> rfl
  · by_cases q : y = x
    · subst q
      cases hD.symm.trans hy
      exact ⟨E', q1.1, q2.2.1, q2.1, hsz⟩
    · exact ⟨cy, q10 y cy q hy, rfl, rfl, rfl⟩
  · obtain ⟨D3, cf, k, i, f, g1, g2, g3, g4, g5, g6, g7⟩ := F
    cases hD.symm.trans g1
    simp only [RoadKit.slotOf, g2, gV, gC, Option.map_some, Option.getD_some] at n1 n2
    exact ⟨E', cf, k, i, f, q1.1, g2, g3, by rw [q2.1]; exact g4, by rw [q2.1]; exact g5, by rw [q2.2.1]; exact g6, by rw [q2.2.2 f.slot (by simp [n1, n2])]; exact g7⟩
end StrChars.Road
namespace StrChars.Road
open Jvm Sem ClassFile Op Lib Jvm.Stand Jvm.Free Jvm.Free.XT
/-- WHAT COMES BACK, the byte[] as a list of values -/
def QA (Z : State) (x : Addr) (zn : Int32) (cs : List Int32) (h : Heap) (v : Option Value) (h' : Heap) (L : List Loc) : Prop := v = none ∧ (∀ y ∈ L, y.base = x) ∧ RoadKit.Keep h h' [x] ∧ h'.size = h.size + 1 ∧ RoadKit.Exa Z h' x ST ∧ RoadKit.Fld Z h' x ST "value" "[B" (.ref h.size) ∧ RoadKit.Fld Z h' x ST "coder" "B" (.int 0) ∧
  (∃ kb, Z.vm.findClass "[B" = some kb ∧ RoadKit.Arv Z h' h.size kb .byte zn (cs.map fun c => .int (lo8 c)) (.int 0)) ∧
  ∀ (O n d : String) (w : Value), RoadKit.Fld Z h x O n d w → RoadKit.slotOf Z O n d ≠ RoadKit.slotOf Z ST "value" "[B" → RoadKit.slotOf Z O n d ≠ RoadKit.slotOf Z ST "coder" "B" → RoadKit.Fld Z h' x O n d w
/-- **new String(chars) AT A CALL, THE ARRAYS AS LISTS**: the char[] at b holds cs, not empty, no char above 255 -/
theorem backArv {p : Program} {l : Launch} {e : Env} {R : Room} {s : State} {args : Array Value} {below : List Frame} {len W : Nat} {Z : State} {a0 : Array Value} {h : Heap} (hZ : Z.Warmed39 s.vm) (hw : ∀ d ∈ words, d.before a0 Z = true) {kI : Nat} (wi : (Jvm.Cond.instantiable ST kI).before a0 Z = true)
    {x b : Addr} {k : ClassId} {zn z : Int32} {cs : List Int32} {dv v0 c0 : Value} (E : RoadKit.Exa Z h x ST) (V : RoadKit.Fld Z h x ST "value" "[B" v0) (C : RoadKit.Fld Z h x ST "coder" "B" c0) (K : RoadKit.Arv Z h b k .char zn (cs.map Value.int) dv) (S : RoadKit.Sta Z h ST "COMPACT_STRINGS" "Z" (.int z)) (hz : ¬ z = 0)
    (hlen : zn.toNatClampNeg = cs.length) (h0 : 0 < cs.length) (hbig : cs.length ≤ 536870912) (hall : ∀ c ∈ cs, ¬ 255 < c) (hfr : 4 ≤ R.frames) (hlo : W + 65 ≤ R.locals) :
    Back l R p e below s args New1.yN len W (fun P a => a = #[.ref x, .ref b] ∧ P.U.heap = h ∧ P.cells + 1 ≤ R.cells ∧ P.slots + cs.length ≤ R.slots)
      (fun P _ v B => ∃ L, QA Z x zn cs h v B.U.heap L ∧ B.locs = P.locs ++ L ∧ B.cells = P.cells + 1 ∧ B.slots = P.slots + cs.length) := by
  obtain ⟨A, K1, K2, K3, K4, K5, K6⟩ := K
  have e : A.slots.size = cs.length := K3.trans hlen
  have hat : ∀ (i : Nat) (hi : i < cs.length), A.slots[i]? = some (.int cs[i]) := fun i hi => by rw [K5 i (by omega)]; simp [List.getD_eq_getElem?_getD, hi]
  have hcv : ∀ (i : Nat) (hi : i < cs.length), cv A i = cs[i] := fun i hi => by unfold cv; rw [hat i hi]
  have hty : Typed .char A := fun i v hv => by
    have hi : i < A.slots.size := (Array.getElem?_eq_some_iff.mp hv).1
    have q := K5 i hi
    rw [hv] at q
    rw [Option.some.inj q]
    exact K6 i hi
  refine Back.mono (back hZ hw wi E V C K1 hty S hz (by omega) (by omega) (fun i hi => by rw [hcv i (by omega)]; exact hall _ (List.getElem_mem _)) hfr hlo) (fun P a hp => ⟨hp.1, hp.2.1, hp.2.2.1, by rw [e]; exact hp.2.2.2⟩) (fun P a v B hp hq => ?_)
  obtain ⟨L, ⟨q1, q2, q3, q4, q5, q6, q7, ⟨V', v1, v2, v3, v4, v5⟩, q9⟩, hl, hc, hs⟩ := hq
  refine ⟨L, ⟨q1, q2, q3, q4, q5, q6, q7, ⟨V'.cls, v3, V', v1, rfl, by rw [v4, e, hlen], K4, fun i hi => ?_, fun i hi => ?_⟩, q9⟩, hl, hc, by rw [hs, e]⟩
  · have hi' : i < cs.length := by omega
    rw [v5 i (by omega), hcv i hi']; simp [List.getD_eq_getElem?_getD, hi']
  · have hi' : i < cs.length := by omega
    simp only [List.getD_eq_getElem?_getD, List.getElem?_map, List.getElem?_eq_getElem hi', Option.map_some, Option.getD_some]
    exact fits_lo8 _
end StrChars.Road
namespace StrChars.Road
open Jvm Sem ClassFile Op Lib Jvm.Stand Jvm.Free Jvm.Free.XT
/-- WHAT COMES BACK, in the writer's own shape -/
def QV (Z : State) (x : Addr) (N : Int32) (bs : List Int32) (h : Heap) (n0 : Nat) (v : Option Value) (h' : Heap) (L : List Loc) : Prop := v = none ∧ RoadKit.Fr n0 L ∧ RoadKit.Keep h h' [x] ∧ RoadKit.Exa Z h' x ST ∧ RoadKit.Fld Z h' x ST "coder" "B" (.int 0) ∧
  ∃ (t : Addr) (kb : ClassId), n0 ≤ t ∧ h.size ≤ t ∧ ¬ t = x ∧ RoadKit.Fld Z h' x ST "value" "[B" (.ref t) ∧ RoadKit.Arv Z h' t kb .byte N (bs.map Value.int) (.int 0)
/-- **new String(chars) AT A CALL, FOR THE WRITER**: a char[] of n known ints, each 0 to 255 -/
theorem backV {p : Program} {l : Launch} {e : Env} {R : Room} {s : State} {args : Array Value} {below : List Frame} {len W : Nat} {Z : State} {a0 : Array Value} {h : Heap} (hZ : Z.Warmed39 s.vm) (hw : ∀ d ∈ words, d.before a0 Z = true) {kI : Nat} (wi : (Jvm.Cond.instantiable ST kI).before a0 Z = true)
    {x b : Addr} {kC : ClassId} {cs bs : List Int32} {d v0 c0 : Value} {z N : Int32} {n n0 : Nat} (hx0 : n0 ≤ x) (hh0 : n0 ≤ h.size) (E : RoadKit.Exa Z h x ST) (V : RoadKit.Fld Z h x ST "value" "[B" v0) (C : RoadKit.Fld Z h x ST "coder" "B" c0) (K : RoadKit.Arv Z h b kC .char N (cs.map Value.int) d) (S : RoadKit.Sta Z h ST "COMPACT_STRINGS" "Z" (.int z)) (hz : ¬ z = 0)
    (hn : cs.length = n) (hN : N = Int32.ofNat n) (l0 : 0 < n) (l2 : n ≤ 4000) (hp : ∀ c ∈ cs, ¬ c < 0 ∧ ¬ (255 : Int32) < c) (hb : bs = cs.map (fun c => c.toInt8.toInt32)) (hfr : 4 ≤ R.frames) (hlo : W + 65 ≤ R.locals) :
    Back l R p e below s args (⟨"java/lang/String", "<init>", "([C)V"⟩ : MethodName) len W (fun P a => a = #[.ref x, .ref b] ∧ P.U.heap = h ∧ P.cells + 1 ≤ R.cells ∧ P.slots + n ≤ R.slots)
      (fun P _ v B => ∃ L, QV Z x N bs h n0 v B.U.heap L ∧ B.locs = P.locs ++ L ∧ B.cells = P.cells + 1 ∧ B.slots = P.slots + n) := by
  subst hn hN hb
  refine Back.mono (backArv hZ hw wi E V C K S hz (n32 (by omega)) l0 (by omega) (fun c hc => (hp c hc).2) hfr hlo) (fun P a hp => hp) (fun P a v B hp hq => ?_)
  obtain ⟨L, ⟨q1, q2, q3, q4, q5, q6, q7, ⟨kb, v1, v2⟩, q9⟩, hl, hc, hs⟩ := hq
  exact ⟨L, ⟨q1, fun y hy => by rw [q2 y hy]; exact hx0, q3, q5, q7, h.size, kb, hh0, Nat.le_refl _, Nat.ne_of_gt E.lt, q6, by rw [List.map_map]; exact v2⟩, hl, hc, hs⟩
end StrChars.Road
namespace StrChars
open Jvm Sem ClassFile Op Lib Jvm.Stand Jvm.Free.XT Jvm.Free.ALB Jvm.Free.JM Jvm.Free
open Jvm.Lib.Cold (StaticIs)
def hi8 (x : Int32) : Int32 := lo8 (x >>> ((8 : Int32) &&& 31))
/-- what StringUTF16.getChar makes of two bytes -/
def pairCh (u v : Int32) : Int32 := (((u &&& 255) <<< ((0 : Int32) &&& 31)) ||| ((v &&& 255) <<< ((8 : Int32) &&& 31))).toUInt32.toUInt16.toUInt32.toInt32
theorem shr0 (c : Int32) : c >>> ((0 : Int32) &&& 31) = c := by
  have e : ((0 : Int32) &&& 31) = 0 := by decide
  rw [e]
  apply Int32.toBitVec_inj.mp
  rw [Int32.toBitVec_shiftRight]
  have e1 : ((0 : Int32).toBitVec.smod 32) = 0#32 := by decide
  rw [e1, BitVec.sshiftRight_eq']
  exact BitVec.sshiftRight_zero
theorem lo8_and (x : Int32) : (lo8 x &&& 255).toBitVec.toNat = x.toBitVec.toNat % 256 := by
  have h : (lo8 x).toBitVec = (x.toBitVec.signExtend 8).signExtend 32 := by rw [lo8, Int8.toBitVec_toInt32, Int32.toBitVec_toInt8]
  rw [Int32.toBitVec_and, BitVec.toNat_and, h]
  have e : ((x.toBitVec.signExtend 8).signExtend 32).toNat % 256 = x.toBitVec.toNat % 256 := by
    rw [BitVec.toNat_signExtend]
    have hlt := x.toBitVec.isLt
    simp only [BitVec.toNat_setWidth, BitVec.toNat_signExtend]
    split <;> split <;> omega
  rw [← e]
  exact Nat.and_two_pow_sub_one_eq_mod _ 8
theorem pair_says {c : Int32} (h0 : ¬ c < 0) (h1 : ¬ 65535 < c) : pairCh (lo8 c) (hi8 c) = c := by
  rw [Int32.lt_iff_toInt_lt] at h0 h1
  have e0 : (0 : Int32).toInt = 0 := rfl
  have e1 : (65535 : Int32).toInt = 65535 := rfl
  have hc : c.toInt = c.toBitVec.toNat := by
    have := c.toBitVec.isLt
    have e : c.toInt = c.toBitVec.toInt := rfl
    rw [e] at h0 h1
    rw [e]
    rw [BitVec.toInt_eq_toNat_cond] at h0 h1 ⊢
    split at h0 <;> split <;> omega
  have hn : c.toBitVec.toNat < 65536 := by omega
  have a1 := lo8_and c
  have a2 : (hi8 c &&& 255).toBitVec.toNat = c.toBitVec.toNat / 256 := by
    rw [hi8, lo8_and]
    have e : ((8 : Int32) &&& 31) = 8 := by decide
    rw [e, Int32.toBitVec_shiftRight]
    have e2 : ((8 : Int32).toBitVec.smod 32) = 8#32 := by decide
    rw [e2, BitVec.sshiftRight_eq', BitVec.toNat_sshiftRight_of_msb_false (by rw [BitVec.msb_eq_false_iff_two_mul_lt]; omega)]
    show c.toBitVec.toNat >>> 8 % 256 = _
    rw [Nat.shiftRight_eq_div_pow]
    omega
  unfold pairCh
  apply Int32.toBitVec_inj.mp
  apply BitVec.eq_of_toNat_eq
  have f0 : ((0 : Int32) &&& 31) = 0 := by decide
  have f8 : ((8 : Int32) &&& 31) = 8 := by decide
  rw [f0, f8]
  have g : (((lo8 c &&& 255) <<< (0 : Int32)) ||| ((hi8 c &&& 255) <<< (8 : Int32))).toBitVec.toNat = c.toBitVec.toNat := by
    rw [Int32.toBitVec_or, Int32.toBitVec_shiftLeft, Int32.toBitVec_shiftLeft]
    have s0 : ((0 : Int32).toBitVec.smod 32) = 0#32 := by decide
    have s8 : ((8 : Int32).toBitVec.smod 32) = 8#32 := by decide
    rw [s0, s8, BitVec.toNat_or]
    simp only [BitVec.shiftLeft_eq', BitVec.toNat_shiftLeft, a1, a2]
    show (c.toBitVec.toNat % 256) <<< 0 % 2 ^ 32 ||| (c.toBitVec.toNat / 256) <<< 8 % 2 ^ 32 = _
    rw [Nat.shiftLeft_zero, Nat.mod_eq_of_lt (show c.toBitVec.toNat % 256 < 2 ^ 32 by omega), Nat.mod_eq_of_lt (show (c.toBitVec.toNat / 256) <<< 8 < 2 ^ 32 by rw [Nat.shiftLeft_eq]; omega), Nat.or_comm, ← Nat.shiftLeft_add_eq_or_of_lt (by omega), Nat.shiftLeft_eq]
    omega
  show BitVec.toNat (((((lo8 c &&& 255) <<< (0 : Int32)) ||| ((hi8 c &&& 255) <<< (8 : Int32))).toBitVec.setWidth 16).setWidth 32) = _
  rw [BitVec.toNat_setWidth, BitVec.toNat_setWidth, g]
  omega
end StrChars
namespace StrChars
open Jvm Sem ClassFile Op Lib Jvm.Stand Jvm.Free.XT Jvm.Free.ALB Jvm.Free.JM Jvm.Free
open Jvm.Lib.Cold (StaticIs)
theorem shr1 {n : Nat} (h : 2 * n < 2 ^ 31) : Int32.ofNat (2 * n) >>> ((1 : Int32) &&& 31) = Int32.ofNat n := by
  have e : ((1 : Int32) &&& 31) = 1 := by decide
  rw [e]
  apply Int32.toBitVec_inj.mp
  rw [Int32.toBitVec_shiftRight]
  have e1 : ((1 : Int32).toBitVec.smod 32) = 1#32 := by decide
  have hm : (BitVec.ofNat 32 (2 * n)).toNat = 2 * n := by rw [BitVec.toNat_ofNat, Nat.mod_eq_of_lt (by omega)]
  rw [e1, BitVec.sshiftRight_eq']
  apply BitVec.eq_of_toNat_eq
  show ((BitVec.ofNat 32 (2 * n)).sshiftRight 1).toNat = (BitVec.ofNat 32 n).toNat
  rw [BitVec.toNat_sshiftRight_of_msb_false (by rw [BitVec.msb_eq_false_iff_two_mul_lt, hm]; omega), hm, BitVec.toNat_ofNat, Nat.shiftRight_eq_div_pow]
  omega
/-- charAt's cast of a byte read back -/
def chr8 (u : Int32) : Int32 := (u &&& 255).toUInt32.toUInt16.toUInt32.toInt32
theorem chr8_lo8 {c : Int32} (h0 : ¬ c < 0) (h1 : ¬ 255 < c) : chr8 (lo8 c) = c := by
  have t : ∀ k : Fin 256, (Int32.ofNat k.val).toUInt32.toUInt16.toUInt32.toInt32 = Int32.ofNat k.val := by decide +kernel
  unfold chr8
  rw [lo8_mask h0 h1]
  rw [Int32.lt_iff_toInt_lt] at h0 h1
  have e0 : (0 : Int32).toInt = 0 := rfl
  have e1 : (255 : Int32).toInt = 255 := rfl
  obtain ⟨k, hk⟩ : ∃ k : Nat, c.toInt = k := ⟨c.toInt.toNat, by omega⟩
  have hx : c = Int32.ofNat k := Int32.toInt_inj.mp (by rw [hk, Int32.toInt_ofNat_small (by omega)])
  rw [hx]
  exact t ⟨k, by omega⟩
theorem narrow_ch {c : Int32} (h0 : ¬ c < 0) (h1 : ¬ 65535 < c) : narrow .char (.int c) = .int c := by
  have q : narrow .char (.int (pairCh (lo8 c) (hi8 c))) = .int (pairCh (lo8 c) (hi8 c)) := narrow_c _
  rwa [pair_says h0 h1] at q
/-- the array's cell V codes the n chars f 0 .. f (n - 1) by the coder cd, as the JDK does: coder 1 just where some char is above 255 -/
def Cod (cd : Int32) (n : Nat) (f : Nat → Int32) (V : Cell) : Prop := (cd = 0 ∧ V.slots.size = n ∧ ∀ j, j < n → V.slots[j]? = some (.int (lo8 (f j))) ∧ ¬ 255 < f j) ∨ (cd = 1 ∧ V.slots.size = 2 * n ∧ (∀ j, j < n → V.slots[2 * j]? = some (.int (lo8 (f j))) ∧ V.slots[2 * j + 1]? = some (.int (hi8 (f j)))) ∧ ∃ j, j < n ∧ 255 < f j)
theorem Cod.cd {cd : Int32} {n : Nat} {f : Nat → Int32} {V : Cell} (h : Cod cd n f V) : cd = 0 ∨ cd = 1 := h.imp (fun q => q.1) fun q => q.1
theorem Cod.len {cd : Int32} {n : Nat} {f : Nat → Int32} {V : Cell} (h : Cod cd n f V) (hs : V.slots.size < 2 ^ 31) : Int32.ofNat V.slots.size >>> (cd &&& 31) = Int32.ofNat n := by
  rcases h with ⟨rfl, h, -⟩ | ⟨rfl, h, -⟩
  · rw [shr0, h]
  · rw [h, shr1 (by omega)]
/-- **x is a String of the n chars f 0 .. f (n - 1)**, Latin-1 or UTF-16; its array at t has the cell V -/
def Txt (x t : Addr) (V : Cell) (cd : Int32) (n : Nat) (f : Nat → Int32) (U : State) : Prop := Exact "java/lang/String" x U ∧ Has x "java/lang/String" "value" "[B" (.ref t) U ∧ Has x "java/lang/String" "coder" "B" (.int cd) U ∧ XT.Arr .byte t V U ∧ Cod cd n f V ∧ ∀ j, j < n → ¬ f j < 0 ∧ ¬ 65535 < f j
theorem Txt.mv {x t : Addr} {V : Cell} {cd : Int32} {n : Nat} {f : Nat → Int32} {U U' : State} (h : Txt x t V cd n f U) (hal : U.vm.Alike U'.vm) (hh : U'.heap = U.heap) : Txt x t V cd n f U' := ⟨h.1.mv hal hh, h.2.1.mv hal hh, h.2.2.1.mv hal hh, h.2.2.2.1.mv hal hh, h.2.2.2.2⟩
namespace Cdr
def yN : MethodName := ⟨"java/lang/String", "coder", "()B"⟩
abbrev yB : ByteArray := jdk_42_method_152_code
theorem d0 : decode yB 0 = .ok (.getstatic 38, 3) := by decide +kernel
theorem d3 : decode yB 3 = .ok (.ifCond (.eq) 10, 3) := by decide +kernel
theorem d6 : decode yB 6 = .ok (.aload_n 0, 1) := by decide +kernel
theorem d7 : decode yB 7 = .ok (.getfield 15, 3) := by decide +kernel
theorem d10 : decode yB 10 = .ok (.goto 4, 3) := by decide +kernel
theorem d14 : decode yB 14 = .ok (.ireturn, 1) := by decide +kernel
def site : List Cond := [.fieldLink "java/lang/String" 38 "java/lang/String" "COMPACT_STRINGS" "Z", .fieldLink "java/lang/String" 15 "java/lang/String" "coder" "B"]
def tab : Cond := tabOf yN yB 1 (some .byte) site
def P (x : Addr) (cd z : Int32) (args : Array Value) (s : State) : Prop := args = #[.ref x] ∧ Has x "java/lang/String" "coder" "B" (.int cd) s ∧ (cd = 0 ∨ cd = 1) ∧ StaticIs s "java/lang/String" "COMPACT_STRINGS" "Z" (.int z) ∧ ¬ z = 0
def E (cd : Int32) (r : Option Value) (s u : State) : Prop := XT.PureE (some (.int cd)) r s u
theorem law (l : Launch) (x : Addr) (cd z : Int32) : Law l yN 1 0 0 0 yB 1 (some .byte) site (P x cd z) (E cd) [] 0 0 := by
  refine Law.of_walk (plainFor_of_name (by decide +kernel)) (by decide +kernel) (by decide +kernel) (by decide) (fun _ _ h => by rw [h.1]; rfl) (fun _ U U' hal hh h => ⟨h.1, h.2.1.mv hal hh, h.2.2.1, h.2.2.2.1.there hal hh, h.2.2.2.2⟩) (fun r U U' V V' h1 hal h2 h => XT.PureE.mv r U U' V V' h1 hal h2 h) ?_
  intro p e s m args below meth c s₁ X0 hexec hbytes hml hret hlk hnm hown hh0 W hP
  obtain ⟨rfl, hx, hc, s1, hz⟩ := hP
  have c1 : Steps p.tables e below (s₁.setTop (entryFrame m #[.ref x] 1)) (s₁.setTop (mkF m 0 #[.val (.ref x)] [])) := entry rfl
  obtain ⟨T2, X2, q2, st2⟩ := X0.sget hexec hown (wk W (.fieldLink "java/lang/String" 38 "java/lang/String" "COMPACT_STRINGS" "Z")) s1 (fun _ _ h => by rw [hh0]; exact h) (g := (mkF m 0 #[.val (.ref x)] [])) rfl (hb hbytes d0)
  have hh2 := q2.trans hh0
  have c3 : Steps p.tables e below (s₁.setTop (entryFrame m #[.ref x] 1)) (T2.setTop (mkF m 7 #[.val (.ref x)] [.ref x])) := (c1.trans (st2 _ (Steps.refl _))).trans (by
    refine XS.ifNo X2.here hexec rfl (hb hbytes d3) rfl (i0_eq_f hz) ?_
    refine XS.aloadN X2.here hexec rfl (hb hbytes d6) rfl rfl ?_
    exact Steps.refl _)
  obtain ⟨T4, X4, q4, st4⟩ := X2.hget hexec hown (wk W (.fieldLink "java/lang/String" 15 "java/lang/String" "coder" "B")) (hx.mv X2.warmed.alike hh2) (g := (mkF m 7 #[.val (.ref x)] [.ref x])) rfl (rest := []) rfl (hb hbytes d7)
  have c5 : Steps p.tables e below (s₁.setTop (entryFrame m #[.ref x] 1)) (T4.setTop (mkF m 14 #[.val (.ref x)] [.int cd])) := (c3.trans (st4 _ (Steps.refl _))).trans (by
    refine XS.goto X4.here hexec rfl (pc0 := 10) rfl (hb hbytes d10) (by decide) rfl ?_
    exact Steps.refl _)
  exact ⟨T4, some (.int cd), _, _, _, X4, rfl, rfl, rfl, (fun h => by cases h), ⟨rfl, q4.trans hh2⟩, fun fs hl => c5.trans (X4.ireturnOut hexec hret (by rcases hc with rfl | rfl <;> rfl) (Or.inr (Or.inr (Or.inl rfl))) (hb hbytes d14) hl)⟩
end Cdr
namespace Len
def yN : MethodName := ⟨"java/lang/String", "length", "()I"⟩
abbrev yB : ByteArray := jdk_42_method_54_code
theorem d0 : decode yB 0 = .ok (.aload_n 0, 1) := by decide +kernel
theorem d1 : decode yB 1 = .ok (.getfield 9, 3) := by decide +kernel
theorem d4 : decode yB 4 = .ok (.arraylength, 1) := by decide +kernel
theorem d5 : decode yB 5 = .ok (.aload_n 0, 1) := by decide +kernel
theorem d6 : decode yB 6 = .ok (.invokevirtual 335, 3) := by decide +kernel
theorem d9 : decode yB 9 = .ok (.ishr, 1) := by decide +kernel
theorem d10 : decode yB 10 = .ok (.ireturn, 1) := by decide +kernel
def site : List Cond := [.fieldLink "java/lang/String" 9 "java/lang/String" "value" "[B", Cdr.tab] ++ virtW "java/lang/String" 335 "java/lang/String" Cdr.yN Cdr.yN
def tab : Cond := tabOf yN yB 1 (some .int) site
def P (x t : Addr) (V : Cell) (cd : Int32) (n : Nat) (f : Nat → Int32) (z : Int32) (args : Array Value) (s : State) : Prop := args = #[.ref x] ∧ Txt x t V cd n f s ∧ StaticIs s "java/lang/String" "COMPACT_STRINGS" "Z" (.int z) ∧ ¬ z = 0
def E (n : Nat) (r : Option Value) (s u : State) : Prop := XT.PureE (some (.int (Int32.ofNat n))) r s u
/-- length() of a String of n chars, in either coding -/
theorem law (l : Launch) (x t : Addr) (V : Cell) (cd : Int32) (n : Nat) (f : Nat → Int32) (z : Int32) : Law l yN 1 0 1 13 yB 1 (some .int) site (P x t V cd n f z) (E n) [] 0 0 := by
  refine Law.of_walk (plainFor_of_name (by decide +kernel)) (by decide +kernel) (by decide +kernel) (by decide) (fun _ _ h => by rw [h.1]; rfl) (fun _ U U' hal hh h => ⟨h.1, h.2.1.mv hal hh, h.2.2.1.there hal hh, h.2.2.2⟩) (fun r U U' V V' h1 hal h2 h => XT.PureE.mv r U U' V V' h1 hal h2 h) ?_
  intro p e s m args below meth c s₁ X0 hexec hbytes hml hret hlk hnm hown hh0 W hP
  obtain ⟨rfl, hx, s1, hz⟩ := hP
  have v31 := hx.2.2.2.1.2.2.2
  have c1 : Steps p.tables e below (s₁.setTop (entryFrame m #[.ref x] 1)) (s₁.setTop (mkF m 1 #[.val (.ref x)] [.ref x])) := Steps.trans (entry rfl) (by
    show Steps p.tables e below (s₁.setTop (mkF m 0 #[.val (.ref x)] [])) _
    refine XS.aloadN X0.here hexec rfl (hb hbytes d0) rfl rfl ?_
    exact Steps.refl _)
  obtain ⟨T2, X2, q2, st2⟩ := X0.hget hexec hown (wk W (.fieldLink "java/lang/String" 9 "java/lang/String" "value" "[B")) (hx.mv X0.warmed.alike hh0).2.1 (g := (mkF m 1 #[.val (.ref x)] [.ref x])) rfl (rest := []) rfl (hb hbytes d1)
  have hh2 := q2.trans hh0
  have hx2 := hx.mv X2.warmed.alike hh2
  have c3 : Steps p.tables e below (s₁.setTop (entryFrame m #[.ref x] 1)) (T2.setTop (mkF m 6 #[.val (.ref x)] [.ref x, .int (Int32.ofNat V.slots.size)])) := (c1.trans (st2 _ (Steps.refl _))).trans (by
    refine X2.alen hexec hx2.2.2.2.1 rfl rfl (hb hbytes d4) ?_
    refine XS.aloadN X2.here hexec rfl (hb hbytes d5) rfl rfl ?_
    exact Steps.refl _)
  obtain ⟨v4, T4, X4, E4, g4⟩ := X2.callV hexec (Cdr.law l x cd z) hown (wks W (virtW "java/lang/String" 335 "java/lang/String" Cdr.yN Cdr.yN)) rfl (by decide) (wk W Cdr.tab) (W := 1) (Nat.le_of_ble_eq_true rfl) (Nat.le_of_ble_eq_true rfl) (Nat.le_refl _) (Nat.le_refl _) (hx2.1.fc X2.warmed.alike) hx2.1.is (g := (mkF m 6 #[.val (.ref x)] [.ref x, .int (Int32.ofNat V.slots.size)])) rfl (by rw [hml]; rfl) c3 (argsL := []) (rest := [.int (Int32.ofNat V.slots.size)]) rfl rfl (by show 2 * 0 + (1 + 0) ≤ _; decide) (hb hbytes d6) (⟨rfl, hx2.2.2.1, hx.2.2.2.2.1.cd, s1.there X2.warmed.alike hh2, hz⟩)
  obtain ⟨rfl, q4⟩ := E4
  have c5 : Steps p.tables e below (s₁.setTop (entryFrame m #[.ref x] 1)) (T4.setTop (mkF m 10 #[.val (.ref x)] [.int (Int32.ofNat V.slots.size >>> (cd &&& 31))])) := Steps.trans g4 (by
    refine ishr X4.here hexec rfl (hb hbytes d9) rfl ?_
    exact Steps.refl _)
  rw [hx.2.2.2.2.1.len v31] at c5
  exact ⟨T4, some (.int (Int32.ofNat n)), _, _, _, X4, rfl, rfl, rfl, (fun h => by cases h), ⟨rfl, q4.trans hh2⟩, fun fs hl => c5.trans (X4.ireturnOut hexec hret rfl (Or.inl rfl) (hb hbytes d10) hl)⟩
theorem pays {l : Launch} {R : Room} {p : Program} {e : Env} {below : List Frame} {s : State} {sargs : Array Value} {len W : Nat} (x t : Addr) (V : Cell) (cd : Int32) (n : Nat) (f : Nat → Int32) (z : Int32) (htab : tab.before sargs s = true) (hfr : 2 ≤ R.frames) (hlo : W + 25 ≤ R.locals) :
    Back l R p e below s sargs yN len W (fun A₁ a₁ => A₁.cells + 0 ≤ R.cells ∧ A₁.slots + 0 ≤ R.slots ∧ P x t V cd n f z a₁ A₁.U) (fun A₁ _ v₁ B₁ => E n v₁ A₁.U B₁.U ∧ B₁.locs = A₁.locs ++ [] ∧ B₁.cells = A₁.cells + 0 ∧ B₁.slots = A₁.slots + 0) :=
  (law l x t V cd n f z).pays htab hfr (by omega)
end Len
end StrChars
namespace StrChars.Road
open Jvm Sem ClassFile Op Lib Jvm.Stand Jvm.Free Jvm.Free.XT
open Jvm.Lib.Cold (StaticIs)
theorem consq {a : Array Value} {s : State} {c : Jvm.Cond} {L : List Jvm.Cond} (h0 : c.before a s = true) (h : ∀ w ∈ L, w.before a s = true) : ∀ w ∈ c :: L, w.before a s = true := fun w hw => (List.mem_cons.mp hw).elim (fun e => e ▸ h0) (h w)
/-- the words of String.length(), either coding -/
abbrev wordsLen : List Jvm.Cond := [.code Len.yN Len.yB 1 (some .int), .initialized ST, .fieldLink ST 9 ST "value" "[B", .fieldLink ST 38 ST "COMPACT_STRINGS" "Z", .fieldLink ST 15 ST "coder" "B", .code Cdr.yN Cdr.yB 1 (some .byte), .methodLink ST 335 Cdr.yN, .declares Cdr.yN, .selects ST Cdr.yN Cdr.yN, .instanceMethod Cdr.yN]
theorem tabLen_of {a : Array Value} {s : State} (h : ∀ w ∈ wordsLen, w.before a s = true) : Len.tab.before a s = true := by
  have hc : Cdr.tab.before a s = true := unparts (wk h (.code Cdr.yN Cdr.yB 1 (some .byte))) (wks h (.initialized Cdr.yN.cls :: Cdr.site))
  have q := consq hc h
  exact unparts (wk q (.code Len.yN Len.yB 1 (some .int))) (wks q (.initialized Len.yN.cls :: Len.site))
theorem movedLen {Z s : State} {a0 args : Array Value} (hZ : Z.Warmed39 s.vm) (hw : ∀ d ∈ wordsLen, d.before a0 Z = true) : ∀ d ∈ wordsLen, d.before args s = true := fun d hd => by
  have q := hw d hd
  have t : ∀ d ∈ wordsLen, d = .arrayClass .byte ∨ (d.onTables && d.keepsFace) = true := by decide +kernel
  rcases t d hd with rfl | t
  · exact RoadKit.mvA hZ q
  · exact RoadKit.mv hZ q t
/-- the bytes of the chars cs, low before high -/
def wideBytes : List Int32 → List Value
  | [] => []
  | c :: cs => .int (lo8 c) :: .int (hi8 c) :: wideBytes cs
theorem wide_lo (d : Value) : ∀ (cs : List Int32) (j : Nat), j < cs.length → (wideBytes cs).getD (2 * j) d = .int (lo8 (cs.getD j 0))
  | [], j, h => absurd h (Nat.not_lt_zero j)
  | c :: cs, 0, _ => rfl
  | c :: cs, j + 1, h => by
    have q := wide_lo d cs j (by simpa using h)
    rw [show 2 * (j + 1) = 2 * j + 1 + 1 from by omega]
    simpa [wideBytes] using q
theorem wide_hi (d : Value) : ∀ (cs : List Int32) (j : Nat), j < cs.length → (wideBytes cs).getD (2 * j + 1) d = .int (hi8 (cs.getD j 0))
  | [], j, h => absurd h (Nat.not_lt_zero j)
  | c :: cs, 0, _ => rfl
  | c :: cs, j + 1, h => by
    have q := wide_hi d cs j (by simpa using h)
    rw [show 2 * (j + 1) + 1 = 2 * j + 1 + 1 + 1 from by omega]
    simpa [wideBytes] using q
theorem low_at (d : Value) (cs : List Int32) (j : Nat) (h : j < cs.length) : (cs.map fun c => Value.int (lo8 c)).getD j d = .int (lo8 (cs.getD j 0)) := by
  simp [List.getD_eq_getElem?_getD, h]
/-- an array of N2 bytes vs codes the chars cs by the coder cd -/
def CodA (cs : List Int32) (cd N2 : Int32) (vs : List Value) : Prop := (cd = 0 ∧ N2 = Int32.ofNat cs.length ∧ vs = (cs.map fun c => Value.int (lo8 c)) ∧ ∀ c ∈ cs, ¬ 255 < c) ∨ (cd = 1 ∧ N2 = Int32.ofNat (2 * cs.length) ∧ vs = wideBytes cs ∧ ∃ c ∈ cs, 255 < c)
theorem CodA.cod {cs : List Int32} {cd N2 : Int32} {vs : List Value} {V : Cell} (h : CodA cs cd N2 vs) (hn : 2 * cs.length < 2 ^ 31) (hs : V.slots.size = N2.toNatClampNeg) (hv : RoadKit.Has V vs (.int 0)) : Cod cd cs.length (fun j => cs.getD j 0) V := by
  rcases h with ⟨rfl, rfl, rfl, h⟩ | ⟨rfl, rfl, rfl, c, hc, hw⟩
  · rw [n32 (by omega)] at hs
    exact Or.inl ⟨rfl, hs, fun j hj => ⟨by rw [hv j (by omega), low_at _ _ _ hj], by
      have e : cs.getD j 0 = cs[j] := by simp [List.getD_eq_getElem?_getD, hj]
      show ¬ 255 < cs.getD j 0
      rw [e]; exact h _ (List.getElem_mem _)⟩⟩
  · rw [n32 (by omega)] at hs
    obtain ⟨j, hj, rfl⟩ := List.getElem_of_mem hc
    exact Or.inr ⟨rfl, hs, fun j hj => ⟨by rw [hv _ (by omega), wide_lo _ _ _ hj], by rw [hv _ (by omega), wide_hi _ _ _ hj]⟩, j, hj, by
      have e : cs.getD j 0 = cs[j] := by simp [List.getD_eq_getElem?_getD, hj]
      show 255 < cs.getD j 0
      rw [e]; exact hw⟩
/-- an object of exactly java/lang/String, its two fields found: as the laws ask it -/
theorem strObj {Z U : State} {a0 : Array Value} {kI : Nat} (wi : (Jvm.Cond.instantiable ST kI).before a0 Z = true) (al : Z.vm.Alike U.vm) {x : Addr} {v0 c0 : Value} (E : RoadKit.Exa Z U.heap x ST) (V : RoadKit.Fld Z U.heap x ST "value" "[B" v0) (C : RoadKit.Fld Z U.heap x ST "coder" "B" c0) :
    ∃ (D : Cell) (fV fC : Field), Blank ST x D U ∧ Found ST "value" "[B" fV U ∧ Found ST "coder" "B" fC U ∧ D.slots[fV.slot]? = some v0 ∧ D.slots[fC.slot]? = some c0 ∧ RoadKit.slotOf Z ST "value" "[B" = fV.slot ∧ RoadKit.slotOf Z ST "coder" "B" = fC.slot := by
  obtain ⟨D, cfV, kV, iV, fV, hD, gV, stV, knV, obV, asV, slV⟩ := V
  obtain ⟨D', cfC, kC, iC, fC, hD', gC, stC, -, -, asC, slC⟩ := C
  cases hD.symm.trans hD'
  obtain ⟨D2, kD, e1, e2, e3, e4, e5⟩ := E
  cases hD.symm.trans e1
  obtain ⟨c2, k2, i1, i2, i3, -⟩ := Cond.instantiable_spec wi
  cases e2.symm.trans i1
  cases e3.symm.trans i2
  obtain ⟨kU, u1, u2⟩ := al.2.2 _ _ e3
  exact ⟨D, fV, fC, ⟨hD, ⟨knV, fun q hq => by rw [hq] at obV; cases obV⟩, by rw [al.findClass]; exact e2, kU, u1, by rw [u2]; exact i3, by rw [u2]; exact e5 i3⟩, ⟨SBG.found_only al ⟨cfV, kV, iV, gV⟩, stV⟩, ⟨SBG.found_only al ⟨cfC, kC, iC, gC⟩, stC⟩, slV, slC, by simp [RoadKit.slotOf, gV], by simp [RoadKit.slotOf, gC]⟩
theorem sta_is {Z U : State} (al : Z.vm.Alike U.vm) {C n d : String} {v : Value} (S : RoadKit.Sta Z U.heap C n d v) : StaticIs U C n d v := by
  obtain ⟨cfS, iS, kS, fS, st, cS, t1, t2, t3, t4, t5, t6, t7⟩ := S
  exact StaticIs.there (s := { Z with heap := U.heap }) ⟨cfS, iS, kS, fS, st, cS, t1, t2, t3, t4, t5, (fun q => by rw [q] at t6; cases t6), t7⟩ al rfl
/-- **length() OF SUCH A STRING** -/
theorem lenW {p : Program} {l : Launch} {e : Env} {R : Room} {s : State} {args : Array Value} {below : List Frame} {len W : Nat} {Z : State} {a0 : Array Value} {h : Heap} (hZ : Z.Warmed39 s.vm) (hw : ∀ d ∈ wordsLen, d.before a0 Z = true) {kI : Nat} (wi : (Jvm.Cond.instantiable ST kI).before a0 Z = true)
    {x t : Addr} {kb : ClassId} {cs : List Int32} {cd N2 z : Int32} {vs : List Value} (E : RoadKit.Exa Z h x ST) (V : RoadKit.Fld Z h x ST "value" "[B" (.ref t)) (C : RoadKit.Fld Z h x ST "coder" "B" (.int cd)) (K : RoadKit.Arv Z h t kb .byte N2 vs (.int 0)) (hc : CodA cs cd N2 vs) (hb : ∀ c ∈ cs, ¬ c < 0 ∧ ¬ (65535 : Int32) < c)
    (S : RoadKit.Sta Z h ST "COMPACT_STRINGS" "Z" (.int z)) (hz : ¬ z = 0) (l2 : cs.length ≤ 4000) (hfr : 2 ≤ R.frames) (hlo : W + 25 ≤ R.locals) :
    Back l R p e below s args (⟨"java/lang/String", "length", "()I"⟩ : MethodName) len W (fun P a => a = #[.ref x] ∧ P.U.heap = h ∧ P.cells + 0 ≤ R.cells ∧ P.slots + 0 ≤ R.slots)
      (fun P _ v B => ∃ L, (v = some (.int (Int32.ofNat cs.length)) ∧ L = [] ∧ B.U.heap = h) ∧ B.locs = P.locs ++ L ∧ B.cells = P.cells + 0 ∧ B.slots = P.slots + 0) := by
  obtain ⟨A, K1, K2, K3, K4, K5, K6⟩ := K
  have hcod := hc.cod (by omega) K3 K5
  intro m meth c P g ig mk a X hg hsize hdg hW hn hp'
  obtain ⟨rfl, rfl, r1, r2⟩ := hp'
  have al : Z.vm.Alike P.U.vm := hZ.alike.trans X.warmed.alike
  obtain ⟨D, fV, fC, hB, F1, F2, g1, g2, -, -⟩ := strObj wi al E V C
  have hx : Txt x t A cd cs.length (fun j => cs.getD j 0) P.U := ⟨⟨_, hB.2.2.1, D, hB.1, rfl, by cases q : D.vm <;> first | rfl | exact absurd q (hB.2.1.2 _)⟩, Has.of hB F1 g1, Has.of hB F2 g2, ⟨K1.1, State.isArrayOf_alike al K1.2.1, K1.2.2, by rcases hcod with ⟨-, q, -⟩ | ⟨-, q, -⟩ <;> omega⟩, hcod, fun j hj => by
    have e : cs.getD j 0 = cs[j] := by simp [List.getD_eq_getElem?_getD, hj]
    show ¬ cs.getD j 0 < 0 ∧ ¬ 65535 < cs.getD j 0
    rw [e]; exact hb _ (List.getElem_mem _)⟩
  obtain ⟨v, B, X', ⟨⟨hv, hh⟩, hl, hk, hs⟩, st⟩ := Len.pays x t A cd cs.length (fun j => cs.getD j 0) z (tabLen_of (movedLen hZ hw)) hfr hlo m meth c P g ig mk _ X hg hsize hdg hW hn ⟨r1, r2, rfl, hx, sta_is al S, hz⟩
  exact ⟨v, B, X', ⟨[], ⟨hv, rfl, hh⟩, hl, hk, hs⟩, st⟩
end StrChars.Road
namespace StrChars.Road
open Jvm Sem ClassFile Op Lib Jvm.Stand Jvm.Free Jvm.Free.XT
open Jvm.Lib.Cold (StaticIs)
/-- what backV says of its String, as the contracts of this text ask it: cs's low bytes, coder 0 -/
theorem codOf {cs : List Int32} {n : Nat} (hn : cs.length = n) (hb : ∀ c ∈ cs, ¬ 255 < c) : CodA cs 0 (Int32.ofNat n) ((cs.map lo8).map Value.int) := Or.inl ⟨rfl, by rw [hn], by simp [List.map_map, Function.comp_def], hb⟩
end StrChars.Road
end Jvm.Pilot.@@N@@
namespace Jvm.Pilot.@@N@@
open Jvm Jvm.ClassFile Sem Op Lib Jvm.Free Jvm.Stand Jvm.LawKit Jvm.RoadKit Bundle Jvm.Pilot.@@N@@.Jvm.D
/-! OWN KIT, core: where a walk stands (own_S), what is left to run (own_Go), a body's contract (own_Met), and the rules that join them. -/
section OwnCore
variable {p : Program} {l : Launch} {e : Env} {R : Room} {s : State} {m : MethodId} {args : Array Value} {below : List Frame} {meth : Method} {c : Code} {T T' : State} {cells slots : Nat} {Z : State} {a0 : Array Value} {h h' h0 : Heap} {w kf : Bool} {EL : List (String × Nat)} {own : String} {ws ws' fs : List Addr} {Q : Option Value → Heap → Prop} {vm0 vm1 : Vm} {locs L : List Loc} {k0 : Nat} {tb : Tables} {P : Outcome → State → Prop}

/-- from T, with the frame f on top, the run comes to its end and P says how -/
def own_Go (tb : Tables) (e : Env) (below : List Frame) (P : Outcome → State → Prop) (T : State) (f : JFrame) : Prop :=
  ∃ s₂ o, Steps tb e below (T.setTop f) s₂ ∧ s₂.status = .running ∧ Ended s₂ below o ∧ P o s₂
theorem own_by {f f' : JFrame} (k : ∀ t, Steps tb e below (T'.setTop f') t → Steps tb e below (T.setTop f) t) (g : own_Go tb e below P T' f') : own_Go tb e below P T f := by
  obtain ⟨s₂, o, h1, r⟩ := g
  exact ⟨s₂, o, k _ h1, r⟩
theorem own_on {f f' : JFrame} (k : Steps tb e below (T.setTop f) (T'.setTop f')) (g : own_Go tb e below P T' f') : own_Go tb e below P T f := own_by (fun _ q => k.trans q) g

def own_End (w : Bool) (s : State) (o : Outcome) (t : State) (L : List Loc) (k n : Nat) : Prop := (w = true → ReturnedEndW s o t L k n) ∧ (w = false → FrameEnd s o t L k n)
/-- what every contract says besides its own Q -/
def own_Post (w : Bool) (EL : List (String × Nat)) (Z : State) (rm : Room) (h0 : Heap) (ws : List Addr) (Q : Option Value → Heap → Prop) (U : State) (o : Outcome) (U' : State) : Prop :=
  ∃ v L, o = .returned v ∧ Q v U'.heap ∧ Keep h0 U'.heap ws ∧ Fr Z.heap.size L ∧ CHr Z EL U.vm h0 U'.vm U'.heap ∧ own_End w U o U' L rm.cells rm.slots
/-- what every contract asks -/
def own_Pre (EL : List (String × Nat)) (Z : State) (a0 : Array Value) (as' : Array Value) (h0 : Heap) (ws : List Addr) (a : Array Value) (U : State) : Prop :=
  a = as' ∧ Z.Warmed39 U.vm ∧ U.heap = h0 ∧ Ext Z.heap h0 ∧ EW Z a0 EL ∧ CHv Z EL U.vm h0 ∧ ∀ x ∈ ws, Z.heap.size ≤ x ∧ x < h0.size ∧ Safe Z EL U.vm h0 x
def own_K (kf : Bool) : Program → Env → List Frame → State → Array Value → Prop := fun _ _ bl s _ => kf = true → s.vm.MethodsKnown ∧ s.vm.FramesKnown bl
/-- the contract of a body -/
def own_Met (w kf : Bool) (EL : List (String × Nat)) (l : Launch) (Z : State) (a0 : Array Value) (y : MethodName) (bytes : ByteArray) (maxL : Nat) (ret : Option FieldType) (more : List Cond) (rm : Room) (as' : Array Value) (h0 : Heap) (ws : List Addr) (Q : Option Value → Heap → Prop) : Prop :=
  MetFree l y (head1 (Cond.code y bytes maxL ret :: more) rm) (own_Pre EL Z a0 as' h0 ws) (own_K kf) (fun _ U o U' => own_Post w EL Z rm h0 ws Q U o U')
/-- what a walk bears besides its Stand -/
def own_I (w kf : Bool) (EL : List (String × Nat)) (s : State) (m : MethodId) (below : List Frame) (Z : State) (a0 : Array Value) (own : String) (h0 : Heap) (ws : List Addr) (h : Heap) (fs : List Addr) (vm0 : Vm) (locs : List Loc) (k0 : Nat) : Prop :=
  Z.Warmed39 vm0 ∧ vm0.findClass own = some m.cls ∧ Fr Z.heap.size locs ∧ Ext Z.heap h ∧ Keep h0 h ws ∧ s.Since vm0 k0 ∧ k0 ≤ h.size ∧ EW Z a0 EL ∧ CHr Z EL s.vm h0 vm0 h ∧ (w = false → vm0 = s.vm) ∧ (kf = true → vm0.MethodsKnown ∧ vm0.FramesKnown below) ∧ (s.heap = h0 ∧ Ext Z.heap h0) ∧
    ∀ x ∈ fs, (x ∈ ws ∨ h0.size ≤ x) ∧ Z.heap.size ≤ x ∧ x < h.size ∧ Safe Z EL vm0 h x
/-- where the walk stands: the state T, its heap h, the cells fs that it may write -/
def own_S (w kf : Bool) (EL : List (String × Nat)) (p : Program) (l : Launch) (e : Env) (R : Room) (s : State) (m : MethodId) (args : Array Value) (below : List Frame) (meth : Method) (c : Code) (Z : State) (a0 : Array Value) (own : String) (h0 : Heap) (ws : List Addr) (T : State) (h : Heap) (fs : List Addr) (cells slots : Nat) : Prop :=
  ∃ vm0 locs k0, Stand p l e R (s.setVm vm0) m args below meth c T locs cells slots ∧ T.heap = h ∧ own_I w kf EL s m below Z a0 own h0 ws h fs vm0 locs k0

theorem own_here (K : own_S w kf EL p l e R s m args below meth c Z a0 own h0 ws T h fs cells slots) : At T m c below := by
  obtain ⟨vm0, locs, k0, X, -⟩ := K; exact X.here
theorem own_more (K : own_S w kf EL p l e R s m args below meth c Z a0 own h0 ws T h fs cells slots) {cells' slots' : Nat} (hc : cells ≤ cells') (hs : slots ≤ slots') : own_S w kf EL p l e R s m args below meth c Z a0 own h0 ws T h fs cells' slots' := by
  obtain ⟨vm0, locs, k0, X, r⟩ := K; exact ⟨vm0, locs, k0, X.more hc hs, r⟩
theorem own_sub (K : own_S w kf EL p l e R s m args below meth c Z a0 own h0 ws T h fs cells slots) {fs' : List Addr} (q : ∀ x ∈ fs', x ∈ fs) : own_S w kf EL p l e R s m args below meth c Z a0 own h0 ws T h fs' cells slots := by
  obtain ⟨vm0, locs, k0, X, eT, h1, h2, h3, h4, h5, h6, h7, h8, h9, h10, h11, hst, h12⟩ := K
  exact ⟨vm0, locs, k0, X, eT, h1, h2, h3, h4, h5, h6, h7, h8, h9, h10, h11, hst, fun x hx => h12 x (q x hx)⟩
theorem own_ext0 (K : own_S w kf EL p l e R s m args below meth c Z a0 own h0 ws T h fs cells slots) : Ext Z.heap h := by
  obtain ⟨vm0, locs, k0, X, eT, h1, h2, h3, h4, -⟩ := K; exact h4
theorem own_alike (K : own_S w kf EL p l e R s m args below meth c Z a0 own h0 ws T h fs cells slots) : ∃ vm0, Z.vm.Alike vm0 := by
  obtain ⟨vm0, locs, k0, X, eT, h1, -⟩ := K; exact ⟨vm0, h1.alike⟩
theorem own_fresh (K : own_S w kf EL p l e R s m args below meth c Z a0 own h0 ws T h fs cells slots) {x : Addr} (hx : x ∈ fs) : Z.heap.size ≤ x ∧ x < h.size := by
  obtain ⟨vm0, locs, k0, X, eT, h1, h2, h3, h4, h5, h6, h7, h8, h9, h10, h11, hst, h12⟩ := K; exact ⟨(h12 x hx).2.1, (h12 x hx).2.2.1⟩
theorem own_cat {v : Value} (q : v.isRef = true) : v.category = 1 := by rcases ref_cases q with rfl | ⟨_, rfl⟩ <;> rfl
theorem own_fits {v : Value} {C : String} (q : v.isRef = true) : fits (.object C) v = true := by rcases ref_cases q with rfl | ⟨_, rfl⟩ <;> rfl
theorem own_mem1 {x : Addr} (q : x ∈ fs) : ∀ y ∈ [x], y ∈ fs := fun y hy => by cases List.mem_singleton.mp hy; exact q
theorem own_mem2 {x y : Addr} (q : x ∈ fs) (r : y ∈ fs) : ∀ z ∈ [x, y], z ∈ fs := fun z hz => by
  rcases List.mem_cons.mp hz with rfl | hz
  · exact q
  · cases List.mem_singleton.mp hz; exact r
theorem own_sta (K : own_S w kf EL p l e R s m args below meth c Z a0 own h0 ws T h fs cells slots) {C n d : String} {v : Value} (F : Sta Z Z.heap C n d v) : Sta Z h C n d v := F.ext (own_ext0 K)

/-- the heap moves on, the tables stay -/
theorem own_I.keep (I : own_I w kf EL s m below Z a0 own h0 ws h fs vm0 locs k0) (Kp : Keep h h' ws') (hw : ∀ x ∈ ws', x ∈ fs) (hL : Fr Z.heap.size L) : own_I w kf EL s m below Z a0 own h0 ws h' fs vm0 (locs ++ L) k0 := by
  obtain ⟨h1, h2, h3, h4, h5, h6, h7, h8, h9, h10, h11, hst, h12⟩ := I
  have C : CHr Z EL vm0 h vm0 h' := CHr.keep Kp (fun x hx => (h12 x (hw x hx)).2.2.2) h9.1
  refine ⟨h1, h2, h3.app hL, ?_, h5.trans Kp (fun x hx => (h12 x (hw x hx)).1), h6, Nat.le_trans h7 Kp.1, h8, h9.trans C, h10, h11, hst, fun x hx => ?_⟩
  · exact (Old.keep (show Old Z Z.heap.size h from ⟨rfl, h4⟩) Kp fun x hx => (h12 x (hw x hx)).2.1).2
  · obtain ⟨q1, q2, q3, q4⟩ := h12 x hx
    exact ⟨q1, q2, Nat.lt_of_lt_of_le q3 Kp.1, C.safe q3 q4⟩
/-- a new cell at the heap's end -/
theorem own_I.grow (I : own_I w kf EL s m below Z a0 own h0 ws h fs vm0 locs k0) (E : Ext h h') (hlt : h.size < h'.size) : own_I w kf EL s m below Z a0 own h0 ws h' (h.size :: fs) vm0 locs k0 := by
  have I' := I.keep (L := []) ((Keep.refl h []).ext E) (fun _ q => nomatch q) (Fr.nil _)
  rw [List.append_nil] at I'
  obtain ⟨h1, h2, h3, h4, h5, h6, h7, h8, h9, h10, h11, hst, h12⟩ := I'
  refine ⟨h1, h2, h3, h4, h5, h6, h7, h8, h9, h10, h11, hst, fun x hx => ?_⟩
  rcases List.mem_cons.mp hx with rfl | hx
  · obtain ⟨-, -, -, g4, g5, -, -, -, g9, -⟩ := I
    exact ⟨Or.inr g5.1, g4.1, hlt, Safe.ext E g9.1 (Safe.new (Nat.le_refl _))⟩
  · exact h12 x hx
/-- the tables move on (literals were interned) -/
theorem own_I.wide (I : own_I w kf EL s m below Z a0 own h0 ws h fs vm0 locs k0) (hw1 : w = true) (C : CHr Z EL vm0 h vm1 h') {k1 : Nat} (S : (s.setVm vm0).Since vm1 k1) (hk : h.size ≤ k1) (hk1 : k1 ≤ h'.size) (Kp : Keep h h' ws') (hw : ∀ x ∈ ws', x ∈ fs) (hL : Fr Z.heap.size L) : own_I w kf EL s m below Z a0 own h0 ws h' fs vm1 (locs ++ L) k1 := by
  obtain ⟨h1, h2, h3, h4, h5, h6, h7, h8, h9, h10, h11, hst, h12⟩ := I
  have al : vm0.Alike vm1 := S.1.alike
  refine ⟨State.Warmed39.trans (t := s.setVm vm0) h1 S.1, (al.findClass _ _).trans h2, h3.app hL, ?_, h5.trans Kp (fun x hx => (h12 x (hw x hx)).1), h6.trans S (Nat.le_trans h7 hk), hk1, h8, h9.trans C, (fun q => by rw [hw1] at q; cases q), fun q => ?_, hst, fun x hx => ?_⟩
  · exact (Old.keep (show Old Z Z.heap.size h from ⟨rfl, h4⟩) Kp fun x hx => (h12 x (hw x hx)).2.1).2
  · obtain ⟨g1, g2⟩ := h11 q
    exact ⟨Vm.MethodsKnown.alikeC al g1, Vm.FramesKnown.alikeC al g2⟩
  · obtain ⟨q1, q2, q3, q4⟩ := h12 x hx
    exact ⟨q1, q2, Nat.lt_of_lt_of_le q3 Kp.1, C.safe q3 q4⟩

/-- entering a body -/
theorem own_enter {y : MethodName} {bytes : ByteArray} {maxL : Nat} {ret : Option FieldType} {more : List Cond} {rm : Room} {as' : Array Value} (ho : y.cls = own) (hpl : plainFor y = true)
    (body : ∀ (p : Program) (e : Env) (s : State) (m : MethodId) (below : List Frame) (meth : Method) (c : Code) (T : State), p.tables.exec = Jvm.exec → c.code = bytes → c.maxLocals = maxL → meth.sig.returnType = ret → meth.locks = false → meth.name = y.name →
      own_S w kf EL p l e rm s m as' below meth c Z a0 own h0 ws T h0 ws 0 0 → own_Go p.tables e below (own_Post w EL Z rm h0 ws Q s) T (entryFrame m as' maxL)) :
    own_Met w kf EL l Z a0 y bytes maxL ret more rm as' h0 ws Q := by
  subst ho
  refine MetFree.of_bodySF hpl hisR ?_
  intro p e s m args below meth c s₁ Bd hml hP hK
  obtain ⟨rfl, hZ, hh, hE, hEL, hC, hws⟩ := hP
  have X0 : Stand p l e rm s m args below meth c s₁ [] 0 0 := Stand.of_body Bd
  have e0 : s₁.heap = h0 := by rw [← hh, Bd.state]; rfl
  exact body p e s m below meth c s₁ Bd.exec Bd.bytes hml Bd.returns Bd.notSynchronized (name_of_methodNamed Bd.named Bd.method).1
    ⟨s.vm, [], h0.size, X0, e0, hZ, findClass_of_methodNamed Bd.named, Fr.nil _, hE, Keep.refl _ _, (State.WarmedH.refl s).since _, Nat.le_refl _, hEL, CHr.refl hC, fun _ => rfl, hK, ⟨hh, hE⟩, fun x hx => ⟨Or.inl hx, hws x hx⟩⟩

/-- leaving it -/
theorem own_leave (K : own_S w kf EL p l e R s m args below meth c Z a0 own h0 ws T h fs cells slots) (hlk : meth.locks = false) {v : Option Value} (hv : meth.sig.returnType = none → v = none) (hc : cells ≤ R.cells) (hs : slots ≤ R.slots) (hQ : Q v h) {f : JFrame}
    (st : ∀ (locs : List Loc) (vm0 : Vm), Stand p l e R (s.setVm vm0) m args below meth c T locs cells slots → ∀ frs : List Frame, (∀ (f : JFrame) (acts : List Action), f.method = m → f.locked = none → f.entered = [] → (doReturn e (T.setTop f) acts v).1 = T.setFrames frs) → Steps p.tables e below (T.setTop f) (T.setFrames frs)) :
    own_Go p.tables e below (own_Post w EL Z R h0 ws Q s) T f := by
  obtain ⟨vm0, locs, k0, X, eT, h1, h2, h3, h4, h5, h6, h7, h8, h9, h10, h11, hst, h12⟩ := K
  have C : CHr Z EL vm0 h T.vm h := CHv.at X h1 h8 h9.1
  cases w with
  | true =>
    obtain ⟨frs, hr, hrun, hended, e1, e2, e3, e4⟩ := X.leaveW h6 (by rw [eT]; exact h7) hv hlk
    refine ⟨_, _, st locs vm0 X frs hr, hrun, hended, v, locs, rfl, by show Q v T.heap; rw [eT]; exact hQ, by show Keep h0 T.heap ws; rw [eT]; exact h5, h3, ?_, And.intro (fun _ => ⟨e1, e2, e3, e4.mono hc hs⟩) (fun q => by cases q)⟩
    show CHr Z EL s.vm h0 T.vm T.heap
    rw [eT]; exact h9.trans C
  | false =>
    obtain rfl := h10 rfl
    obtain ⟨frs, hr, hrun, hended, hW, hsame⟩ := X.leave hv hlk
    refine ⟨_, _, st locs _ X frs hr, hrun, hended, v, locs, rfl, by show Q v T.heap; rw [eT]; exact hQ, by show Keep h0 T.heap ws; rw [eT]; exact h5, h3, ?_, And.intro (fun q => by cases q) (fun _ => ⟨⟨_, rfl⟩, hW, hsame.mono hc hs⟩)⟩
    show CHr Z EL s.vm h0 T.vm T.heap
    rw [eT]; exact h9.trans C
variable {pc : Nat} {Ls : Array Slot} {St : List Value}
theorem own_retV (K : own_S w kf EL p l e R s m args below meth c Z a0 own h0 ws T h fs cells slots) (hx : p.tables.exec = Jvm.exec) (hlk : meth.locks = false) (hret : meth.sig.returnType = none) (hd : decode c.code pc = .ok (.return_, 1)) (hc : cells ≤ R.cells) (hs : slots ≤ R.slots) (hQ : Q none h) :
    own_Go p.tables e below (own_Post w EL Z R h0 ws Q s) T (mkF m pc Ls []) :=
  own_leave K hlk (fun _ => rfl) hc hs hQ fun locs vm0 X frs hr => X.returnOut hx hret hd hr
theorem own_ret (K : own_S w kf EL p l e R s m args below meth c Z a0 own h0 ws T h fs cells slots) (hx : p.tables.exec = Jvm.exec) (hlk : meth.locks = false) {t : FieldType} {i : Instr} {v : Value} (hret : meth.sig.returnType = some t) (hn : narrow t v = v)
    (hi : (i = .ireturn ∧ (t = .int ∨ t = .boolean ∨ t = .byte ∨ t = .char ∨ t = .short) ∧ ∃ z, v = .int z) ∨ (i = .lreturn ∧ t = .long ∧ ∃ z, v = .long z) ∨ (i = .dreturn ∧ t = .double ∧ ∃ z, v = .double z) ∨ (i = .freturn ∧ t = .float ∧ ∃ z, v = .float z) ∨ (i = .areturn ∧ t.isReference = true ∧ v.isRef = true))
    (hd : decode c.code pc = .ok (i, 1)) (hc : cells ≤ R.cells) (hs : slots ≤ R.slots) (hQ : Q (some v) h) :
    own_Go p.tables e below (own_Post w EL Z R h0 ws Q s) T (mkF m pc Ls (v :: St)) :=
  own_leave K hlk (fun q => by rw [hret] at q; cases q) hc hs hQ fun locs vm0 X frs hr => retOut X hx hret hn hi hd hr
/-- ireturn of an int -/
theorem own_retI (K : own_S w kf EL p l e R s m args below meth c Z a0 own h0 ws T h fs cells slots) (hx : p.tables.exec = Jvm.exec) (hlk : meth.locks = false) {z : Int32} (hret : meth.sig.returnType = some .int) (hd : decode c.code pc = .ok (.ireturn, 1)) (hc : cells ≤ R.cells) (hs : slots ≤ R.slots) (hQ : Q (some (.int z)) h) :
    own_Go p.tables e below (own_Post w EL Z R h0 ws Q s) T (mkF m pc Ls (.int z :: St)) :=
  own_ret K hx hlk hret rfl (Or.inl ⟨rfl, Or.inl rfl, z, rfl⟩) hd hc hs hQ
/-- ireturn of a boolean, byte, char or short: narrowed -/
theorem own_retN (K : own_S w kf EL p l e R s m args below meth c Z a0 own h0 ws T h fs cells slots) (hx : p.tables.exec = Jvm.exec) (hlk : meth.locks = false) {t : FieldType} {z : Int32} (hret : meth.sig.returnType = some t) (ht : t = .boolean ∨ t = .byte ∨ t = .char ∨ t = .short) (hd : decode c.code pc = .ok (.ireturn, 1)) (hc : cells ≤ R.cells) (hs : slots ≤ R.slots) (hQ : Q (some (.int (nar t z))) h) :
    own_Go p.tables e below (own_Post w EL Z R h0 ws Q s) T (mkF m pc Ls (.int z :: St)) :=
  own_leave K hlk (fun q => by rw [hret] at q; cases q) hc hs hQ fun locs vm0 X frs hr => retN X hx hret ht hd hr
/-- areturn -/
theorem own_retR (K : own_S w kf EL p l e R s m args below meth c Z a0 own h0 ws T h fs cells slots) (hx : p.tables.exec = Jvm.exec) (hlk : meth.locks = false) {t : FieldType} {v : Value} (hret : meth.sig.returnType = some t) (ht : t.isReference = true) (hv : v.isRef = true) (hd : decode c.code pc = .ok (.areturn, 1)) (hc : cells ≤ R.cells) (hs : slots ≤ R.slots) (hQ : Q (some v) h) :
    own_Go p.tables e below (own_Post w EL Z R h0 ws Q s) T (mkF m pc Ls (v :: St)) :=
  own_ret K hx hlk hret (by cases t <;> cases v <;> first | rfl | (simp [FieldType.isReference] at ht) | (simp [Value.isRef] at hv)) (Or.inr (Or.inr (Or.inr (Or.inr ⟨rfl, ht, hv⟩)))) hd hc hs hQ
end OwnCore
section OwnWords
variable {args : Array Value} {first s : State} {o : Option Outcome} {idx : List Nat}
/-- one object, one ordinal -/
theorem own_ord {t u : Term} {x y : Addr} {C n d : String} {a b : Int32} (ht : t.eval args first o idx s = some (.ref x)) (hu : u.eval args first o idx s = some (.ref y)) (h1 : (Cond.eq (Term.field t C n d) (Term.int a)).value args first o s idx = some true) (h2 : (Cond.eq (Term.field u C n d) (Term.int b)).value args first o s idx = some true) (hne : a ≠ b) : x ≠ y := fun q => by
  subst q
  obtain ⟨v1, w1, a1, b1, -, k1⟩ := cmp_v (Or.inl h1)
  obtain ⟨v2, w2, a2, b2, -, k2⟩ := cmp_v (Or.inl h2)
  cases (Term.int_eval a).symm.trans b1
  cases (Term.int_eval b).symm.trans b2
  obtain ⟨z1, rfl⟩ := k1
  obtain ⟨z2, rfl⟩ := k2
  have e1 := gotT (Cond.eq_ints a1 (Term.int_eval a)) h1
  have e2 := gotT (Cond.eq_ints a2 (Term.int_eval b)) h2
  rw [fld_at ht] at a1
  rw [fld_at hu] at a2
  have e3 := a1.symm.trans a2
  simp only [Option.some.injEq, Value.int.injEq] at e3
  exact hne (e1.symm.trans (e3.trans e2))
end OwnWords
theorem own_if0 {Q : Prop} [Decidable Q] (h : (if Q then (1 : Int32) else 0) = 0) : ¬ Q := fun q => by rw [if_pos q] at h; exact absurd h (by decide)
theorem own_if1 {Q : Prop} [Decidable Q] (h : ¬ (if Q then (1 : Int32) else 0) = 0) : Q := Classical.not_not.mp fun q => h (by rw [if_neg q])
/-! OWN KIT, single steps (printed by mkrules.py) -/
section OwnSteps
variable {p : Program} {e : Env} {m : MethodId} {below : List Frame} {c : Code} {T : State} {P : Outcome → State → Prop} {pc : Nat} {Ls : Array Slot} {St : List Value}
theorem own_iload (A : At T m c below) (hx : p.tables.exec = Jvm.exec) {pc' : Nat} {k : Nat} {v : Int32} (hd : decode c.code pc = .ok (.iload k, 2)) (hl : Ls[k]? = some (.val (.int v))) (hp : pc + 2 = pc') (G : own_Go p.tables e below P T (mkF m pc' Ls (.int v :: St))) : own_Go p.tables e below P T (mkF m pc Ls (St)) := by
  subst hp
  exact own_by (fun t q => XS.iload A hx rfl hd hl q) G
theorem own_iloadN (A : At T m c below) (hx : p.tables.exec = Jvm.exec) {pc' : Nat} {k : Fin 4} {v : Int32} (hd : decode c.code pc = .ok (.iload_n k, 1)) (hl : Ls[k.val]? = some (.val (.int v))) (hp : pc + 1 = pc') (G : own_Go p.tables e below P T (mkF m pc' Ls (.int v :: St))) : own_Go p.tables e below P T (mkF m pc Ls (St)) := by
  subst hp
  exact own_by (fun t q => XS.iloadN A hx rfl hd hl q) G
theorem own_lload (A : At T m c below) (hx : p.tables.exec = Jvm.exec) {pc' : Nat} {k : Nat} {v : Int64} (hd : decode c.code pc = .ok (.lload k, 2)) (hl : Ls[k]? = some (.val (.long v))) (hp : pc + 2 = pc') (G : own_Go p.tables e below P T (mkF m pc' Ls (.long v :: St))) : own_Go p.tables e below P T (mkF m pc Ls (St)) := by
  subst hp
  exact own_by (fun t q => XS.lload A hx rfl hd hl q) G
theorem own_lloadN (A : At T m c below) (hx : p.tables.exec = Jvm.exec) {pc' : Nat} {k : Fin 4} {v : Int64} (hd : decode c.code pc = .ok (.lload_n k, 1)) (hl : Ls[k.val]? = some (.val (.long v))) (hp : pc + 1 = pc') (G : own_Go p.tables e below P T (mkF m pc' Ls (.long v :: St))) : own_Go p.tables e below P T (mkF m pc Ls (St)) := by
  subst hp
  exact own_by (fun t q => XS.lloadN A hx rfl hd hl q) G
theorem own_aload (A : At T m c below) (hx : p.tables.exec = Jvm.exec) {pc' : Nat} {k : Nat} {v : Value} (hd : decode c.code pc = .ok (.aload k, 2)) (hl : Ls[k]? = some (.val v)) (hv : v.isRef = true) (hp : pc + 2 = pc') (G : own_Go p.tables e below P T (mkF m pc' Ls (v :: St))) : own_Go p.tables e below P T (mkF m pc Ls (St)) := by
  subst hp
  exact own_by (fun t q => XS.aload A hx rfl hd hl hv q) G
theorem own_aloadN (A : At T m c below) (hx : p.tables.exec = Jvm.exec) {pc' : Nat} {k : Fin 4} {v : Value} (hd : decode c.code pc = .ok (.aload_n k, 1)) (hl : Ls[k.val]? = some (.val v)) (hv : v.isRef = true) (hp : pc + 1 = pc') (G : own_Go p.tables e below P T (mkF m pc' Ls (v :: St))) : own_Go p.tables e below P T (mkF m pc Ls (St)) := by
  subst hp
  exact own_by (fun t q => XS.aloadN A hx rfl hd hl hv q) G
theorem own_istore (A : At T m c below) (hx : p.tables.exec = Jvm.exec) {pc' : Nat} {k : Nat} {v : Int32} (l' : Array Slot) (hd : decode c.code pc = .ok (.istore k, 2)) (hl : storeLocals Ls k (.int v) = some l') (hp : pc + 2 = pc') (G : own_Go p.tables e below P T (mkF m pc' l' (St))) : own_Go p.tables e below P T (mkF m pc Ls (.int v :: St)) := by
  subst hp
  exact own_by (fun t q => XS.istore A hx rfl hd rfl hl q) G
theorem own_istoreN (A : At T m c below) (hx : p.tables.exec = Jvm.exec) {pc' : Nat} {k : Fin 4} {v : Int32} (l' : Array Slot) (hd : decode c.code pc = .ok (.istore_n k, 1)) (hl : storeLocals Ls k.val (.int v) = some l') (hp : pc + 1 = pc') (G : own_Go p.tables e below P T (mkF m pc' l' (St))) : own_Go p.tables e below P T (mkF m pc Ls (.int v :: St)) := by
  subst hp
  exact own_by (fun t q => XS.istoreN A hx rfl hd rfl hl q) G
theorem own_lstore (A : At T m c below) (hx : p.tables.exec = Jvm.exec) {pc' : Nat} {k : Nat} {v : Int64} (l' : Array Slot) (hd : decode c.code pc = .ok (.lstore k, 2)) (hl : storeLocals Ls k (.long v) = some l') (hp : pc + 2 = pc') (G : own_Go p.tables e below P T (mkF m pc' l' (St))) : own_Go p.tables e below P T (mkF m pc Ls (.long v :: St)) := by
  subst hp
  exact own_by (fun t q => XS.lstore A hx rfl hd rfl hl q) G
theorem own_lstoreN (A : At T m c below) (hx : p.tables.exec = Jvm.exec) {pc' : Nat} {k : Fin 4} {v : Int64} (l' : Array Slot) (hd : decode c.code pc = .ok (.lstore_n k, 1)) (hl : storeLocals Ls k.val (.long v) = some l') (hp : pc + 1 = pc') (G : own_Go p.tables e below P T (mkF m pc' l' (St))) : own_Go p.tables e below P T (mkF m pc Ls (.long v :: St)) := by
  subst hp
  exact own_by (fun t q => XS.lstoreN A hx rfl hd rfl hl q) G
theorem own_astore (A : At T m c below) (hx : p.tables.exec = Jvm.exec) {pc' : Nat} {k : Nat} {v : Value} (l' : Array Slot) (hd : decode c.code pc = .ok (.astore k, 2)) (hv : v.isRef = true) (hl : storeLocals Ls k v = some l') (hp : pc + 2 = pc') (G : own_Go p.tables e below P T (mkF m pc' l' (St))) : own_Go p.tables e below P T (mkF m pc Ls (v :: St)) := by
  subst hp
  exact own_by (fun t q => XS.astore A hx rfl hd rfl hv hl q) G
theorem own_astoreN (A : At T m c below) (hx : p.tables.exec = Jvm.exec) {pc' : Nat} {k : Fin 4} {v : Value} (l' : Array Slot) (hd : decode c.code pc = .ok (.astore_n k, 1)) (hv : v.isRef = true) (hl : storeLocals Ls k.val v = some l') (hp : pc + 1 = pc') (G : own_Go p.tables e below P T (mkF m pc' l' (St))) : own_Go p.tables e below P T (mkF m pc Ls (v :: St)) := by
  subst hp
  exact own_by (fun t q => XS.astoreN A hx rfl hd rfl hv hl q) G
theorem own_iconst (A : At T m c below) (hx : p.tables.exec = Jvm.exec) {pc' : Nat} {i : Int} {z : Int32} (hd : decode c.code pc = .ok (.iconst i, 1))  (hz : Int32.ofInt i = z) (hp : pc + 1 = pc') (G : own_Go p.tables e below P T (mkF m pc' Ls (.int z :: St))) : own_Go p.tables e below P T (mkF m pc Ls (St)) := by
  subst hz hp
  exact own_by (fun t q => XS.iconst A hx rfl hd  q) G
theorem own_bipush (A : At T m c below) (hx : p.tables.exec = Jvm.exec) {pc' : Nat} {i : Int} {z : Int32} (hd : decode c.code pc = .ok (.bipush i, 2))  (hz : (Int8.ofInt i).toInt32 = z) (hp : pc + 2 = pc') (G : own_Go p.tables e below P T (mkF m pc' Ls (.int z :: St))) : own_Go p.tables e below P T (mkF m pc Ls (St)) := by
  subst hz hp
  exact own_by (fun t q => XS.bipush A hx rfl hd  q) G
theorem own_sipush (A : At T m c below) (hx : p.tables.exec = Jvm.exec) {pc' : Nat} {i : Int} {z : Int32} (hd : decode c.code pc = .ok (.sipush i, 3))  (hz : (Int16.ofInt i).toInt32 = z) (hp : pc + 3 = pc') (G : own_Go p.tables e below P T (mkF m pc' Ls (.int z :: St))) : own_Go p.tables e below P T (mkF m pc Ls (St)) := by
  subst hz hp
  exact own_by (fun t q => XS.sipush A hx rfl hd  q) G
theorem own_lconst (A : At T m c below) (hx : p.tables.exec = Jvm.exec) {pc' : Nat} {k : Fin 2} {z : Int64} (hd : decode c.code pc = .ok (.lconst k, 1))  (hz : Int64.ofNat k = z) (hp : pc + 1 = pc') (G : own_Go p.tables e below P T (mkF m pc' Ls (.long z :: St))) : own_Go p.tables e below P T (mkF m pc Ls (St)) := by
  subst hz hp
  exact own_by (fun t q => XS.lconst A hx rfl hd  q) G
theorem own_null (A : At T m c below) (hx : p.tables.exec = Jvm.exec) {pc' : Nat}  (hd : decode c.code pc = .ok (.aconst_null, 1))  (hp : pc + 1 = pc') (G : own_Go p.tables e below P T (mkF m pc' Ls (.null :: St))) : own_Go p.tables e below P T (mkF m pc Ls (St)) := by
  subst hp
  exact own_by (fun t q => XS.aconstNull A hx rfl hd  q) G
theorem own_iadd (A : At T m c below) (hx : p.tables.exec = Jvm.exec) {pc' : Nat} {x y : Int32} {z : Int32} (hd : decode c.code pc = .ok (.iadd, 1))  (hz : x + y = z) (hp : pc + 1 = pc') (G : own_Go p.tables e below P T (mkF m pc' Ls (.int z :: St))) : own_Go p.tables e below P T (mkF m pc Ls (.int y :: .int x :: St)) := by
  subst hz hp
  exact own_by (fun t q => XS.iadd A hx rfl hd rfl q) G
theorem own_isub (A : At T m c below) (hx : p.tables.exec = Jvm.exec) {pc' : Nat} {x y : Int32} {z : Int32} (hd : decode c.code pc = .ok (.isub, 1))  (hz : x - y = z) (hp : pc + 1 = pc') (G : own_Go p.tables e below P T (mkF m pc' Ls (.int z :: St))) : own_Go p.tables e below P T (mkF m pc Ls (.int y :: .int x :: St)) := by
  subst hz hp
  exact own_by (fun t q => XS.isub A hx rfl hd rfl q) G
theorem own_imul (A : At T m c below) (hx : p.tables.exec = Jvm.exec) {pc' : Nat} {x y : Int32} {z : Int32} (hd : decode c.code pc = .ok (.imul, 1))  (hz : x * y = z) (hp : pc + 1 = pc') (G : own_Go p.tables e below P T (mkF m pc' Ls (.int z :: St))) : own_Go p.tables e below P T (mkF m pc Ls (.int y :: .int x :: St)) := by
  subst hz hp
  exact own_by (fun t q => XS.imul A hx rfl hd rfl q) G
theorem own_iand (A : At T m c below) (hx : p.tables.exec = Jvm.exec) {pc' : Nat} {x y : Int32} {z : Int32} (hd : decode c.code pc = .ok (.iand, 1))  (hz : x &&& y = z) (hp : pc + 1 = pc') (G : own_Go p.tables e below P T (mkF m pc' Ls (.int z :: St))) : own_Go p.tables e below P T (mkF m pc Ls (.int y :: .int x :: St)) := by
  subst hz hp
  exact own_by (fun t q => XS.iand A hx rfl hd rfl q) G
theorem own_ior (A : At T m c below) (hx : p.tables.exec = Jvm.exec) {pc' : Nat} {x y : Int32} {z : Int32} (hd : decode c.code pc = .ok (.ior, 1))  (hz : x ||| y = z) (hp : pc + 1 = pc') (G : own_Go p.tables e below P T (mkF m pc' Ls (.int z :: St))) : own_Go p.tables e below P T (mkF m pc Ls (.int y :: .int x :: St)) := by
  subst hz hp
  exact own_by (fun t q => XS.ior A hx rfl hd rfl q) G
theorem own_ixor (A : At T m c below) (hx : p.tables.exec = Jvm.exec) {pc' : Nat} {x y : Int32} {z : Int32} (hd : decode c.code pc = .ok (.ixor, 1))  (hz : x ^^^ y = z) (hp : pc + 1 = pc') (G : own_Go p.tables e below P T (mkF m pc' Ls (.int z :: St))) : own_Go p.tables e below P T (mkF m pc Ls (.int y :: .int x :: St)) := by
  subst hz hp
  exact own_by (fun t q => XS.ixor A hx rfl hd rfl q) G
theorem own_ishl (A : At T m c below) (hx : p.tables.exec = Jvm.exec) {pc' : Nat} {x y : Int32} {z : Int32} (hd : decode c.code pc = .ok (.ishl, 1))  (hz : x <<< (y &&& 31) = z) (hp : pc + 1 = pc') (G : own_Go p.tables e below P T (mkF m pc' Ls (.int z :: St))) : own_Go p.tables e below P T (mkF m pc Ls (.int y :: .int x :: St)) := by
  subst hz hp
  exact own_by (fun t q => XS.ishl A hx rfl hd rfl q) G
theorem own_ishr (A : At T m c below) (hx : p.tables.exec = Jvm.exec) {pc' : Nat} {x y : Int32} {z : Int32} (hd : decode c.code pc = .ok (.ishr, 1))  (hz : x >>> (y &&& 31) = z) (hp : pc + 1 = pc') (G : own_Go p.tables e below P T (mkF m pc' Ls (.int z :: St))) : own_Go p.tables e below P T (mkF m pc Ls (.int y :: .int x :: St)) := by
  subst hz hp
  exact own_by (fun t q => XS.ishr A hx rfl hd rfl q) G
theorem own_iushr (A : At T m c below) (hx : p.tables.exec = Jvm.exec) {pc' : Nat} {x y : Int32} {z : Int32} (hd : decode c.code pc = .ok (.iushr, 1))  (hz : (x.toUInt32 >>> (y &&& 31).toUInt32).toInt32 = z) (hp : pc + 1 = pc') (G : own_Go p.tables e below P T (mkF m pc' Ls (.int z :: St))) : own_Go p.tables e below P T (mkF m pc Ls (.int y :: .int x :: St)) := by
  subst hz hp
  exact own_by (fun t q => XS.iushr A hx rfl hd rfl q) G
theorem own_idiv (A : At T m c below) (hx : p.tables.exec = Jvm.exec) {pc' : Nat} {x y : Int32} {z : Int32} (hd : decode c.code pc = .ok (.idiv, 1)) (hy : y ≠ 0) (hz : x / y = z) (hp : pc + 1 = pc') (G : own_Go p.tables e below P T (mkF m pc' Ls (.int z :: St))) : own_Go p.tables e below P T (mkF m pc Ls (.int y :: .int x :: St)) := by
  subst hz hp
  exact own_by (fun t q => XS.idiv A hx rfl hd rfl hy q) G
theorem own_ineg (A : At T m c below) (hx : p.tables.exec = Jvm.exec) {pc' : Nat} {x : Int32} {z : Int32} (hd : decode c.code pc = .ok (.ineg, 1))  (hz : -x = z) (hp : pc + 1 = pc') (G : own_Go p.tables e below P T (mkF m pc' Ls (.int z :: St))) : own_Go p.tables e below P T (mkF m pc Ls (.int x :: St)) := by
  subst hz hp
  exact own_by (fun t q => XS.ineg A hx rfl hd rfl q) G
theorem own_i2b (A : At T m c below) (hx : p.tables.exec = Jvm.exec) {pc' : Nat} {x : Int32} {z : Int32} (hd : decode c.code pc = .ok (.i2b, 1))  (hz : x.toInt8.toInt32 = z) (hp : pc + 1 = pc') (G : own_Go p.tables e below P T (mkF m pc' Ls (.int z :: St))) : own_Go p.tables e below P T (mkF m pc Ls (.int x :: St)) := by
  subst hz hp
  exact own_by (fun t q => XS.i2b A hx rfl hd rfl q) G
theorem own_i2c (A : At T m c below) (hx : p.tables.exec = Jvm.exec) {pc' : Nat} {x : Int32} {z : Int32} (hd : decode c.code pc = .ok (.i2c, 1))  (hz : x.toUInt32.toUInt16.toUInt32.toInt32 = z) (hp : pc + 1 = pc') (G : own_Go p.tables e below P T (mkF m pc' Ls (.int z :: St))) : own_Go p.tables e below P T (mkF m pc Ls (.int x :: St)) := by
  subst hz hp
  exact own_by (fun t q => XS.i2c A hx rfl hd rfl q) G
theorem own_i2s (A : At T m c below) (hx : p.tables.exec = Jvm.exec) {pc' : Nat} {x : Int32} {z : Int32} (hd : decode c.code pc = .ok (.i2s, 1))  (hz : x.toInt16.toInt32 = z) (hp : pc + 1 = pc') (G : own_Go p.tables e below P T (mkF m pc' Ls (.int z :: St))) : own_Go p.tables e below P T (mkF m pc Ls (.int x :: St)) := by
  subst hz hp
  exact own_by (fun t q => XS.i2s A hx rfl hd rfl q) G
theorem own_i2l (A : At T m c below) (hx : p.tables.exec = Jvm.exec) {pc' : Nat} {x : Int32} {z : Int64} (hd : decode c.code pc = .ok (.i2l, 1))  (hz : x.toInt64 = z) (hp : pc + 1 = pc') (G : own_Go p.tables e below P T (mkF m pc' Ls (.long z :: St))) : own_Go p.tables e below P T (mkF m pc Ls (.int x :: St)) := by
  subst hz hp
  exact own_by (fun t q => XS.i2l A hx rfl hd rfl q) G
theorem own_l2i (A : At T m c below) (hx : p.tables.exec = Jvm.exec) {pc' : Nat} {x : Int64} {z : Int32} (hd : decode c.code pc = .ok (.l2i, 1))  (hz : x.toInt32 = z) (hp : pc + 1 = pc') (G : own_Go p.tables e below P T (mkF m pc' Ls (.int z :: St))) : own_Go p.tables e below P T (mkF m pc Ls (.long x :: St)) := by
  subst hz hp
  exact own_by (fun t q => XS.l2i A hx rfl hd rfl q) G
theorem own_ladd (A : At T m c below) (hx : p.tables.exec = Jvm.exec) {pc' : Nat} {x y : Int64} {z : Int64} (hd : decode c.code pc = .ok (.ladd, 1))  (hz : x + y = z) (hp : pc + 1 = pc') (G : own_Go p.tables e below P T (mkF m pc' Ls (.long z :: St))) : own_Go p.tables e below P T (mkF m pc Ls (.long y :: .long x :: St)) := by
  subst hz hp
  exact own_by (fun t q => XS.ladd A hx rfl hd rfl q) G
theorem own_lsub (A : At T m c below) (hx : p.tables.exec = Jvm.exec) {pc' : Nat} {x y : Int64} {z : Int64} (hd : decode c.code pc = .ok (.lsub, 1))  (hz : x - y = z) (hp : pc + 1 = pc') (G : own_Go p.tables e below P T (mkF m pc' Ls (.long z :: St))) : own_Go p.tables e below P T (mkF m pc Ls (.long y :: .long x :: St)) := by
  subst hz hp
  exact own_by (fun t q => XS.lsub A hx rfl hd rfl q) G
theorem own_lmul (A : At T m c below) (hx : p.tables.exec = Jvm.exec) {pc' : Nat} {x y : Int64} {z : Int64} (hd : decode c.code pc = .ok (.lmul, 1))  (hz : x * y = z) (hp : pc + 1 = pc') (G : own_Go p.tables e below P T (mkF m pc' Ls (.long z :: St))) : own_Go p.tables e below P T (mkF m pc Ls (.long y :: .long x :: St)) := by
  subst hz hp
  exact own_by (fun t q => XS.lmul A hx rfl hd rfl q) G
theorem own_land (A : At T m c below) (hx : p.tables.exec = Jvm.exec) {pc' : Nat} {x y : Int64} {z : Int64} (hd : decode c.code pc = .ok (.land, 1))  (hz : x &&& y = z) (hp : pc + 1 = pc') (G : own_Go p.tables e below P T (mkF m pc' Ls (.long z :: St))) : own_Go p.tables e below P T (mkF m pc Ls (.long y :: .long x :: St)) := by
  subst hz hp
  exact own_by (fun t q => XS.land A hx rfl hd rfl q) G
theorem own_lor (A : At T m c below) (hx : p.tables.exec = Jvm.exec) {pc' : Nat} {x y : Int64} {z : Int64} (hd : decode c.code pc = .ok (.lor, 1))  (hz : x ||| y = z) (hp : pc + 1 = pc') (G : own_Go p.tables e below P T (mkF m pc' Ls (.long z :: St))) : own_Go p.tables e below P T (mkF m pc Ls (.long y :: .long x :: St)) := by
  subst hz hp
  exact own_by (fun t q => XS.lor A hx rfl hd rfl q) G
theorem own_lxor (A : At T m c below) (hx : p.tables.exec = Jvm.exec) {pc' : Nat} {x y : Int64} {z : Int64} (hd : decode c.code pc = .ok (.lxor, 1))  (hz : x ^^^ y = z) (hp : pc + 1 = pc') (G : own_Go p.tables e below P T (mkF m pc' Ls (.long z :: St))) : own_Go p.tables e below P T (mkF m pc Ls (.long y :: .long x :: St)) := by
  subst hz hp
  exact own_by (fun t q => XS.lxor A hx rfl hd rfl q) G
theorem own_lshl (A : At T m c below) (hx : p.tables.exec = Jvm.exec) {pc' : Nat} {x : Int64} {y : Int32} {z : Int64} (hd : decode c.code pc = .ok (.lshl, 1))  (hz : x <<< (y &&& 0x3f).toInt64 = z) (hp : pc + 1 = pc') (G : own_Go p.tables e below P T (mkF m pc' Ls (.long z :: St))) : own_Go p.tables e below P T (mkF m pc Ls (.int y :: .long x :: St)) := by
  subst hz hp
  exact own_by (fun t q => XS.lshl A hx rfl hd rfl q) G
theorem own_lshr (A : At T m c below) (hx : p.tables.exec = Jvm.exec) {pc' : Nat} {x : Int64} {y : Int32} {z : Int64} (hd : decode c.code pc = .ok (.lshr, 1))  (hz : x >>> (y &&& 0x3f).toInt64 = z) (hp : pc + 1 = pc') (G : own_Go p.tables e below P T (mkF m pc' Ls (.long z :: St))) : own_Go p.tables e below P T (mkF m pc Ls (.int y :: .long x :: St)) := by
  subst hz hp
  exact own_by (fun t q => XS.lshr A hx rfl hd rfl q) G
theorem own_lushr (A : At T m c below) (hx : p.tables.exec = Jvm.exec) {pc' : Nat} {x : Int64} {y : Int32} {z : Int64} (hd : decode c.code pc = .ok (.lushr, 1))  (hz : (x.toUInt64 >>> (y &&& 0x3f).toInt64.toUInt64).toInt64 = z) (hp : pc + 1 = pc') (G : own_Go p.tables e below P T (mkF m pc' Ls (.long z :: St))) : own_Go p.tables e below P T (mkF m pc Ls (.int y :: .long x :: St)) := by
  subst hz hp
  exact own_by (fun t q => XS.lushr A hx rfl hd rfl q) G
theorem own_lcmp (A : At T m c below) (hx : p.tables.exec = Jvm.exec) {pc' : Nat} {x y : Int64} {z : Int32} (hd : decode c.code pc = .ok (.lcmp, 1))  (hz : lcmpW x y = z) (hp : pc + 1 = pc') (G : own_Go p.tables e below P T (mkF m pc' Ls (.int z :: St))) : own_Go p.tables e below P T (mkF m pc Ls (.long y :: .long x :: St)) := by
  subst hz hp
  exact own_by (fun t q => XS.lcmp A hx rfl hd rfl q) G
theorem own_iinc (A : At T m c below) (hx : p.tables.exec = Jvm.exec) {pc' : Nat} {k : Nat} {cst : Int} {x : Int32} (l' : Array Slot) (hd : decode c.code pc = .ok (.iinc k cst, 3)) (hl : Ls[k]? = some (.val (.int x))) (hl' : storeLocals Ls k (.int (x + Int32.ofInt cst)) = some l') (hp : pc + 3 = pc') (G : own_Go p.tables e below P T (mkF m pc' l' (St))) : own_Go p.tables e below P T (mkF m pc Ls (St)) := by
  subst hp
  exact own_by (fun t q => XS.iinc A hx rfl hd hl hl' q) G
theorem own_dup (A : At T m c below) (hx : p.tables.exec = Jvm.exec) {pc' : Nat} {v : Value} (hd : decode c.code pc = .ok (.dup, 1)) (hv : v.category = 1) (hp : pc + 1 = pc') (G : own_Go p.tables e below P T (mkF m pc' Ls (v :: v :: St))) : own_Go p.tables e below P T (mkF m pc Ls (v :: St)) := by
  subst hp
  exact own_by (fun t q => XS.dup A hx rfl hd rfl hv q) G
theorem own_pop (A : At T m c below) (hx : p.tables.exec = Jvm.exec) {pc' : Nat} {v : Value} (hd : decode c.code pc = .ok (.pop, 1)) (hv : v.category = 1) (hp : pc + 1 = pc') (G : own_Go p.tables e below P T (mkF m pc' Ls (St))) : own_Go p.tables e below P T (mkF m pc Ls (v :: St)) := by
  subst hp
  exact own_by (fun t q => XS.pop A hx rfl hd rfl hv q) G
theorem own_dupX1 (A : At T m c below) (hx : p.tables.exec = Jvm.exec) {pc' : Nat} {v u : Value} (hd : decode c.code pc = .ok (.dup_x1, 1)) (hv : v.category = 1) (hu : u.category = 1) (hp : pc + 1 = pc') (G : own_Go p.tables e below P T (mkF m pc' Ls (v :: u :: v :: St))) : own_Go p.tables e below P T (mkF m pc Ls (v :: u :: St)) := by
  subst hp
  exact own_by (fun t q => XS.dupX1 A hx rfl hd rfl hv hu q) G
theorem own_goto (A : At T m c below) (hx : p.tables.exec = Jvm.exec) {o : Int} (pc' : Nat) (hd : decode c.code pc = .ok (.goto o, 3)) (ho : 0 ≤ (pc : Int) + o) (hp : ((pc : Int) + o).toNat = pc') (G : own_Go p.tables e below P T (mkF m pc' Ls St)) : own_Go p.tables e below P T (mkF m pc Ls St) :=
  own_by (fun t q => XS.goto A hx rfl rfl hd ho hp q) G
theorem own_icmp_eq (A : At T m c below) (hx : p.tables.exec = Jvm.exec) {o : Int} {x y : Int32} (pcY pcN : Nat) (hd : decode c.code pc = .ok (.if_icmp .eq o, 3)) (ho : 0 ≤ (pc : Int) + o) (hY : ((pc : Int) + o).toNat = pcY) (hN : pc + 3 = pcN) (GY : x = y → own_Go p.tables e below P T (mkF m pcY Ls St)) (GN : ¬ x = y → own_Go p.tables e below P T (mkF m pcN Ls St)) : own_Go p.tables e below P T (mkF m pc Ls (.int y :: .int x :: St)) := by
  by_cases q : x = y
  · exact own_by (fun t k => XS.icmpYes A hx rfl rfl hd rfl (teq q).1 ho hY k) (GY q)
  · have q : ¬ x = y := q
    subst hN
    exact own_by (fun t k => XS.icmpNo A hx rfl hd rfl (feq q).1 k) (GN q)
theorem own_if_eq (A : At T m c below) (hx : p.tables.exec = Jvm.exec) {o : Int} {x : Int32} (pcY pcN : Nat) (hd : decode c.code pc = .ok (.ifCond .eq o, 3)) (ho : 0 ≤ (pc : Int) + o) (hY : ((pc : Int) + o).toNat = pcY) (hN : pc + 3 = pcN) (GY : x = 0 → own_Go p.tables e below P T (mkF m pcY Ls St)) (GN : ¬ x = 0 → own_Go p.tables e below P T (mkF m pcN Ls St)) : own_Go p.tables e below P T (mkF m pc Ls (.int x :: St)) := by
  by_cases q : x = 0
  · exact own_by (fun t k => XS.ifYes A hx rfl rfl hd rfl ((if0 _ _).trans (teq q).1) ho hY k) (GY q)
  · have q : ¬ x = 0 := q
    subst hN
    exact own_by (fun t k => XS.ifNo A hx rfl hd rfl ((if0 _ _).trans (feq q).1) k) (GN q)
theorem own_icmp_ne (A : At T m c below) (hx : p.tables.exec = Jvm.exec) {o : Int} {x y : Int32} (pcY pcN : Nat) (hd : decode c.code pc = .ok (.if_icmp .ne o, 3)) (ho : 0 ≤ (pc : Int) + o) (hY : ((pc : Int) + o).toNat = pcY) (hN : pc + 3 = pcN) (GY : ¬ x = y → own_Go p.tables e below P T (mkF m pcY Ls St)) (GN : x = y → own_Go p.tables e below P T (mkF m pcN Ls St)) : own_Go p.tables e below P T (mkF m pc Ls (.int y :: .int x :: St)) := by
  by_cases q : ¬ x = y
  · exact own_by (fun t k => XS.icmpYes A hx rfl rfl hd rfl (feq q).2 ho hY k) (GY q)
  · have q : x = y := Classical.not_not.mp q
    subst hN
    exact own_by (fun t k => XS.icmpNo A hx rfl hd rfl (teq q).2 k) (GN q)
theorem own_if_ne (A : At T m c below) (hx : p.tables.exec = Jvm.exec) {o : Int} {x : Int32} (pcY pcN : Nat) (hd : decode c.code pc = .ok (.ifCond .ne o, 3)) (ho : 0 ≤ (pc : Int) + o) (hY : ((pc : Int) + o).toNat = pcY) (hN : pc + 3 = pcN) (GY : ¬ x = 0 → own_Go p.tables e below P T (mkF m pcY Ls St)) (GN : x = 0 → own_Go p.tables e below P T (mkF m pcN Ls St)) : own_Go p.tables e below P T (mkF m pc Ls (.int x :: St)) := by
  by_cases q : ¬ x = 0
  · exact own_by (fun t k => XS.ifYes A hx rfl rfl hd rfl ((if0 _ _).trans (feq q).2) ho hY k) (GY q)
  · have q : x = 0 := Classical.not_not.mp q
    subst hN
    exact own_by (fun t k => XS.ifNo A hx rfl hd rfl ((if0 _ _).trans (teq q).2) k) (GN q)
theorem own_icmp_lt (A : At T m c below) (hx : p.tables.exec = Jvm.exec) {o : Int} {x y : Int32} (pcY pcN : Nat) (hd : decode c.code pc = .ok (.if_icmp .lt o, 3)) (ho : 0 ≤ (pc : Int) + o) (hY : ((pc : Int) + o).toNat = pcY) (hN : pc + 3 = pcN) (GY : x < y → own_Go p.tables e below P T (mkF m pcY Ls St)) (GN : ¬ x < y → own_Go p.tables e below P T (mkF m pcN Ls St)) : own_Go p.tables e below P T (mkF m pc Ls (.int y :: .int x :: St)) := by
  by_cases q : x < y
  · exact own_by (fun t k => XS.icmpYes A hx rfl rfl hd rfl (tlt q).1 ho hY k) (GY q)
  · have q : ¬ x < y := q
    subst hN
    exact own_by (fun t k => XS.icmpNo A hx rfl hd rfl (flt q).1 k) (GN q)
theorem own_if_lt (A : At T m c below) (hx : p.tables.exec = Jvm.exec) {o : Int} {x : Int32} (pcY pcN : Nat) (hd : decode c.code pc = .ok (.ifCond .lt o, 3)) (ho : 0 ≤ (pc : Int) + o) (hY : ((pc : Int) + o).toNat = pcY) (hN : pc + 3 = pcN) (GY : x < 0 → own_Go p.tables e below P T (mkF m pcY Ls St)) (GN : ¬ x < 0 → own_Go p.tables e below P T (mkF m pcN Ls St)) : own_Go p.tables e below P T (mkF m pc Ls (.int x :: St)) := by
  by_cases q : x < 0
  · exact own_by (fun t k => XS.ifYes A hx rfl rfl hd rfl ((if0 _ _).trans (tlt q).1) ho hY k) (GY q)
  · have q : ¬ x < 0 := q
    subst hN
    exact own_by (fun t k => XS.ifNo A hx rfl hd rfl ((if0 _ _).trans (flt q).1) k) (GN q)
theorem own_icmp_ge (A : At T m c below) (hx : p.tables.exec = Jvm.exec) {o : Int} {x y : Int32} (pcY pcN : Nat) (hd : decode c.code pc = .ok (.if_icmp .ge o, 3)) (ho : 0 ≤ (pc : Int) + o) (hY : ((pc : Int) + o).toNat = pcY) (hN : pc + 3 = pcN) (GY : ¬ x < y → own_Go p.tables e below P T (mkF m pcY Ls St)) (GN : x < y → own_Go p.tables e below P T (mkF m pcN Ls St)) : own_Go p.tables e below P T (mkF m pc Ls (.int y :: .int x :: St)) := by
  by_cases q : ¬ x < y
  · exact own_by (fun t k => XS.icmpYes A hx rfl rfl hd rfl (flt q).2.1 ho hY k) (GY q)
  · have q : x < y := Classical.not_not.mp q
    subst hN
    exact own_by (fun t k => XS.icmpNo A hx rfl hd rfl (tlt q).2.1 k) (GN q)
theorem own_if_ge (A : At T m c below) (hx : p.tables.exec = Jvm.exec) {o : Int} {x : Int32} (pcY pcN : Nat) (hd : decode c.code pc = .ok (.ifCond .ge o, 3)) (ho : 0 ≤ (pc : Int) + o) (hY : ((pc : Int) + o).toNat = pcY) (hN : pc + 3 = pcN) (GY : ¬ x < 0 → own_Go p.tables e below P T (mkF m pcY Ls St)) (GN : x < 0 → own_Go p.tables e below P T (mkF m pcN Ls St)) : own_Go p.tables e below P T (mkF m pc Ls (.int x :: St)) := by
  by_cases q : ¬ x < 0
  · exact own_by (fun t k => XS.ifYes A hx rfl rfl hd rfl ((if0 _ _).trans (flt q).2.1) ho hY k) (GY q)
  · have q : x < 0 := Classical.not_not.mp q
    subst hN
    exact own_by (fun t k => XS.ifNo A hx rfl hd rfl ((if0 _ _).trans (tlt q).2.1) k) (GN q)
theorem own_icmp_gt (A : At T m c below) (hx : p.tables.exec = Jvm.exec) {o : Int} {x y : Int32} (pcY pcN : Nat) (hd : decode c.code pc = .ok (.if_icmp .gt o, 3)) (ho : 0 ≤ (pc : Int) + o) (hY : ((pc : Int) + o).toNat = pcY) (hN : pc + 3 = pcN) (GY : y < x → own_Go p.tables e below P T (mkF m pcY Ls St)) (GN : ¬ y < x → own_Go p.tables e below P T (mkF m pcN Ls St)) : own_Go p.tables e below P T (mkF m pc Ls (.int y :: .int x :: St)) := by
  by_cases q : y < x
  · exact own_by (fun t k => XS.icmpYes A hx rfl rfl hd rfl (tlt q).2.2.1 ho hY k) (GY q)
  · have q : ¬ y < x := q
    subst hN
    exact own_by (fun t k => XS.icmpNo A hx rfl hd rfl (flt q).2.2.1 k) (GN q)
theorem own_if_gt (A : At T m c below) (hx : p.tables.exec = Jvm.exec) {o : Int} {x : Int32} (pcY pcN : Nat) (hd : decode c.code pc = .ok (.ifCond .gt o, 3)) (ho : 0 ≤ (pc : Int) + o) (hY : ((pc : Int) + o).toNat = pcY) (hN : pc + 3 = pcN) (GY : 0 < x → own_Go p.tables e below P T (mkF m pcY Ls St)) (GN : ¬ 0 < x → own_Go p.tables e below P T (mkF m pcN Ls St)) : own_Go p.tables e below P T (mkF m pc Ls (.int x :: St)) := by
  by_cases q : 0 < x
  · exact own_by (fun t k => XS.ifYes A hx rfl rfl hd rfl ((if0 _ _).trans (tlt q).2.2.1) ho hY k) (GY q)
  · have q : ¬ 0 < x := q
    subst hN
    exact own_by (fun t k => XS.ifNo A hx rfl hd rfl ((if0 _ _).trans (flt q).2.2.1) k) (GN q)
theorem own_icmp_le (A : At T m c below) (hx : p.tables.exec = Jvm.exec) {o : Int} {x y : Int32} (pcY pcN : Nat) (hd : decode c.code pc = .ok (.if_icmp .le o, 3)) (ho : 0 ≤ (pc : Int) + o) (hY : ((pc : Int) + o).toNat = pcY) (hN : pc + 3 = pcN) (GY : ¬ y < x → own_Go p.tables e below P T (mkF m pcY Ls St)) (GN : y < x → own_Go p.tables e below P T (mkF m pcN Ls St)) : own_Go p.tables e below P T (mkF m pc Ls (.int y :: .int x :: St)) := by
  by_cases q : ¬ y < x
  · exact own_by (fun t k => XS.icmpYes A hx rfl rfl hd rfl (flt q).2.2.2 ho hY k) (GY q)
  · have q : y < x := Classical.not_not.mp q
    subst hN
    exact own_by (fun t k => XS.icmpNo A hx rfl hd rfl (tlt q).2.2.2 k) (GN q)
theorem own_if_le (A : At T m c below) (hx : p.tables.exec = Jvm.exec) {o : Int} {x : Int32} (pcY pcN : Nat) (hd : decode c.code pc = .ok (.ifCond .le o, 3)) (ho : 0 ≤ (pc : Int) + o) (hY : ((pc : Int) + o).toNat = pcY) (hN : pc + 3 = pcN) (GY : ¬ 0 < x → own_Go p.tables e below P T (mkF m pcY Ls St)) (GN : 0 < x → own_Go p.tables e below P T (mkF m pcN Ls St)) : own_Go p.tables e below P T (mkF m pc Ls (.int x :: St)) := by
  by_cases q : ¬ 0 < x
  · exact own_by (fun t k => XS.ifYes A hx rfl rfl hd rfl ((if0 _ _).trans (flt q).2.2.2) ho hY k) (GY q)
  · have q : 0 < x := Classical.not_not.mp q
    subst hN
    exact own_by (fun t k => XS.ifNo A hx rfl hd rfl ((if0 _ _).trans (tlt q).2.2.2) k) (GN q)
theorem own_ifnull_t (A : At T m c below) (hx : p.tables.exec = Jvm.exec) {o : Int} (pcY : Nat) (hd : decode c.code pc = .ok (.ifnull o, 3)) (ho : 0 ≤ (pc : Int) + o) (hY : ((pc : Int) + o).toNat = pcY) (G : own_Go p.tables e below P T (mkF m pcY Ls St)) : own_Go p.tables e below P T (mkF m pc Ls (.null :: St)) := own_by (fun t k => XS.ifnullYes A hx rfl rfl hd rfl ho hY k) G
theorem own_ifnull_f (A : At T m c below) (hx : p.tables.exec = Jvm.exec) {o : Int} {b : Addr} (pcN : Nat) (hd : decode c.code pc = .ok (.ifnull o, 3)) (hN : pc + 3 = pcN) (G : own_Go p.tables e below P T (mkF m pcN Ls St)) : own_Go p.tables e below P T (mkF m pc Ls (.ref b :: St)) := by subst hN; exact own_by (fun t k => XS.ifnullNo A hx rfl hd rfl k) G
theorem own_ifnonnull_t (A : At T m c below) (hx : p.tables.exec = Jvm.exec) {o : Int} {b : Addr} (pcY : Nat) (hd : decode c.code pc = .ok (.ifnonnull o, 3)) (ho : 0 ≤ (pc : Int) + o) (hY : ((pc : Int) + o).toNat = pcY) (G : own_Go p.tables e below P T (mkF m pcY Ls St)) : own_Go p.tables e below P T (mkF m pc Ls (.ref b :: St)) := own_by (fun t k => XS.ifnonnullYes A hx rfl rfl hd rfl ho hY k) G
theorem own_ifnonnull_f (A : At T m c below) (hx : p.tables.exec = Jvm.exec) {o : Int} (pcN : Nat) (hd : decode c.code pc = .ok (.ifnonnull o, 3)) (hN : pc + 3 = pcN) (G : own_Go p.tables e below P T (mkF m pcN Ls St)) : own_Go p.tables e below P T (mkF m pc Ls (.null :: St)) := by subst hN; exact own_by (fun t k => XS.ifnonnullNo A hx rfl hd rfl k) G
end OwnSteps
/-! OWN KIT, steps on the heap -/
section OwnHeap
variable {p : Program} {l : Launch} {e : Env} {R : Room} {s : State} {m : MethodId} {args : Array Value} {below : List Frame} {meth : Method} {c : Code} {T : State} {cells slots : Nat} {Z : State} {a0 : Array Value} {h h0 : Heap} {w kf : Bool} {EL : List (String × Nat)} {own : String} {ws fs : List Addr} {P : Outcome → State → Prop} {pc pc' : Nat} {Ls : Array Slot} {St : List Value} {index : Nat}
theorem own_new {C : String} {n : Nat} (K : own_S w kf EL p l e R s m args below meth c Z a0 own h0 ws T h fs cells slots) (hx : p.tables.exec = Jvm.exec) (w1 : (Cond.classLink own index C).before a0 Z = true) (wi : (Cond.instantiable C n).before a0 Z = true) (wz : (Cond.initialized C).before a0 Z = true)
    (hd : decode c.code pc = .ok (.new index, 3)) (hp : pc + 3 = pc') (hc : cells + 1 ≤ R.cells) (hl : slots + n ≤ R.slots)
    (G : ∀ (T' : State) (h' : Heap) (a : Addr), a = h.size → own_S w kf EL p l e R s m args below meth c Z a0 own h0 ws T' h' (a :: fs) (cells + 1) (slots + n) → Ext h h' → Exa Z h' a C → (∀ {O nm d : String} {ty : FieldType}, Laid Z a0 C O nm d → parseFieldDescriptor d = some ty → Fld Z h' a O nm d (defaultValue ty)) → Unt h' a →
      own_Go p.tables e below P T' (mkF m pc' Ls (.ref a :: St))) : own_Go p.tables e below P T (mkF m pc Ls St) := by
  subst hp
  obtain ⟨vm0, locs, k0, X, eT, I⟩ := K
  obtain ⟨T', h', X', e', E, F, D, N, st⟩ := newO X hx I.1 I.2.1 w1 wi wz eT (g := mkF m pc Ls St) rfl hd hc hl
  exact own_by st (G T' h' _ rfl ⟨vm0, locs, k0, X', e', I.grow E F.lt⟩ E F D N)
theorem own_newarr {aty : ArrayType} {n : Int32} (K : own_S w kf EL p l e R s m args below meth c Z a0 own h0 ws T h fs cells slots) (hx : p.tables.exec = Jvm.exec) (w1 : (Cond.arrayClass (newarray.typeOf aty)).before a0 Z = true)
    (hd : decode c.code pc = .ok (.newarray aty, 2)) (hp : pc + 2 = pc') (hn : ¬ n < 0) (cap : Nat) (hcap : n.toNatClampNeg ≤ cap) (hb : cap * 8 ≤ 536870912) (hc : cells + 1 ≤ R.cells) (hl : slots + cap ≤ R.slots)
    (G : ∀ (T' : State) (h' : Heap) (a : Addr) (k : ClassId), a = h.size → own_S w kf EL p l e R s m args below meth c Z a0 own h0 ws T' h' (a :: fs) (cells + 1) (slots + cap) → Ext h h' → Arv Z h' a k (newarray.typeOf aty) n [] (defaultValue (newarray.typeOf aty)) →
      own_Go p.tables e below P T' (mkF m pc' Ls (.ref a :: St))) : own_Go p.tables e below P T (mkF m pc Ls (.int n :: St)) := by
  subst hp
  obtain ⟨vm0, locs, k0, X, eT, I⟩ := K
  obtain ⟨T', h', k, X', e', E, F, st⟩ := newP X hx I.1 w1 eT (g := mkF m pc Ls (.int n :: St)) rfl hd rfl hn hcap hb hc hl
  exact own_by st (G T' h' _ k rfl ⟨vm0, locs, k0, X', e', I.grow E F.lt⟩ E (Arv.new F hn))
theorem own_newref {C : String} {n : Int32} (K : own_S w kf EL p l e R s m args below meth c Z a0 own h0 ws T h fs cells slots) (hx : p.tables.exec = Jvm.exec) (w1 : (Cond.classLink own index C).before a0 Z = true) (w2 : (Cond.arrayOver (.object C)).before a0 Z = true)
    (hd : decode c.code pc = .ok (.anewarray index, 3)) (hp : pc + 3 = pc') (hn : ¬ n < 0) (cap : Nat) (hcap : n.toNatClampNeg ≤ cap) (hb : cap * 8 ≤ 536870912) (hc : cells + 1 ≤ R.cells) (hl : slots + cap ≤ R.slots)
    (G : ∀ (T' : State) (h' : Heap) (a : Addr) (k : ClassId), a = h.size → own_S w kf EL p l e R s m args below meth c Z a0 own h0 ws T' h' (a :: fs) (cells + 1) (slots + cap) → Ext h h' → Arv Z h' a k (.object C) n [] .null → Ovr Z k C →
      own_Go p.tables e below P T' (mkF m pc' Ls (.ref a :: St))) : own_Go p.tables e below P T (mkF m pc Ls (.int n :: St)) := by
  subst hp
  obtain ⟨vm0, locs, k0, X, eT, I⟩ := K
  obtain ⟨T', h', k, X', e', E, F, O, st⟩ := newR X hx I.1 I.2.1 w1 w2 eT (g := mkF m pc Ls (.int n :: St)) rfl hd rfl hn hcap hb hc hl
  exact own_by st (G T' h' _ k rfl ⟨vm0, locs, k0, X', e', I.grow E F.lt⟩ E (Arv.new F hn) O)
/-- a place of a cell that the walk may write is written -/
theorem own_wrote {vm0 : Vm} {locs : List Loc} {k0 : Nat} {T' : State} {h' : Heap} {a : Addr} {sl : Nat} {v : Value} (I : own_I w kf EL s m below Z a0 own h0 ws h fs vm0 locs k0) (X' : Stand p l e R (s.setVm vm0) m args below meth c T' (locs ++ [⟨a, sl⟩]) cells slots) (e' : T'.heap = h') (W : Wr h h' a sl v) (ha : a ∈ fs) :
    own_S w kf EL p l e R s m args below meth c Z a0 own h0 ws T' h' fs cells slots :=
  ⟨vm0, _, k0, X', e', I.keep (Keep.of_wr W) (fun x hx => by cases List.mem_singleton.mp hx; exact ha) (fun y hy => by cases List.mem_singleton.mp hy; obtain ⟨-, -, -, -, -, -, -, -, -, -, -, -, h12⟩ := I; exact (h12 a ha).2.1)⟩
theorem own_putF {R0 O n d C host : String} {kk : Nat} {ty : FieldType} {a : Addr} {v old : Value} (K : own_S w kf EL p l e R s m args below meth c Z a0 own h0 ws T h fs cells slots) (hx : p.tables.exec = Jvm.exec)
    (w1 : (Cond.fieldLink own index R0 n d).before a0 Z = true ∨ (Cond.fieldLinkNest own index R0 n d host).before a0 Z = true) (via : Via Z R0 O n d) (F : Fld Z h a O n d old) (E : Exa Z h a C) (L : (Cond.lays C O n d).before a0 Z = true ∨ ((Cond.laysFinal C O n d).before a0 Z = true ∧ own = O ∧ meth.name = "<init>")) (wi : (Cond.instantiable C kk).before a0 Z = true)
    (hty : parseFieldDescriptor d = some ty) (hn : narrow ty v = v) (hf : fits ty v = true) (ha : a ∈ fs) (hd : decode c.code pc = .ok (.putfield index, 3)) (hp : pc + 3 = pc')
    (G : ∀ (T' : State) (h' : Heap), own_S w kf EL p l e R s m args below meth c Z a0 own h0 ws T' h' fs cells slots → Wr h h' a (Jvm.RoadKit.slotOf Z O n d) v → own_Go p.tables e below P T' (mkF m pc' Ls St)) : own_Go p.tables e below P T (mkF m pc Ls (v :: .ref a :: St)) := by
  subst hp
  obtain ⟨vm0, locs, k0, X, eT, I⟩ := K
  obtain ⟨T', h', X', e', W, st⟩ := putF X hx I.1 I.2.1 w1 via eT F E L wi hty hn hf (g := mkF m pc Ls (v :: .ref a :: St)) rfl rfl hd
  exact own_by st (G T' h' (own_wrote I X' e' W ha) W)
theorem own_getF {R0 O n d host : String} {a : Addr} {v : Value} (K : own_S w kf EL p l e R s m args below meth c Z a0 own h0 ws T h fs cells slots) (hx : p.tables.exec = Jvm.exec)
    (w1 : (Cond.fieldLink own index R0 n d).before a0 Z = true ∨ (Cond.fieldLinkNest own index R0 n d host).before a0 Z = true) (via : Via Z R0 O n d) (F : Fld Z h a O n d v) (hd : decode c.code pc = .ok (.getfield index, 3)) (hp : pc + 3 = pc')
    (G : ∀ T' : State, own_S w kf EL p l e R s m args below meth c Z a0 own h0 ws T' h fs cells slots → own_Go p.tables e below P T' (mkF m pc' Ls (v :: St))) : own_Go p.tables e below P T (mkF m pc Ls (.ref a :: St)) := by
  subst hp
  obtain ⟨vm0, locs, k0, X, eT, I⟩ := K
  obtain ⟨T', X', e', st⟩ := getF X hx I.1 I.2.1 w1 via eT F (g := mkF m pc Ls (.ref a :: St)) rfl rfl hd
  exact own_by st (G T' ⟨vm0, locs, k0, X', e', I⟩)
theorem own_getS {R0 O n d host : String} {v : Value} (K : own_S w kf EL p l e R s m args below meth c Z a0 own h0 ws T h fs cells slots) (hx : p.tables.exec = Jvm.exec)
    (w1 : (Cond.fieldLink own index R0 n d).before a0 Z = true ∨ (Cond.fieldLinkNest own index R0 n d host).before a0 Z = true) (via : Via Z R0 O n d) (F : Sta Z Z.heap O n d v) (hd : decode c.code pc = .ok (.getstatic index, 3)) (hp : pc + 3 = pc')
    (G : ∀ T' : State, own_S w kf EL p l e R s m args below meth c Z a0 own h0 ws T' h fs cells slots → own_Go p.tables e below P T' (mkF m pc' Ls (v :: St))) : own_Go p.tables e below P T (mkF m pc Ls St) := by
  subst hp
  have F' := own_sta K F
  obtain ⟨vm0, locs, k0, X, eT, I⟩ := K
  obtain ⟨T', X', e', st⟩ := getS2 X hx I.1 I.2.1 w1 via eT F' (g := mkF m pc Ls St) rfl hd
  exact own_by st (G T' ⟨vm0, locs, k0, X', e', I⟩)
theorem own_cast {C : String} {a : Addr} (K : own_S w kf EL p l e R s m args below meth c Z a0 own h0 ws T h fs cells slots) (hx : p.tables.exec = Jvm.exec) (w1 : (Cond.classLink own index C).before a0 Z = true) (F : Ins Z h a C true) (hd : decode c.code pc = .ok (.checkcast index, 3)) (hp : pc + 3 = pc')
    (G : ∀ T' : State, own_S w kf EL p l e R s m args below meth c Z a0 own h0 ws T' h fs cells slots → own_Go p.tables e below P T' (mkF m pc' Ls (.ref a :: St))) : own_Go p.tables e below P T (mkF m pc Ls (.ref a :: St)) := by
  subst hp
  obtain ⟨vm0, locs, k0, X, eT, I⟩ := K
  obtain ⟨T', X', e', st⟩ := castY X hx I.1 I.2.1 w1 eT F (g := mkF m pc Ls (.ref a :: St)) rfl rfl hd
  exact own_by st (G T' ⟨vm0, locs, k0, X', e', I⟩)
theorem own_instY {C : String} {a : Addr} (K : own_S w kf EL p l e R s m args below meth c Z a0 own h0 ws T h fs cells slots) (hx : p.tables.exec = Jvm.exec) (w1 : (Cond.classLink own index C).before a0 Z = true) (F : Ins Z h a C true) (hd : decode c.code pc = .ok (.instanceof index, 3)) (hp : pc + 3 = pc')
    (G : ∀ T' : State, own_S w kf EL p l e R s m args below meth c Z a0 own h0 ws T' h fs cells slots → own_Go p.tables e below P T' (mkF m pc' Ls (.int 1 :: St))) : own_Go p.tables e below P T (mkF m pc Ls (.ref a :: St)) := by
  subst hp
  obtain ⟨vm0, locs, k0, X, eT, I⟩ := K
  obtain ⟨T', X', e', st⟩ := instY X hx I.1 I.2.1 w1 eT F (g := mkF m pc Ls (.ref a :: St)) rfl rfl hd
  exact own_by st (G T' ⟨vm0, locs, k0, X', e', I⟩)
/-- Object.<init> -/
theorem own_initO {a : Addr} (K : own_S w kf EL p l e R s m args below meth c Z a0 own h0 ws T h fs cells slots) (hx : p.tables.exec = Jvm.exec) (w1 : (Cond.methodLink own index Lib.objectInit).before a0 Z = true) (w2 : (Cond.instanceMethod Lib.objectInit).before a0 Z = true) (w3 : (Cond.code Lib.objectInit ⟨#[0xb1]⟩ 1 none).before a0 Z = true)
    (hsz : Ls.size = c.maxLocals) (W : Nat) (hW : (St.map fun v => v.category).sum ≤ W) (hf : 1 ≤ R.frames) (hl : W + 12 ≤ R.locals) (hd : decode c.code pc = .ok (.invokespecial index, 3)) (hp : pc + 3 = pc')
    (G : ∀ T' : State, own_S w kf EL p l e R s m args below meth c Z a0 own h0 ws T' h fs cells slots → own_Go p.tables e below P T' (mkF m pc' Ls St)) : own_Go p.tables e below P T (mkF m pc Ls (.ref a :: St)) := by
  subst hp
  obtain ⟨vm0, locs, k0, X, eT, I⟩ := K
  obtain ⟨T', X', e', st⟩ := initO X hx I.1 I.2.1 w1 w2 w3 eT (g := mkF m pc Ls (.ref a :: St)) rfl hsz rfl hd hf (W := W) (by show 2 * 0 + _ ≤ _; omega) hl
  exact own_by st (G T' ⟨vm0, locs, k0, X', e', I⟩)
section OwnArr
variable {a : Addr} {k : ClassId} {n j : Int32} {vs : List Value} {dv : Value}
/-- castore into an array whose first components are said -/
theorem own_stC {x : Int32} (K : own_S w kf EL p l e R s m args below meth c Z a0 own h0 ws T h fs cells slots) (hx : p.tables.exec = Jvm.exec) (F : Arv Z h a k .char n vs dv) (ha : a ∈ fs) (hj : ¬ j < 0 ∧ j < n) (i : Nat) (hi : j.toNatClampNeg = i) (hl : i < vs.length) (hd : decode c.code pc = .ok (.castore, 1)) (hp : pc + 1 = pc')
    (G : ∀ (T' : State) (h' : Heap), own_S w kf EL p l e R s m args below meth c Z a0 own h0 ws T' h' fs cells slots → Wr h h' a j.toNatClampNeg (.int (nar .char x)) → Arv Z h' a k .char n (vs.set i (.int (nar .char x))) dv → own_Go p.tables e below P T' (mkF m pc' Ls St)) : own_Go p.tables e below P T (mkF m pc Ls (.int x :: .int j :: .ref a :: St)) := by
  subst hp
  obtain ⟨vm0, locs, k0, X, eT, I⟩ := K
  obtain ⟨cl, A, q1, q2, q3, q4, q5⟩ := F
  obtain ⟨T', h', X', e', W, st⟩ := stC X hx I.1 eT A (j := j) (x := x) (inb_of q2 hj) (g := mkF m pc Ls (.int x :: .int j :: .ref a :: St)) rfl rfl hd
  exact own_by st (G T' h' (own_wrote I X' e' W ha) W (Arv.set A q1 q2 q3 q4 q5 (fits_nar_char _) W i hi hl))
theorem own_stB {x : Int32} (K : own_S w kf EL p l e R s m args below meth c Z a0 own h0 ws T h fs cells slots) (hx : p.tables.exec = Jvm.exec) (F : Arv Z h a k .byte n vs dv) (ha : a ∈ fs) (hj : ¬ j < 0 ∧ j < n) (i : Nat) (hi : j.toNatClampNeg = i) (hl : i < vs.length) (hd : decode c.code pc = .ok (.bastore, 1)) (hp : pc + 1 = pc')
    (G : ∀ (T' : State) (h' : Heap), own_S w kf EL p l e R s m args below meth c Z a0 own h0 ws T' h' fs cells slots → Wr h h' a j.toNatClampNeg (.int x.toInt8.toInt32) → Arv Z h' a k .byte n (vs.set i (.int x.toInt8.toInt32)) dv → own_Go p.tables e below P T' (mkF m pc' Ls St)) : own_Go p.tables e below P T (mkF m pc Ls (.int x :: .int j :: .ref a :: St)) := by
  subst hp
  obtain ⟨vm0, locs, k0, X, eT, I⟩ := K
  obtain ⟨cl, A, q1, q2, q3, q4, q5⟩ := F
  obtain ⟨T', h', X', e', W, st⟩ := stB X hx I.1 eT A (j := j) (x := x) (inb_of q2 hj) (g := mkF m pc Ls (.int x :: .int j :: .ref a :: St)) rfl rfl hd
  exact own_by st (G T' h' (own_wrote I X' e' W ha) W (Arv.set A q1 q2 q3 q4 q5 (fits_nar_byte _) W i hi hl))
theorem own_stR {C : String} {v : Value} (K : own_S w kf EL p l e R s m args below meth c Z a0 own h0 ws T h fs cells slots) (hx : p.tables.exec = Jvm.exec) (F : Arv Z h a k (.object C) n vs dv) (hS : Sto Z h a v) (hv : v.isRef = true) (ha : a ∈ fs) (hj : ¬ j < 0 ∧ j < n) (i : Nat) (hi : j.toNatClampNeg = i) (hl : i < vs.length) (hd : decode c.code pc = .ok (.aastore, 1)) (hp : pc + 1 = pc')
    (G : ∀ (T' : State) (h' : Heap), own_S w kf EL p l e R s m args below meth c Z a0 own h0 ws T' h' fs cells slots → Wr h h' a j.toNatClampNeg v → Arv Z h' a k (.object C) n (vs.set i v) dv → own_Go p.tables e below P T' (mkF m pc' Ls St)) : own_Go p.tables e below P T (mkF m pc Ls (v :: .int j :: .ref a :: St)) := by
  subst hp
  obtain ⟨vm0, locs, k0, X, eT, I⟩ := K
  obtain ⟨cl, A, q1, q2, q3, q4, q5⟩ := F
  obtain ⟨T', h', X', e', W, st⟩ := stR X hx I.1 eT A (j := j) (v := v) (inb_of q2 hj) rfl hS (g := mkF m pc Ls (v :: .int j :: .ref a :: St)) rfl rfl hd
  exact own_by st (G T' h' (own_wrote I X' e' W ha) W (Arv.set A q1 q2 q3 q4 q5 (by rcases ref_cases hv with rfl | ⟨_, rfl⟩ <;> rfl) W i hi hl))
theorem own_ldC {x : Int32} (K : own_S w kf EL p l e R s m args below meth c Z a0 own h0 ws T h fs cells slots) (hx : p.tables.exec = Jvm.exec) (F : Arv Z h a k .char n vs dv) (hj : ¬ j < 0 ∧ j < n) (hv : vs.getD j.toNatClampNeg dv = .int x) (hd : decode c.code pc = .ok (.caload, 1)) (hp : pc + 1 = pc')
    (G : own_Go p.tables e below P T (mkF m pc' Ls (.int x :: St))) : own_Go p.tables e below P T (mkF m pc Ls (.int j :: .ref a :: St)) := by
  subst hp
  obtain ⟨vm0, locs, k0, X, eT, I⟩ := K
  obtain ⟨cl, A, q1, q2, q3, q4, q5⟩ := F
  exact own_by (fun t q => X.caload hx (j := j) (v := .int x) (by rw [eT]; exact A.1) (State.isArrayOf_alike I.1.alike A.2.1) A.2.2 (inb_of q2 hj) (q4.at (inb_of q2 hj) hv) (g := mkF m pc Ls (.int j :: .ref a :: St)) rfl rfl hd _ q) G
theorem own_ldB {x : Int32} (K : own_S w kf EL p l e R s m args below meth c Z a0 own h0 ws T h fs cells slots) (hx : p.tables.exec = Jvm.exec) (F : Arv Z h a k .byte n vs dv) (hj : ¬ j < 0 ∧ j < n) (hv : vs.getD j.toNatClampNeg dv = .int x) (hd : decode c.code pc = .ok (.baload, 1)) (hp : pc + 1 = pc')
    (G : own_Go p.tables e below P T (mkF m pc' Ls (.int x :: St))) : own_Go p.tables e below P T (mkF m pc Ls (.int j :: .ref a :: St)) := by
  subst hp
  obtain ⟨vm0, locs, k0, X, eT, I⟩ := K
  obtain ⟨cl, A, q1, q2, q3, q4, q5⟩ := F
  exact own_by (fun t q => X.baloadBytes hx (j := j) (v := .int x) (by rw [eT]; exact A.1) (State.isArrayOf_alike I.1.alike A.2.1) A.2.2 (inb_of q2 hj) (q4.at (inb_of q2 hj) hv) (g := mkF m pc Ls (.int j :: .ref a :: St)) rfl rfl hd _ q) G
theorem own_ldR {C : String} {v : Value} (K : own_S w kf EL p l e R s m args below meth c Z a0 own h0 ws T h fs cells slots) (hx : p.tables.exec = Jvm.exec) (F : Arv Z h a k (.object C) n vs dv) (hj : ¬ j < 0 ∧ j < n) (hv : vs.getD j.toNatClampNeg dv = v) (hd : decode c.code pc = .ok (.aaload, 1)) (hp : pc + 1 = pc')
    (G : own_Go p.tables e below P T (mkF m pc' Ls (v :: St))) : own_Go p.tables e below P T (mkF m pc Ls (.int j :: .ref a :: St)) := by
  subst hp
  obtain ⟨vm0, locs, k0, X, eT, I⟩ := K
  obtain ⟨cl, A, q1, q2, q3, q4, q5⟩ := F
  exact own_by (fun t q => X.aaload hx (j := j) (v := v) (by rw [eT]; exact A.1) (State.isArrayOf_alike I.1.alike A.2.1) rfl A.2.2 (inb_of q2 hj) (q4.at (inb_of q2 hj) hv) (g := mkF m pc Ls (.int j :: .ref a :: St)) rfl rfl hd _ q) G
theorem own_len {ty : FieldType} (K : own_S w kf EL p l e R s m args below meth c Z a0 own h0 ws T h fs cells slots) (hx : p.tables.exec = Jvm.exec) (F : Arv Z h a k ty n vs dv) (hd : decode c.code pc = .ok (.arraylength, 1)) (hp : pc + 1 = pc')
    (G : own_Go p.tables e below P T (mkF m pc' Ls (.int n :: St))) : own_Go p.tables e below P T (mkF m pc Ls (.ref a :: St)) := by
  subst hp
  obtain ⟨vm0, locs, k0, X, eT, I⟩ := K
  obtain ⟨cl, A, q1, q2, q3, q4, q5⟩ := F
  refine own_by (fun t q => X.arraylength hx (by rw [eT]; exact A.1) (State.isArrayOf_alike I.1.alike A.2.1) (g := mkF m pc Ls (.ref a :: St)) rfl rfl hd _ ?_) G
  rw [len_of q2 q3]; exact q
end OwnArr
theorem own_acmp {x y : Value} {cd : ACond} {o : Int} (K : own_S w kf EL p l e R s m args below meth c Z a0 own h0 ws T h fs cells slots) (hx : p.tables.exec = Jvm.exec) (h1 : x.isRef = true) (h2 : y.isRef = true) (same : Bool) (hq : decide (x = y) = same) (hd : decode c.code pc = .ok (.if_acmp cd o, 3)) (ho : 0 ≤ (pc : Int) + o) (hp : pc' = if acV cd same = true then ((pc : Int) + o).toNat else pc + 3)
    (G : own_Go p.tables e below P T (mkF m pc' Ls St)) : own_Go p.tables e below P T (mkF m pc Ls (y :: x :: St)) := by
  obtain ⟨vm0, locs, k0, X, eT, I⟩ := K
  exact own_by (fun t q => acmp X hx (g := mkF m pc Ls (y :: x :: St)) rfl h1 h2 rfl hd rfl hq ho hp q) G
theorem own_irem {x y z : Int32} (K : own_S w kf EL p l e R s m args below meth c Z a0 own h0 ws T h fs cells slots) (hx : p.tables.exec = Jvm.exec) (hy : y ≠ 0) (hz : x % y = z) (hd : decode c.code pc = .ok (.irem, 1)) (hp : pc + 1 = pc')
    (G : own_Go p.tables e below P T (mkF m pc' Ls (.int z :: St))) : own_Go p.tables e below P T (mkF m pc Ls (.int y :: .int x :: St)) := by
  subst hp hz
  obtain ⟨vm0, locs, k0, X, eT, I⟩ := K
  exact own_by (fun t q => iremM X hx (g := mkF m pc Ls (.int y :: .int x :: St)) rfl hd rfl hy q) G
end OwnHeap
section OwnInst
variable {p : Program} {l : Launch} {e : Env} {R : Room} {s : State} {m : MethodId} {args : Array Value} {below : List Frame} {meth : Method} {c : Code} {T : State} {cells slots : Nat} {Z : State} {a0 : Array Value} {h h0 : Heap} {w kf : Bool} {EL : List (String × Nat)} {own : String} {ws fs : List Addr} {P : Outcome → State → Prop} {pc pc' : Nat} {Ls : Array Slot} {St : List Value} {index : Nat}
/-- C, right beneath O, which has no superclass, is no K -/
theorem own_notSub {C O K : String} {n : Nat} (w1 : (Cond.superclass C O).before a0 Z = true) (w2 : (Cond.noSuperclass O).before a0 Z = true) (wi : (Cond.instantiable K n).before a0 Z = true) (hC : C ≠ K) (hO : O ≠ K) : ∃ cc t, Z.vm.findClass C = some cc ∧ Z.vm.findClass K = some t ∧ Z.vm.assignable cc t = false := by
  obtain ⟨t, kt, g1, g2, g3, g4, -⟩ := Cond.instantiable_spec wi
  obtain ⟨o, ko, o1, o2, o3, -, -⟩ := Cond.noSuperclass_spec w2
  obtain ⟨cc, h0⟩ := found_sup w1
  obtain ⟨p, k, kp, h1, h2, h3, h4, h5, -, h7⟩ := Cond.superclass_spec h0 w1
  cases o1.symm.trans h1
  have ne := ids_ne h0 g1 hC
  have ne' := ids_ne o1 g1 hO
  have gi : kt.isInterface = false := by
    cases hi : kt.isInterface
    · rfl
    · rw [hi] at g4; cases g4
  have sub : ∀ fuel, Z.vm.isSubclassAux fuel cc t = false := fun fuel => by
    cases fuel with
    | zero => rfl
    | succ f =>
      cases f with
      | zero => simp [Vm.isSubclassAux, ne, h2, h4]
      | succ f => simp [Vm.isSubclassAux, ne, ne', h2, h4, o2, o3]
  refine ⟨cc, t, h0, g1, ?_⟩
  show Z.vm.assignableAux (255 + 1) cc t = false
  simp [Vm.assignableAux, ne, h2, g2, h5, g3, gi, Vm.isSubclass, sub]
theorem own_instN {C K : String} {a : Addr} (Kk : own_S w kf EL p l e R s m args below meth c Z a0 own h0 ws T h fs cells slots) (hx : p.tables.exec = Jvm.exec) (w1 : (Cond.classLink own index K).before a0 Z = true) (E : Exa Z h a C) (F : ∃ cc t, Z.vm.findClass C = some cc ∧ Z.vm.findClass K = some t ∧ Z.vm.assignable cc t = false) (hd : decode c.code pc = .ok (.instanceof index, 3)) (hp : pc + 3 = pc')
    (G : ∀ T' : State, own_S w kf EL p l e R s m args below meth c Z a0 own h0 ws T' h fs cells slots → own_Go p.tables e below P T' (mkF m pc' Ls (.int 0 :: St))) : own_Go p.tables e below P T (mkF m pc Ls (.ref a :: St)) := by
  subst hp
  obtain ⟨vm0, locs, k0, X, eT, I⟩ := Kk
  obtain ⟨T', X', e', st⟩ := instNo X hx I.1 I.2.1 w1 eT E F (g := mkF m pc Ls (.ref a :: St)) rfl rfl hd
  exact own_by st (G T' ⟨vm0, locs, k0, X', e', I⟩)
theorem own_instNull (Kk : own_S w kf EL p l e R s m args below meth c Z a0 own h0 ws T h fs cells slots) (hx : p.tables.exec = Jvm.exec) (hd : decode c.code pc = .ok (.instanceof index, 3)) (hp : pc + 3 = pc')
    (G : own_Go p.tables e below P T (mkF m pc' Ls (.int 0 :: St))) : own_Go p.tables e below P T (mkF m pc Ls (.null :: St)) := by
  subst hp
  obtain ⟨vm0, locs, k0, X, eT, I⟩ := Kk
  exact own_by (fun t q => X.instanceofNull hx (g := mkF m pc Ls (.null :: St)) rfl rfl hd t q) G
theorem own_castNull (Kk : own_S w kf EL p l e R s m args below meth c Z a0 own h0 ws T h fs cells slots) (hx : p.tables.exec = Jvm.exec) (hd : decode c.code pc = .ok (.checkcast index, 3)) (hp : pc + 3 = pc')
    (G : own_Go p.tables e below P T (mkF m pc' Ls (.null :: St))) : own_Go p.tables e below P T (mkF m pc Ls (.null :: St)) := by
  subst hp
  obtain ⟨vm0, locs, k0, X, eT, I⟩ := Kk
  exact own_by (fun t q => X.checkcastNull hx (g := mkF m pc Ls (.null :: St)) rfl rfl hd t q) G
end OwnInst
/-! OWN KIT, calls -/
section OwnCalls
variable {p : Program} {l : Launch} {e : Env} {R : Room} {s : State} {m : MethodId} {args : Array Value} {below : List Frame} {meth : Method} {c : Code} {T : State} {cells slots : Nat} {Z : State} {a0 : Array Value} {h h0 : Heap} {w kf : Bool} {EL : List (String × Nat)} {own : String} {ws ws' fs : List Addr} {P : Outcome → State → Prop} {pc pc' : Nat} {Ls : Array Slot} {St : List Value} {index : Nat}
variable {y z : MethodName} {bytes : ByteArray} {maxL len W : Nat} {ret : Option FieldType} {rm : Room} {as' : Array Value} {Q' : Option Value → Heap → Prop} {vm0 : Vm} {locs : List Loc} {k0 : Nat} {argsL rest : List Value}
abbrev own_BackF (l : Launch) (R : Room) (p : Program) (e : Env) (below : List Frame) (s : State) (args : Array Value) (y : MethodName) (len W : Nat) (as' : Array Value) (h : Heap) (kc ks : Nat) (Q : Option Value → Heap → List Loc → Prop) : Prop :=
  Back l R p e below s args y len W (fun A a => a = as' ∧ A.U.heap = h ∧ A.cells + kc ≤ R.cells ∧ A.slots + ks ≤ R.slots) (fun A _ v B => ∃ L, Q v B.U.heap L ∧ B.locs = A.locs ++ L ∧ B.cells = A.cells + kc ∧ B.slots = A.slots + ks)
/-- a callee's contract, where the tables stay -/
theorem own_backN (hM : own_Met false kf EL l Z a0 y bytes maxL ret [] rm as' h ws' Q') (I : own_I false kf EL s m below Z a0 own h0 ws h fs vm0 locs k0) (hw : ∀ x ∈ ws', x ∈ fs) (wc : (Cond.code y bytes maxL ret).before a0 Z = true) (wz : (Cond.initialized y.cls).before a0 Z = true) (hf : rm.frames + 1 ≤ R.frames) (hl : W + (maxL + 11) + rm.locals ≤ R.locals) :
    own_BackF l R p e below (s.setVm vm0) args y len W as' h rm.cells rm.slots (fun v h' L => Q' v h' ∧ Keep h h' ws' ∧ Fr Z.heap.size L) := by
  obtain ⟨h1, h2, h3, h4, h5, h6, h7, h8, h9, h10, h11, hst0, h12⟩ := I
  exact Back.of_freeG (bytes := bytes) (maxL := maxL) (ret := ret) (E := fun _ _ o t L k n => k = rm.cells ∧ n = rm.slots ∧ ∃ v, o = .returned v ∧ Q' v t.heap ∧ Keep h t.heap ws' ∧ Fr Z.heap.size L) hM hf hl
    (fun m meth c A a Y hp => have hU : Z.Warmed39 A.U.vm := wtrans (s := s.setVm vm0) h1 Y.warmed
      ⟨by show (Cond.and _ .tt).before a A.U = true; rw [Cond.before_and, mv hU wc]; rfl, mv hU wc, mv hU wz, hp.2.2.1, hp.2.2.2⟩)
    (fun m meth c A a g mk Y hp => have C : CHr Z EL vm0 h A.U.vm h := CHv.at Y h1 h8 h9.1
      ⟨hp.1, wtrans (s := s.setVm vm0) h1 Y.warmed, hp.2.1, h4, h8, C.1, fun x hx => have q := h12 x (hw x hx); ⟨q.2.1, q.2.2.1, C.safe q.2.2.1 q.2.2.2⟩⟩)
    (fun m meth c A a g mk Y _ hg q => known_frames Y hg (h11 q).1 (h11 q).2)
    (fun _ _ _ _ ⟨v, L, g1, g2, g3, g4, g5, g6⟩ => ⟨L, _, _, g6.2 rfl, rfl, rfl, v, g1, g2, g3, g4⟩)
    (fun m meth c A a g mk v t L k n Y hp _ _ ⟨e1, e2, v', e3, e4⟩ => by cases e3; subst e1 e2; exact ⟨L, e4, rfl, rfl, rfl⟩)
/-- a callee's contract, where it may intern -/
theorem own_backW (hM : own_Met true kf EL l Z a0 y bytes maxL ret [] rm as' h ws' Q') (I : own_I true kf EL s m below Z a0 own h0 ws h fs vm0 locs k0) (hw : ∀ x ∈ ws', x ∈ fs) (wc : (Cond.code y bytes maxL ret).before a0 Z = true) (wz : (Cond.initialized y.cls).before a0 Z = true) (hf : rm.frames + 1 ≤ R.frames) (hl : W + (maxL + 11) + rm.locals ≤ R.locals) :
    BackS l R p e below (s.setVm vm0) args y len W (fun A a => a = as' ∧ A.U.heap = h ∧ A.cells + rm.cells ≤ R.cells ∧ A.slots + rm.slots ≤ R.slots)
      (fun A _ v B => ∃ L, (Q' v B.U.heap ∧ Keep h B.U.heap ws' ∧ Fr Z.heap.size L ∧ CHr Z EL vm0 h B.U.vm B.U.heap) ∧ B.locs = A.locs ++ L ∧ B.cells = A.cells + rm.cells ∧ B.slots = A.slots + rm.slots) := by
  obtain ⟨h1, h2, h3, h4, h5, h6, h7, h8, h9, h10, h11, hst0, h12⟩ := I
  exact BackS.of_freeWG (bytes := bytes) (maxL := maxL) (ret := ret) (E := fun _ first o t L k n => k = rm.cells ∧ n = rm.slots ∧ (∃ v, o = .returned v ∧ Q' v t.heap ∧ Keep h t.heap ws' ∧ Fr Z.heap.size L) ∧ CHr Z EL first.vm h t.vm t.heap) hM hf hl
    (fun m meth c A a Y hp => have hU : Z.Warmed39 A.U.vm := wtrans (s := s.setVm vm0) h1 Y.warmed
      ⟨by show (Cond.and _ .tt).before a A.U = true; rw [Cond.before_and, mv hU wc]; rfl, mv hU wc, mv hU wz, hp.2.2.1, hp.2.2.2⟩)
    (fun m meth c A a g mk Y hp => have C : CHr Z EL vm0 h A.U.vm h := CHv.at Y h1 h8 h9.1
      ⟨hp.1, wtrans (s := s.setVm vm0) h1 Y.warmed, hp.2.1, h4, h8, C.1, fun x hx => have q := h12 x (hw x hx); ⟨q.2.1, q.2.2.1, C.safe q.2.2.1 q.2.2.2⟩⟩)
    (fun m meth c A a g mk Y _ hg q => known_frames Y hg (h11 q).1 (h11 q).2)
    (fun _ _ _ _ ⟨v, L, g1, g2, g3, g4, g5, g6⟩ => ⟨L, _, _, g6.1 rfl, rfl, rfl, ⟨v, g1, g2, g3, g4⟩, g5⟩)
    (fun m meth c A a g mk v t L k n Y hp _ _ ⟨e1, e2, ⟨v', e3, e4, e5, e6⟩, e7⟩ => by
      cases e3; subst e1 e2
      exact ⟨L, ⟨e4, e5, e6, (CHv.at Y h1 h8 h9.1).trans e7⟩, rfl, rfl, rfl⟩)
/-- where the walk stands behind a callee that leaves the tables -/
theorem own_afterN {B : Pt} {kc ks : Nat} {L : List Loc} (I : own_I w kf EL s m below Z a0 own h0 ws h fs vm0 locs k0) (X' : Stand p l e R (s.setVm vm0) m args below meth c B.U B.locs B.cells B.slots) (Kp : Keep h B.U.heap ws') (hw : ∀ x ∈ ws', x ∈ fs) (hL : Fr Z.heap.size L) (e1 : B.locs = locs ++ L) (e2 : B.cells = cells + kc) (e3 : B.slots = slots + ks) :
    own_S w kf EL p l e R s m args below meth c Z a0 own h0 ws B.U B.U.heap fs (cells + kc) (slots + ks) := by
  rw [e1, e2, e3] at X'
  exact ⟨vm0, _, k0, X', rfl, I.keep Kp hw hL⟩
theorem own_afterW {B : Pt} {kc ks : Nat} {L : List Loc} (I : own_I true kf EL s m below Z a0 own h0 ws h fs vm0 locs k0) (X' : Stand p l e R ((s.setVm vm0).setVm B.U.vm) m args below meth c B.U B.locs B.cells B.slots) (S : (s.setVm vm0).Since B.U.vm B.U.heap.size) (C : CHr Z EL vm0 h B.U.vm B.U.heap) (Kp : Keep h B.U.heap ws') (hw : ∀ x ∈ ws', x ∈ fs) (hL : Fr Z.heap.size L) (e1 : B.locs = locs ++ L) (e2 : B.cells = cells + kc) (e3 : B.slots = slots + ks) :
    own_S true kf EL p l e R s m args below meth c Z a0 own h0 ws B.U B.U.heap fs (cells + kc) (slots + ks) := by
  rw [e1, e2, e3] at X'
  exact ⟨B.U.vm, _, _, X', rfl, I.wide rfl C S Kp.1 (Nat.le_refl _) Kp hw hL⟩

/-- invokestatic of a body by its contract -/
theorem own_callS (K : own_S w kf EL p l e R s m args below meth c Z a0 own h0 ws T h fs cells slots) (hx : p.tables.exec = Jvm.exec) (hsz : Ls.size = c.maxLocals)
    (w1 : (Cond.methodLink own index y).before a0 Z = true) (w2 : (Cond.static y).before a0 Z = true) (wz : (Cond.initialized y.cls).before a0 Z = true) (wc : (Cond.code y bytes maxL ret).before a0 Z = true) (hy : y.cls ≠ "java/lang/invoke/MethodHandle" ∧ y.cls ≠ "java/lang/invoke/VarHandle")
    (hM : own_Met w kf EL l Z a0 y bytes maxL ret [] rm argsL.toArray h ws' Q') (hw : ∀ x ∈ ws', x ∈ fs) (hlen : ∀ sig, parseMethodDescriptor y.desc = some sig → argsL.length = sig.parameters.length) (hst : St = argsL.reverse ++ rest) (W : Nat) (hW : (rest.map fun v => v.category).sum ≤ W)
    (hd : decode c.code pc = .ok (.invokestatic index, 3)) (hp : pc + 3 = pc') (hf : rm.frames + 1 ≤ R.frames) (hl : W + (maxL + 11) + rm.locals ≤ R.locals) (hc : cells + rm.cells ≤ R.cells) (hs : slots + rm.slots ≤ R.slots)
    (G : ∀ (v : Option Value) (T' : State) (h' : Heap), own_S w kf EL p l e R s m args below meth c Z a0 own h0 ws T' h' fs (cells + rm.cells) (slots + rm.slots) → Keep h h' ws' → Q' v h' → own_Go p.tables e below P T' (mkF m pc' Ls (v.toList ++ rest))) :
    own_Go p.tables e below P T (mkF m pc Ls St) := by
  subst hp
  obtain ⟨vm0, locs, k0, X, eT, I⟩ := K
  have hZ : Z.Warmed39 (s.setVm vm0).vm := I.1
  cases w with
  | false =>
    obtain ⟨v, vm₁, B, -, X', ⟨L, ⟨q1, q2, q3⟩, e1, e2, e3⟩, st⟩ := Jvm.LawKit.callS X hx (y := y) I.2.1 (mvT hZ w1) (mvT hZ w2) (mvT hZ wz) (mvT hZ wc) hy (own_backN (len := 3) (W := W) hM I hw wc wz hf hl) (g := mkF m pc Ls St) rfl hsz (argsL := argsL) (rest := rest) hlen hst (by show 2 * 0 + _ ≤ _; omega) hd (fun _ _ => ⟨rfl, eT, hc, hs⟩)
    exact own_by st (G v B.U _ (own_afterN I X' q2 hw q3 e1 e2 e3) q2 q1)
  | true =>
    obtain ⟨v, vm₁, B, -, X', hS, hgr, ⟨L, ⟨q1, q2, q3, q4⟩, e1, e2, e3⟩, st⟩ := callSS X hx (y := y) I.2.1 (mvT hZ w1) (mvT hZ w2) (mvT hZ wz) (mvT hZ wc) hy (own_backW (len := 3) (W := W) hM I hw wc wz hf hl) (g := mkF m pc Ls St) rfl hsz (argsL := argsL) (rest := rest) hlen hst (by show 2 * 0 + _ ≤ _; omega) hd (fun _ _ => ⟨rfl, eT, hc, hs⟩)
    exact own_on st (G v B.U _ (own_afterW I X' hS q4 q2 hw q3 e1 e2 e3) q2 q1)
/-- a constructor by its contract -/
theorem own_callSp {a : Addr} (K : own_S w kf EL p l e R s m args below meth c Z a0 own h0 ws T h fs cells slots) (hx : p.tables.exec = Jvm.exec) (hsz : Ls.size = c.maxLocals) (hy1 : y.name = "<init>")
    (w1 : (Cond.methodLink own index y).before a0 Z = true) (w2 : (Cond.instanceMethod y).before a0 Z = true) (wz : (Cond.initialized y.cls).before a0 Z = true) (wc : (Cond.code y bytes maxL none).before a0 Z = true) (hy : y.cls ≠ "java/lang/invoke/MethodHandle" ∧ y.cls ≠ "java/lang/invoke/VarHandle")
    (hM : own_Met w kf EL l Z a0 y bytes maxL none [] rm (.ref a :: argsL).toArray h ws' Q') (hw : ∀ x ∈ ws', x ∈ fs) (hlen : ∀ sig, parseMethodDescriptor y.desc = some sig → argsL.length = sig.parameters.length) (hst : St = argsL.reverse ++ .ref a :: rest) (W : Nat) (hW : (rest.map fun v => v.category).sum ≤ W)
    (hd : decode c.code pc = .ok (.invokespecial index, 3)) (hp : pc + 3 = pc') (hf : rm.frames + 1 ≤ R.frames) (hl : W + (maxL + 11) + rm.locals ≤ R.locals) (hc : cells + rm.cells ≤ R.cells) (hs : slots + rm.slots ≤ R.slots)
    (G : ∀ (v : Option Value) (T' : State) (h' : Heap), own_S w kf EL p l e R s m args below meth c Z a0 own h0 ws T' h' fs (cells + rm.cells) (slots + rm.slots) → Keep h h' ws' → Q' v h' → own_Go p.tables e below P T' (mkF m pc' Ls (v.toList ++ rest))) :
    own_Go p.tables e below P T (mkF m pc Ls St) := by
  subst hp
  obtain ⟨vm0, locs, k0, X, eT, I⟩ := K
  have hZ : Z.Warmed39 (s.setVm vm0).vm := I.1
  cases w with
  | false =>
    obtain ⟨v, vm₁, B, -, X', ⟨L, ⟨q1, q2, q3⟩, e1, e2, e3⟩, st⟩ := X.specialBack hx (y := y) hy1 I.2.1 (mvT hZ w1) (mvT hZ w2) (mvT hZ wc) hy (own_backN (len := 3) (W := W) hM I hw wc wz hf hl) (g := mkF m pc Ls St) rfl hsz (Steps.refl _) (a := a) (argsL := argsL) (rest := rest) hlen hst (by show 2 * 0 + _ ≤ _; omega) hd (fun _ _ => ⟨rfl, eT, hc, hs⟩)
    exact own_on st (G v B.U _ (own_afterN I X' q2 hw q3 e1 e2 e3) q2 q1)
  | true =>
    obtain ⟨v, vm₁, B, -, X', hS, hgr, ⟨L, ⟨q1, q2, q3, q4⟩, e1, e2, e3⟩, st⟩ := X.specialBackS hx (y := y) hy1 I.2.1 (mvT hZ w1) (mvT hZ w2) (mvT hZ wc) hy (own_backW (len := 3) (W := W) hM I hw wc wz hf hl) (g := mkF m pc Ls St) rfl hsz (Steps.refl _) (a := a) (argsL := argsL) (rest := rest) hlen hst (by show 2 * 0 + _ ≤ _; omega) hd (fun _ _ => ⟨rfl, eT, hc, hs⟩)
    exact own_on st (G v B.U _ (own_afterW I X' hS q4 q2 hw q3 e1 e2 e3) q2 q1)
/-- invokevirtual by the contract of the body that the receiver's class selects -/
theorem own_callV {C : String} {b : Addr} (K : own_S w kf EL p l e R s m args below meth c Z a0 own h0 ws T h fs cells slots) (hx : p.tables.exec = Jvm.exec) (hsz : Ls.size = c.maxLocals)
    (w1 : (Cond.methodLink own index y).before a0 Z = true) (w2 : (Cond.declares y).before a0 Z = true) (hnf : ∀ U : State, Z.Warmed39 U.vm → NotFace U y) (w3 : (Cond.selects C y z).before a0 Z = true) (w4 : (Cond.instanceMethod z).before a0 Z = true) (wz : (Cond.initialized z.cls).before a0 Z = true) (wc : (Cond.code z bytes maxL ret).before a0 Z = true) (hy : y.cls ≠ "java/lang/invoke/MethodHandle" ∧ y.cls ≠ "java/lang/invoke/VarHandle") (E : Exa Z h b C)
    (hM : own_Met w kf EL l Z a0 z bytes maxL ret [] rm (.ref b :: argsL).toArray h ws' Q') (hw : ∀ x ∈ ws', x ∈ fs) (hlen : ∀ sig, parseMethodDescriptor y.desc = some sig → argsL.length = sig.parameters.length) (hst : St = argsL.reverse ++ .ref b :: rest) (W : Nat) (hW : (rest.map fun v => v.category).sum ≤ W)
    (hd : decode c.code pc = .ok (.invokevirtual index, 3)) (hp : pc + 3 = pc') (hf : rm.frames + 1 ≤ R.frames) (hl : W + (maxL + 11) + rm.locals ≤ R.locals) (hc : cells + rm.cells ≤ R.cells) (hs : slots + rm.slots ≤ R.slots)
    (G : ∀ (v : Option Value) (T' : State) (h' : Heap), own_S w kf EL p l e R s m args below meth c Z a0 own h0 ws T' h' fs (cells + rm.cells) (slots + rm.slots) → Keep h h' ws' → Q' v h' → own_Go p.tables e below P T' (mkF m pc' Ls (v.toList ++ rest))) :
    own_Go p.tables e below P T (mkF m pc Ls St) := by
  subst hp
  obtain ⟨vm0, locs, k0, X, eT, I⟩ := K
  have hZ : Z.Warmed39 (s.setVm vm0).vm := I.1
  obtain ⟨cB, kB, b1, b2, b3⟩ := isOf hZ eT E
  cases w with
  | false =>
    obtain ⟨v, vm₁, B, -, X', ⟨L, ⟨q1, q2, q3⟩, e1, e2, e3⟩, st⟩ := X.virtualBack hx (y := y) (z := z) I.2.1 (mvT hZ w1) (mvT hZ w2) (hnf _ hZ) (mvT hZ w3) (mvT hZ w4) hy (own_backN (len := 3) (W := W) hM I hw wc wz hf hl) b1 b3 (g := mkF m pc Ls St) rfl hsz (Steps.refl _) (argsL := argsL) (rest := rest) hlen hst (by show 2 * 0 + _ ≤ _; omega) hd (fun _ _ => ⟨rfl, eT, hc, hs⟩)
    exact own_on st (G v B.U _ (own_afterN I X' q2 hw q3 e1 e2 e3) q2 q1)
  | true =>
    obtain ⟨v, vm₁, B, -, X', hS, hgr, ⟨L, ⟨q1, q2, q3, q4⟩, e1, e2, e3⟩, st⟩ := X.virtualBackS hx (y := y) (z := z) I.2.1 (mvT hZ w1) (mvT hZ w2) (hnf _ hZ) (mvT hZ w3) (mvT hZ w4) hy (own_backW (len := 3) (W := W) hM I hw wc wz hf hl) b1 b3 (g := mkF m pc Ls St) rfl hsz (Steps.refl _) (argsL := argsL) (rest := rest) hlen hst (by show 2 * 0 + _ ≤ _; omega) hd (fun _ _ => ⟨rfl, eT, hc, hs⟩)
    exact own_on st (G v B.U _ (own_afterW I X' hS q4 q2 hw q3 e1 e2 e3) q2 q1)
/-- invokevirtual where the entry names a class beneath the declaring one -/
theorem own_callVU {C owner : String} {b : Addr} (K : own_S w kf EL p l e R s m args below meth c Z a0 own h0 ws T h fs cells slots) (hx : p.tables.exec = Jvm.exec) (hsz : Ls.size = c.maxLocals)
    (w1 : (Cond.methodLink own index y).before a0 Z = true) (wsm : (Cond.sameMethod y.cls owner y.name y.desc).before a0 Z = true) (w2 : (Cond.declares ⟨owner, y.name, y.desc⟩).before a0 Z = true) (w3 : (Cond.selects C y z).before a0 Z = true) (w4 : (Cond.instanceMethod z).before a0 Z = true) (wz : (Cond.initialized z.cls).before a0 Z = true) (wc : (Cond.code z bytes maxL ret).before a0 Z = true) (hy : owner ≠ "java/lang/invoke/MethodHandle" ∧ owner ≠ "java/lang/invoke/VarHandle") (E : Exa Z h b C)
    (hM : own_Met w kf EL l Z a0 z bytes maxL ret [] rm (.ref b :: argsL).toArray h ws' Q') (hw : ∀ x ∈ ws', x ∈ fs) (hlen : ∀ sig, parseMethodDescriptor y.desc = some sig → argsL.length = sig.parameters.length) (hst : St = argsL.reverse ++ .ref b :: rest) (W : Nat) (hW : (rest.map fun v => v.category).sum ≤ W)
    (hd : decode c.code pc = .ok (.invokevirtual index, 3)) (hp : pc + 3 = pc') (hf : rm.frames + 1 ≤ R.frames) (hl : W + (maxL + 11) + rm.locals ≤ R.locals) (hc : cells + rm.cells ≤ R.cells) (hs : slots + rm.slots ≤ R.slots)
    (G : ∀ (v : Option Value) (T' : State) (h' : Heap), own_S w kf EL p l e R s m args below meth c Z a0 own h0 ws T' h' fs (cells + rm.cells) (slots + rm.slots) → Keep h h' ws' → Q' v h' → own_Go p.tables e below P T' (mkF m pc' Ls (v.toList ++ rest))) :
    own_Go p.tables e below P T (mkF m pc Ls St) := by
  subst hp
  obtain ⟨vm0, locs, k0, X, eT, I⟩ := K
  have hZ : Z.Warmed39 (s.setVm vm0).vm := I.1
  obtain ⟨cB, kB, b1, b2, b3⟩ := isOf hZ eT E
  cases w with
  | false =>
    obtain ⟨v, vm₁, B, -, X', ⟨L, ⟨q1, q2, q3⟩, e1, e2, e3⟩, st⟩ := X.virtualBackUp hx (x := y) (y := z) I.2.1 (mvT hZ w1) (mvT hZ wsm) (mvT hZ w2) hy (mvT hZ w3) (mvT hZ w4) (own_backN (len := 3) (W := W) hM I hw wc wz hf hl) b1 b3 (g := mkF m pc Ls St) rfl hsz (Steps.refl _) (argsL := argsL) (rest := rest) hlen hst (by show 2 * 0 + _ ≤ _; omega) hd (fun _ _ => ⟨rfl, eT, hc, hs⟩)
    exact own_on st (G v B.U _ (own_afterN I X' q2 hw q3 e1 e2 e3) q2 q1)
  | true =>
    obtain ⟨v, vm₁, B, -, X', hS, hgr, ⟨L, ⟨q1, q2, q3, q4⟩, e1, e2, e3⟩, st⟩ := virtualBackUpS X hx (x := y) (y := z) I.2.1 (mvT hZ w1) (mvT hZ wsm) (mvT hZ w2) hy (mvT hZ w3) (mvT hZ w4) (own_backW (len := 3) (W := W) hM I hw wc wz hf hl) b1 b3 (g := mkF m pc Ls St) rfl hsz (Steps.refl _) (argsL := argsL) (rest := rest) hlen hst (by show 2 * 0 + _ ≤ _; omega) hd (fun _ _ => ⟨rfl, eT, hc, hs⟩)
    exact own_on st (G v B.U _ (own_afterW I X' hS q4 q2 hw q3 e1 e2 e3) q2 q1)
/-- a static JDK member by a law of its own -/
theorem own_byS {kc ks : Nat} {QL : Option Value → Heap → List Loc → Prop} (K : own_S w kf EL p l e R s m args below meth c Z a0 own h0 ws T h fs cells slots) (hx : p.tables.exec = Jvm.exec) (hsz : Ls.size = c.maxLocals)
    (w1 : (Cond.methodLink own index y).before a0 Z = true) (w2 : (Cond.static y).before a0 Z = true) (wz : (Cond.initialized y.cls).before a0 Z = true) (wc : (Cond.code y bytes maxL ret).before a0 Z = true) (hy : y.cls ≠ "java/lang/invoke/MethodHandle" ∧ y.cls ≠ "java/lang/invoke/VarHandle")
    (hB : ∀ vm0 : Vm, Z.Warmed39 (s.setVm vm0).vm → own_BackF l R p e below (s.setVm vm0) args y 3 W argsL.toArray h kc ks QL) (hQ : ∀ v h' L, QL v h' L → Keep h h' ws' ∧ Fr Z.heap.size L) (hw : ∀ x ∈ ws', x ∈ fs) (hlen : ∀ sig, parseMethodDescriptor y.desc = some sig → argsL.length = sig.parameters.length) (hst : St = argsL.reverse ++ rest) (hW : (rest.map fun v => v.category).sum ≤ W)
    (hd : decode c.code pc = .ok (.invokestatic index, 3)) (hp : pc + 3 = pc') (hc : cells + kc ≤ R.cells) (hs : slots + ks ≤ R.slots)
    (G : ∀ (v : Option Value) (T' : State) (h' : Heap) (L : List Loc), own_S w kf EL p l e R s m args below meth c Z a0 own h0 ws T' h' fs (cells + kc) (slots + ks) → Keep h h' ws' → QL v h' L → own_Go p.tables e below P T' (mkF m pc' Ls (v.toList ++ rest))) :
    own_Go p.tables e below P T (mkF m pc Ls St) := by
  subst hp
  obtain ⟨vm0, locs, k0, X, eT, I⟩ := K
  have hZ : Z.Warmed39 (s.setVm vm0).vm := I.1
  obtain ⟨v, vm₁, B, -, X', ⟨L, q1, e1, e2, e3⟩, st⟩ := Jvm.LawKit.callS X hx (y := y) I.2.1 (mvT hZ w1) (mvT hZ w2) (mvT hZ wz) (mvT hZ wc) hy (hB vm0 hZ) (g := mkF m pc Ls St) rfl hsz (argsL := argsL) (rest := rest) hlen hst (by show 2 * 0 + _ ≤ _; omega) hd (fun _ _ => ⟨rfl, eT, hc, hs⟩)
  obtain ⟨q2, q3⟩ := hQ _ _ _ q1
  exact own_by st (G v B.U _ L (own_afterN I X' q2 hw q3 e1 e2 e3) q2 q1)
/-- a constructor of the JDK by a law of its own -/
theorem own_bySp {a : Addr} {kc ks : Nat} {QL : Option Value → Heap → List Loc → Prop} (K : own_S w kf EL p l e R s m args below meth c Z a0 own h0 ws T h fs cells slots) (hx : p.tables.exec = Jvm.exec) (hsz : Ls.size = c.maxLocals) (hy1 : y.name = "<init>")
    (w1 : (Cond.methodLink own index y).before a0 Z = true) (w2 : (Cond.instanceMethod y).before a0 Z = true) (wc : (Cond.code y bytes maxL none).before a0 Z = true) (hy : y.cls ≠ "java/lang/invoke/MethodHandle" ∧ y.cls ≠ "java/lang/invoke/VarHandle")
    (hB : ∀ vm0 : Vm, Z.Warmed39 (s.setVm vm0).vm → own_BackF l R p e below (s.setVm vm0) args y 3 W (.ref a :: argsL).toArray h kc ks QL) (hQ : ∀ v h' L, QL v h' L → Keep h h' ws' ∧ Fr Z.heap.size L) (hw : ∀ x ∈ ws', x ∈ fs) (hlen : ∀ sig, parseMethodDescriptor y.desc = some sig → argsL.length = sig.parameters.length) (hst : St = argsL.reverse ++ .ref a :: rest) (hW : (rest.map fun v => v.category).sum ≤ W)
    (hd : decode c.code pc = .ok (.invokespecial index, 3)) (hp : pc + 3 = pc') (hc : cells + kc ≤ R.cells) (hs : slots + ks ≤ R.slots)
    (G : ∀ (v : Option Value) (T' : State) (h' : Heap) (L : List Loc), own_S w kf EL p l e R s m args below meth c Z a0 own h0 ws T' h' fs (cells + kc) (slots + ks) → Keep h h' ws' → QL v h' L → own_Go p.tables e below P T' (mkF m pc' Ls (v.toList ++ rest))) :
    own_Go p.tables e below P T (mkF m pc Ls St) := by
  subst hp
  obtain ⟨vm0, locs, k0, X, eT, I⟩ := K
  have hZ : Z.Warmed39 (s.setVm vm0).vm := I.1
  obtain ⟨v, vm₁, B, -, X', ⟨L, q1, e1, e2, e3⟩, st⟩ := X.specialBack hx (y := y) hy1 I.2.1 (mvT hZ w1) (mvT hZ w2) (mvT hZ wc) hy (hB vm0 hZ) (g := mkF m pc Ls St) rfl hsz (Steps.refl _) (a := a) (argsL := argsL) (rest := rest) hlen hst (by show 2 * 0 + _ ≤ _; omega) hd (fun _ _ => ⟨rfl, eT, hc, hs⟩)
  obtain ⟨q2, q3⟩ := hQ _ _ _ q1
  exact own_on st (G v B.U _ L (own_afterN I X' q2 hw q3 e1 e2 e3) q2 q1)
/-- an instance method of the JDK by a law of its own -/
theorem own_byV {C : String} {b : Addr} {kc ks : Nat} {QL : Option Value → Heap → List Loc → Prop} (K : own_S w kf EL p l e R s m args below meth c Z a0 own h0 ws T h fs cells slots) (hx : p.tables.exec = Jvm.exec) (hsz : Ls.size = c.maxLocals)
    (w1 : (Cond.methodLink own index y).before a0 Z = true) (w2 : (Cond.declares y).before a0 Z = true) (hnf : ∀ U : State, Z.Warmed39 U.vm → NotFace U y) (w3 : (Cond.selects C y z).before a0 Z = true) (w4 : (Cond.instanceMethod z).before a0 Z = true) (hy : y.cls ≠ "java/lang/invoke/MethodHandle" ∧ y.cls ≠ "java/lang/invoke/VarHandle") (E : Exa Z h b C)
    (hB : ∀ vm0 : Vm, Z.Warmed39 (s.setVm vm0).vm → own_BackF l R p e below (s.setVm vm0) args z 3 W (.ref b :: argsL).toArray h kc ks QL) (hQ : ∀ v h' L, QL v h' L → Keep h h' ws' ∧ Fr Z.heap.size L) (hw : ∀ x ∈ ws', x ∈ fs) (hlen : ∀ sig, parseMethodDescriptor y.desc = some sig → argsL.length = sig.parameters.length) (hst : St = argsL.reverse ++ .ref b :: rest) (hW : (rest.map fun v => v.category).sum ≤ W)
    (hd : decode c.code pc = .ok (.invokevirtual index, 3)) (hp : pc + 3 = pc') (hc : cells + kc ≤ R.cells) (hs : slots + ks ≤ R.slots)
    (G : ∀ (v : Option Value) (T' : State) (h' : Heap) (L : List Loc), own_S w kf EL p l e R s m args below meth c Z a0 own h0 ws T' h' fs (cells + kc) (slots + ks) → Keep h h' ws' → QL v h' L → own_Go p.tables e below P T' (mkF m pc' Ls (v.toList ++ rest))) :
    own_Go p.tables e below P T (mkF m pc Ls St) := by
  subst hp
  obtain ⟨vm0, locs, k0, X, eT, I⟩ := K
  have hZ : Z.Warmed39 (s.setVm vm0).vm := I.1
  obtain ⟨cB, kB, b1, b2, b3⟩ := isOf hZ eT E
  obtain ⟨v, vm₁, B, -, X', ⟨L, q1, e1, e2, e3⟩, st⟩ := X.virtualBack hx (y := y) (z := z) I.2.1 (mvT hZ w1) (mvT hZ w2) (hnf _ hZ) (mvT hZ w3) (mvT hZ w4) hy (hB vm0 hZ) b1 b3 (g := mkF m pc Ls St) rfl hsz (Steps.refl _) (argsL := argsL) (rest := rest) hlen hst (by show 2 * 0 + _ ≤ _; omega) hd (fun _ _ => ⟨rfl, eT, hc, hs⟩)
  obtain ⟨q2, q3⟩ := hQ _ _ _ q1
  exact own_on st (G v B.U _ L (own_afterN I X' q2 hw q3 e1 e2 e3) q2 q1)
/-- ldc of a String constant, what it holds unsaid -/
theorem own_ldc {text : String} {n : Nat} (K : own_S true kf EL p l e R s m args below meth c Z a0 own h0 ws T h fs cells slots) (hx : p.tables.exec = Jvm.exec) (w1 : (Cond.stringLink own index text).before a0 Z = true) (wS : ∀ a ∈ Bundle.stringAtoms, a.before a0 Z = true)
    (hd : decode c.code pc = .ok (.ldc index, 2)) (hp : pc + 2 = pc') (hn : 4 * text.toList.length ≤ n) (hbig : n ≤ 536870912) (hc : cells + 2 ≤ R.cells) (hs : slots + (n + 4) ≤ R.slots)
    (G : ∀ (a : Addr) (T' : State) (h' : Heap), own_S true kf EL p l e R s m args below meth c Z a0 own h0 ws T' h' fs (cells + 2) (slots + (n + 4)) → Ext h h' → own_Go p.tables e below P T' (mkF m pc' Ls (.ref a :: St))) : own_Go p.tables e below P T (mkF m pc Ls St) := by
  subst hp
  obtain ⟨vm0, locs, k0, X, eT, I⟩ := K
  obtain ⟨h1, h2, h3, h4, h5, h6, h7, h8, h9, h10, h11, hst0, h12⟩ := id I
  obtain ⟨a, T', h', k1, X', e', E, hS, hk, hZ', ho', C, -, st⟩ := ldcOH X hx h1 h2 w1 wS eT (s := s.setVm vm0) (k0 := h.size) ((State.WarmedH.refl (s.setVm vm0)).since _) (Nat.le_refl _) h8 h9.1 (g := mkF m pc Ls St) rfl hd hn hbig hc hs
  have I' := I.wide (L := []) rfl C (k1 := h'.size) ⟨hS.1, fun j q hj hq => ⟨(hS.2 j q hj hq).1, Nat.lt_of_lt_of_le (hS.2 j q hj hq).2 hk⟩⟩ E.1 (Nat.le_refl _) ((Keep.refl h []).ext E) (fun _ q => nomatch q) (Fr.nil _)
  rw [List.append_nil] at I'
  exact own_by st (G a T' h' ⟨T'.vm, locs, _, X', e', I'⟩ E)
/-- ldc of a String constant of EL, read -/
theorem own_ldcR {text : String} {n : Nat} {vs : List Value} {zn : Int32} (K : own_S true kf EL p l e R s m args below meth c Z a0 own h0 ws T h fs cells slots) (hx : p.tables.exec = Jvm.exec) (w1 : (Cond.stringLink own index text).before a0 Z = true) (wS : ∀ a ∈ Bundle.stringAtoms, a.before a0 Z = true) (hmem : (own, index) ∈ EL)
    (ht : (∀ c ∈ text.toList, c.toNat < 256) ∧ text.toList.map (fun c => Value.int (Jvm.Lit.byteI c.toNat.toUInt16)) = vs) (hz : ¬ zn < 0) (hlz : zn.toNatClampNeg = vs.length)
    (hd : decode c.code pc = .ok (.ldc index, 2)) (hp : pc + 2 = pc') (hn : 4 * text.toList.length ≤ n) (hbig : n ≤ 536870912) (hc : cells + 2 ≤ R.cells) (hs : slots + (n + 4) ≤ R.slots)
    (G : ∀ (a : Addr) (T' : State) (h' : Heap) (b : Addr) (k : ClassId), own_S true kf EL p l e R s m args below meth c Z a0 own h0 ws T' h' fs (cells + 2) (slots + (n + 4)) → Ext h h' → Exa Z h' a "java/lang/String" → Fld Z h' a "java/lang/String" "coder" "B" (.int 0) → Fld Z h' a "java/lang/String" "value" "[B" (.ref b) → Arv Z h' b k .byte zn vs (.int 0) → (∀ x ∈ fs, x ≠ a ∧ x ≠ b) →
      own_Go p.tables e below P T' (mkF m pc' Ls (.ref a :: St))) : own_Go p.tables e below P T (mkF m pc Ls St) := by
  subst hp
  obtain ⟨vm0, locs, k0, X, eT, I⟩ := K
  obtain ⟨h1, h2, h3, h4, h5, h6, h7, h8, h9, h10, h11, hst0, h12⟩ := id I
  obtain ⟨a, T', h', k1, b, k, X', e', E, hS, hk, hZ', ho', Ex, Fc, Fv, Ar, -, -, C, -, hne, st⟩ := ldcCH X hx h1 h2 w1 wS eT (s := s.setVm vm0) (k0 := h.size) ((State.WarmedH.refl (s.setVm vm0)).since _) (Nat.le_refl _) h8 hmem h9.1 ht hz hlz (g := mkF m pc Ls St) rfl hd hn hbig hc hs
  have I' := I.wide (L := []) rfl C (k1 := h'.size) ⟨hS.1, fun j q hj hq => ⟨(hS.2 j q hj hq).1, Nat.lt_of_lt_of_le (hS.2 j q hj hq).2 hk⟩⟩ E.1 (Nat.le_refl _) ((Keep.refl h []).ext E) (fun _ q => nomatch q) (Fr.nil _)
  rw [List.append_nil] at I'
  have h12' : ∀ x ∈ fs, x ≠ a ∧ x ≠ b := fun x hx => hne x (C.safe (h12 x hx).2.2.1 (h12 x hx).2.2.2)
  exact own_by st (G a T' h' b k ⟨T'.vm, locs, _, X', e', I'⟩ E Ex Fc Fv Ar h12')
end OwnCalls
/-! OWN KIT, Strings: own_Str: the object at a is a String that spells cs -/
section OwnStr
variable {Z : State} {h h' : Heap} {a x : Addr} {cs ds : List Int32} {a0 : Array Value}
def own_Str (Z : State) (h : Heap) (a : Addr) (cs : List Int32) : Prop :=
  ∃ (t : Addr) (kb : ClassId) (cd N2 : Int32) (vs : List Value), Exa Z h a "java/lang/String" ∧ Fld Z h a "java/lang/String" "value" "[B" (.ref t) ∧ Fld Z h a "java/lang/String" "coder" "B" (.int cd) ∧ Arv Z h t kb .byte N2 vs (.int 0) ∧ StrChars.Road.CodA cs cd N2 vs ∧ (∀ c ∈ cs, ¬ c < 0 ∧ ¬ (65535 : Int32) < c) ∧ cs.length ≤ 4000
theorem own_Str.exa (F : own_Str Z h a cs) : Exa Z h a "java/lang/String" := by obtain ⟨t, kb, cd, N2, vs, E, -⟩ := F; exact E
theorem own_Str.lt (F : own_Str Z h a cs) : a < h.size := F.exa.lt
theorem own_Str.ext (F : own_Str Z h a cs) (E : Ext h h') : own_Str Z h' a cs := by
  obtain ⟨t, kb, cd, N2, vs, q1, q2, q3, q4, r⟩ := F; exact ⟨t, kb, cd, N2, vs, q1.ext E, q2.ext E, q3.ext E, q4.ext E, r⟩
/-- x is neither a String's cell nor a byte[]'s -/
def own_Off (Z : State) (h : Heap) (x : Addr) : Prop := ∀ cell : Cell, h[x]? = some cell → Z.vm.findClass "java/lang/String" ≠ some cell.cls ∧ ∀ ty, Z.isArrayOf cell ty → ty ≠ .byte
theorem own_Off.exa {C : String} {n : Nat} (E : Exa Z h x C) (wi : (Cond.instantiable C n).before a0 Z = true) (hC : C ≠ "java/lang/String") : own_Off Z h x := fun cell hc => by
  obtain ⟨cell', k, h1, h2, h3, -⟩ := E
  cases hc.symm.trans h1
  obtain ⟨c2, k2, i1, i2, i3, -⟩ := Cond.instantiable_spec wi
  cases h2.symm.trans i1
  refine ⟨fun q => ?_, fun ty ⟨_, kk, hk, comp, hkind⟩ => ?_⟩
  · obtain ⟨k1, a1, a2⟩ := Vm.findClass_spec h2
    obtain ⟨k2, b1, b2⟩ := Vm.findClass_spec q
    cases a1.symm.trans b1
    exact hC (a2.symm.trans b2)
  · rw [i2] at hk; cases hk; rw [i3] at hkind; cases hkind
theorem own_Off.arr {cl : Cell} {ty : FieldType} (A : Arr Z h x cl ty) {n : Nat} (wi : (Cond.instantiable "java/lang/String" n).before a0 Z = true) (ht : ty ≠ .byte) : own_Off Z h x := fun cell hc => by
  cases hc.symm.trans A.1
  obtain ⟨-, k0, hk0, comp0, hkind0⟩ := A.2.1
  refine ⟨fun q => ?_, fun ty' ⟨_, kk, hk, comp, hkind⟩ => ?_⟩
  · obtain ⟨c2, k2, i1, i2, i3, -⟩ := Cond.instantiable_spec wi
    cases q.symm.trans i1
    rw [i2] at hk0; cases hk0; rw [i3] at hkind0; cases hkind0
  · rw [hk0] at hk; cases hk; rw [hkind0] at hkind
    injection hkind with _ e
    exact fun q => ht (e.trans q)
theorem own_Off.arv {k : ClassId} {ty : FieldType} {z : Int32} {vs : List Value} {d : Value} (A : Arv Z h x k ty z vs d) {n : Nat} (wi : (Cond.instantiable "java/lang/String" n).before a0 Z = true) (ht : ty ≠ .byte) : own_Off Z h x := by
  obtain ⟨c, A, -⟩ := A; exact own_Off.arr A wi ht
theorem own_Str.keep {ws : List Addr} (F : own_Str Z h a cs) (K : Keep h h' ws) (hn : ∀ x ∈ ws, own_Off Z h x) : own_Str Z h' a cs := by
  obtain ⟨t, kb, cd, N2, vs, q1, q2, q3, q4, r⟩ := F
  have na : a ∉ ws := fun hm => by
    obtain ⟨cell, k, h1, h2, -⟩ := q1
    exact (hn a hm cell h1).1 h2
  have nt : t ∉ ws := fun hm => by
    obtain ⟨c, A, -⟩ := q4
    exact (hn t hm c A.1).2 _ A.2.1 rfl
  exact ⟨t, kb, cd, N2, vs, q1.keep K, q2.keep K na, q3.keep K na, q4.keep K nt, r⟩
theorem own_off0 : ∀ x ∈ ([] : List Addr), own_Off Z h x := fun _ q => nomatch q
theorem own_off1 (q : own_Off Z h x) : ∀ y ∈ [x], own_Off Z h y := fun y hy => by cases List.mem_singleton.mp hy; exact q
theorem own_Str.wr {sl : Nat} {v : Value} (F : own_Str Z h a cs) (W : Wr h h' x sl v) (hn : own_Off Z h x) : own_Str Z h' a cs := F.keep (Keep.of_wr W) (own_off1 hn)
theorem own_Str.of0 {t : Addr} {kb : ClassId} {N2 : Int32} {vs : List Value} (E : Exa Z h a "java/lang/String") (V : Fld Z h a "java/lang/String" "value" "[B" (.ref t)) (C : Fld Z h a "java/lang/String" "coder" "B" (.int 0)) (K : Arv Z h t kb .byte N2 vs (.int 0)) (hN : N2 = Int32.ofNat cs.length) (hv : vs = (cs.map (fun c => c.toInt8.toInt32)).map Value.int) (hp : ∀ c ∈ cs, ¬ c < 0 ∧ ¬ (255 : Int32) < c) (hl : cs.length ≤ 4000) : own_Str Z h a cs := by
  subst hN hv
  refine ⟨t, kb, 0, _, _, E, V, C, K, StrChars.Road.codOf rfl (fun c hc => (hp c hc).2), fun c hc => ⟨(hp c hc).1, fun q => (hp c hc).2 ?_⟩, hl⟩
  rw [Int32.lt_iff_toInt_lt] at q ⊢
  have e1 : (65535 : Int32).toInt = 65535 := rfl
  have e2 : (255 : Int32).toInt = 255 := rfl
  omega
end OwnStr
section OwnStrCalls
variable {p : Program} {l : Launch} {e : Env} {R : Room} {s : State} {m : MethodId} {args : Array Value} {below : List Frame} {meth : Method} {c : Code} {T : State} {cells slots : Nat} {Z : State} {a0 : Array Value} {h h0 : Heap} {w kf : Bool} {EL : List (String × Nat)} {own : String} {ws fs : List Addr} {P : Outcome → State → Prop} {pc pc' : Nat} {Ls : Array Slot} {index : Nat} {rest : List Value} {W : Nat} {z : Int32}
theorem own_strLen {x : Addr} {cs : List Int32} (K : own_S w kf EL p l e R s m args below meth c Z a0 own h0 ws T h fs cells slots) (hx : p.tables.exec = Jvm.exec) (hsz : Ls.size = c.maxLocals)
    (w1 : (Cond.methodLink own index (⟨"java/lang/String", "length", "()I"⟩ : MethodName)).before a0 Z = true) (w2 : (Cond.declares (⟨"java/lang/String", "length", "()I"⟩ : MethodName)).before a0 Z = true) (w3 : (Cond.selects "java/lang/String" (⟨"java/lang/String", "length", "()I"⟩ : MethodName) (⟨"java/lang/String", "length", "()I"⟩ : MethodName)).before a0 Z = true) (w4 : (Cond.instanceMethod (⟨"java/lang/String", "length", "()I"⟩ : MethodName)).before a0 Z = true)
    (hwl : ∀ d ∈ StrChars.Road.wordsLen, d.before a0 Z = true) (wi : (Cond.instantiable "java/lang/String" 4).before a0 Z = true) (F : own_Str Z h x cs) (O2 : Sta Z Z.heap "java/lang/String" "COMPACT_STRINGS" "Z" (.int z)) (P5 : ¬ z = 0) (hpd : ∀ sig, parseMethodDescriptor "()I" = some sig → ([] : List Value).length = sig.parameters.length)
    (W : Nat) (hW : (rest.map fun v => v.category).sum ≤ W) (hd : decode c.code pc = .ok (.invokevirtual index, 3)) (hpc : pc + 3 = pc') (hfr : 2 ≤ R.frames) (hlo : W + 25 ≤ R.locals) (hc : cells ≤ R.cells) (hs : slots ≤ R.slots)
    (G : ∀ T' : State, own_S w kf EL p l e R s m args below meth c Z a0 own h0 ws T' h fs cells slots → own_Go p.tables e below P T' (mkF m pc' Ls (.int (Int32.ofNat cs.length) :: rest))) : own_Go p.tables e below P T (mkF m pc Ls (.ref x :: rest)) := by
  obtain ⟨t, kb, cd, N2, vs, q1, q2, q3, q4, q5, q6, q7⟩ := id F
  refine own_byV (W := W) (QL := fun v h' L => v = some (.int (Int32.ofNat cs.length)) ∧ L = [] ∧ h' = h) K hx hsz w1 w2 (fun U hU => notFace_of_selects (args := #[]) (mvT hU w3)) w3 w4 (by decide) q1 (argsL := []) (rest := rest) (ws' := []) (fun vm0 hZ => StrChars.Road.lenW (W := W) hZ hwl wi q1 q2 q3 q4 q5 q6 (own_sta K O2) P5 q7 hfr hlo) (fun v h' L q => ⟨by rw [q.2.2]; exact Keep.refl _ _, by rw [q.2.1]; exact Fr.nil _⟩) (fun _ q => nomatch q) hpd rfl hW hd hpc hc hs ?_
  rintro v T' h' L K' Kp ⟨rfl, rfl, rfl⟩
  exact G T' K'
end OwnStrCalls
/-! OWN KIT, contracts that hand back cells which the caller may write (ns) -/
section OwnCoreR
variable {p : Program} {l : Launch} {e : Env} {R : Room} {s : State} {m : MethodId} {args : Array Value} {below : List Frame} {meth : Method} {c : Code} {T T' : State} {cells slots : Nat} {Z : State} {a0 : Array Value} {h h' h0 : Heap} {w kf : Bool} {EL : List (String × Nat)} {own : String} {ws ws' fs : List Addr} {Q : Option Value → Heap → List Addr → Prop} {vm0 vm1 : Vm} {locs L : List Loc} {k0 : Nat} {tb : Tables} {P : Outcome → State → Prop}
def own_PostR (w : Bool) (EL : List (String × Nat)) (Z : State) (rm : Room) (h0 : Heap) (ws : List Addr) (Q : Option Value → Heap → List Addr → Prop) (U : State) (o : Outcome) (U' : State) : Prop :=
  ∃ v L ns, o = .returned v ∧ Q v U'.heap ns ∧ Keep h0 U'.heap ws ∧ Fr Z.heap.size L ∧ CHr Z EL U.vm h0 U'.vm U'.heap ∧ own_End w U o U' L rm.cells rm.slots ∧ ∀ x ∈ ns, Z.heap.size ≤ x ∧ h0.size ≤ x ∧ x < U'.heap.size ∧ Safe Z EL U'.vm U'.heap x
def own_MetR (w kf : Bool) (EL : List (String × Nat)) (l : Launch) (Z : State) (a0 : Array Value) (y : MethodName) (bytes : ByteArray) (maxL : Nat) (ret : Option FieldType) (more : List Cond) (rm : Room) (as' : Array Value) (h0 : Heap) (ws : List Addr) (Q : Option Value → Heap → List Addr → Prop) : Prop :=
  MetFree l y (head1 (Cond.code y bytes maxL ret :: more) rm) (own_Pre EL Z a0 as' h0 ws) (own_K kf) (fun _ U o U' => own_PostR w EL Z rm h0 ws Q U o U')
theorem own_enterR {y : MethodName} {bytes : ByteArray} {maxL : Nat} {ret : Option FieldType} {more : List Cond} {rm : Room} {as' : Array Value} (ho : y.cls = own) (hpl : plainFor y = true)
    (body : ∀ (p : Program) (e : Env) (s : State) (m : MethodId) (below : List Frame) (meth : Method) (c : Code) (T : State), p.tables.exec = Jvm.exec → c.code = bytes → c.maxLocals = maxL → meth.sig.returnType = ret → meth.locks = false → meth.name = y.name →
      own_S w kf EL p l e rm s m as' below meth c Z a0 own h0 ws T h0 ws 0 0 → own_Go p.tables e below (own_PostR w EL Z rm h0 ws Q s) T (entryFrame m as' maxL)) :
    own_MetR w kf EL l Z a0 y bytes maxL ret more rm as' h0 ws Q := by
  subst ho
  refine MetFree.of_bodySF hpl hisR ?_
  intro p e s m args below meth c s₁ Bd hml hP hK
  obtain ⟨rfl, hZ, hh, hE, hEL, hC, hws⟩ := hP
  have X0 : Stand p l e rm s m args below meth c s₁ [] 0 0 := Stand.of_body Bd
  have e0 : s₁.heap = h0 := by rw [← hh, Bd.state]; rfl
  exact body p e s m below meth c s₁ Bd.exec Bd.bytes hml Bd.returns Bd.notSynchronized (name_of_methodNamed Bd.named Bd.method).1
    ⟨s.vm, [], h0.size, X0, e0, hZ, findClass_of_methodNamed Bd.named, Fr.nil _, hE, Keep.refl _ _, (State.WarmedH.refl s).since _, Nat.le_refl _, hEL, CHr.refl hC, fun _ => rfl, hK, ⟨hh, hE⟩, fun x hx => ⟨Or.inl hx, hws x hx⟩⟩
/-- areturn of what may be written -/
theorem own_retRR {pc : Nat} {Ls : Array Slot} {St : List Value} (K : own_S w kf EL p l e R s m args below meth c Z a0 own h0 ws T h fs cells slots) (hx : p.tables.exec = Jvm.exec) (hlk : meth.locks = false) {t : FieldType} {v : Value} (hret : meth.sig.returnType = some t) (ht : t.isReference = true) (hv : v.isRef = true) (hd : decode c.code pc = .ok (.areturn, 1)) (hc : cells ≤ R.cells) (hs : slots ≤ R.slots) (ns : List Addr) (hn : ∀ x ∈ ns, x ∈ fs ∧ h0.size ≤ x) (hQ : Q (some v) h ns) :
    own_Go p.tables e below (own_PostR w EL Z R h0 ws Q s) T (mkF m pc Ls (v :: St)) := by
  have K' := K
  have g : own_Go p.tables e below (own_Post w EL Z R h0 ws (fun v' h' => v' = some v ∧ h' = h) s) T (mkF m pc Ls (v :: St)) := own_retR K hx hlk hret ht hv hd hc hs ⟨rfl, rfl⟩
  obtain ⟨vm0, locs, k0, X, eT, h1, h2, h3, h4, h5, h6, h7, h8, h9, h10, h11, hst, h12⟩ := K'
  have C : CHr Z EL vm0 h T.vm h := CHv.at X h1 h8 h9.1
  have hd' : ∀ frs : List Frame, (T.setFrames frs).vm = T.vm := fun _ => rfl
  have hdir : own_Go p.tables e below (fun o U' => own_Post w EL Z R h0 ws (fun v' h' => v' = some v ∧ h' = h) s o U' ∧ U'.vm = T.vm) T (mkF m pc Ls (v :: St)) := by
    have e1 : CHr Z EL s.vm h0 T.vm T.heap := by rw [eT]; exact h9.trans C
    cases w with
    | true =>
      obtain ⟨frs, hr, hrun, hended, a1, a2, a3, a4⟩ := X.leaveW h6 (by rw [eT]; exact h7) (v := some v) (fun q => by rw [hret] at q; cases q) hlk
      refine ⟨_, _, retOut X hx hret (by cases t <;> cases v <;> first | rfl | (simp [FieldType.isReference] at ht) | (simp [Value.isRef] at hv)) (Or.inr (Or.inr (Or.inr (Or.inr ⟨rfl, ht, hv⟩)))) hd hr, hrun, hended, ⟨_, locs, rfl, ⟨rfl, eT⟩, by show Keep h0 T.heap ws; rw [eT]; exact h5, h3, e1, And.intro (fun _ => ⟨a1, a2, a3, a4.mono hc hs⟩) (fun q => by cases q)⟩, rfl⟩
    | false =>
      obtain rfl := h10 rfl
      obtain ⟨frs, hr, hrun, hended, hW, hsame⟩ := X.leave (v := some v) (fun q => by rw [hret] at q; cases q) hlk
      refine ⟨_, _, retOut X hx hret (by cases t <;> cases v <;> first | rfl | (simp [FieldType.isReference] at ht) | (simp [Value.isRef] at hv)) (Or.inr (Or.inr (Or.inr (Or.inr ⟨rfl, ht, hv⟩)))) hd hr, hrun, hended, ⟨_, locs, rfl, ⟨rfl, eT⟩, by show Keep h0 T.heap ws; rw [eT]; exact h5, h3, e1, And.intro (fun q => by cases q) (fun _ => ⟨⟨_, rfl⟩, hW, hsame.mono hc hs⟩)⟩, rfl⟩
  obtain ⟨s₂, o, g1, g2, g3, ⟨v', L', rfl, ⟨rfl, q2⟩, q3, q4, q5, q6⟩, q7⟩ := hdir
  refine ⟨s₂, _, g1, g2, g3, _, L', ns, rfl, by rw [q2]; exact hQ, q3, q4, q5, q6, fun x hx => ?_⟩
  obtain ⟨r1, r2⟩ := hn x hx
  obtain ⟨-, r3, r4, r5⟩ := h12 x r1
  rw [q2, q7]
  exact ⟨r3, r2, r4, C.safe r4 r5⟩
end OwnCoreR
section OwnCallsR
variable {p : Program} {l : Launch} {e : Env} {R : Room} {s : State} {m : MethodId} {args : Array Value} {below : List Frame} {meth : Method} {c : Code} {T : State} {cells slots : Nat} {Z : State} {a0 : Array Value} {h h0 : Heap} {w kf : Bool} {EL : List (String × Nat)} {own : String} {ws ws' fs : List Addr} {P : Outcome → State → Prop} {pc pc' : Nat} {Ls : Array Slot} {St : List Value} {index : Nat}
variable {y z : MethodName} {bytes : ByteArray} {maxL len W : Nat} {ret : Option FieldType} {rm : Room} {as' : Array Value} {Q' : Option Value → Heap → List Addr → Prop} {vm0 : Vm} {locs : List Loc} {k0 : Nat} {argsL rest : List Value}
theorem own_backNR (hM : own_MetR false kf EL l Z a0 y bytes maxL ret [] rm as' h ws' Q') (I : own_I false kf EL s m below Z a0 own h0 ws h fs vm0 locs k0) (hw : ∀ x ∈ ws', x ∈ fs) (wc : (Cond.code y bytes maxL ret).before a0 Z = true) (wz : (Cond.initialized y.cls).before a0 Z = true) (hf : rm.frames + 1 ≤ R.frames) (hl : W + (maxL + 11) + rm.locals ≤ R.locals) :
    own_BackF l R p e below (s.setVm vm0) args y len W as' h rm.cells rm.slots (fun v h' L => ∃ ns, Q' v h' ns ∧ Keep h h' ws' ∧ Fr Z.heap.size L ∧ ∀ x ∈ ns, Z.heap.size ≤ x ∧ h.size ≤ x ∧ x < h'.size) := by
  obtain ⟨h1, h2, h3, h4, h5, h6, h7, h8, h9, h10, h11, hst0, h12⟩ := I
  exact Back.of_freeG (bytes := bytes) (maxL := maxL) (ret := ret) (E := fun _ _ o t L k n => k = rm.cells ∧ n = rm.slots ∧ ∃ v, o = .returned v ∧ ∃ ns, Q' v t.heap ns ∧ Keep h t.heap ws' ∧ Fr Z.heap.size L ∧ ∀ x ∈ ns, Z.heap.size ≤ x ∧ h.size ≤ x ∧ x < t.heap.size) hM hf hl
    (fun m meth c A a Y hp => have hU : Z.Warmed39 A.U.vm := wtrans (s := s.setVm vm0) h1 Y.warmed
      ⟨by show (Cond.and _ .tt).before a A.U = true; rw [Cond.before_and, mv hU wc]; rfl, mv hU wc, mv hU wz, hp.2.2.1, hp.2.2.2⟩)
    (fun m meth c A a g mk Y hp => have C : CHr Z EL vm0 h A.U.vm h := CHv.at Y h1 h8 h9.1
      ⟨hp.1, wtrans (s := s.setVm vm0) h1 Y.warmed, hp.2.1, h4, h8, C.1, fun x hx => have q := h12 x (hw x hx); ⟨q.2.1, q.2.2.1, C.safe q.2.2.1 q.2.2.2⟩⟩)
    (fun m meth c A a g mk Y _ hg q => known_frames Y hg (h11 q).1 (h11 q).2)
    (fun _ _ _ _ ⟨v, L, ns, g1, g2, g3, g4, g5, g6, g7⟩ => ⟨L, _, _, g6.2 rfl, rfl, rfl, v, g1, ns, g2, g3, g4, fun x hx => ⟨(g7 x hx).1, (g7 x hx).2.1, (g7 x hx).2.2.1⟩⟩)
    (fun m meth c A a g mk v t L k n Y hp _ _ ⟨e1, e2, v', e3, e4⟩ => by cases e3; subst e1 e2; exact ⟨L, e4, rfl, rfl, rfl⟩)
theorem own_backWR (hM : own_MetR true kf EL l Z a0 y bytes maxL ret [] rm as' h ws' Q') (I : own_I true kf EL s m below Z a0 own h0 ws h fs vm0 locs k0) (hw : ∀ x ∈ ws', x ∈ fs) (wc : (Cond.code y bytes maxL ret).before a0 Z = true) (wz : (Cond.initialized y.cls).before a0 Z = true) (hf : rm.frames + 1 ≤ R.frames) (hl : W + (maxL + 11) + rm.locals ≤ R.locals) :
    BackS l R p e below (s.setVm vm0) args y len W (fun A a => a = as' ∧ A.U.heap = h ∧ A.cells + rm.cells ≤ R.cells ∧ A.slots + rm.slots ≤ R.slots)
      (fun A _ v B => ∃ L, (∃ ns, Q' v B.U.heap ns ∧ Keep h B.U.heap ws' ∧ Fr Z.heap.size L ∧ CHr Z EL vm0 h B.U.vm B.U.heap ∧ ∀ x ∈ ns, Z.heap.size ≤ x ∧ h.size ≤ x ∧ x < B.U.heap.size ∧ Safe Z EL B.U.vm B.U.heap x) ∧ B.locs = A.locs ++ L ∧ B.cells = A.cells + rm.cells ∧ B.slots = A.slots + rm.slots) := by
  obtain ⟨h1, h2, h3, h4, h5, h6, h7, h8, h9, h10, h11, hst0, h12⟩ := I
  exact BackS.of_freeWG (bytes := bytes) (maxL := maxL) (ret := ret) (E := fun _ first o t L k n => k = rm.cells ∧ n = rm.slots ∧ (∃ v, o = .returned v ∧ ∃ ns, Q' v t.heap ns ∧ Keep h t.heap ws' ∧ Fr Z.heap.size L ∧ ∀ x ∈ ns, Z.heap.size ≤ x ∧ h.size ≤ x ∧ x < t.heap.size ∧ Safe Z EL t.vm t.heap x) ∧ CHr Z EL first.vm h t.vm t.heap) hM hf hl
    (fun m meth c A a Y hp => have hU : Z.Warmed39 A.U.vm := wtrans (s := s.setVm vm0) h1 Y.warmed
      ⟨by show (Cond.and _ .tt).before a A.U = true; rw [Cond.before_and, mv hU wc]; rfl, mv hU wc, mv hU wz, hp.2.2.1, hp.2.2.2⟩)
    (fun m meth c A a g mk Y hp => have C : CHr Z EL vm0 h A.U.vm h := CHv.at Y h1 h8 h9.1
      ⟨hp.1, wtrans (s := s.setVm vm0) h1 Y.warmed, hp.2.1, h4, h8, C.1, fun x hx => have q := h12 x (hw x hx); ⟨q.2.1, q.2.2.1, C.safe q.2.2.1 q.2.2.2⟩⟩)
    (fun m meth c A a g mk Y _ hg q => known_frames Y hg (h11 q).1 (h11 q).2)
    (fun _ _ _ _ ⟨v, L, ns, g1, g2, g3, g4, g5, g6, g7⟩ => ⟨L, _, _, g6.1 rfl, rfl, rfl, ⟨v, g1, ns, g2, g3, g4, g7⟩, g5⟩)
    (fun m meth c A a g mk v t L k n Y hp _ _ ⟨e1, e2, ⟨v', e3, ns, e4, e5, e6, e8⟩, e7⟩ => by
      cases e3; subst e1 e2
      exact ⟨L, ⟨ns, e4, e5, e6, (CHv.at Y h1 h8 h9.1).trans e7, e8⟩, rfl, rfl, rfl⟩)
/-- more cells that may be written -/
theorem own_S.plus {ns : List Addr} (K : own_S w kf EL p l e R s m args below meth c Z a0 own h0 ws T h fs cells slots) (hn : ∀ vm0 : Vm, Z.vm.Alike vm0 → ∀ x ∈ ns, h0.size ≤ x ∧ Z.heap.size ≤ x ∧ x < h.size ∧ Safe Z EL vm0 h x) : own_S w kf EL p l e R s m args below meth c Z a0 own h0 ws T h (ns ++ fs) cells slots := by
  obtain ⟨vm0, locs, k0, X, eT, h1, h2, h3, h4, h5, h6, h7, h8, h9, h10, h11, hst, h12⟩ := K
  refine ⟨vm0, locs, k0, X, eT, h1, h2, h3, h4, h5, h6, h7, h8, h9, h10, h11, hst, fun x hx => ?_⟩
  rcases List.mem_append.mp hx with hx | hx
  · obtain ⟨q1, q2⟩ := hn vm0 h1.alike x hx; exact ⟨Or.inr q1, q2⟩
  · exact h12 x hx
theorem own_safe0 {Z : State} {vm : Vm} {h : Heap} {x : Addr} : Safe Z [] vm h x := fun ⟨p, hp, _⟩ => nomatch hp
/-- invokestatic of a body that hands back what may be written -/
theorem own_callSR (K : own_S w kf EL p l e R s m args below meth c Z a0 own h0 ws T h fs cells slots) (hx : p.tables.exec = Jvm.exec) (hsz : Ls.size = c.maxLocals) (hEL : w = false → EL = [])
    (w1 : (Cond.methodLink own index y).before a0 Z = true) (w2 : (Cond.static y).before a0 Z = true) (wz : (Cond.initialized y.cls).before a0 Z = true) (wc : (Cond.code y bytes maxL ret).before a0 Z = true) (hy : y.cls ≠ "java/lang/invoke/MethodHandle" ∧ y.cls ≠ "java/lang/invoke/VarHandle")
    (hM : own_MetR w kf EL l Z a0 y bytes maxL ret [] rm argsL.toArray h ws' Q') (hw : ∀ x ∈ ws', x ∈ fs) (hlen : ∀ sig, parseMethodDescriptor y.desc = some sig → argsL.length = sig.parameters.length) (hst : St = argsL.reverse ++ rest) (W : Nat) (hW : (rest.map fun v => v.category).sum ≤ W)
    (hd : decode c.code pc = .ok (.invokestatic index, 3)) (hp : pc + 3 = pc') (hf : rm.frames + 1 ≤ R.frames) (hl : W + (maxL + 11) + rm.locals ≤ R.locals) (hc : cells + rm.cells ≤ R.cells) (hs : slots + rm.slots ≤ R.slots)
    (G : ∀ (v : Option Value) (T' : State) (h' : Heap) (ns : List Addr), own_S w kf EL p l e R s m args below meth c Z a0 own h0 ws T' h' (ns ++ fs) (cells + rm.cells) (slots + rm.slots) → Keep h h' ws' → Q' v h' ns → own_Go p.tables e below P T' (mkF m pc' Ls (v.toList ++ rest))) :
    own_Go p.tables e below P T (mkF m pc Ls St) := by
  subst hp
  obtain ⟨vm0, locs, k0, X, eT, I⟩ := K
  have hZ : Z.Warmed39 (s.setVm vm0).vm := I.1
  have hk0 : h0.size ≤ h.size := I.2.2.2.2.1.1
  cases w with
  | false =>
    obtain rfl := hEL rfl
    obtain ⟨v, vm₁, B, -, X', ⟨L, ⟨ns, q1, q2, q3, q4⟩, e1, e2, e3⟩, st⟩ := Jvm.LawKit.callS X hx (y := y) I.2.1 (mvT hZ w1) (mvT hZ w2) (mvT hZ wz) (mvT hZ wc) hy (own_backNR (len := 3) (W := W) hM I hw wc wz hf hl) (g := mkF m pc Ls St) rfl hsz (argsL := argsL) (rest := rest) hlen hst (by show 2 * 0 + _ ≤ _; omega) hd (fun _ _ => ⟨rfl, eT, hc, hs⟩)
    exact own_by st (G v B.U _ ns ((own_afterN I X' q2 hw q3 e1 e2 e3).plus fun vm _ x hx => ⟨Nat.le_trans hk0 (q4 x hx).2.1, (q4 x hx).1, (q4 x hx).2.2, own_safe0⟩) q2 q1)
  | true =>
    obtain ⟨v, vm₁, B, -, X', hS, hgr, ⟨L, ⟨ns, q1, q2, q3, q4, q5⟩, e1, e2, e3⟩, st⟩ := callSS X hx (y := y) I.2.1 (mvT hZ w1) (mvT hZ w2) (mvT hZ wz) (mvT hZ wc) hy (own_backWR (len := 3) (W := W) hM I hw wc wz hf hl) (g := mkF m pc Ls St) rfl hsz (argsL := argsL) (rest := rest) hlen hst (by show 2 * 0 + _ ≤ _; omega) hd (fun _ _ => ⟨rfl, eT, hc, hs⟩)
    rw [e1, e2, e3] at X'
    obtain ⟨j1, j2, j3, j4, j5, j6, j7, j8, j9, j10, j11, j12, j13⟩ := I.wide rfl q4 hS q2.1 (Nat.le_refl _) q2 hw q3
    exact own_on st (G v B.U _ ns ⟨B.U.vm, _, _, X', rfl, j1, j2, j3, j4, j5, j6, j7, j8, j9, j10, j11, j12, fun x hx => by
      rcases List.mem_append.mp hx with hx | hx
      · exact ⟨Or.inr (Nat.le_trans hk0 (q5 x hx).2.1), (q5 x hx).1, (q5 x hx).2.2.1, (q5 x hx).2.2.2⟩
      · exact j13 x hx⟩ q2 q1)
end OwnCallsR
/-! OWN KIT, UTF-16: plain facts on bytes of wide Strings -/
section OwnUtf
open StrChars StrChars.Road
theorem own_nat0 {i : Nat} (h : i < 2 ^ 31) : ¬ Int32.ofNat i < 0 := by
  rw [Int32.lt_iff_toInt_lt, Int32.toInt_ofNat_small h]
  have e0 : (0 : Int32).toInt = 0 := rfl
  omega
theorem own_natlt {i n : Nat} (hn : n < 2 ^ 31) (h : i < n) : ¬ Int32.ofNat i < 0 ∧ Int32.ofNat i < Int32.ofNat n := by
  refine ⟨own_nat0 (by omega), ?_⟩
  rw [Int32.lt_iff_toInt_lt, Int32.toInt_ofNat_small (by omega), Int32.toInt_ofNat_small hn]; omega
theorem own_natcl {i : Nat} (h : i < 2 ^ 31) : (Int32.ofNat i).toNatClampNeg = i := by
  rw [Int32.toNatClampNeg, Int32.toInt_ofNat_small h]; simp
theorem own_natinc (k : Nat) : Int32.ofNat k + Int32.ofInt 1 = Int32.ofNat (k + 1) := by
  rw [show Int32.ofInt 1 = Int32.ofNat 1 from rfl, ← Int32.ofNat_add]
theorem own_natinc' (k : Nat) : Int32.ofNat k + (1 : Int32) = Int32.ofNat (k + 1) := own_natinc k
theorem own_natinj {i n : Nat} (hi : i < 2 ^ 31) (hn : n < 2 ^ 31) (h : Int32.ofNat i = Int32.ofNat n) : i = n := by
  have := congrArg Int32.toInt h
  rw [Int32.toInt_ofNat_small hi, Int32.toInt_ofNat_small hn] at this; omega
theorem own_shl1 {n : Nat} (h : n ≤ 4000) : Int32.ofNat n <<< ((1 : Int32) &&& 31) = Int32.ofNat (2 * n) := by
  have t : ∀ a b : Fin 64, Int32.ofNat (64 * a.val + b.val) <<< ((1 : Int32) &&& 31) = Int32.ofNat (2 * (64 * a.val + b.val)) := by decide +kernel
  have q := t ⟨n / 64, by omega⟩ ⟨n % 64, by omega⟩
  rwa [show 64 * (n / 64) + n % 64 = n by omega] at q
theorem own_cfa0 (n : Int32) : (((n - n).toUInt32 >>> ((31 : Int32) &&& 31).toUInt32).toInt32).toInt8.toInt32 = 0 := by rw [Int32.sub_self]; decide
theorem own_cfa1 {n : Nat} (h0 : 0 < n) (h : n ≤ 4000) : (((Int32.ofNat n - Int32.ofNat (2 * n)).toUInt32 >>> ((31 : Int32) &&& 31).toUInt32).toInt32).toInt8.toInt32 = 1 := by
  have t : ∀ a b : Fin 64, 0 < 64 * a.val + b.val → (((Int32.ofNat (64 * a.val + b.val) - Int32.ofNat (2 * (64 * a.val + b.val))).toUInt32 >>> ((31 : Int32) &&& 31).toUInt32).toInt32).toInt8.toInt32 = 1 := by decide +kernel
  have q := t ⟨n / 64, by omega⟩ ⟨n % 64, by omega⟩
  rw [show 64 * (n / 64) + n % 64 = n by omega] at q
  exact q h0
theorem own_wideApp : ∀ a b : List Int32, wideBytes (a ++ b) = wideBytes a ++ wideBytes b
  | [], b => rfl
  | c :: a, b => by show _ :: _ :: wideBytes (a ++ b) = _; rw [own_wideApp a b]; rfl
theorem own_wideLen : ∀ a : List Int32, (wideBytes a).length = 2 * a.length
  | [] => rfl
  | c :: a => by show (wideBytes a).length + 1 + 1 = 2 * (a.length + 1); rw [own_wideLen a]; omega
def own_wk (cs : List Int32) (k : Nat) : List Value := wideBytes (cs.take k) ++ List.replicate (2 * (cs.length - k)) (.int 0)
def own_lk (cs : List Int32) (k : Nat) : List Value := (cs.take k).map (fun c => Value.int (lo8 c)) ++ List.replicate (cs.length - k) (.int 0)
theorem own_wk_len {cs : List Int32} {k : Nat} (h : k ≤ cs.length) : (own_wk cs k).length = 2 * cs.length := by
  rw [own_wk, List.length_append, own_wideLen, List.length_replicate, List.length_take]; omega
theorem own_lk_len {cs : List Int32} {k : Nat} (h : k ≤ cs.length) : (own_lk cs k).length = cs.length := by
  rw [own_lk, List.length_append, List.length_map, List.length_replicate, List.length_take]; omega
theorem own_set1 (A B : List Value) (x u : Value) : ∀ n, A.length = n → (A ++ x :: B).set n u = A ++ u :: B := by
  rintro n rfl; simp
theorem own_takeS {cs : List Int32} {k : Nat} (h : k < cs.length) : cs.take (k + 1) = cs.take k ++ [cs.getD k 0] := by
  rw [List.take_add_one, List.getD_eq_getElem?_getD, List.getElem?_eq_getElem h]; rfl
theorem own_wk_step {cs : List Int32} {k : Nat} (h : k < cs.length) : ((own_wk cs k).set (2 * k) (.int (lo8 (cs.getD k 0)))).set (2 * k + 1) (.int (hi8 (cs.getD k 0))) = own_wk cs (k + 1) := by
  have lk : (wideBytes (cs.take k)).length = 2 * k := by rw [own_wideLen, List.length_take]; omega
  have e : 2 * (cs.length - k) = 2 * (cs.length - (k + 1)) + 1 + 1 := by omega
  unfold own_wk
  rw [e, List.replicate_succ, List.replicate_succ, own_set1 _ _ _ _ _ lk, own_takeS h, own_wideApp]
  rw [show wideBytes (cs.take k) ++ .int (lo8 (cs.getD k 0)) :: .int 0 :: List.replicate (2 * (cs.length - (k + 1))) (.int 0) = (wideBytes (cs.take k) ++ [.int (lo8 (cs.getD k 0))]) ++ .int 0 :: List.replicate (2 * (cs.length - (k + 1))) (.int 0) by simp]
  rw [own_set1 _ _ _ _ _ (by rw [List.length_append, lk]; rfl)]
  simp [wideBytes]
theorem own_lk_step {cs : List Int32} {k : Nat} (h : k < cs.length) : (own_lk cs k).set k (.int (lo8 (cs.getD k 0))) = own_lk cs (k + 1) := by
  have lk : ((cs.take k).map (fun c => Value.int (lo8 c))).length = k := by rw [List.length_map, List.length_take]; omega
  have e : cs.length - k = cs.length - (k + 1) + 1 := by omega
  unfold own_lk
  rw [e, List.replicate_succ, own_set1 _ _ _ _ _ lk, own_takeS h, List.map_append]
  simp
theorem own_wk_all (cs : List Int32) : own_wk cs cs.length = wideBytes cs := by simp [own_wk]
theorem own_lk_all (cs : List Int32) : own_lk cs cs.length = cs.map (fun c => Value.int (lo8 c)) := by simp [own_lk]
theorem own_wk_0 (cs : List Int32) : own_wk cs 0 = [] ++ List.replicate (2 * cs.length) (.int 0) := by simp [own_wk, wideBytes]
theorem own_lk_0 (cs : List Int32) : own_lk cs 0 = [] ++ List.replicate cs.length (.int 0) := by simp [own_lk]
theorem own_getD' {cs : List Int32} {k : Nat} (h : k < cs.length) : cs.getD k 0 ∈ cs := by rw [List.getD_eq_getElem?_getD, List.getElem?_eq_getElem h]; exact List.getElem_mem h
theorem own_mapAt {cs : List Int32} {k : Nat} (d : Value) (h : k < cs.length) : (cs.map Value.int).getD k d = .int (cs.getD k 0) := by
  simp [List.getD_eq_getElem?_getD, h]
theorem own_allP {cs : List Int32} {P : Int32 → Prop} (h : ∀ j, j < cs.length → P (cs.getD j 0)) : ∀ c ∈ cs, P c := fun c hc => by
  obtain ⟨j, hj, rfl⟩ := List.getElem_of_mem hc
  have q := h j hj
  rwa [List.getD_eq_getElem?_getD, List.getElem?_eq_getElem hj] at q
theorem own_b8 (x : Int32) : x.toInt8.toInt32.toInt8.toInt32 = lo8 x := by rw [Int8.toInt8_toInt32]; rfl
theorem own_pair {c : Int32} (h0 : ¬ c < 0) (h1 : ¬ (65535 : Int32) < c) : (((lo8 c &&& (255 : Int32)) <<< ((0 : Int32) &&& 31)) ||| ((hi8 c &&& (255 : Int32)) <<< ((8 : Int32) &&& 31))).toUInt32.toUInt16.toUInt32.toInt32 = c := pair_says h0 h1
theorem own_narC {c : Int32} (h0 : ¬ c < 0) (h1 : ¬ (65535 : Int32) < c) : nar .char c = c := by
  have q := narrow_ch h0 h1
  exact Value.int.inj ((show narrow .char (.int c) = .int (nar .char c) from rfl).symm.trans q)
end OwnUtf
section OwnLdcI
variable {p : Program} {l : Launch} {e : Env} {R : Room} {s : State} {m : MethodId} {args : Array Value} {below : List Frame} {meth : Method} {c : Code} {T : State} {cells slots : Nat} {Z : State} {a0 : Array Value} {h h0 : Heap} {w kf : Bool} {EL : List (String × Nat)} {own : String} {ws fs : List Addr} {P : Outcome → State → Prop} {pc pc' : Nat} {Ls : Array Slot} {St : List Value} {index : Nat}
/-- ldc of an int -/
theorem own_ldcI {v : Int32} (K : own_S w kf EL p l e R s m args below meth c Z a0 own h0 ws T h fs cells slots) (hx : p.tables.exec = Jvm.exec) (w1 : (Cond.constant own index v).before a0 Z = true) (hd : decode c.code pc = .ok (.ldc index, 2)) (hp : pc + 2 = pc')
    (G : own_Go p.tables e below P T (mkF m pc' Ls (.int v :: St))) : own_Go p.tables e below P T (mkF m pc Ls St) := by
  subst hp
  obtain ⟨vm0, locs, k0, X, eT, I⟩ := K
  exact own_by (fun t q => X.ldcInt hx (own := own) (index := index) (v := v) I.2.1 (mvT (s := s.setVm vm0) I.1 w1) (g := mkF m pc Ls St) rfl hd _ q) G
end OwnLdcI
theorem own_sa {Z : State} {a0 : Array Value} (hw : ∀ d ∈ tables_1, d.before a0 Z = true) : ∀ a ∈ Bundle.stringAtoms, a.before a0 Z = true := fun d hd => hw d ((by decide +kernel : ∀ d ∈ Bundle.stringAtoms, d ∈ tables_1) d hd)
theorem own_wl {Z : State} {a0 : Array Value} (hw : ∀ d ∈ tables_1, d.before a0 Z = true) : ∀ d ∈ StrChars.Road.wordsLen, d.before a0 Z = true := fun d hd => hw d ((by decide +kernel : ∀ d ∈ StrChars.Road.wordsLen, d ∈ tables_1) d hd)
theorem d_jdk_52_method_6_0 : decode jdk_52_method_6_code 0 = .ok (.aload_n 0, 1) := by decide +kernel
theorem d_jdk_52_method_6_1 : decode jdk_52_method_6_code 1 = .ok (.arraylength, 1) := by decide +kernel
theorem d_jdk_52_method_6_2 : decode jdk_52_method_6_code 2 = .ok (.iconst 1, 1) := by decide +kernel
theorem d_jdk_52_method_6_3 : decode jdk_52_method_6_code 3 = .ok (.ishr, 1) := by decide +kernel
theorem d_jdk_52_method_6_4 : decode jdk_52_method_6_code 4 = .ok (.ireturn, 1) := by decide +kernel
theorem ef_ru_len (m : MethodId) (q_0 : Addr)  : entryFrame m #[(.ref q_0)] 1 = mkF m 0 #[.val (.ref q_0)] [] := by  first | (simp [entryFrame, mkF, argsToLocals, Value.category]; done) | rfl
theorem pn_0 : plainName "java/lang/StringUTF16" = true := by first | (simp [plainName, overriddenIn]; done) | decide +kernel
set_option maxRecDepth 65536 in
set_option maxHeartbeats 40000000 in
theorem ru_len (l : Launch) (Z : State) (a0 : Array Value) (hw : ∀ d ∈ tables_1, d.before a0 Z = true) (more : List Jvm.Cond) (h0 : Heap) (b : Addr) (kb : ClassId) (N2 : Int32) (vs : List Value) (d : Value) (V : Arv Z h0 b kb .byte N2 vs d) :
    own_Met true false consts_1 l Z a0 (⟨"java/lang/StringUTF16", "length", "([B)I"⟩ : MethodName) jdk_52_method_6_code 1 (some .int) more ({ frames := 0, cells := 0, slots := 0, locals := 0 } : Room) #[(.ref b)] h0 [] (fun v h => v = some (.int (N2 >>> ((1 : Int32) &&& 31))) ∧ h = h0) := by
  refine own_enter (own := "java/lang/StringUTF16") rfl (plainFor_of_name pn_0) ?_
  intro p e s m below meth c T hx hby hml hret hlk hnm K
  rw [ef_ru_len m b]
  have A := own_here K
  refine own_aloadN A hx (pc' := 1) (hb hby d_jdk_52_method_6_0) rfl rfl rfl ?_
  refine own_len K hx V (hb hby d_jdk_52_method_6_1) (pc' := 2) rfl ?_
  refine own_iconst A hx (pc' := 3) (hb hby d_jdk_52_method_6_2) (z := (1 : Int32)) (by decide) rfl ?_
  refine own_ishr A hx (pc' := 4) (hb hby d_jdk_52_method_6_3) (z := (N2 >>> ((1 : Int32) &&& 31))) rfl rfl ?_
  exact own_retI K hx hlk hret (hb hby d_jdk_52_method_6_4) (by decide) (by decide) ⟨rfl, rfl⟩
theorem d_jdk_52_method_3_0 : decode jdk_52_method_3_code 0 = .ok (.iload_n 0, 1) := by decide +kernel
theorem d_jdk_52_method_3_1 : decode jdk_52_method_3_code 1 = .ok (.ifCond .ge 11, 3) := by decide +kernel
theorem d_jdk_52_method_3_12 : decode jdk_52_method_3_code 12 = .ok (.iload_n 0, 1) := by decide +kernel
theorem d_jdk_52_method_3_13 : decode jdk_52_method_3_code 13 = .ok (.ldc 20, 2) := by decide +kernel
theorem d_jdk_52_method_3_15 : decode jdk_52_method_3_code 15 = .ok (.if_icmp .lt 40, 3) := by decide +kernel
theorem d_jdk_52_method_3_55 : decode jdk_52_method_3_code 55 = .ok (.iload_n 0, 1) := by decide +kernel
theorem d_jdk_52_method_3_56 : decode jdk_52_method_3_code 56 = .ok (.iconst 1, 1) := by decide +kernel
theorem d_jdk_52_method_3_57 : decode jdk_52_method_3_code 57 = .ok (.ishl, 1) := by decide +kernel
theorem d_jdk_52_method_3_58 : decode jdk_52_method_3_code 58 = .ok (.ireturn, 1) := by decide +kernel
theorem ef_ru_nbl (m : MethodId) (q_0 : Int32)  : entryFrame m #[(.int q_0)] 1 = mkF m 0 #[.val (.int q_0)] [] := by  first | (simp [entryFrame, mkF, argsToLocals, Value.category]; done) | rfl
set_option maxRecDepth 65536 in
set_option maxHeartbeats 40000000 in
theorem ru_nbl (l : Launch) (Z : State) (a0 : Array Value) (hw : ∀ d ∈ tables_1, d.before a0 Z = true) (more : List Jvm.Cond) (h0 : Heap)  (n : Nat) (hn : n ≤ 4000) :
    own_Met true false consts_1 l Z a0 (⟨"java/lang/StringUTF16", "newBytesLength", "(I)I"⟩ : MethodName) jdk_52_method_3_code 1 (some .int) more ({ frames := 0, cells := 0, slots := 0, locals := 0 } : Room) #[(.int (Int32.ofNat n))] h0 [] (fun v h => v = some (.int (Int32.ofNat (2 * n))) ∧ h = h0) := by
  refine own_enter (own := "java/lang/StringUTF16") rfl (plainFor_of_name pn_0) ?_
  intro p e s m below meth c T hx hby hml hret hlk hnm K
  rw [ef_ru_nbl m (Int32.ofNat n)]
  have A := own_here K
  refine own_iloadN A hx (pc' := 1) (hb hby d_jdk_52_method_3_0) rfl rfl ?_
  refine own_if_ge A hx 12 4 (hb hby d_jdk_52_method_3_1) (by decide) (by decide) rfl (fun hc1 => ?_) (fun hc1 => ?_)
  rotate_left
  · exact absurd hc1 (own_nat0 (by omega))
  refine own_iloadN A hx (pc' := 13) (hb hby d_jdk_52_method_3_12) rfl rfl ?_
  refine own_ldcI K hx (hw _ (List.mem_of_getElem? (i := 85) rfl)) (hb hby d_jdk_52_method_3_13) (pc' := 15) rfl ?_
  refine own_icmp_lt A hx 55 18 (hb hby d_jdk_52_method_3_15) (by decide) (by decide) rfl (fun hc15 => ?_) (fun hc15 => ?_)
  rotate_left
  · exact absurd (by rw [Int32.lt_iff_toInt_lt, Int32.toInt_ofNat_small (by omega)]; have : (1073741823 : Int32).toInt = 1073741823 := rfl; omega) hc15
  refine own_iloadN A hx (pc' := 56) (hb hby d_jdk_52_method_3_55) rfl rfl ?_
  refine own_iconst A hx (pc' := 57) (hb hby d_jdk_52_method_3_56) (z := (1 : Int32)) (by decide) rfl ?_
  refine own_ishl A hx (pc' := 58) (hb hby d_jdk_52_method_3_57) (z := ((Int32.ofNat n) <<< ((1 : Int32) &&& 31))) rfl rfl ?_
  exact own_retI K hx hlk hret (hb hby d_jdk_52_method_3_58) (by decide) (by decide) ⟨by rw [own_shl1 hn], rfl⟩
theorem d_jdk_52_method_2_0 : decode jdk_52_method_2_code 0 = .ok (.iload_n 0, 1) := by decide +kernel
theorem pd_0 : parseMethodDescriptor "(I)I" = some ⟨[.int], some .int⟩ := by decide +kernel
theorem d_jdk_52_method_2_1 : decode jdk_52_method_2_code 1 = .ok (.invokestatic 11, 3) := by decide +kernel
theorem d_jdk_52_method_2_4 : decode jdk_52_method_2_code 4 = .ok (.newarray .byte, 2) := by decide +kernel
theorem d_jdk_52_method_2_6 : decode jdk_52_method_2_code 6 = .ok (.areturn, 1) := by decide +kernel
theorem ef_ru_nbf (m : MethodId) (q_0 : Int32)  : entryFrame m #[(.int q_0)] 1 = mkF m 0 #[.val (.int q_0)] [] := by  first | (simp [entryFrame, mkF, argsToLocals, Value.category]; done) | rfl
set_option maxRecDepth 65536 in
set_option maxHeartbeats 40000000 in
theorem ru_nbf (l : Launch) (Z : State) (a0 : Array Value) (hw : ∀ d ∈ tables_1, d.before a0 Z = true) (more : List Jvm.Cond) (h0 : Heap)  (n : Nat) (hn : n ≤ 64) :
    own_MetR true false consts_1 l Z a0 (⟨"java/lang/StringUTF16", "newBytesFor", "(I)[B"⟩ : MethodName) jdk_52_method_2_code 1 (some (.array .byte)) more ({ frames := 1, cells := 1, slots := 128, locals := 12 } : Room) #[(.int (Int32.ofNat n))] h0 [] (fun v h ns => ∃ b k, v = some (.ref b) ∧ ns = [b] ∧ h0.size ≤ b ∧ Arv Z h b k .byte (Int32.ofNat (2 * n)) ([] ++ List.replicate (2 * n) (.int 0)) (.int 0)) := by
  refine own_enterR (own := "java/lang/StringUTF16") rfl (plainFor_of_name pn_0) ?_
  intro p e s m below meth c T hx hby hml hret hlk hnm K
  rw [ef_ru_nbf m (Int32.ofNat n)]
  have A := own_here K
  refine own_iloadN A hx (pc' := 1) (hb hby d_jdk_52_method_2_0) rfl rfl ?_
  refine own_callS K hx (by rw [hml]; rfl) (hw _ (List.mem_of_getElem? (i := 82) rfl)) (hw _ (List.mem_of_getElem? (i := 83) rfl)) (hw _ (List.mem_of_getElem? (i := 44) rfl)) (hw _ (List.mem_of_getElem? (i := 84) rfl)) (by decide) (ru_nbl l Z a0 hw [] h0 n (by omega)) (fun _ q => nomatch q) (argsL := [(.int (Int32.ofNat n))]) (rest := []) (lenOf pd_0 rfl) rfl 0 (Nat.le_of_eq rfl) (hb hby d_jdk_52_method_2_1) (pc' := 4) rfl (by decide) (by decide) (by decide) (by decide) ?_
  intro v1 T1 h1 K1 Kp1 Q1
  obtain ⟨rfl, -⟩ := Q1
  have A1 := own_here K1
  show own_Go p.tables e below _ T1 (mkF m 4 #[.val (.int (Int32.ofNat n))] [(.int (Int32.ofNat (2 * n)))])
  refine own_newarr K1 hx (hw _ (List.mem_of_getElem? (i := 16) rfl)) (hb hby d_jdk_52_method_2_4) (pc' := 6) rfl (own_nat0 (by omega)) 128 (by rw [own_natcl (by omega)]; omega) (by decide) (by decide) (by decide) ?_
  intro T2 h2 b2 k2 g2 K2 E2 V2
  have A2 := own_here K2
  have V2 : Arv Z h2 b2 k2 .byte (Int32.ofNat (2 * n)) ([] ++ List.replicate (2 * n) (.int 0)) (.int (0 : Int32)) := V2.pad (pad_rep [] (.int 0) (2 * n))
  exact own_retRR K2 hx hlk hret rfl rfl (hb hby d_jdk_52_method_2_6) (by decide) (by decide) [b2] (fun x hx => by cases List.mem_singleton.mp hx; exact ⟨List.mem_cons_self, by rw [g2]; exact Kp1.1⟩) ⟨_, _, rfl, rfl, by rw [g2]; exact Kp1.1, V2⟩
theorem d_jdk_52_method_4_0 : decode jdk_52_method_4_code 0 = .ok (.getstatic 44, 3) := by decide +kernel
theorem d_jdk_52_method_4_3 : decode jdk_52_method_4_code 3 = .ok (.ifCond .ne 25, 3) := by decide +kernel
theorem d_jdk_52_method_4_28 : decode jdk_52_method_4_code 28 = .ok (.iload_n 1, 1) := by decide +kernel
theorem d_jdk_52_method_4_29 : decode jdk_52_method_4_code 29 = .ok (.iconst 1, 1) := by decide +kernel
theorem d_jdk_52_method_4_30 : decode jdk_52_method_4_code 30 = .ok (.ishl, 1) := by decide +kernel
theorem d_jdk_52_method_4_31 : decode jdk_52_method_4_code 31 = .ok (.istore_n 1, 1) := by decide +kernel
theorem d_jdk_52_method_4_32 : decode jdk_52_method_4_code 32 = .ok (.aload_n 0, 1) := by decide +kernel
theorem d_jdk_52_method_4_33 : decode jdk_52_method_4_code 33 = .ok (.iload_n 1, 1) := by decide +kernel
theorem d_jdk_52_method_4_34 : decode jdk_52_method_4_code 34 = .ok (.iinc 1 1, 3) := by decide +kernel
theorem d_jdk_52_method_4_37 : decode jdk_52_method_4_code 37 = .ok (.iload_n 2, 1) := by decide +kernel
theorem d_jdk_52_method_4_38 : decode jdk_52_method_4_code 38 = .ok (.getstatic 59, 3) := by decide +kernel
theorem d_jdk_52_method_4_41 : decode jdk_52_method_4_code 41 = .ok (.ishr, 1) := by decide +kernel
theorem d_jdk_52_method_4_42 : decode jdk_52_method_4_code 42 = .ok (.i2b, 1) := by decide +kernel
theorem d_jdk_52_method_4_43 : decode jdk_52_method_4_code 43 = .ok (.bastore, 1) := by decide +kernel
theorem d_jdk_52_method_4_44 : decode jdk_52_method_4_code 44 = .ok (.aload_n 0, 1) := by decide +kernel
theorem d_jdk_52_method_4_45 : decode jdk_52_method_4_code 45 = .ok (.iload_n 1, 1) := by decide +kernel
theorem d_jdk_52_method_4_46 : decode jdk_52_method_4_code 46 = .ok (.iload_n 2, 1) := by decide +kernel
theorem d_jdk_52_method_4_47 : decode jdk_52_method_4_code 47 = .ok (.getstatic 63, 3) := by decide +kernel
theorem d_jdk_52_method_4_50 : decode jdk_52_method_4_code 50 = .ok (.ishr, 1) := by decide +kernel
theorem d_jdk_52_method_4_51 : decode jdk_52_method_4_code 51 = .ok (.i2b, 1) := by decide +kernel
theorem d_jdk_52_method_4_52 : decode jdk_52_method_4_code 52 = .ok (.bastore, 1) := by decide +kernel
theorem d_jdk_52_method_4_53 : decode jdk_52_method_4_code 53 = .ok (.return_, 1) := by decide +kernel
theorem ef_ru_put (m : MethodId) (q_0 : Addr) (q_1 : Int32) (q_2 : Int32)  : entryFrame m #[(.ref q_0), (.int q_1), (.int q_2)] 3 = mkF m 0 #[.val (.ref q_0), .val (.int q_1), .val (.int q_2)] [] := by  first | (simp [entryFrame, mkF, argsToLocals, Value.category]; done) | rfl
set_option maxRecDepth 65536 in
set_option maxHeartbeats 40000000 in
theorem ru_put (l : Launch) (Z : State) (a0 : Array Value) (hw : ∀ d ∈ tables_1, d.before a0 Z = true) (more : List Jvm.Cond) (h0 : Heap) (b : Addr) (x : Int32) (i n2 : Nat) (kb : ClassId) (vs : List Value) (d : Value) (U1 : Sta Z Z.heap "java/lang/StringUTF16" "$assertionsDisabled" "Z" (.int 1)) (U2 : Sta Z Z.heap "java/lang/StringUTF16" "HI_BYTE_SHIFT" "I" (.int 0)) (U3 : Sta Z Z.heap "java/lang/StringUTF16" "LO_BYTE_SHIFT" "I" (.int 8)) (V : Arv Z h0 b kb .byte (Int32.ofNat n2) vs d) (hvl : vs.length = n2) (hi : 2 * i + 1 < n2) (hn2 : n2 ≤ 8000) :
    own_Met true false consts_1 l Z a0 (⟨"java/lang/StringUTF16", "putChar", "([BII)V"⟩ : MethodName) jdk_52_method_4_code 3 none more ({ frames := 0, cells := 0, slots := 0, locals := 0 } : Room) #[(.ref b), (.int (Int32.ofNat i)), (.int x)] h0 [b] (fun v h => v = none ∧ Arv Z h b kb .byte (Int32.ofNat n2) ((vs.set (2 * i) (.int (StrChars.lo8 x))).set (2 * i + 1) (.int (StrChars.hi8 x))) d) := by
  refine own_enter (own := "java/lang/StringUTF16") rfl (plainFor_of_name pn_0) ?_
  intro p e s m below meth c T hx hby hml hret hlk hnm K
  rw [ef_ru_put m b (Int32.ofNat i) x]
  have A := own_here K
  refine own_getS K hx (host := "") (Or.inl (hw _ (List.mem_of_getElem? (i := 89) rfl))) Via.refl U1 (hb hby d_jdk_52_method_4_0) (pc' := 3) rfl ?_
  intro T3 K3
  have A3 := own_here K3
  refine own_if_ne A3 hx 28 6 (hb hby d_jdk_52_method_4_3) (by decide) (by decide) rfl (fun hc3 => ?_) (fun hc3 => ?_)
  rotate_left
  · exact absurd hc3 (by decide)
  refine own_iloadN A3 hx (pc' := 29) (hb hby d_jdk_52_method_4_28) rfl rfl ?_
  refine own_iconst A3 hx (pc' := 30) (hb hby d_jdk_52_method_4_29) (z := (1 : Int32)) (by decide) rfl ?_
  refine own_ishl A3 hx (pc' := 31) (hb hby d_jdk_52_method_4_30) (z := ((Int32.ofNat i) <<< ((1 : Int32) &&& 31))) rfl rfl ?_
  rw [own_shl1 (n := i) (by omega)]
  refine own_istoreN A3 hx (pc' := 32) #[.val (.ref b), .val (.int (Int32.ofNat (2 * i))), .val (.int x)] (hb hby d_jdk_52_method_4_31) rfl rfl ?_
  refine own_aloadN A3 hx (pc' := 33) (hb hby d_jdk_52_method_4_32) rfl rfl rfl ?_
  refine own_iloadN A3 hx (pc' := 34) (hb hby d_jdk_52_method_4_33) rfl rfl ?_
  refine own_iinc A3 hx (pc' := 37) #[.val (.ref b), .val (.int (Int32.ofNat (2 * i + 1))), .val (.int x)] (hb hby d_jdk_52_method_4_34) rfl (by rw [own_natinc]; rfl) rfl ?_
  refine own_iloadN A3 hx (pc' := 38) (hb hby d_jdk_52_method_4_37) rfl rfl ?_
  refine own_getS K3 hx (host := "") (Or.inl (hw _ (List.mem_of_getElem? (i := 90) rfl))) Via.refl U2 (hb hby d_jdk_52_method_4_38) (pc' := 41) rfl ?_
  intro T4 K4
  have A4 := own_here K4
  refine own_ishr A4 hx (pc' := 42) (hb hby d_jdk_52_method_4_41) (z := (x >>> ((0 : Int32) &&& 31))) rfl rfl ?_
  refine own_i2b A4 hx (pc' := 43) (hb hby d_jdk_52_method_4_42) (z := ((x >>> ((0 : Int32) &&& 31)).toInt8.toInt32)) rfl rfl ?_
  refine own_stB K4 hx V (List.mem_of_getElem? (i := 0) rfl) (own_natlt (by omega) (by omega)) (2 * i) (own_natcl (by omega)) (by first | omega | (simp only [List.length_set]; omega)) (hb hby d_jdk_52_method_4_43) (pc' := 44) rfl ?_
  intro T5 h5 K5 W5 V5
  have A5 := own_here K5
  rw [own_b8, StrChars.shr0] at V5
  refine own_aloadN A5 hx (pc' := 45) (hb hby d_jdk_52_method_4_44) rfl rfl rfl ?_
  refine own_iloadN A5 hx (pc' := 46) (hb hby d_jdk_52_method_4_45) rfl rfl ?_
  refine own_iloadN A5 hx (pc' := 47) (hb hby d_jdk_52_method_4_46) rfl rfl ?_
  refine own_getS K5 hx (host := "") (Or.inl (hw _ (List.mem_of_getElem? (i := 91) rfl))) Via.refl U3 (hb hby d_jdk_52_method_4_47) (pc' := 50) rfl ?_
  intro T6 K6
  have A6 := own_here K6
  refine own_ishr A6 hx (pc' := 51) (hb hby d_jdk_52_method_4_50) (z := (x >>> ((8 : Int32) &&& 31))) rfl rfl ?_
  refine own_i2b A6 hx (pc' := 52) (hb hby d_jdk_52_method_4_51) (z := ((x >>> ((8 : Int32) &&& 31)).toInt8.toInt32)) rfl rfl ?_
  refine own_stB K6 hx V5 (List.mem_of_getElem? (i := 0) rfl) (own_natlt (by omega) (by omega)) (2 * i + 1) (own_natcl (by omega)) (by first | omega | (simp only [List.length_set]; omega)) (hb hby d_jdk_52_method_4_52) (pc' := 53) rfl ?_
  intro T7 h7 K7 W7 V7
  have A7 := own_here K7
  rw [own_b8] at V7
  exact own_retV K7 hx hlk hret (hb hby d_jdk_52_method_4_53) (by decide) (by decide) ⟨rfl, V7⟩
theorem d_jdk_52_method_14_0 : decode jdk_52_method_14_code 0 = .ok (.iload_n 2, 1) := by decide +kernel
theorem pd_1 : parseMethodDescriptor "(I)[B" = some ⟨[.int], some (.array .byte)⟩ := by decide +kernel
theorem d_jdk_52_method_14_1 : decode jdk_52_method_14_code 1 = .ok (.invokestatic 107, 3) := by decide +kernel
theorem d_jdk_52_method_14_4 : decode jdk_52_method_14_code 4 = .ok (.astore_n 3, 1) := by decide +kernel
theorem d_jdk_52_method_14_5 : decode jdk_52_method_14_code 5 = .ok (.iconst 0, 1) := by decide +kernel
theorem d_jdk_52_method_14_6 : decode jdk_52_method_14_code 6 = .ok (.istore 4, 2) := by decide +kernel
theorem d_jdk_52_method_14_8 : decode jdk_52_method_14_code 8 = .ok (.iload 4, 2) := by decide +kernel
theorem d_jdk_52_method_14_10 : decode jdk_52_method_14_code 10 = .ok (.iload_n 2, 1) := by decide +kernel
theorem d_jdk_52_method_14_11 : decode jdk_52_method_14_code 11 = .ok (.if_icmp .ge 21, 3) := by decide +kernel
theorem d_jdk_52_method_14_32 : decode jdk_52_method_14_code 32 = .ok (.aload_n 3, 1) := by decide +kernel
theorem d_jdk_52_method_14_33 : decode jdk_52_method_14_code 33 = .ok (.areturn, 1) := by decide +kernel
theorem d_jdk_52_method_14_14 : decode jdk_52_method_14_code 14 = .ok (.aload_n 3, 1) := by decide +kernel
theorem d_jdk_52_method_14_15 : decode jdk_52_method_14_code 15 = .ok (.iload 4, 2) := by decide +kernel
theorem d_jdk_52_method_14_17 : decode jdk_52_method_14_code 17 = .ok (.aload_n 0, 1) := by decide +kernel
theorem d_jdk_52_method_14_18 : decode jdk_52_method_14_code 18 = .ok (.iload_n 1, 1) := by decide +kernel
theorem d_jdk_52_method_14_19 : decode jdk_52_method_14_code 19 = .ok (.caload, 1) := by decide +kernel
theorem pd_2 : parseMethodDescriptor "([BII)V" = some ⟨[(.array .byte), .int, .int], none⟩ := by decide +kernel
theorem d_jdk_52_method_14_20 : decode jdk_52_method_14_code 20 = .ok (.invokestatic 111, 3) := by decide +kernel
theorem d_jdk_52_method_14_23 : decode jdk_52_method_14_code 23 = .ok (.iinc 1 1, 3) := by decide +kernel
theorem d_jdk_52_method_14_26 : decode jdk_52_method_14_code 26 = .ok (.iinc 4 1, 3) := by decide +kernel
theorem d_jdk_52_method_14_29 : decode jdk_52_method_14_code 29 = .ok (.goto (-21), 3) := by decide +kernel
theorem ef_ru_tby (m : MethodId) (q_0 : Addr) (q_2 : Int32)  : entryFrame m #[(.ref q_0), (.int (0 : Int32)), (.int q_2)] 5 = mkF m 0 #[.val (.ref q_0), .val (.int (0 : Int32)), .val (.int q_2), .unset, .unset] [] := by  first | (simp [entryFrame, mkF, argsToLocals, Value.category]; done) | rfl
set_option maxRecDepth 65536 in
set_option maxHeartbeats 40000000 in
theorem ru_tby (l : Launch) (Z : State) (a0 : Array Value) (hw : ∀ d ∈ tables_1, d.before a0 Z = true) (more : List Jvm.Cond) (h0 : Heap) (b : Addr) (cs : List Int32) (kC : ClassId) (d : Value) (U1 : Sta Z Z.heap "java/lang/StringUTF16" "$assertionsDisabled" "Z" (.int 1)) (U2 : Sta Z Z.heap "java/lang/StringUTF16" "HI_BYTE_SHIFT" "I" (.int 0)) (U3 : Sta Z Z.heap "java/lang/StringUTF16" "LO_BYTE_SHIFT" "I" (.int 8)) (Ar : Arv Z h0 b kC .char (Int32.ofNat cs.length) (cs.map Value.int) d) (hl : cs.length ≤ 64) :
    own_Met true false consts_1 l Z a0 (⟨"java/lang/StringUTF16", "toBytes", "([CII)[B"⟩ : MethodName) jdk_52_method_14_code 5 (some (.array .byte)) more ({ frames := 2, cells := 1, slots := 128, locals := 24 } : Room) #[(.ref b), (.int (0 : Int32)), (.int (Int32.ofNat cs.length))] h0 [] (fun v h => ∃ t k, v = some (.ref t) ∧ h0.size ≤ t ∧ Arv Z h t k .byte (Int32.ofNat (2 * cs.length)) (StrChars.Road.wideBytes cs) (.int 0)) := by
  refine own_enter (own := "java/lang/StringUTF16") rfl (plainFor_of_name pn_0) ?_
  intro p e s m below meth c T hx hby hml hret hlk hnm K
  rw [ef_ru_tby m b (Int32.ofNat cs.length)]
  have A := own_here K
  have A0 := Ar
  refine own_iloadN A hx (pc' := 1) (hb hby d_jdk_52_method_14_0) rfl rfl ?_
  refine own_callSR K hx (by rw [hml]; rfl) (by intro q; first | rfl | cases q) (hw _ (List.mem_of_getElem? (i := 79) rfl)) (hw _ (List.mem_of_getElem? (i := 80) rfl)) (hw _ (List.mem_of_getElem? (i := 44) rfl)) (hw _ (List.mem_of_getElem? (i := 81) rfl)) (by decide) (ru_nbf l Z a0 hw [] h0 cs.length hl) (fun _ q => nomatch q) (argsL := [(.int (Int32.ofNat cs.length))]) (rest := []) (lenOf pd_1 rfl) rfl 0 (Nat.le_of_eq rfl) (hb hby d_jdk_52_method_14_1) (pc' := 4) rfl (by decide) (by decide) (by decide) (by decide) ?_
  intro v8 T8 h8 ns8 K8 Kp8 Q8
  obtain ⟨t, kt, rfl, rfl, ge, Y⟩ := Q8
  have Ar := Ar.keep Kp8 nin0
  have A8 := own_here K8
  show own_Go p.tables e below _ T8 (mkF m 4 #[.val (.ref b), .val (.int (0 : Int32)), .val (.int (Int32.ofNat cs.length)), .unset, .unset] [(.ref t)])
  rw [← own_wk_0] at Y
  have ne_b_t : b ≠ t := fun q => Nat.lt_irrefl _ (Nat.lt_of_lt_of_le A0.lt (q ▸ ge))
  refine own_astoreN A8 hx (pc' := 5) #[.val (.ref b), .val (.int (0 : Int32)), .val (.int (Int32.ofNat cs.length)), .val (.ref t), .unset] (hb hby d_jdk_52_method_14_4) rfl rfl rfl ?_
  refine own_iconst A8 hx (pc' := 6) (hb hby d_jdk_52_method_14_5) (z := (0 : Int32)) (by decide) rfl ?_
  refine own_istore A8 hx (pc' := 8) #[.val (.ref b), .val (.int (0 : Int32)), .val (.int (Int32.ofNat cs.length)), .val (.ref t), .val (.int (0 : Int32))] (hb hby d_jdk_52_method_14_6) rfl rfl ?_
  have loop : ∀ (n k : Nat) (Tl9 : State) (hl9 : Heap), k + n = cs.length → own_S true false consts_1 p l e ({ frames := 2, cells := 1, slots := 128, locals := 24 } : Room) s m #[(.ref b), (.int (0 : Int32)), (.int (Int32.ofNat cs.length))] below meth c Z a0 "java/lang/StringUTF16" h0 [] Tl9 hl9 [t] 1 128 → Arv Z hl9 b kC .char (Int32.ofNat cs.length) (cs.map Value.int) d → Arv Z hl9 t kt .byte (Int32.ofNat (2 * cs.length)) (own_wk cs k) (.int 0) → own_Go p.tables e below (own_Post true consts_1 Z ({ frames := 2, cells := 1, slots := 128, locals := 24 } : Room) h0 [] (fun v h => ∃ t k, v = some (.ref t) ∧ h0.size ≤ t ∧ Arv Z h t k .byte (Int32.ofNat (2 * cs.length)) (StrChars.Road.wideBytes cs) (.int 0)) s) Tl9 (mkF m 8 #[.val (.ref b), .val (.int (Int32.ofNat k)), .val (.int (Int32.ofNat cs.length)), .val (.ref t), .val (.int (Int32.ofNat k))] []) := by
    intro n
    induction n with
    | zero =>
      intro k Tl9 hl9 hk Kl9 Ar Y
      have Al9 := own_here Kl9
      obtain rfl : k = cs.length := by omega
      refine own_iload Al9 hx (pc' := 10) (hb hby d_jdk_52_method_14_8) rfl rfl ?_
      refine own_iloadN Al9 hx (pc' := 11) (hb hby d_jdk_52_method_14_10) rfl rfl ?_
      refine own_icmp_ge Al9 hx 32 14 (hb hby d_jdk_52_method_14_11) (by decide) (by decide) rfl (fun hc11 => ?_) (fun hc11 => ?_)
      rotate_left
      · exact absurd hc11 (fun q => Int32.lt_irrefl q)
      refine own_aloadN Al9 hx (pc' := 33) (hb hby d_jdk_52_method_14_32) rfl rfl rfl ?_
      exact own_retR Kl9 hx hlk hret rfl rfl (hb hby d_jdk_52_method_14_33) (by decide) (by decide) ⟨_, _, rfl, ge, by rw [own_wk_all] at Y; exact Y⟩
    | succ n ih =>
      intro k Tl9 hl9 hk Kl9 Ar Y
      have Al9 := own_here Kl9
      have hkl : k < cs.length := by omega
      refine own_iload Al9 hx (pc' := 10) (hb hby d_jdk_52_method_14_8) rfl rfl ?_
      refine own_iloadN Al9 hx (pc' := 11) (hb hby d_jdk_52_method_14_10) rfl rfl ?_
      refine own_icmp_ge Al9 hx 32 14 (hb hby d_jdk_52_method_14_11) (by decide) (by decide) rfl (fun hc11 => ?_) (fun hc11 => ?_)
      · exact absurd (own_natlt (by omega) hkl).2 hc11
      refine own_aloadN Al9 hx (pc' := 15) (hb hby d_jdk_52_method_14_14) rfl rfl rfl ?_
      refine own_iload Al9 hx (pc' := 17) (hb hby d_jdk_52_method_14_15) rfl rfl ?_
      refine own_aloadN Al9 hx (pc' := 18) (hb hby d_jdk_52_method_14_17) rfl rfl rfl ?_
      refine own_iloadN Al9 hx (pc' := 19) (hb hby d_jdk_52_method_14_18) rfl rfl ?_
      refine own_ldC Kl9 hx Ar (own_natlt (by omega) hkl) (by rw [own_natcl (by omega)]; exact own_mapAt _ hkl) (hb hby d_jdk_52_method_14_19) (pc' := 20) rfl ?_
      refine own_callS Kl9 hx (by rw [hml]; rfl) (hw _ (List.mem_of_getElem? (i := 86) rfl)) (hw _ (List.mem_of_getElem? (i := 87) rfl)) (hw _ (List.mem_of_getElem? (i := 44) rfl)) (hw _ (List.mem_of_getElem? (i := 88) rfl)) (by decide) (ru_put l Z a0 hw [] hl9 t (cs.getD k 0) k (2 * cs.length) kt (own_wk cs k) _ U1 U2 U3 Y (own_wk_len (by omega)) (by omega) (by omega)) (own_mem1 (List.mem_of_getElem? (i := 0) rfl)) (argsL := [(.ref t), (.int (Int32.ofNat k)), (.int (cs.getD k 0))]) (rest := []) (lenOf pd_2 rfl) rfl 0 (Nat.le_of_eq rfl) (hb hby d_jdk_52_method_14_20) (pc' := 23) rfl (by decide) (by decide) (by decide) (by decide) ?_
      intro v10 T10 h10 K10 Kp10 Q10
      obtain ⟨rfl, Y⟩ := Q10
      have Ar := Ar.keep Kp10 (ninS ne_b_t nin0)
      have A10 := own_here K10
      show own_Go p.tables e below _ T10 (mkF m 23 #[.val (.ref b), .val (.int (Int32.ofNat k)), .val (.int (Int32.ofNat cs.length)), .val (.ref t), .val (.int (Int32.ofNat k))] [])
      rw [own_wk_step hkl] at Y
      refine own_iinc A10 hx (pc' := 26) #[.val (.ref b), .val (.int (Int32.ofNat (k + 1))), .val (.int (Int32.ofNat cs.length)), .val (.ref t), .val (.int (Int32.ofNat k))] (hb hby d_jdk_52_method_14_23) rfl (by rw [own_natinc]; rfl) rfl ?_
      refine own_iinc A10 hx (pc' := 29) #[.val (.ref b), .val (.int (Int32.ofNat (k + 1))), .val (.int (Int32.ofNat cs.length)), .val (.ref t), .val (.int (Int32.ofNat (k + 1)))] (hb hby d_jdk_52_method_14_26) rfl (by rw [own_natinc]; rfl) rfl ?_
      refine own_goto A10 hx 8 (hb hby d_jdk_52_method_14_29) (by decide) (by decide) ?_
      exact ih (k + 1) T10 h10 (by omega) K10 Ar Y
  exact loop cs.length 0 T8 h8 (by omega) K8 Ar Y 
theorem d_jdk_52_method_5_0 : decode jdk_52_method_5_code 0 = .ok (.getstatic 44, 3) := by decide +kernel
theorem d_jdk_52_method_5_3 : decode jdk_52_method_5_code 3 = .ok (.ifCond .ne 25, 3) := by decide +kernel
theorem d_jdk_52_method_5_28 : decode jdk_52_method_5_code 28 = .ok (.iload_n 1, 1) := by decide +kernel
theorem d_jdk_52_method_5_29 : decode jdk_52_method_5_code 29 = .ok (.iconst 1, 1) := by decide +kernel
theorem d_jdk_52_method_5_30 : decode jdk_52_method_5_code 30 = .ok (.ishl, 1) := by decide +kernel
theorem d_jdk_52_method_5_31 : decode jdk_52_method_5_code 31 = .ok (.istore_n 1, 1) := by decide +kernel
theorem d_jdk_52_method_5_32 : decode jdk_52_method_5_code 32 = .ok (.aload_n 0, 1) := by decide +kernel
theorem d_jdk_52_method_5_33 : decode jdk_52_method_5_code 33 = .ok (.iload_n 1, 1) := by decide +kernel
theorem d_jdk_52_method_5_34 : decode jdk_52_method_5_code 34 = .ok (.iinc 1 1, 3) := by decide +kernel
theorem d_jdk_52_method_5_37 : decode jdk_52_method_5_code 37 = .ok (.baload, 1) := by decide +kernel
theorem d_jdk_52_method_5_38 : decode jdk_52_method_5_code 38 = .ok (.sipush 255, 3) := by decide +kernel
theorem d_jdk_52_method_5_41 : decode jdk_52_method_5_code 41 = .ok (.iand, 1) := by decide +kernel
theorem d_jdk_52_method_5_42 : decode jdk_52_method_5_code 42 = .ok (.getstatic 59, 3) := by decide +kernel
theorem d_jdk_52_method_5_45 : decode jdk_52_method_5_code 45 = .ok (.ishl, 1) := by decide +kernel
theorem d_jdk_52_method_5_46 : decode jdk_52_method_5_code 46 = .ok (.aload_n 0, 1) := by decide +kernel
theorem d_jdk_52_method_5_47 : decode jdk_52_method_5_code 47 = .ok (.iload_n 1, 1) := by decide +kernel
theorem d_jdk_52_method_5_48 : decode jdk_52_method_5_code 48 = .ok (.baload, 1) := by decide +kernel
theorem d_jdk_52_method_5_49 : decode jdk_52_method_5_code 49 = .ok (.sipush 255, 3) := by decide +kernel
theorem d_jdk_52_method_5_52 : decode jdk_52_method_5_code 52 = .ok (.iand, 1) := by decide +kernel
theorem d_jdk_52_method_5_53 : decode jdk_52_method_5_code 53 = .ok (.getstatic 63, 3) := by decide +kernel
theorem d_jdk_52_method_5_56 : decode jdk_52_method_5_code 56 = .ok (.ishl, 1) := by decide +kernel
theorem d_jdk_52_method_5_57 : decode jdk_52_method_5_code 57 = .ok (.ior, 1) := by decide +kernel
theorem d_jdk_52_method_5_58 : decode jdk_52_method_5_code 58 = .ok (.i2c, 1) := by decide +kernel
theorem d_jdk_52_method_5_59 : decode jdk_52_method_5_code 59 = .ok (.ireturn, 1) := by decide +kernel
theorem ef_ru_get (m : MethodId) (q_0 : Addr) (q_1 : Int32)  : entryFrame m #[(.ref q_0), (.int q_1)] 2 = mkF m 0 #[.val (.ref q_0), .val (.int q_1)] [] := by  first | (simp [entryFrame, mkF, argsToLocals, Value.category]; done) | rfl
set_option maxRecDepth 65536 in
set_option maxHeartbeats 40000000 in
theorem ru_get (l : Launch) (Z : State) (a0 : Array Value) (hw : ∀ d ∈ tables_1, d.before a0 Z = true) (more : List Jvm.Cond) (h0 : Heap) (b : Addr) (i : Nat) (cs : List Int32) (kb : ClassId) (d : Value) (U1 : Sta Z Z.heap "java/lang/StringUTF16" "$assertionsDisabled" "Z" (.int 1)) (U2 : Sta Z Z.heap "java/lang/StringUTF16" "HI_BYTE_SHIFT" "I" (.int 0)) (U3 : Sta Z Z.heap "java/lang/StringUTF16" "LO_BYTE_SHIFT" "I" (.int 8)) (V : Arv Z h0 b kb .byte (Int32.ofNat (2 * cs.length)) (StrChars.Road.wideBytes cs) d) (hi : i < cs.length) (hl : cs.length ≤ 4000) (hbc : ∀ c ∈ cs, ¬ c < 0 ∧ ¬ (65535 : Int32) < c) :
    own_Met true false consts_1 l Z a0 (⟨"java/lang/StringUTF16", "getChar", "([BI)C"⟩ : MethodName) jdk_52_method_5_code 2 (some .char) more ({ frames := 0, cells := 0, slots := 0, locals := 0 } : Room) #[(.ref b), (.int (Int32.ofNat i))] h0 [] (fun v h => v = some (.int (cs.getD i 0)) ∧ h = h0) := by
  refine own_enter (own := "java/lang/StringUTF16") rfl (plainFor_of_name pn_0) ?_
  intro p e s m below meth c T hx hby hml hret hlk hnm K
  rw [ef_ru_get m b (Int32.ofNat i)]
  have A := own_here K
  refine own_getS K hx (host := "") (Or.inl (hw _ (List.mem_of_getElem? (i := 89) rfl))) Via.refl U1 (hb hby d_jdk_52_method_5_0) (pc' := 3) rfl ?_
  intro T11 K11
  have A11 := own_here K11
  refine own_if_ne A11 hx 28 6 (hb hby d_jdk_52_method_5_3) (by decide) (by decide) rfl (fun hc3 => ?_) (fun hc3 => ?_)
  rotate_left
  · exact absurd hc3 (by decide)
  refine own_iloadN A11 hx (pc' := 29) (hb hby d_jdk_52_method_5_28) rfl rfl ?_
  refine own_iconst A11 hx (pc' := 30) (hb hby d_jdk_52_method_5_29) (z := (1 : Int32)) (by decide) rfl ?_
  refine own_ishl A11 hx (pc' := 31) (hb hby d_jdk_52_method_5_30) (z := ((Int32.ofNat i) <<< ((1 : Int32) &&& 31))) rfl rfl ?_
  rw [own_shl1 (n := i) (by omega)]
  refine own_istoreN A11 hx (pc' := 32) #[.val (.ref b), .val (.int (Int32.ofNat (2 * i)))] (hb hby d_jdk_52_method_5_31) rfl rfl ?_
  refine own_aloadN A11 hx (pc' := 33) (hb hby d_jdk_52_method_5_32) rfl rfl rfl ?_
  refine own_iloadN A11 hx (pc' := 34) (hb hby d_jdk_52_method_5_33) rfl rfl ?_
  refine own_iinc A11 hx (pc' := 37) #[.val (.ref b), .val (.int (Int32.ofNat (2 * i + 1)))] (hb hby d_jdk_52_method_5_34) rfl (by rw [own_natinc]; rfl) rfl ?_
  refine own_ldB K11 hx V (own_natlt (by omega) (by omega)) (by rw [own_natcl (by omega)]; exact StrChars.Road.wide_lo _ cs i hi) (hb hby d_jdk_52_method_5_37) (pc' := 38) rfl ?_
  refine own_sipush A11 hx (pc' := 41) (hb hby d_jdk_52_method_5_38) (z := (255 : Int32)) (by decide) rfl ?_
  refine own_iand A11 hx (pc' := 42) (hb hby d_jdk_52_method_5_41) (z := ((StrChars.lo8 (cs.getD i 0)) &&& (255 : Int32))) rfl rfl ?_
  refine own_getS K11 hx (host := "") (Or.inl (hw _ (List.mem_of_getElem? (i := 90) rfl))) Via.refl U2 (hb hby d_jdk_52_method_5_42) (pc' := 45) rfl ?_
  intro T12 K12
  have A12 := own_here K12
  refine own_ishl A12 hx (pc' := 46) (hb hby d_jdk_52_method_5_45) (z := (((StrChars.lo8 (cs.getD i 0)) &&& (255 : Int32)) <<< ((0 : Int32) &&& 31))) rfl rfl ?_
  refine own_aloadN A12 hx (pc' := 47) (hb hby d_jdk_52_method_5_46) rfl rfl rfl ?_
  refine own_iloadN A12 hx (pc' := 48) (hb hby d_jdk_52_method_5_47) rfl rfl ?_
  refine own_ldB K12 hx V (own_natlt (by omega) (by omega)) (by rw [own_natcl (by omega)]; exact StrChars.Road.wide_hi _ cs i hi) (hb hby d_jdk_52_method_5_48) (pc' := 49) rfl ?_
  refine own_sipush A12 hx (pc' := 52) (hb hby d_jdk_52_method_5_49) (z := (255 : Int32)) (by decide) rfl ?_
  refine own_iand A12 hx (pc' := 53) (hb hby d_jdk_52_method_5_52) (z := ((StrChars.hi8 (cs.getD i 0)) &&& (255 : Int32))) rfl rfl ?_
  refine own_getS K12 hx (host := "") (Or.inl (hw _ (List.mem_of_getElem? (i := 91) rfl))) Via.refl U3 (hb hby d_jdk_52_method_5_53) (pc' := 56) rfl ?_
  intro T13 K13
  have A13 := own_here K13
  refine own_ishl A13 hx (pc' := 57) (hb hby d_jdk_52_method_5_56) (z := (((StrChars.hi8 (cs.getD i 0)) &&& (255 : Int32)) <<< ((8 : Int32) &&& 31))) rfl rfl ?_
  refine own_ior A13 hx (pc' := 58) (hb hby d_jdk_52_method_5_57) (z := ((((StrChars.lo8 (cs.getD i 0)) &&& (255 : Int32)) <<< ((0 : Int32) &&& 31)) ||| (((StrChars.hi8 (cs.getD i 0)) &&& (255 : Int32)) <<< ((8 : Int32) &&& 31)))) rfl rfl ?_
  refine own_i2c A13 hx (pc' := 59) (hb hby d_jdk_52_method_5_58) (z := (((((StrChars.lo8 (cs.getD i 0)) &&& (255 : Int32)) <<< ((0 : Int32) &&& 31)) ||| (((StrChars.hi8 (cs.getD i 0)) &&& (255 : Int32)) <<< ((8 : Int32) &&& 31))).toUInt32.toUInt16.toUInt32.toInt32)) rfl rfl ?_
  exact own_retN K13 hx hlk hret (by simp) (hb hby d_jdk_52_method_5_59) (by decide) (by decide) ⟨by show some (Value.int (nar .char _)) = _; rw [own_pair (hbc _ (own_getD' hi)).1 (hbc _ (own_getD' hi)).2, own_narC (hbc _ (own_getD' hi)).1 (hbc _ (own_getD' hi)).2], rfl⟩
theorem d_jdk_52_method_21_0 : decode jdk_52_method_21_code 0 = .ok (.iconst 0, 1) := by decide +kernel
theorem d_jdk_52_method_21_1 : decode jdk_52_method_21_code 1 = .ok (.istore 5, 2) := by decide +kernel
theorem d_jdk_52_method_21_3 : decode jdk_52_method_21_code 3 = .ok (.iload 5, 2) := by decide +kernel
theorem d_jdk_52_method_21_5 : decode jdk_52_method_21_code 5 = .ok (.iload 4, 2) := by decide +kernel
theorem d_jdk_52_method_21_7 : decode jdk_52_method_21_code 7 = .ok (.if_icmp .ge 37, 3) := by decide +kernel
theorem d_jdk_52_method_21_44 : decode jdk_52_method_21_code 44 = .ok (.iload 4, 2) := by decide +kernel
theorem d_jdk_52_method_21_46 : decode jdk_52_method_21_code 46 = .ok (.ireturn, 1) := by decide +kernel
theorem d_jdk_52_method_21_10 : decode jdk_52_method_21_code 10 = .ok (.aload_n 0, 1) := by decide +kernel
theorem d_jdk_52_method_21_11 : decode jdk_52_method_21_code 11 = .ok (.iload_n 1, 1) := by decide +kernel
theorem d_jdk_52_method_21_12 : decode jdk_52_method_21_code 12 = .ok (.caload, 1) := by decide +kernel
theorem d_jdk_52_method_21_13 : decode jdk_52_method_21_code 13 = .ok (.istore 6, 2) := by decide +kernel
theorem d_jdk_52_method_21_15 : decode jdk_52_method_21_code 15 = .ok (.iload 6, 2) := by decide +kernel
theorem d_jdk_52_method_21_17 : decode jdk_52_method_21_code 17 = .ok (.sipush 255, 3) := by decide +kernel
theorem d_jdk_52_method_21_20 : decode jdk_52_method_21_code 20 = .ok (.if_icmp .le 6, 3) := by decide +kernel
theorem d_jdk_52_method_21_26 : decode jdk_52_method_21_code 26 = .ok (.aload_n 2, 1) := by decide +kernel
theorem d_jdk_52_method_21_27 : decode jdk_52_method_21_code 27 = .ok (.iload_n 3, 1) := by decide +kernel
theorem d_jdk_52_method_21_28 : decode jdk_52_method_21_code 28 = .ok (.iload 6, 2) := by decide +kernel
theorem d_jdk_52_method_21_30 : decode jdk_52_method_21_code 30 = .ok (.i2b, 1) := by decide +kernel
theorem d_jdk_52_method_21_31 : decode jdk_52_method_21_code 31 = .ok (.bastore, 1) := by decide +kernel
theorem d_jdk_52_method_21_32 : decode jdk_52_method_21_code 32 = .ok (.iinc 1 1, 3) := by decide +kernel
theorem d_jdk_52_method_21_35 : decode jdk_52_method_21_code 35 = .ok (.iinc 3 1, 3) := by decide +kernel
theorem d_jdk_52_method_21_38 : decode jdk_52_method_21_code 38 = .ok (.iinc 5 1, 3) := by decide +kernel
theorem d_jdk_52_method_21_41 : decode jdk_52_method_21_code 41 = .ok (.goto (-38), 3) := by decide +kernel
theorem d_jdk_52_method_21_23 : decode jdk_52_method_21_code 23 = .ok (.iload 5, 2) := by decide +kernel
theorem d_jdk_52_method_21_25 : decode jdk_52_method_21_code 25 = .ok (.ireturn, 1) := by decide +kernel
theorem ef_ru_cm5 (m : MethodId) (q_0 : Addr) (q_2 : Addr) (q_4 : Int32)  : entryFrame m #[(.ref q_0), (.int (0 : Int32)), (.ref q_2), (.int (0 : Int32)), (.int q_4)] 7 = mkF m 0 #[.val (.ref q_0), .val (.int (0 : Int32)), .val (.ref q_2), .val (.int (0 : Int32)), .val (.int q_4), .unset, .unset] [] := by  first | (simp [entryFrame, mkF, argsToLocals, Value.category]; done) | rfl
set_option maxRecDepth 65536 in
set_option maxHeartbeats 40000000 in
theorem ru_cm5 (l : Launch) (Z : State) (a0 : Array Value) (hw : ∀ d ∈ tables_1, d.before a0 Z = true) (more : List Jvm.Cond) (h0 : Heap) (b : Addr) (t : Addr) (cs : List Int32) (kC : ClassId) (d : Value) (kt : ClassId) (Ar : Arv Z h0 b kC .char (Int32.ofNat cs.length) (cs.map Value.int) d) (Y : Arv Z h0 t kt .byte (Int32.ofNat cs.length) (own_lk cs 0) (.int 0)) (nbt : b ≠ t) (hl : cs.length ≤ 4000) :
    own_Met true false consts_1 l Z a0 (⟨"java/lang/StringUTF16", "compress", "([CI[BII)I"⟩ : MethodName) jdk_52_method_21_code 7 (some .int) more ({ frames := 0, cells := 0, slots := 0, locals := 0 } : Room) #[(.ref b), (.int (0 : Int32)), (.ref t), (.int (0 : Int32)), (.int (Int32.ofNat cs.length))] h0 [t] (fun v h => (∃ i, v = some (.int (Int32.ofNat i)) ∧ i < cs.length ∧ (255 : Int32) < cs.getD i 0) ∨ (v = some (.int (Int32.ofNat cs.length)) ∧ (∀ c ∈ cs, ¬ (255 : Int32) < c) ∧ Arv Z h t kt .byte (Int32.ofNat cs.length) (cs.map (fun c => Value.int (StrChars.lo8 c))) (.int 0))) := by
  refine own_enter (own := "java/lang/StringUTF16") rfl (plainFor_of_name pn_0) ?_
  intro p e s m below meth c T hx hby hml hret hlk hnm K
  rw [ef_ru_cm5 m b t (Int32.ofNat cs.length)]
  have A := own_here K
  refine own_iconst A hx (pc' := 1) (hb hby d_jdk_52_method_21_0) (z := (0 : Int32)) (by decide) rfl ?_
  refine own_istore A hx (pc' := 3) #[.val (.ref b), .val (.int (0 : Int32)), .val (.ref t), .val (.int (0 : Int32)), .val (.int (Int32.ofNat cs.length)), .val (.int (0 : Int32)), .unset] (hb hby d_jdk_52_method_21_1) rfl rfl ?_
  have loop : ∀ (n k : Nat) (s6 : Slot) (Tl14 : State) (hl14 : Heap), k + n = cs.length → (s6 = .unset ∨ ∃ z, s6 = .val (.int z)) → own_S true false consts_1 p l e ({ frames := 0, cells := 0, slots := 0, locals := 0 } : Room) s m #[(.ref b), (.int (0 : Int32)), (.ref t), (.int (0 : Int32)), (.int (Int32.ofNat cs.length))] below meth c Z a0 "java/lang/StringUTF16" h0 [t] Tl14 hl14 [t] 0 0 → Arv Z hl14 b kC .char (Int32.ofNat cs.length) (cs.map Value.int) d → Arv Z hl14 t kt .byte (Int32.ofNat cs.length) (own_lk cs k) (.int 0) → (∀ j, j < k → ¬ (255 : Int32) < cs.getD j 0) → own_Go p.tables e below (own_Post true consts_1 Z ({ frames := 0, cells := 0, slots := 0, locals := 0 } : Room) h0 [t] (fun v h => (∃ i, v = some (.int (Int32.ofNat i)) ∧ i < cs.length ∧ (255 : Int32) < cs.getD i 0) ∨ (v = some (.int (Int32.ofNat cs.length)) ∧ (∀ c ∈ cs, ¬ (255 : Int32) < c) ∧ Arv Z h t kt .byte (Int32.ofNat cs.length) (cs.map (fun c => Value.int (StrChars.lo8 c))) (.int 0))) s) Tl14 (mkF m 3 #[.val (.ref b), .val (.int (Int32.ofNat k)), .val (.ref t), .val (.int (Int32.ofNat k)), .val (.int (Int32.ofNat cs.length)), .val (.int (Int32.ofNat k)), s6] []) := by
    intro n
    induction n with
    | zero =>
      intro k s6 Tl14 hl14 hk hs_s6 Kl14 Ar Y hpre
      have Al14 := own_here Kl14
      obtain rfl : k = cs.length := by omega
      refine own_iload Al14 hx (pc' := 5) (hb hby d_jdk_52_method_21_3) rfl rfl ?_
      refine own_iload Al14 hx (pc' := 7) (hb hby d_jdk_52_method_21_5) rfl rfl ?_
      refine own_icmp_ge Al14 hx 44 10 (hb hby d_jdk_52_method_21_7) (by decide) (by decide) rfl (fun hc7 => ?_) (fun hc7 => ?_)
      rotate_left
      · exact absurd hc7 (fun q => Int32.lt_irrefl q)
      refine own_iload Al14 hx (pc' := 46) (hb hby d_jdk_52_method_21_44) rfl rfl ?_
      exact own_retI Kl14 hx hlk hret (hb hby d_jdk_52_method_21_46) (by decide) (by decide) (Or.inr ⟨rfl, own_allP hpre, by rw [own_lk_all] at Y; exact Y⟩)
    | succ n ih =>
      intro k s6 Tl14 hl14 hk hs_s6 Kl14 Ar Y hpre
      have Al14 := own_here Kl14
      have hkl : k < cs.length := by omega
      refine own_iload Al14 hx (pc' := 5) (hb hby d_jdk_52_method_21_3) rfl rfl ?_
      refine own_iload Al14 hx (pc' := 7) (hb hby d_jdk_52_method_21_5) rfl rfl ?_
      refine own_icmp_ge Al14 hx 44 10 (hb hby d_jdk_52_method_21_7) (by decide) (by decide) rfl (fun hc7 => ?_) (fun hc7 => ?_)
      · exact absurd (own_natlt (by omega) hkl).2 hc7
      refine own_aloadN Al14 hx (pc' := 11) (hb hby d_jdk_52_method_21_10) rfl rfl rfl ?_
      refine own_iloadN Al14 hx (pc' := 12) (hb hby d_jdk_52_method_21_11) rfl rfl ?_
      refine own_ldC Kl14 hx Ar (own_natlt (by omega) hkl) (by rw [own_natcl (by omega)]; exact own_mapAt _ hkl) (hb hby d_jdk_52_method_21_12) (pc' := 13) rfl ?_
      refine own_istore Al14 hx (pc' := 15) #[.val (.ref b), .val (.int (Int32.ofNat k)), .val (.ref t), .val (.int (Int32.ofNat k)), .val (.int (Int32.ofNat cs.length)), .val (.int (Int32.ofNat k)), .val (.int (cs.getD k 0))] (hb hby d_jdk_52_method_21_13) (by rcases hs_s6 with rfl | ⟨_, rfl⟩ <;> rfl) rfl ?_
      refine own_iload Al14 hx (pc' := 17) (hb hby d_jdk_52_method_21_15) rfl rfl ?_
      refine own_sipush Al14 hx (pc' := 20) (hb hby d_jdk_52_method_21_17) (z := (255 : Int32)) (by decide) rfl ?_
      refine own_icmp_le Al14 hx 26 23 (hb hby d_jdk_52_method_21_20) (by decide) (by decide) rfl (fun hc20 => ?_) (fun hc20 => ?_)
      · refine own_aloadN Al14 hx (pc' := 27) (hb hby d_jdk_52_method_21_26) rfl rfl rfl ?_
        refine own_iloadN Al14 hx (pc' := 28) (hb hby d_jdk_52_method_21_27) rfl rfl ?_
        refine own_iload Al14 hx (pc' := 30) (hb hby d_jdk_52_method_21_28) rfl rfl ?_
        refine own_i2b Al14 hx (pc' := 31) (hb hby d_jdk_52_method_21_30) (z := ((cs.getD k 0).toInt8.toInt32)) rfl rfl ?_
        refine own_stB Kl14 hx Y (List.mem_of_getElem? (i := 0) rfl) (own_natlt (by omega) hkl) k (own_natcl (by omega)) (by rw [own_lk_len (by omega)]; exact hkl) (hb hby d_jdk_52_method_21_31) (pc' := 32) rfl ?_
        intro T15 h15 K15 W15 V15
        have Ar := Ar.other W15 nbt
        have A15 := own_here K15
        rw [own_b8, own_lk_step hkl] at V15
        refine own_iinc A15 hx (pc' := 35) #[.val (.ref b), .val (.int (Int32.ofNat (k + 1))), .val (.ref t), .val (.int (Int32.ofNat k)), .val (.int (Int32.ofNat cs.length)), .val (.int (Int32.ofNat k)), .val (.int (cs.getD k 0))] (hb hby d_jdk_52_method_21_32) rfl (by rw [own_natinc]; rfl) rfl ?_
        refine own_iinc A15 hx (pc' := 38) #[.val (.ref b), .val (.int (Int32.ofNat (k + 1))), .val (.ref t), .val (.int (Int32.ofNat (k + 1))), .val (.int (Int32.ofNat cs.length)), .val (.int (Int32.ofNat k)), .val (.int (cs.getD k 0))] (hb hby d_jdk_52_method_21_35) rfl (by rw [own_natinc]; rfl) rfl ?_
        refine own_iinc A15 hx (pc' := 41) #[.val (.ref b), .val (.int (Int32.ofNat (k + 1))), .val (.ref t), .val (.int (Int32.ofNat (k + 1))), .val (.int (Int32.ofNat cs.length)), .val (.int (Int32.ofNat (k + 1))), .val (.int (cs.getD k 0))] (hb hby d_jdk_52_method_21_38) rfl (by rw [own_natinc]; rfl) rfl ?_
        refine own_goto A15 hx 3 (hb hby d_jdk_52_method_21_41) (by decide) (by decide) ?_
        exact ih (k + 1) _ T15 h15 (by omega) (Or.inr ⟨_, rfl⟩) K15 Ar V15 (fun j hj => by rcases Nat.lt_succ_iff_lt_or_eq.mp hj with q | rfl; exact hpre j q; exact hc20)
      · refine own_iload Al14 hx (pc' := 25) (hb hby d_jdk_52_method_21_23) rfl rfl ?_
        exact own_retI Kl14 hx hlk hret (hb hby d_jdk_52_method_21_25) (by decide) (by decide) (Or.inl ⟨k, rfl, hkl, hc20⟩)
  exact loop cs.length 0 _ T h0 (by omega) (Or.inl rfl) K Ar Y (fun j hj => absurd hj (Nat.not_lt_zero j))
theorem d_jdk_52_method_16_0 : decode jdk_52_method_16_code 0 = .ok (.iload_n 2, 1) := by decide +kernel
theorem d_jdk_52_method_16_1 : decode jdk_52_method_16_code 1 = .ok (.newarray .byte, 2) := by decide +kernel
theorem d_jdk_52_method_16_3 : decode jdk_52_method_16_code 3 = .ok (.astore_n 3, 1) := by decide +kernel
theorem d_jdk_52_method_16_4 : decode jdk_52_method_16_code 4 = .ok (.aload_n 0, 1) := by decide +kernel
theorem d_jdk_52_method_16_5 : decode jdk_52_method_16_code 5 = .ok (.iload_n 1, 1) := by decide +kernel
theorem d_jdk_52_method_16_6 : decode jdk_52_method_16_code 6 = .ok (.aload_n 3, 1) := by decide +kernel
theorem d_jdk_52_method_16_7 : decode jdk_52_method_16_code 7 = .ok (.iconst 0, 1) := by decide +kernel
theorem d_jdk_52_method_16_8 : decode jdk_52_method_16_code 8 = .ok (.iload_n 2, 1) := by decide +kernel
theorem pd_3 : parseMethodDescriptor "([CI[BII)I" = some ⟨[(.array .char), .int, (.array .byte), .int, .int], some .int⟩ := by decide +kernel
theorem d_jdk_52_method_16_9 : decode jdk_52_method_16_code 9 = .ok (.invokestatic 115, 3) := by decide +kernel
theorem d_jdk_52_method_16_12 : decode jdk_52_method_16_code 12 = .ok (.istore 4, 2) := by decide +kernel
theorem d_jdk_52_method_16_14 : decode jdk_52_method_16_code 14 = .ok (.iload 4, 2) := by decide +kernel
theorem d_jdk_52_method_16_16 : decode jdk_52_method_16_code 16 = .ok (.iload_n 2, 1) := by decide +kernel
theorem d_jdk_52_method_16_17 : decode jdk_52_method_16_code 17 = .ok (.if_icmp .eq 40, 3) := by decide +kernel
theorem d_jdk_52_method_16_20 : decode jdk_52_method_16_code 20 = .ok (.aload_n 0, 1) := by decide +kernel
theorem d_jdk_52_method_16_21 : decode jdk_52_method_16_code 21 = .ok (.iload_n 1, 1) := by decide +kernel
theorem d_jdk_52_method_16_22 : decode jdk_52_method_16_code 22 = .ok (.iload_n 2, 1) := by decide +kernel
theorem pd_4 : parseMethodDescriptor "([CII)[B" = some ⟨[(.array .char), .int, .int], some (.array .byte)⟩ := by decide +kernel
theorem d_jdk_52_method_16_23 : decode jdk_52_method_16_code 23 = .ok (.invokestatic 119, 3) := by decide +kernel
theorem d_jdk_52_method_16_26 : decode jdk_52_method_16_code 26 = .ok (.astore 5, 2) := by decide +kernel
theorem d_jdk_52_method_16_28 : decode jdk_52_method_16_code 28 = .ok (.aload 5, 2) := by decide +kernel
theorem d_jdk_52_method_16_30 : decode jdk_52_method_16_code 30 = .ok (.iload 4, 2) := by decide +kernel
theorem pd_5 : parseMethodDescriptor "([BI)C" = some ⟨[(.array .byte), .int], some .char⟩ := by decide +kernel
theorem d_jdk_52_method_16_32 : decode jdk_52_method_16_code 32 = .ok (.invokestatic 71, 3) := by decide +kernel
theorem d_jdk_52_method_16_35 : decode jdk_52_method_16_code 35 = .ok (.sipush 255, 3) := by decide +kernel
theorem d_jdk_52_method_16_38 : decode jdk_52_method_16_code 38 = .ok (.if_icmp .gt 16, 3) := by decide +kernel
theorem d_jdk_52_method_16_54 : decode jdk_52_method_16_code 54 = .ok (.aload 5, 2) := by decide +kernel
theorem d_jdk_52_method_16_56 : decode jdk_52_method_16_code 56 = .ok (.areturn, 1) := by decide +kernel
theorem d_jdk_52_method_16_57 : decode jdk_52_method_16_code 57 = .ok (.aload_n 3, 1) := by decide +kernel
theorem d_jdk_52_method_16_58 : decode jdk_52_method_16_code 58 = .ok (.areturn, 1) := by decide +kernel
theorem ef_ru_cm3 (m : MethodId) (q_0 : Addr) (q_2 : Int32)  : entryFrame m #[(.ref q_0), (.int (0 : Int32)), (.int q_2)] 6 = mkF m 0 #[.val (.ref q_0), .val (.int (0 : Int32)), .val (.int q_2), .unset, .unset, .unset] [] := by  first | (simp [entryFrame, mkF, argsToLocals, Value.category]; done) | rfl
set_option maxRecDepth 65536 in
set_option maxHeartbeats 40000000 in
theorem ru_cm3 (l : Launch) (Z : State) (a0 : Array Value) (hw : ∀ d ∈ tables_1, d.before a0 Z = true) (more : List Jvm.Cond) (h0 : Heap) (b : Addr) (cs : List Int32) (kC : ClassId) (d : Value) (U1 : Sta Z Z.heap "java/lang/StringUTF16" "$assertionsDisabled" "Z" (.int 1)) (U2 : Sta Z Z.heap "java/lang/StringUTF16" "HI_BYTE_SHIFT" "I" (.int 0)) (U3 : Sta Z Z.heap "java/lang/StringUTF16" "LO_BYTE_SHIFT" "I" (.int 8)) (Ar : Arv Z h0 b kC .char (Int32.ofNat cs.length) (cs.map Value.int) d) (hl : cs.length ≤ 64) (hbc : ∀ c ∈ cs, ¬ c < 0 ∧ ¬ (65535 : Int32) < c) :
    own_Met true false consts_1 l Z a0 (⟨"java/lang/StringUTF16", "compress", "([CII)[B"⟩ : MethodName) jdk_52_method_16_code 6 (some (.array .byte)) more ({ frames := 3, cells := 2, slots := 192, locals := 40 } : Room) #[(.ref b), (.int (0 : Int32)), (.int (Int32.ofNat cs.length))] h0 [] (fun v h => ∃ (t : Addr) (kb : ClassId) (N2 : Int32) (vs : List Value) (cd : Int32), v = some (.ref t) ∧ h0.size ≤ t ∧ Arv Z h t kb .byte N2 vs (.int 0) ∧ StrChars.Road.CodA cs cd N2 vs) := by
  refine own_enter (own := "java/lang/StringUTF16") rfl (plainFor_of_name pn_0) ?_
  intro p e s m below meth c T hx hby hml hret hlk hnm K
  rw [ef_ru_cm3 m b (Int32.ofNat cs.length)]
  have A := own_here K
  refine own_iloadN A hx (pc' := 1) (hb hby d_jdk_52_method_16_0) rfl rfl ?_
  refine own_newarr K hx (hw _ (List.mem_of_getElem? (i := 16) rfl)) (hb hby d_jdk_52_method_16_1) (pc' := 3) rfl (own_nat0 (by omega)) 64 (by rw [own_natcl (by omega)]; omega) (by decide) (by decide) (by decide) ?_
  intro T16 h16 b16 k16 g16 K16 E16 V16
  have ne_b_b16 : b ≠ b16 := by rw [g16]; exact Nat.ne_of_lt Ar.lt
  have Ar := Ar.ext E16
  have A16 := own_here K16
  have V16 : Arv Z h16 b16 k16 .byte (Int32.ofNat cs.length) (own_lk cs 0) (.int (0 : Int32)) := by rw [own_lk_0]; exact V16.pad (pad_rep [] (.int 0) cs.length)
  refine own_astoreN A16 hx (pc' := 4) #[.val (.ref b), .val (.int (0 : Int32)), .val (.int (Int32.ofNat cs.length)), .val (.ref b16), .unset, .unset] (hb hby d_jdk_52_method_16_3) rfl rfl rfl ?_
  refine own_aloadN A16 hx (pc' := 5) (hb hby d_jdk_52_method_16_4) rfl rfl rfl ?_
  refine own_iloadN A16 hx (pc' := 6) (hb hby d_jdk_52_method_16_5) rfl rfl ?_
  refine own_aloadN A16 hx (pc' := 7) (hb hby d_jdk_52_method_16_6) rfl rfl rfl ?_
  refine own_iconst A16 hx (pc' := 8) (hb hby d_jdk_52_method_16_7) (z := (0 : Int32)) (by decide) rfl ?_
  refine own_iloadN A16 hx (pc' := 9) (hb hby d_jdk_52_method_16_8) rfl rfl ?_
  refine own_callS K16 hx (by rw [hml]; rfl) (hw _ (List.mem_of_getElem? (i := 46) rfl)) (hw _ (List.mem_of_getElem? (i := 47) rfl)) (hw _ (List.mem_of_getElem? (i := 44) rfl)) (hw _ (List.mem_of_getElem? (i := 48) rfl)) (by decide) (ru_cm5 l Z a0 hw [] h16 b b16 cs kC d k16 Ar V16 ne_b_b16 (by omega)) (own_mem1 (List.mem_of_getElem? (i := 0) rfl)) (argsL := [(.ref b), (.int (0 : Int32)), (.ref b16), (.int (0 : Int32)), (.int (Int32.ofNat cs.length))]) (rest := []) (lenOf pd_3 rfl) rfl 0 (Nat.le_of_eq rfl) (hb hby d_jdk_52_method_16_9) (pc' := 12) rfl (by decide) (by decide) (by decide) (by decide) ?_
  intro v17 T17 h17 K17 Kp17 Q17
  have Ar := Ar.keep Kp17 (ninS ne_b_b16 nin0)
  have A17 := own_here K17
  rcases Q17 with ⟨i, rfl, hi, hg⟩ | ⟨rfl, hall, Y⟩
  · show own_Go p.tables e below _ T17 (mkF m 12 #[.val (.ref b), .val (.int (0 : Int32)), .val (.int (Int32.ofNat cs.length)), .val (.ref b16), .unset, .unset] [(.int (Int32.ofNat i))])
    refine own_istore A17 hx (pc' := 14) #[.val (.ref b), .val (.int (0 : Int32)), .val (.int (Int32.ofNat cs.length)), .val (.ref b16), .val (.int (Int32.ofNat i)), .unset] (hb hby d_jdk_52_method_16_12) rfl rfl ?_
    refine own_iload A17 hx (pc' := 16) (hb hby d_jdk_52_method_16_14) rfl rfl ?_
    refine own_iloadN A17 hx (pc' := 17) (hb hby d_jdk_52_method_16_16) rfl rfl ?_
    refine own_icmp_eq A17 hx 57 20 (hb hby d_jdk_52_method_16_17) (by decide) (by decide) rfl (fun hc17 => ?_) (fun hc17 => ?_)
    · exact absurd (own_natinj (by omega) (by omega) hc17) (by omega)
    refine own_aloadN A17 hx (pc' := 21) (hb hby d_jdk_52_method_16_20) rfl rfl rfl ?_
    refine own_iloadN A17 hx (pc' := 22) (hb hby d_jdk_52_method_16_21) rfl rfl ?_
    refine own_iloadN A17 hx (pc' := 23) (hb hby d_jdk_52_method_16_22) rfl rfl ?_
    refine own_callS K17 hx (by rw [hml]; rfl) (hw _ (List.mem_of_getElem? (i := 76) rfl)) (hw _ (List.mem_of_getElem? (i := 77) rfl)) (hw _ (List.mem_of_getElem? (i := 44) rfl)) (hw _ (List.mem_of_getElem? (i := 78) rfl)) (by decide) (ru_tby l Z a0 hw [] h17 b cs kC d U1 U2 U3 Ar hl) (fun _ q => nomatch q) (argsL := [(.ref b), (.int (0 : Int32)), (.int (Int32.ofNat cs.length))]) (rest := []) (lenOf pd_4 rfl) rfl 0 (Nat.le_of_eq rfl) (hb hby d_jdk_52_method_16_23) (pc' := 26) rfl (by decide) (by decide) (by decide) (by decide) ?_
    intro v18 T18 h18 K18 Kp18 Q18
    obtain ⟨u, ku, rfl, geu, Y⟩ := Q18
    have Ar := Ar.keep Kp18 nin0
    have A18 := own_here K18
    show own_Go p.tables e below _ T18 (mkF m 26 #[.val (.ref b), .val (.int (0 : Int32)), .val (.int (Int32.ofNat cs.length)), .val (.ref b16), .val (.int (Int32.ofNat i)), .unset] [(.ref u)])
    refine own_astore A18 hx (pc' := 28) #[.val (.ref b), .val (.int (0 : Int32)), .val (.int (Int32.ofNat cs.length)), .val (.ref b16), .val (.int (Int32.ofNat i)), .val (.ref u)] (hb hby d_jdk_52_method_16_26) rfl rfl rfl ?_
    refine own_aload A18 hx (pc' := 30) (hb hby d_jdk_52_method_16_28) rfl rfl rfl ?_
    refine own_iload A18 hx (pc' := 32) (hb hby d_jdk_52_method_16_30) rfl rfl ?_
    refine own_callS K18 hx (by rw [hml]; rfl) (hw _ (List.mem_of_getElem? (i := 92) rfl)) (hw _ (List.mem_of_getElem? (i := 93) rfl)) (hw _ (List.mem_of_getElem? (i := 44) rfl)) (hw _ (List.mem_of_getElem? (i := 94) rfl)) (by decide) (ru_get l Z a0 hw [] h18 u i cs ku _ U1 U2 U3 Y hi (by omega) hbc) (fun _ q => nomatch q) (argsL := [(.ref u), (.int (Int32.ofNat i))]) (rest := []) (lenOf pd_5 rfl) rfl 0 (Nat.le_of_eq rfl) (hb hby d_jdk_52_method_16_32) (pc' := 35) rfl (by decide) (by decide) (by decide) (by decide) ?_
    intro v19 T19 h19 K19 Kp19 Q19
    obtain ⟨rfl, -⟩ := Q19
    have Ar := Ar.keep Kp19 nin0
    have Y := Y.keep Kp19 nin0
    have A19 := own_here K19
    show own_Go p.tables e below _ T19 (mkF m 35 #[.val (.ref b), .val (.int (0 : Int32)), .val (.int (Int32.ofNat cs.length)), .val (.ref b16), .val (.int (Int32.ofNat i)), .val (.ref u)] [(.int (cs.getD i 0))])
    refine own_sipush A19 hx (pc' := 38) (hb hby d_jdk_52_method_16_35) (z := (255 : Int32)) (by decide) rfl ?_
    refine own_icmp_gt A19 hx 54 41 (hb hby d_jdk_52_method_16_38) (by decide) (by decide) rfl (fun hc38 => ?_) (fun hc38 => ?_)
    rotate_left
    · exact absurd hg hc38
    refine own_aload A19 hx (pc' := 56) (hb hby d_jdk_52_method_16_54) rfl rfl rfl ?_
    exact own_retR K19 hx hlk hret rfl rfl (hb hby d_jdk_52_method_16_56) (by decide) (by decide) ⟨_, _, _, _, 1, rfl, Nat.le_trans (Nat.le_trans E16.1 Kp17.1) geu, Y, Or.inr ⟨rfl, rfl, rfl, _, own_getD' hi, hg⟩⟩
  · show own_Go p.tables e below _ T17 (mkF m 12 #[.val (.ref b), .val (.int (0 : Int32)), .val (.int (Int32.ofNat cs.length)), .val (.ref b16), .unset, .unset] [(.int (Int32.ofNat cs.length))])
    refine own_istore A17 hx (pc' := 14) #[.val (.ref b), .val (.int (0 : Int32)), .val (.int (Int32.ofNat cs.length)), .val (.ref b16), .val (.int (Int32.ofNat cs.length)), .unset] (hb hby d_jdk_52_method_16_12) rfl rfl ?_
    refine own_iload A17 hx (pc' := 16) (hb hby d_jdk_52_method_16_14) rfl rfl ?_
    refine own_iloadN A17 hx (pc' := 17) (hb hby d_jdk_52_method_16_16) rfl rfl ?_
    refine own_icmp_eq A17 hx 57 20 (hb hby d_jdk_52_method_16_17) (by decide) (by decide) rfl (fun hc17 => ?_) (fun hc17 => ?_)
    rotate_left
    · exact absurd rfl hc17
    refine own_aloadN A17 hx (pc' := 58) (hb hby d_jdk_52_method_16_57) rfl rfl rfl ?_
    exact own_retR K17 hx hlk hret rfl rfl (hb hby d_jdk_52_method_16_58) (by decide) (by decide) ⟨_, _, _, _, 0, rfl, by rw [g16]; exact Nat.le_refl _, Y, Or.inl ⟨rfl, rfl, rfl, hall⟩⟩
theorem d_jdk_52_method_15_0 : decode jdk_52_method_15_code 0 = .ok (.iload_n 1, 1) := by decide +kernel
theorem d_jdk_52_method_15_1 : decode jdk_52_method_15_code 1 = .ok (.aload_n 0, 1) := by decide +kernel
theorem d_jdk_52_method_15_2 : decode jdk_52_method_15_code 2 = .ok (.arraylength, 1) := by decide +kernel
theorem d_jdk_52_method_15_3 : decode jdk_52_method_15_code 3 = .ok (.isub, 1) := by decide +kernel
theorem d_jdk_52_method_15_4 : decode jdk_52_method_15_code 4 = .ok (.bipush 31, 2) := by decide +kernel
theorem d_jdk_52_method_15_6 : decode jdk_52_method_15_code 6 = .ok (.iushr, 1) := by decide +kernel
theorem d_jdk_52_method_15_7 : decode jdk_52_method_15_code 7 = .ok (.i2b, 1) := by decide +kernel
theorem d_jdk_52_method_15_8 : decode jdk_52_method_15_code 8 = .ok (.ireturn, 1) := by decide +kernel
theorem ef_ru_cfa (m : MethodId) (q_0 : Addr) (q_1 : Int32)  : entryFrame m #[(.ref q_0), (.int q_1)] 2 = mkF m 0 #[.val (.ref q_0), .val (.int q_1)] [] := by  first | (simp [entryFrame, mkF, argsToLocals, Value.category]; done) | rfl
set_option maxRecDepth 65536 in
set_option maxHeartbeats 40000000 in
theorem ru_cfa (l : Launch) (Z : State) (a0 : Array Value) (hw : ∀ d ∈ tables_1, d.before a0 Z = true) (more : List Jvm.Cond) (h0 : Heap) (b : Addr) (cs : List Int32) (kb : ClassId) (N2 cd : Int32) (vs : List Value) (d : Value) (V : Arv Z h0 b kb .byte N2 vs d) (hc : StrChars.Road.CodA cs cd N2 vs) (h1 : 0 < cs.length) (hl : cs.length ≤ 4000) :
    own_Met true false consts_1 l Z a0 (⟨"java/lang/StringUTF16", "coderFromArrayLen", "([BI)B"⟩ : MethodName) jdk_52_method_15_code 2 (some .byte) more ({ frames := 0, cells := 0, slots := 0, locals := 0 } : Room) #[(.ref b), (.int (Int32.ofNat cs.length))] h0 [] (fun v h => v = some (.int cd) ∧ h = h0) := by
  refine own_enter (own := "java/lang/StringUTF16") rfl (plainFor_of_name pn_0) ?_
  intro p e s m below meth c T hx hby hml hret hlk hnm K
  rw [ef_ru_cfa m b (Int32.ofNat cs.length)]
  have A := own_here K
  refine own_iloadN A hx (pc' := 1) (hb hby d_jdk_52_method_15_0) rfl rfl ?_
  refine own_aloadN A hx (pc' := 2) (hb hby d_jdk_52_method_15_1) rfl rfl rfl ?_
  refine own_len K hx V (hb hby d_jdk_52_method_15_2) (pc' := 3) rfl ?_
  refine own_isub A hx (pc' := 4) (hb hby d_jdk_52_method_15_3) (z := ((Int32.ofNat cs.length) - N2)) rfl rfl ?_
  refine own_bipush A hx (pc' := 6) (hb hby d_jdk_52_method_15_4) (z := (31 : Int32)) (by decide) rfl ?_
  refine own_iushr A hx (pc' := 7) (hb hby d_jdk_52_method_15_6) (z := ((((Int32.ofNat cs.length) - N2).toUInt32 >>> ((31 : Int32) &&& 31).toUInt32).toInt32)) rfl rfl ?_
  refine own_i2b A hx (pc' := 8) (hb hby d_jdk_52_method_15_7) (z := (((((Int32.ofNat cs.length) - N2).toUInt32 >>> ((31 : Int32) &&& 31).toUInt32).toInt32).toInt8.toInt32)) rfl rfl ?_
  exact own_retN K hx hlk hret (by simp) (hb hby d_jdk_52_method_15_8) (by decide) (by decide) ⟨by show some (Value.int (nar .byte _)) = _; rcases hc with ⟨rfl, rfl, -, -⟩ | ⟨rfl, rfl, -, -⟩; rw [own_cfa0]; rfl; rw [own_cfa1 h1 hl]; rfl, rfl⟩
theorem d_jdk_42_method_149_0 : decode jdk_42_method_149_code 0 = .ok (.aload_n 0, 1) := by decide +kernel
theorem d_jdk_42_method_149_1 : decode jdk_42_method_149_code 1 = .ok (.invokespecial 1, 3) := by decide +kernel
theorem d_jdk_42_method_149_4 : decode jdk_42_method_149_code 4 = .ok (.iload_n 3, 1) := by decide +kernel
theorem d_jdk_42_method_149_5 : decode jdk_42_method_149_code 5 = .ok (.ifCond .ne 22, 3) := by decide +kernel
theorem d_jdk_42_method_149_27 : decode jdk_42_method_149_code 27 = .ok (.getstatic 38, 3) := by decide +kernel
theorem d_jdk_42_method_149_30 : decode jdk_42_method_149_code 30 = .ok (.ifCond .eq 28, 3) := by decide +kernel
theorem d_jdk_42_method_149_33 : decode jdk_42_method_149_code 33 = .ok (.aload_n 1, 1) := by decide +kernel
theorem d_jdk_42_method_149_34 : decode jdk_42_method_149_code 34 = .ok (.iload_n 2, 1) := by decide +kernel
theorem d_jdk_42_method_149_35 : decode jdk_42_method_149_code 35 = .ok (.iload_n 3, 1) := by decide +kernel
theorem d_jdk_42_method_149_36 : decode jdk_42_method_149_code 36 = .ok (.invokestatic 177, 3) := by decide +kernel
theorem d_jdk_42_method_149_39 : decode jdk_42_method_149_code 39 = .ok (.astore 5, 2) := by decide +kernel
theorem d_jdk_42_method_149_41 : decode jdk_42_method_149_code 41 = .ok (.aload_n 0, 1) := by decide +kernel
theorem d_jdk_42_method_149_42 : decode jdk_42_method_149_code 42 = .ok (.aload 5, 2) := by decide +kernel
theorem d_jdk_42_method_149_44 : decode jdk_42_method_149_code 44 = .ok (.iload_n 3, 1) := by decide +kernel
theorem pd_6 : parseMethodDescriptor "([BI)B" = some ⟨[(.array .byte), .int], some .byte⟩ := by decide +kernel
theorem d_jdk_42_method_149_45 : decode jdk_42_method_149_code 45 = .ok (.invokestatic 47, 3) := by decide +kernel
theorem d_jdk_42_method_149_48 : decode jdk_42_method_149_code 48 = .ok (.putfield 15, 3) := by decide +kernel
theorem d_jdk_42_method_149_51 : decode jdk_42_method_149_code 51 = .ok (.aload_n 0, 1) := by decide +kernel
theorem d_jdk_42_method_149_52 : decode jdk_42_method_149_code 52 = .ok (.aload 5, 2) := by decide +kernel
theorem d_jdk_42_method_149_54 : decode jdk_42_method_149_code 54 = .ok (.putfield 9, 3) := by decide +kernel
theorem d_jdk_42_method_149_57 : decode jdk_42_method_149_code 57 = .ok (.return_, 1) := by decide +kernel
theorem ef_ru_i4 (m : MethodId) (q_0 : Addr) (q_1 : Addr) (q_3 : Int32)  : entryFrame m #[(.ref q_0), (.ref q_1), (.int (0 : Int32)), (.int q_3), .null] 6 = mkF m 0 #[.val (.ref q_0), .val (.ref q_1), .val (.int (0 : Int32)), .val (.int q_3), .val .null, .unset] [] := by  first | (simp [entryFrame, mkF, argsToLocals, Value.category]; done) | rfl
theorem pn_1 : plainName "java/lang/String" = true := by first | (simp [plainName, overriddenIn]; done) | decide +kernel
set_option maxRecDepth 65536 in
set_option maxHeartbeats 40000000 in
theorem ru_i4 (l : Launch) (Z : State) (a0 : Array Value) (hw : ∀ d ∈ tables_1, d.before a0 Z = true) (more : List Jvm.Cond) (h0 : Heap) (x : Addr) (b : Addr) (cs : List Int32) (kC : ClassId) (d : Value) (v0 c0 : Value) (G1 : Int32) (O2 : Sta Z Z.heap "java/lang/String" "COMPACT_STRINGS" "Z" (.int G1)) (P5 : ¬ (G1 = (0 : Int32))) (U1 : Sta Z Z.heap "java/lang/StringUTF16" "$assertionsDisabled" "Z" (.int 1)) (U2 : Sta Z Z.heap "java/lang/StringUTF16" "HI_BYTE_SHIFT" "I" (.int 0)) (U3 : Sta Z Z.heap "java/lang/StringUTF16" "LO_BYTE_SHIFT" "I" (.int 8)) (E : Exa Z h0 x "java/lang/String") (V : Fld Z h0 x "java/lang/String" "value" "[B" v0) (C : Fld Z h0 x "java/lang/String" "coder" "B" c0) (Ar : Arv Z h0 b kC .char (Int32.ofNat cs.length) (cs.map Value.int) d) (nbx : b ≠ x) (h1 : 0 < cs.length) (hl : cs.length ≤ 64) (hbc : ∀ c ∈ cs, ¬ c < 0 ∧ ¬ (65535 : Int32) < c) :
    own_Met true false consts_1 l Z a0 (⟨"java/lang/String", "<init>", "([CIILjava/lang/Void;)V"⟩ : MethodName) jdk_42_method_149_code 6 none more ({ frames := 4, cells := 2, slots := 192, locals := 57 } : Room) #[(.ref x), (.ref b), (.int (0 : Int32)), (.int (Int32.ofNat cs.length)), .null] h0 [x] (fun v h => v = none ∧ own_Str Z h x cs) := by
  refine own_enter (own := "java/lang/String") rfl (plainFor_of_name pn_1) ?_
  intro p e s m below meth c T hx hby hml hret hlk hnm K
  rw [ef_ru_i4 m x b (Int32.ofNat cs.length)]
  have A := own_here K
  refine own_aloadN A hx (pc' := 1) (hb hby d_jdk_42_method_149_0) rfl rfl rfl ?_
  refine own_initO K hx (hw _ (List.mem_of_getElem? (i := 12) rfl)) (hw _ (List.mem_of_getElem? (i := 13) rfl)) (hw _ (List.mem_of_getElem? (i := 14) rfl)) (by rw [hml]; rfl) 0 (Nat.le_of_eq rfl) (by decide) (by decide) (hb hby d_jdk_42_method_149_1) (pc' := 4) rfl ?_
  intro T20 K20
  have A20 := own_here K20
  refine own_iloadN A20 hx (pc' := 5) (hb hby d_jdk_42_method_149_4) rfl rfl ?_
  refine own_if_ne A20 hx 27 8 (hb hby d_jdk_42_method_149_5) (by decide) (by decide) rfl (fun hc5 => ?_) (fun hc5 => ?_)
  rotate_left
  · exact absurd (own_natinj (i := cs.length) (n := 0) (by omega) (by decide) hc5) (Nat.ne_of_gt h1)
  refine own_getS K20 hx (host := "") (Or.inl (hw _ (List.mem_of_getElem? (i := 37) rfl))) Via.refl O2 (hb hby d_jdk_42_method_149_27) (pc' := 30) rfl ?_
  intro T21 K21
  have A21 := own_here K21
  refine own_if_eq A21 hx 58 33 (hb hby d_jdk_42_method_149_30) (by decide) (by decide) rfl (fun hc30 => ?_) (fun hc30 => ?_)
  · exact absurd hc30 P5
  refine own_aloadN A21 hx (pc' := 34) (hb hby d_jdk_42_method_149_33) rfl rfl rfl ?_
  refine own_iloadN A21 hx (pc' := 35) (hb hby d_jdk_42_method_149_34) rfl rfl ?_
  refine own_iloadN A21 hx (pc' := 36) (hb hby d_jdk_42_method_149_35) rfl rfl ?_
  have E0 := E
  refine own_callS K21 hx (by rw [hml]; rfl) (hw _ (List.mem_of_getElem? (i := 42) rfl)) (hw _ (List.mem_of_getElem? (i := 43) rfl)) (hw _ (List.mem_of_getElem? (i := 44) rfl)) (hw _ (List.mem_of_getElem? (i := 45) rfl)) (by decide) (ru_cm3 l Z a0 hw [] h0 b cs kC d U1 U2 U3 Ar hl hbc) (fun _ q => nomatch q) (argsL := [(.ref b), (.int (0 : Int32)), (.int (Int32.ofNat cs.length))]) (rest := []) (lenOf pd_4 rfl) rfl 0 (Nat.le_of_eq rfl) (hb hby d_jdk_42_method_149_36) (pc' := 39) rfl (by decide) (by decide) (by decide) (by decide) ?_
  intro v22 T22 h22 K22 Kp22 Q22
  obtain ⟨t, kb, N2, vs, cd, rfl, ge, Y, hcd⟩ := Q22
  have E := E.keep Kp22
  have V := V.keep Kp22 nin0
  have C := C.keep Kp22 nin0
  have Ar := Ar.keep Kp22 nin0
  have A22 := own_here K22
  show own_Go p.tables e below _ T22 (mkF m 39 #[.val (.ref x), .val (.ref b), .val (.int (0 : Int32)), .val (.int (Int32.ofNat cs.length)), .val .null, .unset] [(.ref t)])
  have ne_t : t ≠ x := fun q => Nat.lt_irrefl _ (Nat.lt_of_lt_of_le E0.lt (q ▸ ge))
  have hcd2 : cd = 0 ∨ cd = 1 := hcd.imp (fun q => q.1) (fun q => q.1)
  refine own_astore A22 hx (pc' := 41) #[.val (.ref x), .val (.ref b), .val (.int (0 : Int32)), .val (.int (Int32.ofNat cs.length)), .val .null, .val (.ref t)] (hb hby d_jdk_42_method_149_39) rfl rfl rfl ?_
  refine own_aloadN A22 hx (pc' := 42) (hb hby d_jdk_42_method_149_41) rfl rfl rfl ?_
  refine own_aload A22 hx (pc' := 44) (hb hby d_jdk_42_method_149_42) rfl rfl rfl ?_
  refine own_iloadN A22 hx (pc' := 45) (hb hby d_jdk_42_method_149_44) rfl rfl ?_
  refine own_callS K22 hx (by rw [hml]; rfl) (hw _ (List.mem_of_getElem? (i := 49) rfl)) (hw _ (List.mem_of_getElem? (i := 50) rfl)) (hw _ (List.mem_of_getElem? (i := 44) rfl)) (hw _ (List.mem_of_getElem? (i := 51) rfl)) (by decide) (ru_cfa l Z a0 hw [] h22 t cs kb N2 cd vs _ Y hcd h1 (by omega)) (fun _ q => nomatch q) (argsL := [(.ref t), (.int (Int32.ofNat cs.length))]) (rest := [(.ref x)]) (lenOf pd_6 rfl) rfl 1 (Nat.le_of_eq rfl) (hb hby d_jdk_42_method_149_45) (pc' := 48) rfl (by decide) (by decide) (by decide) (by decide) ?_
  intro v23 T23 h23 K23 Kp23 Q23
  obtain ⟨rfl, -⟩ := Q23
  have E := E.keep Kp23
  have V := V.keep Kp23 nin0
  have C := C.keep Kp23 nin0
  have Ar := Ar.keep Kp23 nin0
  have Y := Y.keep Kp23 nin0
  have A23 := own_here K23
  show own_Go p.tables e below _ T23 (mkF m 48 #[.val (.ref x), .val (.ref b), .val (.int (0 : Int32)), .val (.int (Int32.ofNat cs.length)), .val .null, .val (.ref t)] [(.int cd), (.ref x)])
  refine own_putF K23 hx (host := "") (Or.inl (hw _ (List.mem_of_getElem? (i := 22) rfl))) Via.refl C E (Or.inr ⟨(hw _ (List.mem_of_getElem? (i := 18) rfl)), rfl, hnm⟩) (hw _ (List.mem_of_getElem? (i := 3) rfl)) (ty := .byte) (by decide) (by rcases hcd2 with rfl | rfl <;> decide) (by rcases hcd2 with rfl | rfl <;> decide) (List.mem_of_getElem? (i := 0) rfl) (hb hby d_jdk_42_method_149_48) (pc' := 51) rfl ?_
  intro T24 h24 K24 W24
  have E := E.wr W24
  have Ar := Ar.other W24 nbx
  have Y := Y.other W24 ne_t
  have V := V.other W24 (Or.inr (slot_ne (Or.inr (hw _ (List.mem_of_getElem? (i := 17) rfl))) (Or.inr (hw _ (List.mem_of_getElem? (i := 18) rfl))) (by decide) (t := (.array .byte)) (t' := .byte) (by decide) (by decide)))
  have C := C.same W24
  have A24 := own_here K24
  refine own_aloadN A24 hx (pc' := 52) (hb hby d_jdk_42_method_149_51) rfl rfl rfl ?_
  refine own_aload A24 hx (pc' := 54) (hb hby d_jdk_42_method_149_52) rfl rfl rfl ?_
  refine own_putF K24 hx (host := "") (Or.inl (hw _ (List.mem_of_getElem? (i := 21) rfl))) Via.refl V E (Or.inr ⟨(hw _ (List.mem_of_getElem? (i := 17) rfl)), rfl, hnm⟩) (hw _ (List.mem_of_getElem? (i := 3) rfl)) (ty := (.array .byte)) (by decide) rfl rfl (List.mem_of_getElem? (i := 0) rfl) (hb hby d_jdk_42_method_149_54) (pc' := 57) rfl ?_
  intro T25 h25 K25 W25
  have E := E.wr W25
  have Ar := Ar.other W25 nbx
  have Y := Y.other W25 ne_t
  have V := V.same W25
  have C := C.other W25 (Or.inr (slot_ne (Or.inr (hw _ (List.mem_of_getElem? (i := 18) rfl))) (Or.inr (hw _ (List.mem_of_getElem? (i := 17) rfl))) (by decide) (t := .byte) (t' := (.array .byte)) (by decide) (by decide)))
  have A25 := own_here K25
  exact own_retV K25 hx hlk hret (hb hby d_jdk_42_method_149_57) (by decide) (by decide) ⟨rfl, t, kb, cd, N2, vs, E, V, C, Y, hcd, hbc, by omega⟩
theorem d_jdk_42_method_3_0 : decode jdk_42_method_3_code 0 = .ok (.aload_n 0, 1) := by decide +kernel
theorem d_jdk_42_method_3_1 : decode jdk_42_method_3_code 1 = .ok (.aload_n 1, 1) := by decide +kernel
theorem d_jdk_42_method_3_2 : decode jdk_42_method_3_code 2 = .ok (.iconst 0, 1) := by decide +kernel
theorem d_jdk_42_method_3_3 : decode jdk_42_method_3_code 3 = .ok (.aload_n 1, 1) := by decide +kernel
theorem d_jdk_42_method_3_4 : decode jdk_42_method_3_code 4 = .ok (.arraylength, 1) := by decide +kernel
theorem d_jdk_42_method_3_5 : decode jdk_42_method_3_code 5 = .ok (.aconst_null, 1) := by decide +kernel
theorem pd_7 : parseMethodDescriptor "([CIILjava/lang/Void;)V" = some ⟨[(.array .char), .int, .int, (.object "java/lang/Void")], none⟩ := by decide +kernel
theorem d_jdk_42_method_3_6 : decode jdk_42_method_3_code 6 = .ok (.invokespecial 27, 3) := by decide +kernel
theorem d_jdk_42_method_3_9 : decode jdk_42_method_3_code 9 = .ok (.return_, 1) := by decide +kernel
theorem ef_ru_i1 (m : MethodId) (q_0 : Addr) (q_1 : Addr)  : entryFrame m #[(.ref q_0), (.ref q_1)] 2 = mkF m 0 #[.val (.ref q_0), .val (.ref q_1)] [] := by  first | (simp [entryFrame, mkF, argsToLocals, Value.category]; done) | rfl
set_option maxRecDepth 65536 in
set_option maxHeartbeats 40000000 in
theorem ru_i1 (l : Launch) (Z : State) (a0 : Array Value) (hw : ∀ d ∈ tables_1, d.before a0 Z = true) (more : List Jvm.Cond) (h0 : Heap) (x : Addr) (b : Addr) (cs : List Int32) (kC : ClassId) (d : Value) (v0 c0 : Value) (G1 : Int32) (O2 : Sta Z Z.heap "java/lang/String" "COMPACT_STRINGS" "Z" (.int G1)) (P5 : ¬ (G1 = (0 : Int32))) (U1 : Sta Z Z.heap "java/lang/StringUTF16" "$assertionsDisabled" "Z" (.int 1)) (U2 : Sta Z Z.heap "java/lang/StringUTF16" "HI_BYTE_SHIFT" "I" (.int 0)) (U3 : Sta Z Z.heap "java/lang/StringUTF16" "LO_BYTE_SHIFT" "I" (.int 8)) (E : Exa Z h0 x "java/lang/String") (V : Fld Z h0 x "java/lang/String" "value" "[B" v0) (C : Fld Z h0 x "java/lang/String" "coder" "B" c0) (Ar : Arv Z h0 b kC .char (Int32.ofNat cs.length) (cs.map Value.int) d) (nbx : b ≠ x) (h1 : 0 < cs.length) (hl : cs.length ≤ 64) (hbc : ∀ c ∈ cs, ¬ c < 0 ∧ ¬ (65535 : Int32) < c) :
    own_Met true false consts_1 l Z a0 (⟨"java/lang/String", "<init>", "([C)V"⟩ : MethodName) jdk_42_method_3_code 2 none more ({ frames := 5, cells := 2, slots := 192, locals := 74 } : Room) #[(.ref x), (.ref b)] h0 [x] (fun v h => v = none ∧ own_Str Z h x cs) := by
  refine own_enter (own := "java/lang/String") rfl (plainFor_of_name pn_1) ?_
  intro p e s m below meth c T hx hby hml hret hlk hnm K
  rw [ef_ru_i1 m x b]
  have A := own_here K
  refine own_aloadN A hx (pc' := 1) (hb hby d_jdk_42_method_3_0) rfl rfl rfl ?_
  refine own_aloadN A hx (pc' := 2) (hb hby d_jdk_42_method_3_1) rfl rfl rfl ?_
  refine own_iconst A hx (pc' := 3) (hb hby d_jdk_42_method_3_2) (z := (0 : Int32)) (by decide) rfl ?_
  refine own_aloadN A hx (pc' := 4) (hb hby d_jdk_42_method_3_3) rfl rfl rfl ?_
  refine own_len K hx Ar (hb hby d_jdk_42_method_3_4) (pc' := 5) rfl ?_
  refine own_null A hx (pc' := 6) (hb hby d_jdk_42_method_3_5) rfl ?_
  refine own_callSp K hx (by rw [hml]; rfl) rfl (hw _ (List.mem_of_getElem? (i := 8) rfl)) (hw _ (List.mem_of_getElem? (i := 9) rfl)) (hw _ (List.mem_of_getElem? (i := 4) rfl)) (hw _ (List.mem_of_getElem? (i := 11) rfl)) (by decide) (ru_i4 l Z a0 hw [] h0 x b cs kC d v0 c0 G1 O2 P5 U1 U2 U3 E V C Ar nbx h1 hl hbc) (own_mem1 (List.mem_of_getElem? (i := 0) rfl)) (argsL := [(.ref b), (.int (0 : Int32)), (.int (Int32.ofNat cs.length)), .null]) (rest := []) (lenOf pd_7 rfl) rfl 0 (Nat.le_of_eq rfl) (hb hby d_jdk_42_method_3_6) (pc' := 9) rfl (by decide) (by decide) (by decide) (by decide) ?_
  intro v26 T26 h26 K26 Kp26 Q26
  obtain ⟨rfl, S⟩ := Q26
  have Ar := Ar.keep Kp26 (ninS nbx nin0)
  have A26 := own_here K26
  show own_Go p.tables e below _ T26 (mkF m 9 #[.val (.ref x), .val (.ref b)] [])
  exact own_retV K26 hx hlk hret (hb hby d_jdk_42_method_3_9) (by decide) (by decide) ⟨rfl, S⟩
theorem d_jdk_41_method_11_0 : decode jdk_41_method_11_code 0 = .ok (.iload_n 0, 1) := by decide +kernel
theorem d_jdk_41_method_11_1 : decode jdk_41_method_11_code 1 = .ok (.ifCond .lt 8, 3) := by decide +kernel
theorem d_jdk_41_method_11_4 : decode jdk_41_method_11_code 4 = .ok (.iload_n 0, 1) := by decide +kernel
theorem d_jdk_41_method_11_5 : decode jdk_41_method_11_code 5 = .ok (.iload_n 1, 1) := by decide +kernel
theorem d_jdk_41_method_11_6 : decode jdk_41_method_11_code 6 = .ok (.if_icmp .lt 10, 3) := by decide +kernel
theorem d_jdk_41_method_11_16 : decode jdk_41_method_11_code 16 = .ok (.iload_n 0, 1) := by decide +kernel
theorem d_jdk_41_method_11_17 : decode jdk_41_method_11_code 17 = .ok (.ireturn, 1) := by decide +kernel
theorem ef_ru_pci (m : MethodId) (q_0 : Int32) (q_1 : Int32) (f : Value) (hr_f : f.isRef = true) : entryFrame m #[(.int q_0), (.int q_1), f] 3 = mkF m 0 #[.val (.int q_0), .val (.int q_1), .val f] [] := by rcases ref_cases hr_f with rfl | ⟨_, rfl⟩ <;>  first | (simp [entryFrame, mkF, argsToLocals, Value.category]; done) | rfl
theorem pn_2 : plainName "jdk/internal/util/Preconditions" = true := by first | (simp [plainName, overriddenIn]; done) | decide +kernel
set_option maxRecDepth 65536 in
set_option maxHeartbeats 40000000 in
theorem ru_pci (l : Launch) (Z : State) (a0 : Array Value) (hw : ∀ d ∈ tables_1, d.before a0 Z = true) (more : List Jvm.Cond) (h0 : Heap) (f : Value) (i n : Nat) (hr_f : f.isRef = true) (hi : i < n) (hn : n < 2 ^ 31) :
    own_Met true false consts_1 l Z a0 (⟨"jdk/internal/util/Preconditions", "checkIndex", "(IILjava/util/function/BiFunction;)I"⟩ : MethodName) jdk_41_method_11_code 3 (some .int) more ({ frames := 0, cells := 0, slots := 0, locals := 0 } : Room) #[(.int (Int32.ofNat i)), (.int (Int32.ofNat n)), f] h0 [] (fun v h => v = some (.int (Int32.ofNat i)) ∧ h = h0) := by
  refine own_enter (own := "jdk/internal/util/Preconditions") rfl (plainFor_of_name pn_2) ?_
  intro p e s m below meth c T hx hby hml hret hlk hnm K
  rw [ef_ru_pci m (Int32.ofNat i) (Int32.ofNat n) f hr_f]
  have A := own_here K
  refine own_iloadN A hx (pc' := 1) (hb hby d_jdk_41_method_11_0) rfl rfl ?_
  refine own_if_lt A hx 9 4 (hb hby d_jdk_41_method_11_1) (by decide) (by decide) rfl (fun hc1 => ?_) (fun hc1 => ?_)
  · exact absurd hc1 (own_natlt hn hi).1
  refine own_iloadN A hx (pc' := 5) (hb hby d_jdk_41_method_11_4) rfl rfl ?_
  refine own_iloadN A hx (pc' := 6) (hb hby d_jdk_41_method_11_5) rfl rfl ?_
  refine own_icmp_lt A hx 16 9 (hb hby d_jdk_41_method_11_6) (by decide) (by decide) rfl (fun hc6 => ?_) (fun hc6 => ?_)
  rotate_left
  · exact absurd (own_natlt hn hi).2 hc6
  refine own_iloadN A hx (pc' := 17) (hb hby d_jdk_41_method_11_16) rfl rfl ?_
  exact own_retI K hx hlk hret (hb hby d_jdk_41_method_11_17) (by decide) (by decide) ⟨rfl, rfl⟩
theorem d_jdk_42_method_155_0 : decode jdk_42_method_155_code 0 = .ok (.iload_n 0, 1) := by decide +kernel
theorem d_jdk_42_method_155_1 : decode jdk_42_method_155_code 1 = .ok (.iload_n 1, 1) := by decide +kernel
theorem d_jdk_42_method_155_2 : decode jdk_42_method_155_code 2 = .ok (.getstatic 1053, 3) := by decide +kernel
theorem pd_8 : parseMethodDescriptor "(IILjava/util/function/BiFunction;)I" = some ⟨[.int, .int, (.object "java/util/function/BiFunction")], some .int⟩ := by decide +kernel
theorem d_jdk_42_method_155_5 : decode jdk_42_method_155_code 5 = .ok (.invokestatic 1059, 3) := by decide +kernel
theorem d_jdk_42_method_155_8 : decode jdk_42_method_155_code 8 = .ok (.pop, 1) := by decide +kernel
theorem d_jdk_42_method_155_9 : decode jdk_42_method_155_code 9 = .ok (.return_, 1) := by decide +kernel
theorem ef_ru_sci (m : MethodId) (q_0 : Int32) (q_1 : Int32)  : entryFrame m #[(.int q_0), (.int q_1)] 2 = mkF m 0 #[.val (.int q_0), .val (.int q_1)] [] := by  first | (simp [entryFrame, mkF, argsToLocals, Value.category]; done) | rfl
set_option maxRecDepth 65536 in
set_option maxHeartbeats 40000000 in
theorem ru_sci (l : Launch) (Z : State) (a0 : Array Value) (hw : ∀ d ∈ tables_1, d.before a0 Z = true) (more : List Jvm.Cond) (h0 : Heap)  (i n : Nat) (G3 : Value) (O4 : Sta Z Z.heap "jdk/internal/util/Preconditions" "SIOOBE_FORMATTER" "Ljava/util/function/BiFunction;" G3) (hr_G3 : G3.isRef = true) (hi : i < n) (hn : n < 2 ^ 31) :
    own_Met true false consts_1 l Z a0 (⟨"java/lang/String", "checkIndex", "(II)V"⟩ : MethodName) jdk_42_method_155_code 2 none more ({ frames := 1, cells := 0, slots := 0, locals := 14 } : Room) #[(.int (Int32.ofNat i)), (.int (Int32.ofNat n))] h0 [] (fun v h => v = none ∧ h = h0) := by
  refine own_enter (own := "java/lang/String") rfl (plainFor_of_name pn_1) ?_
  intro p e s m below meth c T hx hby hml hret hlk hnm K
  rw [ef_ru_sci m (Int32.ofNat i) (Int32.ofNat n)]
  have A := own_here K
  refine own_iloadN A hx (pc' := 1) (hb hby d_jdk_42_method_155_0) rfl rfl ?_
  refine own_iloadN A hx (pc' := 2) (hb hby d_jdk_42_method_155_1) rfl rfl ?_
  refine own_getS K hx (host := "") (Or.inl (hw _ (List.mem_of_getElem? (i := 69) rfl))) Via.refl O4 (hb hby d_jdk_42_method_155_2) (pc' := 5) rfl ?_
  intro T27 K27
  have A27 := own_here K27
  refine own_callS K27 hx (by rw [hml]; rfl) (hw _ (List.mem_of_getElem? (i := 71) rfl)) (hw _ (List.mem_of_getElem? (i := 72) rfl)) (hw _ (List.mem_of_getElem? (i := 70) rfl)) (hw _ (List.mem_of_getElem? (i := 73) rfl)) (by decide) (ru_pci l Z a0 hw [] h0 G3 i n hr_G3 hi hn) (fun _ q => nomatch q) (argsL := [(.int (Int32.ofNat i)), (.int (Int32.ofNat n)), G3]) (rest := []) (lenOf pd_8 rfl) rfl 0 (Nat.le_of_eq rfl) (hb hby d_jdk_42_method_155_5) (pc' := 8) rfl (by decide) (by decide) (by decide) (by decide) ?_
  intro v28 T28 h28 K28 Kp28 Q28
  obtain ⟨rfl, e28⟩ := Q28
  have A28 := own_here K28
  show own_Go p.tables e below _ T28 (mkF m 8 #[.val (.int (Int32.ofNat i)), .val (.int (Int32.ofNat n))] [(.int (Int32.ofNat i))])
  refine own_pop A28 hx (pc' := 9) (hb hby d_jdk_42_method_155_8) rfl rfl ?_
  exact own_retV K28 hx hlk hret (hb hby d_jdk_42_method_155_9) (by decide) (by decide) ⟨rfl, e28⟩
theorem d_jdk_43_method_2_0 : decode jdk_43_method_2_code 0 = .ok (.iload_n 1, 1) := by decide +kernel
theorem d_jdk_43_method_2_1 : decode jdk_43_method_2_code 1 = .ok (.aload_n 0, 1) := by decide +kernel
theorem d_jdk_43_method_2_2 : decode jdk_43_method_2_code 2 = .ok (.arraylength, 1) := by decide +kernel
theorem pd_9 : parseMethodDescriptor "(II)V" = some ⟨[.int, .int], none⟩ := by decide +kernel
theorem d_jdk_43_method_2_3 : decode jdk_43_method_2_code 3 = .ok (.invokestatic 9, 3) := by decide +kernel
theorem d_jdk_43_method_2_6 : decode jdk_43_method_2_code 6 = .ok (.aload_n 0, 1) := by decide +kernel
theorem d_jdk_43_method_2_7 : decode jdk_43_method_2_code 7 = .ok (.iload_n 1, 1) := by decide +kernel
theorem d_jdk_43_method_2_8 : decode jdk_43_method_2_code 8 = .ok (.baload, 1) := by decide +kernel
theorem d_jdk_43_method_2_9 : decode jdk_43_method_2_code 9 = .ok (.sipush 255, 3) := by decide +kernel
theorem d_jdk_43_method_2_12 : decode jdk_43_method_2_code 12 = .ok (.iand, 1) := by decide +kernel
theorem d_jdk_43_method_2_13 : decode jdk_43_method_2_code 13 = .ok (.i2c, 1) := by decide +kernel
theorem d_jdk_43_method_2_14 : decode jdk_43_method_2_code 14 = .ok (.ireturn, 1) := by decide +kernel
theorem ef_ru_lch (m : MethodId) (q_0 : Addr) (q_1 : Int32)  : entryFrame m #[(.ref q_0), (.int q_1)] 2 = mkF m 0 #[.val (.ref q_0), .val (.int q_1)] [] := by  first | (simp [entryFrame, mkF, argsToLocals, Value.category]; done) | rfl
theorem pn_3 : plainName "java/lang/StringLatin1" = true := by first | (simp [plainName, overriddenIn]; done) | decide +kernel
set_option maxRecDepth 65536 in
set_option maxHeartbeats 40000000 in
theorem ru_lch (l : Launch) (Z : State) (a0 : Array Value) (hw : ∀ d ∈ tables_1, d.before a0 Z = true) (more : List Jvm.Cond) (h0 : Heap) (b : Addr) (i : Nat) (cs : List Int32) (kb : ClassId) (d : Value) (G3 : Value) (O4 : Sta Z Z.heap "jdk/internal/util/Preconditions" "SIOOBE_FORMATTER" "Ljava/util/function/BiFunction;" G3) (hr_G3 : G3.isRef = true) (V : Arv Z h0 b kb .byte (Int32.ofNat cs.length) (cs.map (fun c => Value.int (StrChars.lo8 c))) d) (h255 : ∀ c ∈ cs, ¬ (255 : Int32) < c) (hi : i < cs.length) (hl : cs.length ≤ 4000) (hbc : ∀ c ∈ cs, ¬ c < 0 ∧ ¬ (65535 : Int32) < c) :
    own_Met true false consts_1 l Z a0 (⟨"java/lang/StringLatin1", "charAt", "([BI)C"⟩ : MethodName) jdk_43_method_2_code 2 (some .char) more ({ frames := 2, cells := 0, slots := 0, locals := 27 } : Room) #[(.ref b), (.int (Int32.ofNat i))] h0 [] (fun v h => v = some (.int (cs.getD i 0)) ∧ h = h0) := by
  refine own_enter (own := "java/lang/StringLatin1") rfl (plainFor_of_name pn_3) ?_
  intro p e s m below meth c T hx hby hml hret hlk hnm K
  rw [ef_ru_lch m b (Int32.ofNat i)]
  have A := own_here K
  refine own_iloadN A hx (pc' := 1) (hb hby d_jdk_43_method_2_0) rfl rfl ?_
  refine own_aloadN A hx (pc' := 2) (hb hby d_jdk_43_method_2_1) rfl rfl rfl ?_
  refine own_len K hx V (hb hby d_jdk_43_method_2_2) (pc' := 3) rfl ?_
  refine own_callS K hx (by rw [hml]; rfl) (hw _ (List.mem_of_getElem? (i := 66) rfl)) (hw _ (List.mem_of_getElem? (i := 67) rfl)) (hw _ (List.mem_of_getElem? (i := 4) rfl)) (hw _ (List.mem_of_getElem? (i := 68) rfl)) (by decide) (ru_sci l Z a0 hw [] h0 i cs.length G3 O4 hr_G3 hi (by omega)) (fun _ q => nomatch q) (argsL := [(.int (Int32.ofNat i)), (.int (Int32.ofNat cs.length))]) (rest := []) (lenOf pd_9 rfl) rfl 0 (Nat.le_of_eq rfl) (hb hby d_jdk_43_method_2_3) (pc' := 6) rfl (by decide) (by decide) (by decide) (by decide) ?_
  intro v29 T29 h29 K29 Kp29 Q29
  obtain ⟨rfl, e29⟩ := Q29
  have V := V.keep Kp29 nin0
  have A29 := own_here K29
  show own_Go p.tables e below _ T29 (mkF m 6 #[.val (.ref b), .val (.int (Int32.ofNat i))] [])
  refine own_aloadN A29 hx (pc' := 7) (hb hby d_jdk_43_method_2_6) rfl rfl rfl ?_
  refine own_iloadN A29 hx (pc' := 8) (hb hby d_jdk_43_method_2_7) rfl rfl ?_
  refine own_ldB K29 hx V (own_natlt (by omega) hi) (by rw [own_natcl (by omega)]; exact StrChars.Road.low_at _ cs i hi) (hb hby d_jdk_43_method_2_8) (pc' := 9) rfl ?_
  refine own_sipush A29 hx (pc' := 12) (hb hby d_jdk_43_method_2_9) (z := (255 : Int32)) (by decide) rfl ?_
  refine own_iand A29 hx (pc' := 13) (hb hby d_jdk_43_method_2_12) (z := ((StrChars.lo8 (cs.getD i 0)) &&& (255 : Int32))) rfl rfl ?_
  refine own_i2c A29 hx (pc' := 14) (hb hby d_jdk_43_method_2_13) (z := (((StrChars.lo8 (cs.getD i 0)) &&& (255 : Int32)).toUInt32.toUInt16.toUInt32.toInt32)) rfl rfl ?_
  exact own_retN K29 hx hlk hret (by simp) (hb hby d_jdk_43_method_2_14) (by decide) (by decide) ⟨by show some (Value.int (nar .char _)) = _; rw [show (StrChars.lo8 (cs.getD i 0) &&& (255 : Int32)).toUInt32.toUInt16.toUInt32.toInt32 = cs.getD i 0 from StrChars.chr8_lo8 (hbc _ (own_getD' hi)).1 (h255 _ (own_getD' hi)), own_narC (hbc _ (own_getD' hi)).1 (hbc _ (own_getD' hi)).2], e29⟩
theorem d_jdk_52_method_91_0 : decode jdk_52_method_91_code 0 = .ok (.iload_n 0, 1) := by decide +kernel
theorem d_jdk_52_method_91_1 : decode jdk_52_method_91_code 1 = .ok (.aload_n 1, 1) := by decide +kernel
theorem pd_10 : parseMethodDescriptor "([B)I" = some ⟨[(.array .byte)], some .int⟩ := by decide +kernel
theorem d_jdk_52_method_91_2 : decode jdk_52_method_91_code 2 = .ok (.invokestatic 48, 3) := by decide +kernel
theorem d_jdk_52_method_91_5 : decode jdk_52_method_91_code 5 = .ok (.invokestatic 414, 3) := by decide +kernel
theorem d_jdk_52_method_91_8 : decode jdk_52_method_91_code 8 = .ok (.return_, 1) := by decide +kernel
theorem ef_ru_uci (m : MethodId) (q_0 : Int32) (q_1 : Addr)  : entryFrame m #[(.int q_0), (.ref q_1)] 2 = mkF m 0 #[.val (.int q_0), .val (.ref q_1)] [] := by  first | (simp [entryFrame, mkF, argsToLocals, Value.category]; done) | rfl
set_option maxRecDepth 65536 in
set_option maxHeartbeats 40000000 in
theorem ru_uci (l : Launch) (Z : State) (a0 : Array Value) (hw : ∀ d ∈ tables_1, d.before a0 Z = true) (more : List Jvm.Cond) (h0 : Heap) (b : Addr) (i : Nat) (cs : List Int32) (kb : ClassId) (d : Value) (G3 : Value) (O4 : Sta Z Z.heap "jdk/internal/util/Preconditions" "SIOOBE_FORMATTER" "Ljava/util/function/BiFunction;" G3) (hr_G3 : G3.isRef = true) (V : Arv Z h0 b kb .byte (Int32.ofNat (2 * cs.length)) (StrChars.Road.wideBytes cs) d) (hi : i < cs.length) (hl : cs.length ≤ 4000) :
    own_Met true false consts_1 l Z a0 (⟨"java/lang/StringUTF16", "checkIndex", "(I[B)V"⟩ : MethodName) jdk_52_method_91_code 2 none more ({ frames := 2, cells := 0, slots := 0, locals := 27 } : Room) #[(.int (Int32.ofNat i)), (.ref b)] h0 [] (fun v h => v = none ∧ h = h0) := by
  refine own_enter (own := "java/lang/StringUTF16") rfl (plainFor_of_name pn_0) ?_
  intro p e s m below meth c T hx hby hml hret hlk hnm K
  rw [ef_ru_uci m (Int32.ofNat i) b]
  have A := own_here K
  refine own_iloadN A hx (pc' := 1) (hb hby d_jdk_52_method_91_0) rfl rfl ?_
  refine own_aloadN A hx (pc' := 2) (hb hby d_jdk_52_method_91_1) rfl rfl rfl ?_
  refine own_callS K hx (by rw [hml]; rfl) (hw _ (List.mem_of_getElem? (i := 101) rfl)) (hw _ (List.mem_of_getElem? (i := 102) rfl)) (hw _ (List.mem_of_getElem? (i := 44) rfl)) (hw _ (List.mem_of_getElem? (i := 103) rfl)) (by decide) (ru_len l Z a0 hw [] h0 b kb _ _ d V) (fun _ q => nomatch q) (argsL := [(.ref b)]) (rest := [(.int (Int32.ofNat i))]) (lenOf pd_10 rfl) rfl 1 (Nat.le_of_eq rfl) (hb hby d_jdk_52_method_91_2) (pc' := 5) rfl (by decide) (by decide) (by decide) (by decide) ?_
  intro v30 T30 h30 K30 Kp30 Q30
  obtain ⟨rfl, e30⟩ := Q30
  have V := V.keep Kp30 nin0
  have A30 := own_here K30
  show own_Go p.tables e below _ T30 (mkF m 5 #[.val (.int (Int32.ofNat i)), .val (.ref b)] [(.int (Int32.ofNat (2 * cs.length) >>> ((1 : Int32) &&& 31))), (.int (Int32.ofNat i))])
  rw [StrChars.shr1 (n := cs.length) (by omega)]
  refine own_callS K30 hx (by rw [hml]; rfl) (hw _ (List.mem_of_getElem? (i := 104) rfl)) (hw _ (List.mem_of_getElem? (i := 67) rfl)) (hw _ (List.mem_of_getElem? (i := 4) rfl)) (hw _ (List.mem_of_getElem? (i := 68) rfl)) (by decide) (ru_sci l Z a0 hw [] h30 i cs.length G3 O4 hr_G3 hi (by omega)) (fun _ q => nomatch q) (argsL := [(.int (Int32.ofNat i)), (.int (Int32.ofNat cs.length))]) (rest := []) (lenOf pd_9 rfl) rfl 0 (Nat.le_of_eq rfl) (hb hby d_jdk_52_method_91_5) (pc' := 8) rfl (by decide) (by decide) (by decide) (by decide) ?_
  intro v31 T31 h31 K31 Kp31 Q31
  obtain ⟨rfl, e31⟩ := Q31
  have V := V.keep Kp31 nin0
  have A31 := own_here K31
  show own_Go p.tables e below _ T31 (mkF m 8 #[.val (.int (Int32.ofNat i)), .val (.ref b)] [])
  exact own_retV K31 hx hlk hret (hb hby d_jdk_52_method_91_8) (by decide) (by decide) ⟨rfl, by rw [e31, e30]⟩
theorem d_jdk_52_method_83_0 : decode jdk_52_method_83_code 0 = .ok (.iload_n 1, 1) := by decide +kernel
theorem d_jdk_52_method_83_1 : decode jdk_52_method_83_code 1 = .ok (.aload_n 0, 1) := by decide +kernel
theorem pd_11 : parseMethodDescriptor "(I[B)V" = some ⟨[.int, (.array .byte)], none⟩ := by decide +kernel
theorem d_jdk_52_method_83_2 : decode jdk_52_method_83_code 2 = .ok (.invokestatic 67, 3) := by decide +kernel
theorem d_jdk_52_method_83_5 : decode jdk_52_method_83_code 5 = .ok (.aload_n 0, 1) := by decide +kernel
theorem d_jdk_52_method_83_6 : decode jdk_52_method_83_code 6 = .ok (.iload_n 1, 1) := by decide +kernel
theorem d_jdk_52_method_83_7 : decode jdk_52_method_83_code 7 = .ok (.invokestatic 71, 3) := by decide +kernel
theorem d_jdk_52_method_83_10 : decode jdk_52_method_83_code 10 = .ok (.ireturn, 1) := by decide +kernel
theorem ef_ru_uch (m : MethodId) (q_0 : Addr) (q_1 : Int32)  : entryFrame m #[(.ref q_0), (.int q_1)] 2 = mkF m 0 #[.val (.ref q_0), .val (.int q_1)] [] := by  first | (simp [entryFrame, mkF, argsToLocals, Value.category]; done) | rfl
set_option maxRecDepth 65536 in
set_option maxHeartbeats 40000000 in
theorem ru_uch (l : Launch) (Z : State) (a0 : Array Value) (hw : ∀ d ∈ tables_1, d.before a0 Z = true) (more : List Jvm.Cond) (h0 : Heap) (b : Addr) (i : Nat) (cs : List Int32) (kb : ClassId) (d : Value) (U1 : Sta Z Z.heap "java/lang/StringUTF16" "$assertionsDisabled" "Z" (.int 1)) (U2 : Sta Z Z.heap "java/lang/StringUTF16" "HI_BYTE_SHIFT" "I" (.int 0)) (U3 : Sta Z Z.heap "java/lang/StringUTF16" "LO_BYTE_SHIFT" "I" (.int 8)) (G3 : Value) (O4 : Sta Z Z.heap "jdk/internal/util/Preconditions" "SIOOBE_FORMATTER" "Ljava/util/function/BiFunction;" G3) (hr_G3 : G3.isRef = true) (V : Arv Z h0 b kb .byte (Int32.ofNat (2 * cs.length)) (StrChars.Road.wideBytes cs) d) (hi : i < cs.length) (hl : cs.length ≤ 4000) (hbc : ∀ c ∈ cs, ¬ c < 0 ∧ ¬ (65535 : Int32) < c) :
    own_Met true false consts_1 l Z a0 (⟨"java/lang/StringUTF16", "charAt", "([BI)C"⟩ : MethodName) jdk_52_method_83_code 2 (some .char) more ({ frames := 3, cells := 0, slots := 0, locals := 40 } : Room) #[(.ref b), (.int (Int32.ofNat i))] h0 [] (fun v h => v = some (.int (cs.getD i 0)) ∧ h = h0) := by
  refine own_enter (own := "java/lang/StringUTF16") rfl (plainFor_of_name pn_0) ?_
  intro p e s m below meth c T hx hby hml hret hlk hnm K
  rw [ef_ru_uch m b (Int32.ofNat i)]
  have A := own_here K
  refine own_iloadN A hx (pc' := 1) (hb hby d_jdk_52_method_83_0) rfl rfl ?_
  refine own_aloadN A hx (pc' := 2) (hb hby d_jdk_52_method_83_1) rfl rfl rfl ?_
  refine own_callS K hx (by rw [hml]; rfl) (hw _ (List.mem_of_getElem? (i := 98) rfl)) (hw _ (List.mem_of_getElem? (i := 99) rfl)) (hw _ (List.mem_of_getElem? (i := 44) rfl)) (hw _ (List.mem_of_getElem? (i := 100) rfl)) (by decide) (ru_uci l Z a0 hw [] h0 b i cs kb d G3 O4 hr_G3 V hi hl) (fun _ q => nomatch q) (argsL := [(.int (Int32.ofNat i)), (.ref b)]) (rest := []) (lenOf pd_11 rfl) rfl 0 (Nat.le_of_eq rfl) (hb hby d_jdk_52_method_83_2) (pc' := 5) rfl (by decide) (by decide) (by decide) (by decide) ?_
  intro v32 T32 h32 K32 Kp32 Q32
  obtain ⟨rfl, e32⟩ := Q32
  have V := V.keep Kp32 nin0
  have A32 := own_here K32
  show own_Go p.tables e below _ T32 (mkF m 5 #[.val (.ref b), .val (.int (Int32.ofNat i))] [])
  refine own_aloadN A32 hx (pc' := 6) (hb hby d_jdk_52_method_83_5) rfl rfl rfl ?_
  refine own_iloadN A32 hx (pc' := 7) (hb hby d_jdk_52_method_83_6) rfl rfl ?_
  refine own_callS K32 hx (by rw [hml]; rfl) (hw _ (List.mem_of_getElem? (i := 92) rfl)) (hw _ (List.mem_of_getElem? (i := 93) rfl)) (hw _ (List.mem_of_getElem? (i := 44) rfl)) (hw _ (List.mem_of_getElem? (i := 94) rfl)) (by decide) (ru_get l Z a0 hw [] h32 b i cs kb d U1 U2 U3 V hi hl hbc) (fun _ q => nomatch q) (argsL := [(.ref b), (.int (Int32.ofNat i))]) (rest := []) (lenOf pd_5 rfl) rfl 0 (Nat.le_of_eq rfl) (hb hby d_jdk_52_method_83_7) (pc' := 10) rfl (by decide) (by decide) (by decide) (by decide) ?_
  intro v33 T33 h33 K33 Kp33 Q33
  obtain ⟨rfl, e33⟩ := Q33
  have V := V.keep Kp33 nin0
  have A33 := own_here K33
  show own_Go p.tables e below _ T33 (mkF m 10 #[.val (.ref b), .val (.int (Int32.ofNat i))] [(.int (cs.getD i 0))])
  exact own_retN K33 hx hlk hret (by simp) (hb hby d_jdk_52_method_83_10) (by decide) (by decide) ⟨by show some (Value.int (nar .char _)) = _; rw [own_narC (hbc _ (own_getD' hi)).1 (hbc _ (own_getD' hi)).2], by rw [e33, e32]⟩
theorem d_jdk_42_method_154_0 : decode jdk_42_method_154_code 0 = .ok (.getstatic 38, 3) := by decide +kernel
theorem d_jdk_42_method_154_3 : decode jdk_42_method_154_code 3 = .ok (.ifCond .eq 14, 3) := by decide +kernel
theorem d_jdk_42_method_154_6 : decode jdk_42_method_154_code 6 = .ok (.aload_n 0, 1) := by decide +kernel
theorem d_jdk_42_method_154_7 : decode jdk_42_method_154_code 7 = .ok (.getfield 15, 3) := by decide +kernel
theorem d_jdk_42_method_154_10 : decode jdk_42_method_154_code 10 = .ok (.ifCond .ne 7, 3) := by decide +kernel
theorem d_jdk_42_method_154_13 : decode jdk_42_method_154_code 13 = .ok (.iconst 1, 1) := by decide +kernel
theorem d_jdk_42_method_154_14 : decode jdk_42_method_154_code 14 = .ok (.goto 4, 3) := by decide +kernel
theorem d_jdk_42_method_154_18 : decode jdk_42_method_154_code 18 = .ok (.ireturn, 1) := by decide +kernel
theorem ef_ru_il0 (m : MethodId) (q_0 : Addr)  : entryFrame m #[(.ref q_0)] 1 = mkF m 0 #[.val (.ref q_0)] [] := by  first | (simp [entryFrame, mkF, argsToLocals, Value.category]; done) | rfl
set_option maxRecDepth 65536 in
set_option maxHeartbeats 40000000 in
theorem ru_il0 (l : Launch) (Z : State) (a0 : Array Value) (hw : ∀ d ∈ tables_1, d.before a0 Z = true) (more : List Jvm.Cond) (h0 : Heap) (x : Addr)  (G1 : Int32) (O2 : Sta Z Z.heap "java/lang/String" "COMPACT_STRINGS" "Z" (.int G1)) (P5 : ¬ (G1 = (0 : Int32))) (C : Fld Z h0 x "java/lang/String" "coder" "B" (.int 0)) :
    own_Met true false consts_1 l Z a0 (⟨"java/lang/String", "isLatin1", "()Z"⟩ : MethodName) jdk_42_method_154_code 1 (some .boolean) more ({ frames := 0, cells := 0, slots := 0, locals := 0 } : Room) #[(.ref x)] h0 [] (fun v h => v = some (.int 1) ∧ h = h0) := by
  refine own_enter (own := "java/lang/String") rfl (plainFor_of_name pn_1) ?_
  intro p e s m below meth c T hx hby hml hret hlk hnm K
  rw [ef_ru_il0 m x]
  have A := own_here K
  refine own_getS K hx (host := "") (Or.inl (hw _ (List.mem_of_getElem? (i := 37) rfl))) Via.refl O2 (hb hby d_jdk_42_method_154_0) (pc' := 3) rfl ?_
  intro T34 K34
  have A34 := own_here K34
  refine own_if_eq A34 hx 17 6 (hb hby d_jdk_42_method_154_3) (by decide) (by decide) rfl (fun hc3 => ?_) (fun hc3 => ?_)
  · exact absurd hc3 P5
  refine own_aloadN A34 hx (pc' := 7) (hb hby d_jdk_42_method_154_6) rfl rfl rfl ?_
  refine own_getF K34 hx (host := "") (Or.inl (hw _ (List.mem_of_getElem? (i := 22) rfl))) Via.refl C (hb hby d_jdk_42_method_154_7) (pc' := 10) rfl ?_
  intro T35 K35
  have A35 := own_here K35
  refine own_if_ne A35 hx 17 13 (hb hby d_jdk_42_method_154_10) (by decide) (by decide) rfl (fun hc10 => ?_) (fun hc10 => ?_)
  · exact absurd rfl hc10
  refine own_iconst A35 hx (pc' := 14) (hb hby d_jdk_42_method_154_13) (z := (1 : Int32)) (by decide) rfl ?_
  refine own_goto A35 hx 18 (hb hby d_jdk_42_method_154_14) (by decide) (by decide) ?_
  exact own_retN K35 hx hlk hret (by simp) (hb hby d_jdk_42_method_154_18) (by decide) (by decide) ⟨rfl, rfl⟩
theorem d_jdk_42_method_154_17 : decode jdk_42_method_154_code 17 = .ok (.iconst 0, 1) := by decide +kernel
theorem ef_ru_il1 (m : MethodId) (q_0 : Addr)  : entryFrame m #[(.ref q_0)] 1 = mkF m 0 #[.val (.ref q_0)] [] := by  first | (simp [entryFrame, mkF, argsToLocals, Value.category]; done) | rfl
set_option maxRecDepth 65536 in
set_option maxHeartbeats 40000000 in
theorem ru_il1 (l : Launch) (Z : State) (a0 : Array Value) (hw : ∀ d ∈ tables_1, d.before a0 Z = true) (more : List Jvm.Cond) (h0 : Heap) (x : Addr)  (G1 : Int32) (O2 : Sta Z Z.heap "java/lang/String" "COMPACT_STRINGS" "Z" (.int G1)) (P5 : ¬ (G1 = (0 : Int32))) (C : Fld Z h0 x "java/lang/String" "coder" "B" (.int 1)) :
    own_Met true false consts_1 l Z a0 (⟨"java/lang/String", "isLatin1", "()Z"⟩ : MethodName) jdk_42_method_154_code 1 (some .boolean) more ({ frames := 0, cells := 0, slots := 0, locals := 0 } : Room) #[(.ref x)] h0 [] (fun v h => v = some (.int 0) ∧ h = h0) := by
  refine own_enter (own := "java/lang/String") rfl (plainFor_of_name pn_1) ?_
  intro p e s m below meth c T hx hby hml hret hlk hnm K
  rw [ef_ru_il1 m x]
  have A := own_here K
  refine own_getS K hx (host := "") (Or.inl (hw _ (List.mem_of_getElem? (i := 37) rfl))) Via.refl O2 (hb hby d_jdk_42_method_154_0) (pc' := 3) rfl ?_
  intro T36 K36
  have A36 := own_here K36
  refine own_if_eq A36 hx 17 6 (hb hby d_jdk_42_method_154_3) (by decide) (by decide) rfl (fun hc3 => ?_) (fun hc3 => ?_)
  · exact absurd hc3 P5
  refine own_aloadN A36 hx (pc' := 7) (hb hby d_jdk_42_method_154_6) rfl rfl rfl ?_
  refine own_getF K36 hx (host := "") (Or.inl (hw _ (List.mem_of_getElem? (i := 22) rfl))) Via.refl C (hb hby d_jdk_42_method_154_7) (pc' := 10) rfl ?_
  intro T37 K37
  have A37 := own_here K37
  refine own_if_ne A37 hx 17 13 (hb hby d_jdk_42_method_154_10) (by decide) (by decide) rfl (fun hc10 => ?_) (fun hc10 => ?_)
  rotate_left
  · exact absurd hc10 (by decide)
  refine own_iconst A37 hx (pc' := 18) (hb hby d_jdk_42_method_154_17) (z := (0 : Int32)) (by decide) rfl ?_
  exact own_retN K37 hx hlk hret (by simp) (hb hby d_jdk_42_method_154_18) (by decide) (by decide) ⟨rfl, rfl⟩
theorem d_jdk_42_method_56_0 : decode jdk_42_method_56_code 0 = .ok (.aload_n 0, 1) := by decide +kernel
theorem pd_12 : parseMethodDescriptor "()Z" = some ⟨[], some .boolean⟩ := by decide +kernel
theorem d_jdk_42_method_56_1 : decode jdk_42_method_56_code 1 = .ok (.invokevirtual 492, 3) := by decide +kernel
theorem d_jdk_42_method_56_4 : decode jdk_42_method_56_code 4 = .ok (.ifCond .eq 12, 3) := by decide +kernel
theorem d_jdk_42_method_56_7 : decode jdk_42_method_56_code 7 = .ok (.aload_n 0, 1) := by decide +kernel
theorem d_jdk_42_method_56_8 : decode jdk_42_method_56_code 8 = .ok (.getfield 9, 3) := by decide +kernel
theorem d_jdk_42_method_56_11 : decode jdk_42_method_56_code 11 = .ok (.iload_n 1, 1) := by decide +kernel
theorem d_jdk_42_method_56_12 : decode jdk_42_method_56_code 12 = .ok (.invokestatic 495, 3) := by decide +kernel
theorem d_jdk_42_method_56_15 : decode jdk_42_method_56_code 15 = .ok (.ireturn, 1) := by decide +kernel
theorem d_jdk_42_method_56_16 : decode jdk_42_method_56_code 16 = .ok (.aload_n 0, 1) := by decide +kernel
theorem d_jdk_42_method_56_17 : decode jdk_42_method_56_code 17 = .ok (.getfield 9, 3) := by decide +kernel
theorem d_jdk_42_method_56_20 : decode jdk_42_method_56_code 20 = .ok (.iload_n 1, 1) := by decide +kernel
theorem d_jdk_42_method_56_21 : decode jdk_42_method_56_code 21 = .ok (.invokestatic 498, 3) := by decide +kernel
theorem d_jdk_42_method_56_24 : decode jdk_42_method_56_code 24 = .ok (.ireturn, 1) := by decide +kernel
theorem ef_ru_cha (m : MethodId) (q_0 : Addr) (q_1 : Int32)  : entryFrame m #[(.ref q_0), (.int q_1)] 2 = mkF m 0 #[.val (.ref q_0), .val (.int q_1)] [] := by  first | (simp [entryFrame, mkF, argsToLocals, Value.category]; done) | rfl
set_option maxRecDepth 65536 in
set_option maxHeartbeats 40000000 in
theorem ru_cha (l : Launch) (Z : State) (a0 : Array Value) (hw : ∀ d ∈ tables_1, d.before a0 Z = true) (more : List Jvm.Cond) (h0 : Heap) (x : Addr) (i : Nat) (cs : List Int32) (G1 : Int32) (O2 : Sta Z Z.heap "java/lang/String" "COMPACT_STRINGS" "Z" (.int G1)) (P5 : ¬ (G1 = (0 : Int32))) (U1 : Sta Z Z.heap "java/lang/StringUTF16" "$assertionsDisabled" "Z" (.int 1)) (U2 : Sta Z Z.heap "java/lang/StringUTF16" "HI_BYTE_SHIFT" "I" (.int 0)) (U3 : Sta Z Z.heap "java/lang/StringUTF16" "LO_BYTE_SHIFT" "I" (.int 8)) (G3 : Value) (O4 : Sta Z Z.heap "jdk/internal/util/Preconditions" "SIOOBE_FORMATTER" "Ljava/util/function/BiFunction;" G3) (hr_G3 : G3.isRef = true) (S : own_Str Z h0 x cs) (hi : i < cs.length) :
    own_Met true false consts_1 l Z a0 (⟨"java/lang/String", "charAt", "(I)C"⟩ : MethodName) jdk_42_method_56_code 2 (some .char) more ({ frames := 4, cells := 0, slots := 0, locals := 53 } : Room) #[(.ref x), (.int (Int32.ofNat i))] h0 [] (fun v h => v = some (.int (cs.getD i 0)) ∧ h = h0) := by
  refine own_enter (own := "java/lang/String") rfl (plainFor_of_name pn_1) ?_
  intro p e s m below meth c T hx hby hml hret hlk hnm K
  rw [ef_ru_cha m x (Int32.ofNat i)]
  have A := own_here K
  obtain ⟨t, kb, cd, N2, vs, E, V, C, Y, hc, hbc, hl⟩ := S
  rcases hc with ⟨rfl, rfl, rfl, h255⟩ | ⟨rfl, rfl, rfl, -⟩
  · refine own_aloadN A hx (pc' := 1) (hb hby d_jdk_42_method_56_0) rfl rfl rfl ?_
    refine own_callV K hx (by rw [hml]; rfl) (hw _ (List.mem_of_getElem? (i := 57) rfl)) (hw _ (List.mem_of_getElem? (i := 58) rfl)) (fun U hU => notFace_of_selects (args := #[]) (mvT hU (hw _ (List.mem_of_getElem? (i := 60) rfl)))) (hw _ (List.mem_of_getElem? (i := 60) rfl)) (hw _ (List.mem_of_getElem? (i := 59) rfl)) (hw _ (List.mem_of_getElem? (i := 4) rfl)) (hw _ (List.mem_of_getElem? (i := 61) rfl)) (by decide) E (ru_il0 l Z a0 hw [] h0 x G1 O2 P5 C) (fun _ q => nomatch q) (argsL := []) (rest := []) (lenOf pd_12 rfl) rfl 0 (Nat.le_of_eq rfl) (hb hby d_jdk_42_method_56_1) (pc' := 4) rfl (by decide) (by decide) (by decide) (by decide) ?_
    intro v38 T38 h38 K38 Kp38 Q38
    obtain ⟨rfl, e38⟩ := Q38
    have E := E.keep Kp38
    have V := V.keep Kp38 nin0
    have C := C.keep Kp38 nin0
    have Y := Y.keep Kp38 nin0
    have A38 := own_here K38
    show own_Go p.tables e below _ T38 (mkF m 4 #[.val (.ref x), .val (.int (Int32.ofNat i))] [(.int (1 : Int32))])
    refine own_if_eq A38 hx 16 7 (hb hby d_jdk_42_method_56_4) (by decide) (by decide) rfl (fun hc4 => ?_) (fun hc4 => ?_)
    · exact absurd hc4 (by decide)
    refine own_aloadN A38 hx (pc' := 8) (hb hby d_jdk_42_method_56_7) rfl rfl rfl ?_
    refine own_getF K38 hx (host := "") (Or.inl (hw _ (List.mem_of_getElem? (i := 21) rfl))) Via.refl V (hb hby d_jdk_42_method_56_8) (pc' := 11) rfl ?_
    intro T39 K39
    have A39 := own_here K39
    refine own_iloadN A39 hx (pc' := 12) (hb hby d_jdk_42_method_56_11) rfl rfl ?_
    refine own_callS K39 hx (by rw [hml]; rfl) (hw _ (List.mem_of_getElem? (i := 62) rfl)) (hw _ (List.mem_of_getElem? (i := 63) rfl)) (hw _ (List.mem_of_getElem? (i := 64) rfl)) (hw _ (List.mem_of_getElem? (i := 65) rfl)) (by decide) (ru_lch l Z a0 hw [] h38 t i cs kb _ G3 O4 hr_G3 Y h255 hi hl hbc) (fun _ q => nomatch q) (argsL := [(.ref t), (.int (Int32.ofNat i))]) (rest := []) (lenOf pd_5 rfl) rfl 0 (Nat.le_of_eq rfl) (hb hby d_jdk_42_method_56_12) (pc' := 15) rfl (by decide) (by decide) (by decide) (by decide) ?_
    intro v40 T40 h40 K40 Kp40 Q40
    obtain ⟨rfl, e40⟩ := Q40
    have E := E.keep Kp40
    have V := V.keep Kp40 nin0
    have C := C.keep Kp40 nin0
    have Y := Y.keep Kp40 nin0
    have A40 := own_here K40
    show own_Go p.tables e below _ T40 (mkF m 15 #[.val (.ref x), .val (.int (Int32.ofNat i))] [(.int (cs.getD i 0))])
    exact own_retN K40 hx hlk hret (by simp) (hb hby d_jdk_42_method_56_15) (by decide) (by decide) ⟨by show some (Value.int (nar .char _)) = _; rw [own_narC (hbc _ (own_getD' hi)).1 (hbc _ (own_getD' hi)).2], by rw [e40, e38]⟩
  · refine own_aloadN A hx (pc' := 1) (hb hby d_jdk_42_method_56_0) rfl rfl rfl ?_
    refine own_callV K hx (by rw [hml]; rfl) (hw _ (List.mem_of_getElem? (i := 57) rfl)) (hw _ (List.mem_of_getElem? (i := 58) rfl)) (fun U hU => notFace_of_selects (args := #[]) (mvT hU (hw _ (List.mem_of_getElem? (i := 60) rfl)))) (hw _ (List.mem_of_getElem? (i := 60) rfl)) (hw _ (List.mem_of_getElem? (i := 59) rfl)) (hw _ (List.mem_of_getElem? (i := 4) rfl)) (hw _ (List.mem_of_getElem? (i := 61) rfl)) (by decide) E (ru_il1 l Z a0 hw [] h0 x G1 O2 P5 C) (fun _ q => nomatch q) (argsL := []) (rest := []) (lenOf pd_12 rfl) rfl 0 (Nat.le_of_eq rfl) (hb hby d_jdk_42_method_56_1) (pc' := 4) rfl (by decide) (by decide) (by decide) (by decide) ?_
    intro v41 T41 h41 K41 Kp41 Q41
    obtain ⟨rfl, e41⟩ := Q41
    have E := E.keep Kp41
    have V := V.keep Kp41 nin0
    have C := C.keep Kp41 nin0
    have Y := Y.keep Kp41 nin0
    have A41 := own_here K41
    show own_Go p.tables e below _ T41 (mkF m 4 #[.val (.ref x), .val (.int (Int32.ofNat i))] [(.int (0 : Int32))])
    refine own_if_eq A41 hx 16 7 (hb hby d_jdk_42_method_56_4) (by decide) (by decide) rfl (fun hc4 => ?_) (fun hc4 => ?_)
    rotate_left
    · exact absurd rfl hc4
    refine own_aloadN A41 hx (pc' := 17) (hb hby d_jdk_42_method_56_16) rfl rfl rfl ?_
    refine own_getF K41 hx (host := "") (Or.inl (hw _ (List.mem_of_getElem? (i := 21) rfl))) Via.refl V (hb hby d_jdk_42_method_56_17) (pc' := 20) rfl ?_
    intro T42 K42
    have A42 := own_here K42
    refine own_iloadN A42 hx (pc' := 21) (hb hby d_jdk_42_method_56_20) rfl rfl ?_
    refine own_callS K42 hx (by rw [hml]; rfl) (hw _ (List.mem_of_getElem? (i := 95) rfl)) (hw _ (List.mem_of_getElem? (i := 96) rfl)) (hw _ (List.mem_of_getElem? (i := 44) rfl)) (hw _ (List.mem_of_getElem? (i := 97) rfl)) (by decide) (ru_uch l Z a0 hw [] h41 t i cs kb _ U1 U2 U3 G3 O4 hr_G3 Y hi hl hbc) (fun _ q => nomatch q) (argsL := [(.ref t), (.int (Int32.ofNat i))]) (rest := []) (lenOf pd_5 rfl) rfl 0 (Nat.le_of_eq rfl) (hb hby d_jdk_42_method_56_21) (pc' := 24) rfl (by decide) (by decide) (by decide) (by decide) ?_
    intro v43 T43 h43 K43 Kp43 Q43
    obtain ⟨rfl, e43⟩ := Q43
    have E := E.keep Kp43
    have V := V.keep Kp43 nin0
    have C := C.keep Kp43 nin0
    have Y := Y.keep Kp43 nin0
    have A43 := own_here K43
    show own_Go p.tables e below _ T43 (mkF m 24 #[.val (.ref x), .val (.int (Int32.ofNat i))] [(.int (cs.getD i 0))])
    exact own_retN K43 hx hlk hret (by simp) (hb hby d_jdk_42_method_56_24) (by decide) (by decide) ⟨by show some (Value.int (nar .char _)) = _; rw [own_narC (hbc _ (own_getD' hi)).1 (hbc _ (own_getD' hi)).2], by rw [e43, e41]⟩
def own_HX (c : Int32) : Prop := (¬ c < 48 ∧ ¬ 57 < c) ∨ (¬ c < 97 ∧ ¬ 102 < c)
instance own_HXd : DecidablePred own_HX := fun c => by unfold own_HX; infer_instance
def own_beg (cs : List Int32) : Int32 := if cs.length ≤ 64 ∧ (∀ c ∈ cs, own_HX c) then 1 else 0
theorem own_nchar (x : Int32) : nar .char (x.toUInt32.toUInt16.toUInt32.toInt32) = x.toUInt32.toUInt16.toUInt32.toInt32 := by simp only [nar, UInt32.toUInt32_toInt32, UInt16.toUInt16_toUInt32]
theorem own_rchar (x : Int32) : ¬ x.toUInt32.toUInt16.toUInt32.toInt32 < 0 ∧ ¬ (65535 : Int32) < x.toUInt32.toUInt16.toUInt32.toInt32 := by
  generalize x.toUInt32.toUInt16 = u
  have e : u.toUInt32.toInt32 = Int32.ofNat u.toNat := by
    apply Int32.toBitVec_inj.mp
    show _ = BitVec.ofNat 32 _
    apply BitVec.eq_of_toNat_eq
    simp
  have hu := u.toNat_lt
  rw [e, Int32.lt_iff_toInt_lt, Int32.lt_iff_toInt_lt, Int32.toInt_ofNat_small (by omega)]
  have e0 : (0 : Int32).toInt = 0 := rfl
  have e1 : (65535 : Int32).toInt = 65535 := rfl
  omega
theorem own_mask {n : Nat} (x y : Int32) (hy : y = Int32.ofNat n) (hn : n < 2 ^ 31) : ¬ (x &&& y) < 0 ∧ (x &&& y) < Int32.ofNat (n + 1) ∨ n + 1 = 2 ^ 31 := by
  subst hy
  by_cases q : n + 1 = 2 ^ 31
  · exact Or.inr q
  left
  have h : (x &&& Int32.ofNat n).toBitVec.toNat ≤ n := by
    simp only [Int32.toBitVec_and, BitVec.toNat_and]
    refine Nat.le_trans Nat.and_le_right ?_
    show (BitVec.ofNat 32 n).toNat ≤ n
    rw [BitVec.toNat_ofNat]; omega
  have e : (x &&& Int32.ofNat n) = Int32.ofNat (x &&& Int32.ofNat n).toBitVec.toNat := by
    apply Int32.toBitVec_inj.mp
    show _ = BitVec.ofNat 32 _
    rw [BitVec.ofNat_toNat]; simp
  rw [e]
  exact own_natlt (by omega) (by omega)
theorem own_m63 (x : Int32) : ¬ (x &&& 63) < 0 ∧ (x &&& 63) < 64 := (own_mask x 63 (n := 63) rfl (by decide)).resolve_right (by decide)
theorem own_m7 (x : Int32) : (x &&& 7) = 0 ∨ (x &&& 7) = 1 ∨ (x &&& 7) = 2 ∨ (x &&& 7) = 3 ∨ (3 : Int32) < (x &&& 7) := by
  have h : (x &&& 7).toBitVec.toNat < 8 := by
    simp only [Int32.toBitVec_and, BitVec.toNat_and]
    exact Nat.lt_succ_of_le Nat.and_le_right
  have t : ∀ k : Fin 8, Int32.ofNat k.val = 0 ∨ Int32.ofNat k.val = 1 ∨ Int32.ofNat k.val = 2 ∨ Int32.ofNat k.val = 3 ∨ (3 : Int32) < Int32.ofNat k.val := by decide +kernel
  have e : (x &&& 7) = Int32.ofNat (x &&& 7).toBitVec.toNat := by
    apply Int32.toBitVec_inj.mp
    show _ = BitVec.ofNat 32 _
    rw [BitVec.ofNat_toNat]; simp
  rw [e]
  exact t ⟨_, h⟩
def own_pat : List Int32 := [48, 49, 50, 51, 52, 53, 54, 55, 56, 57, 97, 98, 99, 100, 101, 102, 48, 49, 50, 51, 52, 53, 54, 55, 56, 57, 97, 98, 99, 100, 101, 102, 48, 49, 50, 51, 52, 53, 54, 55, 56, 57, 97, 98, 99, 100, 101, 102, 48, 49, 50, 51, 52, 53, 54, 55, 56, 57, 97, 98, 99, 100, 101, 102]
def own_w (k : Nat) : List Value := (own_pat.take k ++ List.replicate (64 - k) 0).map Value.int
theorem own_cl {j : Int32} (h : ¬ j < 0 ∧ j < 64) : j.toNatClampNeg < 64 := by
  rw [Int32.lt_iff_toInt_lt, Int32.lt_iff_toInt_lt] at h
  have e0 : (0 : Int32).toInt = 0 := rfl
  have e1 : (64 : Int32).toInt = 64 := rfl
  rw [Int32.toNatClampNeg]; omega
theorem own_patHX : ∀ c ∈ own_pat, own_HX c := by decide +kernel
theorem own_patR : ∀ c ∈ own_pat, ¬ c < 0 ∧ ¬ (65535 : Int32) < c := by decide +kernel
theorem own_wset {k : Nat} {c : Int32} : (own_w 64).set k (.int c) = (own_pat.set k c).map Value.int := by
  rw [show own_w 64 = own_pat.map Value.int by decide +kernel, List.map_set]
theorem own_begset {k : Nat} {c : Int32} (hk : k < 64) : own_beg (own_pat.set k c) = if own_HX c then 1 else 0 := by
  have hl : (own_pat.set k c).length ≤ 64 := by rw [List.length_set]; decide
  by_cases q : own_HX c
  · have hall : ∀ x ∈ own_pat.set k c, own_HX x := fun x hx => by
      rcases List.mem_or_eq_of_mem_set hx with r | rfl
      · exact own_patHX x r
      · exact q
    rw [if_pos q, own_beg, if_pos ⟨hl, hall⟩]
  · have hm : c ∈ own_pat.set k c := by
      have q : (own_pat.set k c)[k]? = some c := List.getElem?_set_self (show k < own_pat.length from hk)
      exact List.mem_of_getElem? q
    rw [if_neg q, own_beg, if_neg fun r => q (r.2 c hm)]
theorem d_method_2_0 : decode method_2_code 0 = .ok (.iload_n 0, 1) := by decide +kernel
theorem d_method_2_1 : decode method_2_code 1 = .ok (.bipush 48, 2) := by decide +kernel
theorem d_method_2_3 : decode method_2_code 3 = .ok (.if_icmp .lt 9, 3) := by decide +kernel
theorem d_method_2_12 : decode method_2_code 12 = .ok (.iload_n 0, 1) := by decide +kernel
theorem d_method_2_13 : decode method_2_code 13 = .ok (.bipush 97, 2) := by decide +kernel
theorem d_method_2_15 : decode method_2_code 15 = .ok (.if_icmp .lt 13, 3) := by decide +kernel
theorem d_method_2_28 : decode method_2_code 28 = .ok (.iconst 0, 1) := by decide +kernel
theorem d_method_2_29 : decode method_2_code 29 = .ok (.ireturn, 1) := by decide +kernel
theorem d_method_2_18 : decode method_2_code 18 = .ok (.iload_n 0, 1) := by decide +kernel
theorem d_method_2_19 : decode method_2_code 19 = .ok (.bipush 102, 2) := by decide +kernel
theorem d_method_2_21 : decode method_2_code 21 = .ok (.if_icmp .gt 7, 3) := by decide +kernel
theorem d_method_2_24 : decode method_2_code 24 = .ok (.iconst 1, 1) := by decide +kernel
theorem d_method_2_25 : decode method_2_code 25 = .ok (.goto 4, 3) := by decide +kernel
theorem d_method_2_6 : decode method_2_code 6 = .ok (.iload_n 0, 1) := by decide +kernel
theorem d_method_2_7 : decode method_2_code 7 = .ok (.bipush 57, 2) := by decide +kernel
theorem d_method_2_9 : decode method_2_code 9 = .ok (.if_icmp .le 15, 3) := by decide +kernel
theorem ef_rm_hex (m : MethodId) (q_0 : Int32)  : entryFrame m #[(.int q_0)] 1 = mkF m 0 #[.val (.int q_0)] [] := by  first | (simp [entryFrame, mkF, argsToLocals, Value.category]; done) | rfl
theorem pn_4 : plainName "com/example/kustody/kustody/Sha256IsBegunPinLaw" = true := by first | (simp [plainName, overriddenIn]; done) | decide +kernel
set_option maxRecDepth 65536 in
set_option maxHeartbeats 40000000 in
theorem rm_hex (l : Launch) (Z : State) (a0 : Array Value) (hw : ∀ d ∈ tables_1, d.before a0 Z = true) (more : List Jvm.Cond) (h0 : Heap) (p1 : Int32)   :
    own_Met true false consts_1 l Z a0 (⟨"com/example/kustody/kustody/Sha256IsBegunPinLaw", "hexDigit", "(C)Z"⟩ : MethodName) method_2_code 1 (some .boolean) more ({ frames := 0, cells := 0, slots := 0, locals := 0 } : Room) #[(.int p1)] h0 [] (fun v h => v = some (.int (if own_HX p1 then 1 else 0)) ∧ h = h0) := by
  refine own_enter (own := "com/example/kustody/kustody/Sha256IsBegunPinLaw") rfl (plainFor_of_name pn_4) ?_
  intro p e s m below meth c T hx hby hml hret hlk hnm K
  rw [ef_rm_hex m p1]
  have A := own_here K
  refine own_iloadN A hx (pc' := 1) (hb hby d_method_2_0) rfl rfl ?_
  refine own_bipush A hx (pc' := 3) (hb hby d_method_2_1) (z := (48 : Int32)) (by decide) rfl ?_
  refine own_icmp_lt A hx 12 6 (hb hby d_method_2_3) (by decide) (by decide) rfl (fun hc3 => ?_) (fun hc3 => ?_)
  · refine own_iloadN A hx (pc' := 13) (hb hby d_method_2_12) rfl rfl ?_
    refine own_bipush A hx (pc' := 15) (hb hby d_method_2_13) (z := (97 : Int32)) (by decide) rfl ?_
    refine own_icmp_lt A hx 28 18 (hb hby d_method_2_15) (by decide) (by decide) rfl (fun hc15 => ?_) (fun hc15 => ?_)
    · refine own_iconst A hx (pc' := 29) (hb hby d_method_2_28) (z := (0 : Int32)) (by decide) rfl ?_
      exact own_retN K hx hlk hret (by simp) (hb hby d_method_2_29) (by decide) (by decide) ⟨by rw [show (if own_HX p1 then (1 : Int32) else 0) = 0 from (by simp only [own_HX]; simp [hc3, hc15])]; rfl, rfl⟩
    · refine own_iloadN A hx (pc' := 19) (hb hby d_method_2_18) rfl rfl ?_
      refine own_bipush A hx (pc' := 21) (hb hby d_method_2_19) (z := (102 : Int32)) (by decide) rfl ?_
      refine own_icmp_gt A hx 28 24 (hb hby d_method_2_21) (by decide) (by decide) rfl (fun hc21 => ?_) (fun hc21 => ?_)
      · refine own_iconst A hx (pc' := 29) (hb hby d_method_2_28) (z := (0 : Int32)) (by decide) rfl ?_
        exact own_retN K hx hlk hret (by simp) (hb hby d_method_2_29) (by decide) (by decide) ⟨by rw [show (if own_HX p1 then (1 : Int32) else 0) = 0 from (by simp only [own_HX]; simp [hc3, hc15, hc21])]; rfl, rfl⟩
      · refine own_iconst A hx (pc' := 25) (hb hby d_method_2_24) (z := (1 : Int32)) (by decide) rfl ?_
        refine own_goto A hx 29 (hb hby d_method_2_25) (by decide) (by decide) ?_
        exact own_retN K hx hlk hret (by simp) (hb hby d_method_2_29) (by decide) (by decide) ⟨by rw [show (if own_HX p1 then (1 : Int32) else 0) = 1 from (by simp only [own_HX]; simp [hc3, hc15, hc21])]; rfl, rfl⟩
  · refine own_iloadN A hx (pc' := 7) (hb hby d_method_2_6) rfl rfl ?_
    refine own_bipush A hx (pc' := 9) (hb hby d_method_2_7) (z := (57 : Int32)) (by decide) rfl ?_
    refine own_icmp_le A hx 24 12 (hb hby d_method_2_9) (by decide) (by decide) rfl (fun hc9 => ?_) (fun hc9 => ?_)
    · refine own_iconst A hx (pc' := 25) (hb hby d_method_2_24) (z := (1 : Int32)) (by decide) rfl ?_
      refine own_goto A hx 29 (hb hby d_method_2_25) (by decide) (by decide) ?_
      exact own_retN K hx hlk hret (by simp) (hb hby d_method_2_29) (by decide) (by decide) ⟨by rw [show (if own_HX p1 then (1 : Int32) else 0) = 1 from (by simp only [own_HX]; simp [hc3, hc9])]; rfl, rfl⟩
    · refine own_iloadN A hx (pc' := 13) (hb hby d_method_2_12) rfl rfl ?_
      refine own_bipush A hx (pc' := 15) (hb hby d_method_2_13) (z := (97 : Int32)) (by decide) rfl ?_
      refine own_icmp_lt A hx 28 18 (hb hby d_method_2_15) (by decide) (by decide) rfl (fun hc15 => ?_) (fun hc15 => ?_)
      · refine own_iconst A hx (pc' := 29) (hb hby d_method_2_28) (z := (0 : Int32)) (by decide) rfl ?_
        exact own_retN K hx hlk hret (by simp) (hb hby d_method_2_29) (by decide) (by decide) ⟨by rw [show (if own_HX p1 then (1 : Int32) else 0) = 0 from (by simp only [own_HX]; simp [hc3, hc9, hc15])]; rfl, rfl⟩
      · refine own_iloadN A hx (pc' := 19) (hb hby d_method_2_18) rfl rfl ?_
        refine own_bipush A hx (pc' := 21) (hb hby d_method_2_19) (z := (102 : Int32)) (by decide) rfl ?_
        refine own_icmp_gt A hx 28 24 (hb hby d_method_2_21) (by decide) (by decide) rfl (fun hc21 => ?_) (fun hc21 => ?_)
        · refine own_iconst A hx (pc' := 29) (hb hby d_method_2_28) (z := (0 : Int32)) (by decide) rfl ?_
          exact own_retN K hx hlk hret (by simp) (hb hby d_method_2_29) (by decide) (by decide) ⟨by rw [show (if own_HX p1 then (1 : Int32) else 0) = 0 from (by simp only [own_HX]; simp [hc3, hc9, hc15, hc21])]; rfl, rfl⟩
        · refine own_iconst A hx (pc' := 25) (hb hby d_method_2_24) (z := (1 : Int32)) (by decide) rfl ?_
          refine own_goto A hx 29 (hb hby d_method_2_25) (by decide) (by decide) ?_
          exact own_retN K hx hlk hret (by simp) (hb hby d_method_2_29) (by decide) (by decide) ⟨by rw [show (if own_HX p1 then (1 : Int32) else 0) = 1 from (by simp only [own_HX]; simp [hc3, hc9, hc15, hc21])]; rfl, rfl⟩
theorem d_prog_10_method_7_0 : decode prog_10_method_7_code 0 = .ok (.aload_n 0, 1) := by decide +kernel
theorem pd_13 : parseMethodDescriptor "()I" = some ⟨[], some .int⟩ := by decide +kernel
theorem d_prog_10_method_7_1 : decode prog_10_method_7_code 1 = .ok (.invokevirtual 95, 3) := by decide +kernel
theorem d_prog_10_method_7_4 : decode prog_10_method_7_code 4 = .ok (.bipush 64, 2) := by decide +kernel
theorem d_prog_10_method_7_6 : decode prog_10_method_7_code 6 = .ok (.if_icmp .le 5, 3) := by decide +kernel
theorem d_prog_10_method_7_11 : decode prog_10_method_7_code 11 = .ok (.iconst 0, 1) := by decide +kernel
theorem d_prog_10_method_7_12 : decode prog_10_method_7_code 12 = .ok (.istore_n 1, 1) := by decide +kernel
theorem d_prog_10_method_7_13 : decode prog_10_method_7_code 13 = .ok (.iload_n 1, 1) := by decide +kernel
theorem d_prog_10_method_7_14 : decode prog_10_method_7_code 14 = .ok (.aload_n 0, 1) := by decide +kernel
theorem d_prog_10_method_7_15 : decode prog_10_method_7_code 15 = .ok (.invokevirtual 95, 3) := by decide +kernel
theorem d_prog_10_method_7_18 : decode prog_10_method_7_code 18 = .ok (.if_icmp .ge 41, 3) := by decide +kernel
theorem d_prog_10_method_7_59 : decode prog_10_method_7_code 59 = .ok (.iconst 1, 1) := by decide +kernel
theorem d_prog_10_method_7_60 : decode prog_10_method_7_code 60 = .ok (.ireturn, 1) := by decide +kernel
theorem d_prog_10_method_7_21 : decode prog_10_method_7_code 21 = .ok (.aload_n 0, 1) := by decide +kernel
theorem d_prog_10_method_7_22 : decode prog_10_method_7_code 22 = .ok (.iload_n 1, 1) := by decide +kernel
theorem pd_14 : parseMethodDescriptor "(I)C" = some ⟨[.int], some .char⟩ := by decide +kernel
theorem d_prog_10_method_7_23 : decode prog_10_method_7_code 23 = .ok (.invokevirtual 103, 3) := by decide +kernel
theorem d_prog_10_method_7_26 : decode prog_10_method_7_code 26 = .ok (.istore_n 2, 1) := by decide +kernel
theorem d_prog_10_method_7_27 : decode prog_10_method_7_code 27 = .ok (.iload_n 2, 1) := by decide +kernel
theorem d_prog_10_method_7_28 : decode prog_10_method_7_code 28 = .ok (.bipush 48, 2) := by decide +kernel
theorem d_prog_10_method_7_30 : decode prog_10_method_7_code 30 = .ok (.if_icmp .lt 9, 3) := by decide +kernel
theorem d_prog_10_method_7_39 : decode prog_10_method_7_code 39 = .ok (.iload_n 2, 1) := by decide +kernel
theorem d_prog_10_method_7_40 : decode prog_10_method_7_code 40 = .ok (.bipush 97, 2) := by decide +kernel
theorem d_prog_10_method_7_42 : decode prog_10_method_7_code 42 = .ok (.if_icmp .lt 9, 3) := by decide +kernel
theorem d_prog_10_method_7_51 : decode prog_10_method_7_code 51 = .ok (.iconst 0, 1) := by decide +kernel
theorem d_prog_10_method_7_52 : decode prog_10_method_7_code 52 = .ok (.ireturn, 1) := by decide +kernel
theorem d_prog_10_method_7_45 : decode prog_10_method_7_code 45 = .ok (.iload_n 2, 1) := by decide +kernel
theorem d_prog_10_method_7_46 : decode prog_10_method_7_code 46 = .ok (.bipush 102, 2) := by decide +kernel
theorem d_prog_10_method_7_48 : decode prog_10_method_7_code 48 = .ok (.if_icmp .le 5, 3) := by decide +kernel
theorem d_prog_10_method_7_53 : decode prog_10_method_7_code 53 = .ok (.iinc 1 1, 3) := by decide +kernel
theorem d_prog_10_method_7_56 : decode prog_10_method_7_code 56 = .ok (.goto (-43), 3) := by decide +kernel
theorem d_prog_10_method_7_33 : decode prog_10_method_7_code 33 = .ok (.iload_n 2, 1) := by decide +kernel
theorem d_prog_10_method_7_34 : decode prog_10_method_7_code 34 = .ok (.bipush 57, 2) := by decide +kernel
theorem d_prog_10_method_7_36 : decode prog_10_method_7_code 36 = .ok (.if_icmp .le 17, 3) := by decide +kernel
theorem d_prog_10_method_7_9 : decode prog_10_method_7_code 9 = .ok (.iconst 0, 1) := by decide +kernel
theorem d_prog_10_method_7_10 : decode prog_10_method_7_code 10 = .ok (.ireturn, 1) := by decide +kernel
theorem ef_rm_beg (m : MethodId) (q_0 : Addr)  : entryFrame m #[(.ref q_0)] 3 = mkF m 0 #[.val (.ref q_0), .unset, .unset] [] := by  first | (simp [entryFrame, mkF, argsToLocals, Value.category]; done) | rfl
theorem pn_5 : plainName "com/example/kustody/kustody/Sha256" = true := by first | (simp [plainName, overriddenIn]; done) | decide +kernel
set_option maxRecDepth 65536 in
set_option maxHeartbeats 40000000 in
theorem rm_beg (l : Launch) (Z : State) (a0 : Array Value) (hw : ∀ d ∈ tables_1, d.before a0 Z = true) (more : List Jvm.Cond) (h0 : Heap) (x : Addr) (cs : List Int32) (G1 : Int32) (O2 : Sta Z Z.heap "java/lang/String" "COMPACT_STRINGS" "Z" (.int G1)) (P5 : ¬ (G1 = (0 : Int32))) (U1 : Sta Z Z.heap "java/lang/StringUTF16" "$assertionsDisabled" "Z" (.int 1)) (U2 : Sta Z Z.heap "java/lang/StringUTF16" "HI_BYTE_SHIFT" "I" (.int 0)) (U3 : Sta Z Z.heap "java/lang/StringUTF16" "LO_BYTE_SHIFT" "I" (.int 8)) (G3 : Value) (O4 : Sta Z Z.heap "jdk/internal/util/Preconditions" "SIOOBE_FORMATTER" "Ljava/util/function/BiFunction;" G3) (hr_G3 : G3.isRef = true) (S : own_Str Z h0 x cs) (hl4 : cs.length ≤ 4000) :
    own_Met true false consts_1 l Z a0 (⟨"com/example/kustody/kustody/Sha256", "isBegun", "(Ljava/lang/String;)Z"⟩ : MethodName) prog_10_method_7_code 3 (some .boolean) more ({ frames := 5, cells := 0, slots := 0, locals := 66 } : Room) #[(.ref x)] h0 [] (fun v h => v = some (.int (own_beg cs))) := by
  refine own_enter (own := "com/example/kustody/kustody/Sha256") rfl (plainFor_of_name pn_5) ?_
  intro p e s m below meth c T hx hby hml hret hlk hnm K
  rw [ef_rm_beg m x]
  have A := own_here K
  refine own_aloadN A hx (pc' := 1) (hb hby d_prog_10_method_7_0) rfl rfl rfl ?_
  refine own_strLen K hx (by rw [hml]; rfl) (hw _ (List.mem_of_getElem? (i := 27) rfl)) (hw _ (List.mem_of_getElem? (i := 28) rfl)) (hw _ (List.mem_of_getElem? (i := 30) rfl)) (hw _ (List.mem_of_getElem? (i := 29) rfl)) (own_wl hw) (hw _ (List.mem_of_getElem? (i := 3) rfl)) S O2 P5 (lenOf pd_13 rfl) 0 (Nat.le_of_eq rfl) (hb hby d_prog_10_method_7_1) (pc' := 4) rfl (by decide) (by decide) (by decide) (by decide) ?_
  intro T44 K44
  have A44 := own_here K44
  refine own_bipush A44 hx (pc' := 6) (hb hby d_prog_10_method_7_4) (z := (64 : Int32)) (by decide) rfl ?_
  refine own_icmp_le A44 hx 11 9 (hb hby d_prog_10_method_7_6) (by decide) (by decide) rfl (fun hc6 => ?_) (fun hc6 => ?_)
  · refine own_iconst A44 hx (pc' := 12) (hb hby d_prog_10_method_7_11) (z := (0 : Int32)) (by decide) rfl ?_
    refine own_istoreN A44 hx (pc' := 13) #[.val (.ref x), .val (.int (0 : Int32)), .unset] (hb hby d_prog_10_method_7_12) rfl rfl ?_
    have loop : ∀ (n k : Nat) (s2 : Slot) (Tl45 : State) (hl45 : Heap), k + n = cs.length → (s2 = .unset ∨ ∃ z, s2 = .val (.int z)) → own_S true false consts_1 p l e ({ frames := 5, cells := 0, slots := 0, locals := 66 } : Room) s m #[(.ref x)] below meth c Z a0 "com/example/kustody/kustody/Sha256" h0 [] Tl45 hl45 [] 0 0 → own_Str Z hl45 x cs → (∀ j, j < k → own_HX (cs.getD j 0)) → own_Go p.tables e below (own_Post true consts_1 Z ({ frames := 5, cells := 0, slots := 0, locals := 66 } : Room) h0 [] (fun v h => v = some (.int (own_beg cs))) s) Tl45 (mkF m 13 #[.val (.ref x), .val (.int (Int32.ofNat k)), s2] []) := by
      intro n
      induction n with
      | zero =>
        intro k s2 Tl45 hl45 hk hs_s2 Kl45 S hpre
        have Al45 := own_here Kl45
        obtain rfl : k = cs.length := by omega
        refine own_iloadN Al45 hx (pc' := 14) (hb hby d_prog_10_method_7_13) rfl rfl ?_
        refine own_aloadN Al45 hx (pc' := 15) (hb hby d_prog_10_method_7_14) rfl rfl rfl ?_
        refine own_strLen Kl45 hx (by rw [hml]; rfl) (hw _ (List.mem_of_getElem? (i := 27) rfl)) (hw _ (List.mem_of_getElem? (i := 28) rfl)) (hw _ (List.mem_of_getElem? (i := 30) rfl)) (hw _ (List.mem_of_getElem? (i := 29) rfl)) (own_wl hw) (hw _ (List.mem_of_getElem? (i := 3) rfl)) S O2 P5 (lenOf pd_13 rfl) 1 (Nat.le_of_eq rfl) (hb hby d_prog_10_method_7_15) (pc' := 18) rfl (by decide) (by decide) (by decide) (by decide) ?_
        intro T46 K46
        have A46 := own_here K46
        refine own_icmp_ge A46 hx 59 21 (hb hby d_prog_10_method_7_18) (by decide) (by decide) rfl (fun hc18 => ?_) (fun hc18 => ?_)
        rotate_left
        · exact absurd hc18 (fun q => Int32.lt_irrefl q)
        refine own_iconst A46 hx (pc' := 60) (hb hby d_prog_10_method_7_59) (z := (1 : Int32)) (by decide) rfl ?_
        exact own_retN K46 hx hlk hret (by simp) (hb hby d_prog_10_method_7_60) (by decide) (by decide) (by show some (Value.int (nar .boolean 1)) = _; rw [own_beg, if_pos ⟨by rw [Int32.lt_iff_toInt_lt, Int32.toInt_ofNat_small (by omega)] at hc6; have e64 : (64 : Int32).toInt = 64 := rfl; omega, own_allP hpre⟩]; rfl)
      | succ n ih =>
        intro k s2 Tl45 hl45 hk hs_s2 Kl45 S hpre
        have Al45 := own_here Kl45
        have hkl : k < cs.length := by omega
        refine own_iloadN Al45 hx (pc' := 14) (hb hby d_prog_10_method_7_13) rfl rfl ?_
        refine own_aloadN Al45 hx (pc' := 15) (hb hby d_prog_10_method_7_14) rfl rfl rfl ?_
        refine own_strLen Kl45 hx (by rw [hml]; rfl) (hw _ (List.mem_of_getElem? (i := 27) rfl)) (hw _ (List.mem_of_getElem? (i := 28) rfl)) (hw _ (List.mem_of_getElem? (i := 30) rfl)) (hw _ (List.mem_of_getElem? (i := 29) rfl)) (own_wl hw) (hw _ (List.mem_of_getElem? (i := 3) rfl)) S O2 P5 (lenOf pd_13 rfl) 1 (Nat.le_of_eq rfl) (hb hby d_prog_10_method_7_15) (pc' := 18) rfl (by decide) (by decide) (by decide) (by decide) ?_
        intro T47 K47
        have A47 := own_here K47
        refine own_icmp_ge A47 hx 59 21 (hb hby d_prog_10_method_7_18) (by decide) (by decide) rfl (fun hc18 => ?_) (fun hc18 => ?_)
        · exact absurd (own_natlt (by omega) hkl).2 hc18
        refine own_aloadN A47 hx (pc' := 22) (hb hby d_prog_10_method_7_21) rfl rfl rfl ?_
        refine own_iloadN A47 hx (pc' := 23) (hb hby d_prog_10_method_7_22) rfl rfl ?_
        refine own_callV K47 hx (by rw [hml]; rfl) (hw _ (List.mem_of_getElem? (i := 52) rfl)) (hw _ (List.mem_of_getElem? (i := 53) rfl)) (fun U hU => notFace_of_selects (args := #[]) (mvT hU (hw _ (List.mem_of_getElem? (i := 55) rfl)))) (hw _ (List.mem_of_getElem? (i := 55) rfl)) (hw _ (List.mem_of_getElem? (i := 54) rfl)) (hw _ (List.mem_of_getElem? (i := 4) rfl)) (hw _ (List.mem_of_getElem? (i := 56) rfl)) (by decide) S.exa (ru_cha l Z a0 hw [] hl45 x k cs G1 O2 P5 U1 U2 U3 G3 O4 hr_G3 S hkl) (fun _ q => nomatch q) (argsL := [(.int (Int32.ofNat k))]) (rest := []) (lenOf pd_14 rfl) rfl 0 (Nat.le_of_eq rfl) (hb hby d_prog_10_method_7_23) (pc' := 26) rfl (by decide) (by decide) (by decide) (by decide) ?_
        intro v48 T48 h48 K48 Kp48 Q48
        obtain ⟨rfl, e48⟩ := Q48
        have S := S.keep Kp48 own_off0
        have A48 := own_here K48
        show own_Go p.tables e below _ T48 (mkF m 26 #[.val (.ref x), .val (.int (Int32.ofNat k)), s2] [(.int (List.getD cs k 0))])
        refine own_istoreN A48 hx (pc' := 27) #[.val (.ref x), .val (.int (Int32.ofNat k)), .val (.int (List.getD cs k 0))] (hb hby d_prog_10_method_7_26) (by rcases hs_s2 with rfl | ⟨_, rfl⟩ <;> rfl) rfl ?_
        refine own_iloadN A48 hx (pc' := 28) (hb hby d_prog_10_method_7_27) rfl rfl ?_
        refine own_bipush A48 hx (pc' := 30) (hb hby d_prog_10_method_7_28) (z := (48 : Int32)) (by decide) rfl ?_
        refine own_icmp_lt A48 hx 39 33 (hb hby d_prog_10_method_7_30) (by decide) (by decide) rfl (fun hc30 => ?_) (fun hc30 => ?_)
        · refine own_iloadN A48 hx (pc' := 40) (hb hby d_prog_10_method_7_39) rfl rfl ?_
          refine own_bipush A48 hx (pc' := 42) (hb hby d_prog_10_method_7_40) (z := (97 : Int32)) (by decide) rfl ?_
          refine own_icmp_lt A48 hx 51 45 (hb hby d_prog_10_method_7_42) (by decide) (by decide) rfl (fun hc42 => ?_) (fun hc42 => ?_)
          · refine own_iconst A48 hx (pc' := 52) (hb hby d_prog_10_method_7_51) (z := (0 : Int32)) (by decide) rfl ?_
            exact own_retN K48 hx hlk hret (by simp) (hb hby d_prog_10_method_7_52) (by decide) (by decide) (by show some (Value.int (nar .boolean 0)) = _; rw [own_beg, if_neg (fun q => absurd (q.2 _ (own_getD' hkl)) (fun q => q.elim (fun r => r.1 hc30) (fun r => r.1 hc42)))]; rfl)
          · refine own_iloadN A48 hx (pc' := 46) (hb hby d_prog_10_method_7_45) rfl rfl ?_
            refine own_bipush A48 hx (pc' := 48) (hb hby d_prog_10_method_7_46) (z := (102 : Int32)) (by decide) rfl ?_
            refine own_icmp_le A48 hx 53 51 (hb hby d_prog_10_method_7_48) (by decide) (by decide) rfl (fun hc48 => ?_) (fun hc48 => ?_)
            · refine own_iinc A48 hx (pc' := 56) #[.val (.ref x), .val (.int (Int32.ofNat (k + 1))), .val (.int (List.getD cs k 0))] (hb hby d_prog_10_method_7_53) rfl (by rw [own_natinc]; rfl) rfl ?_
              have hX : own_HX (List.getD cs k 0) := Or.inr ⟨hc42, hc48⟩
              refine own_goto A48 hx 13 (hb hby d_prog_10_method_7_56) (by decide) (by decide) ?_
              exact ih (k + 1) _ T48 h48 (by omega) (Or.inr ⟨_, rfl⟩) K48 S (fun j hj => by rcases Nat.lt_succ_iff_lt_or_eq.mp hj with q | rfl; exact hpre j q; exact hX)
            · refine own_iconst A48 hx (pc' := 52) (hb hby d_prog_10_method_7_51) (z := (0 : Int32)) (by decide) rfl ?_
              exact own_retN K48 hx hlk hret (by simp) (hb hby d_prog_10_method_7_52) (by decide) (by decide) (by show some (Value.int (nar .boolean 0)) = _; rw [own_beg, if_neg (fun q => absurd (q.2 _ (own_getD' hkl)) (fun q => q.elim (fun r => r.1 hc30) (fun r => r.2 hc48)))]; rfl)
        · refine own_iloadN A48 hx (pc' := 34) (hb hby d_prog_10_method_7_33) rfl rfl ?_
          refine own_bipush A48 hx (pc' := 36) (hb hby d_prog_10_method_7_34) (z := (57 : Int32)) (by decide) rfl ?_
          refine own_icmp_le A48 hx 53 39 (hb hby d_prog_10_method_7_36) (by decide) (by decide) rfl (fun hc36 => ?_) (fun hc36 => ?_)
          · refine own_iinc A48 hx (pc' := 56) #[.val (.ref x), .val (.int (Int32.ofNat (k + 1))), .val (.int (List.getD cs k 0))] (hb hby d_prog_10_method_7_53) rfl (by rw [own_natinc]; rfl) rfl ?_
            have hX : own_HX (List.getD cs k 0) := Or.inl ⟨hc30, hc36⟩
            refine own_goto A48 hx 13 (hb hby d_prog_10_method_7_56) (by decide) (by decide) ?_
            exact ih (k + 1) _ T48 h48 (by omega) (Or.inr ⟨_, rfl⟩) K48 S (fun j hj => by rcases Nat.lt_succ_iff_lt_or_eq.mp hj with q | rfl; exact hpre j q; exact hX)
          · refine own_iloadN A48 hx (pc' := 40) (hb hby d_prog_10_method_7_39) rfl rfl ?_
            refine own_bipush A48 hx (pc' := 42) (hb hby d_prog_10_method_7_40) (z := (97 : Int32)) (by decide) rfl ?_
            refine own_icmp_lt A48 hx 51 45 (hb hby d_prog_10_method_7_42) (by decide) (by decide) rfl (fun hc42 => ?_) (fun hc42 => ?_)
            · refine own_iconst A48 hx (pc' := 52) (hb hby d_prog_10_method_7_51) (z := (0 : Int32)) (by decide) rfl ?_
              exact own_retN K48 hx hlk hret (by simp) (hb hby d_prog_10_method_7_52) (by decide) (by decide) (by show some (Value.int (nar .boolean 0)) = _; rw [own_beg, if_neg (fun q => absurd (q.2 _ (own_getD' hkl)) (fun q => q.elim (fun r => r.2 hc36) (fun r => r.1 hc42)))]; rfl)
            · refine own_iloadN A48 hx (pc' := 46) (hb hby d_prog_10_method_7_45) rfl rfl ?_
              refine own_bipush A48 hx (pc' := 48) (hb hby d_prog_10_method_7_46) (z := (102 : Int32)) (by decide) rfl ?_
              refine own_icmp_le A48 hx 53 51 (hb hby d_prog_10_method_7_48) (by decide) (by decide) rfl (fun hc48 => ?_) (fun hc48 => ?_)
              · refine own_iinc A48 hx (pc' := 56) #[.val (.ref x), .val (.int (Int32.ofNat (k + 1))), .val (.int (List.getD cs k 0))] (hb hby d_prog_10_method_7_53) rfl (by rw [own_natinc]; rfl) rfl ?_
                have hX : own_HX (List.getD cs k 0) := Or.inr ⟨hc42, hc48⟩
                refine own_goto A48 hx 13 (hb hby d_prog_10_method_7_56) (by decide) (by decide) ?_
                exact ih (k + 1) _ T48 h48 (by omega) (Or.inr ⟨_, rfl⟩) K48 S (fun j hj => by rcases Nat.lt_succ_iff_lt_or_eq.mp hj with q | rfl; exact hpre j q; exact hX)
              · refine own_iconst A48 hx (pc' := 52) (hb hby d_prog_10_method_7_51) (z := (0 : Int32)) (by decide) rfl ?_
                exact own_retN K48 hx hlk hret (by simp) (hb hby d_prog_10_method_7_52) (by decide) (by decide) (by show some (Value.int (nar .boolean 0)) = _; rw [own_beg, if_neg (fun q => absurd (q.2 _ (own_getD' hkl)) (fun q => q.elim (fun r => r.2 hc36) (fun r => r.2 hc48)))]; rfl)
    exact loop cs.length 0 _ T44 h0 (by omega) (Or.inl rfl) K44 S (fun j hj => absurd hj (Nat.not_lt_zero j))
  · refine own_iconst A44 hx (pc' := 10) (hb hby d_prog_10_method_7_9) (z := (0 : Int32)) (by decide) rfl ?_
    exact own_retN K44 hx hlk hret (by simp) (hb hby d_prog_10_method_7_10) (by decide) (by decide) (by show some (Value.int (nar .boolean 0)) = _; rw [own_beg, if_neg (fun q => by have q := q.1; rw [Int32.lt_iff_toInt_lt, Int32.toInt_ofNat_small (by omega)] at hc6; have e64 : (64 : Int32).toInt = 64 := rfl; omega)]; rfl)
theorem d_jdk_42_method_149_8 : decode jdk_42_method_149_code 8 = .ok (.aload_n 0, 1) := by decide +kernel
theorem d_jdk_42_method_149_9 : decode jdk_42_method_149_code 9 = .ok (.ldc 7, 2) := by decide +kernel
theorem d_jdk_42_method_149_11 : decode jdk_42_method_149_code 11 = .ok (.getfield 9, 3) := by decide +kernel
theorem d_jdk_42_method_149_14 : decode jdk_42_method_149_code 14 = .ok (.putfield 9, 3) := by decide +kernel
theorem d_jdk_42_method_149_17 : decode jdk_42_method_149_code 17 = .ok (.aload_n 0, 1) := by decide +kernel
theorem d_jdk_42_method_149_18 : decode jdk_42_method_149_code 18 = .ok (.ldc 7, 2) := by decide +kernel
theorem d_jdk_42_method_149_20 : decode jdk_42_method_149_code 20 = .ok (.getfield 15, 3) := by decide +kernel
theorem d_jdk_42_method_149_23 : decode jdk_42_method_149_code 23 = .ok (.putfield 15, 3) := by decide +kernel
theorem d_jdk_42_method_149_26 : decode jdk_42_method_149_code 26 = .ok (.return_, 1) := by decide +kernel
theorem ef_rm_new0a (m : MethodId) (q_0 : Addr) (q_1 : Addr)  : entryFrame m #[(.ref q_0), (.ref q_1), (.int (0 : Int32)), (.int (0 : Int32)), .null] 6 = mkF m 0 #[.val (.ref q_0), .val (.ref q_1), .val (.int (0 : Int32)), .val (.int (0 : Int32)), .val .null, .unset] [] := by  first | (simp [entryFrame, mkF, argsToLocals, Value.category]; done) | rfl
set_option maxRecDepth 65536 in
set_option maxHeartbeats 40000000 in
theorem rm_new0a (l : Launch) (Z : State) (a0 : Array Value) (hw : ∀ d ∈ tables_1, d.before a0 Z = true) (more : List Jvm.Cond) (h0 : Heap) (x : Addr) (b : Addr) (v0 c0 : Value) (E : Exa Z h0 x "java/lang/String") (V : Fld Z h0 x "java/lang/String" "value" "[B" v0) (C : Fld Z h0 x "java/lang/String" "coder" "B" c0) :
    own_Met true false consts_1 l Z a0 (⟨"java/lang/String", "<init>", "([CIILjava/lang/Void;)V"⟩ : MethodName) jdk_42_method_149_code 6 none more ({ frames := 1, cells := 4, slots := 8, locals := 12 } : Room) #[(.ref x), (.ref b), (.int (0 : Int32)), (.int (0 : Int32)), .null] h0 [x] (fun v h => v = none ∧ Exa Z h x "java/lang/String" ∧ Fld Z h x "java/lang/String" "coder" "B" (.int 0) ∧ ∃ t k, Fld Z h x "java/lang/String" "value" "[B" (.ref t) ∧ Arv Z h t k .byte 0 [] (.int 0)) := by
  refine own_enter (own := "java/lang/String") rfl (plainFor_of_name pn_1) ?_
  intro p e s m below meth c T hx hby hml hret hlk hnm K
  rw [ef_rm_new0a m x b]
  have A := own_here K
  refine own_aloadN A hx (pc' := 1) (hb hby d_jdk_42_method_149_0) rfl rfl rfl ?_
  refine own_initO K hx (hw _ (List.mem_of_getElem? (i := 12) rfl)) (hw _ (List.mem_of_getElem? (i := 13) rfl)) (hw _ (List.mem_of_getElem? (i := 14) rfl)) (by rw [hml]; rfl) 0 (Nat.le_of_eq rfl) (by decide) (by decide) (hb hby d_jdk_42_method_149_1) (pc' := 4) rfl ?_
  intro T49 K49
  have A49 := own_here K49
  refine own_iloadN A49 hx (pc' := 5) (hb hby d_jdk_42_method_149_4) rfl rfl ?_
  refine own_if_ne A49 hx 27 8 (hb hby d_jdk_42_method_149_5) (by decide) (by decide) rfl (fun hc5 => ?_) (fun hc5 => ?_)
  · exact absurd rfl hc5
  refine own_aloadN A49 hx (pc' := 9) (hb hby d_jdk_42_method_149_8) rfl rfl rfl ?_
  refine own_ldcR (n := 0) (zn := (0 : Int32)) (vs := []) K49 hx (hw _ (List.mem_of_getElem? (i := 15) rfl)) (own_sa hw) (by decide +kernel) ⟨by decide +kernel, by decide +kernel⟩ (by decide) (by decide) (hb hby d_jdk_42_method_149_9) (pc' := 11) rfl (by decide +kernel) (by decide) (by decide) (by decide) ?_
  intro b50 T50 h50 t50 kt50 K50 E50 X50 C50 V50 Y50 N50
  have E := E.ext E50
  have V := V.ext E50
  have C := C.ext E50
  have A50 := own_here K50
  refine own_getF K50 hx (host := "") (Or.inl (hw _ (List.mem_of_getElem? (i := 21) rfl))) Via.refl V50 (hb hby d_jdk_42_method_149_11) (pc' := 14) rfl ?_
  intro T51 K51
  have A51 := own_here K51
  refine own_putF K51 hx (host := "") (Or.inl (hw _ (List.mem_of_getElem? (i := 21) rfl))) Via.refl V E (Or.inr ⟨(hw _ (List.mem_of_getElem? (i := 17) rfl)), rfl, hnm⟩) (hw _ (List.mem_of_getElem? (i := 3) rfl)) (ty := (.array .byte)) (by decide) rfl rfl (List.mem_of_getElem? (i := 0) rfl) (hb hby d_jdk_42_method_149_14) (pc' := 17) rfl ?_
  intro T52 h52 K52 W52
  have E := E.wr W52
  have X50 := X50.wr W52
  have C50 := C50.other W52 (Or.inl (Ne.symm (N50 x (List.mem_of_getElem? (i := 0) rfl)).1))
  have V50 := V50.other W52 (Or.inl (Ne.symm (N50 x (List.mem_of_getElem? (i := 0) rfl)).1))
  have Y50 := Y50.other W52 (Ne.symm (N50 x (List.mem_of_getElem? (i := 0) rfl)).2)
  have V := V.same W52
  have C := C.other W52 (Or.inr (slot_ne (Or.inr (hw _ (List.mem_of_getElem? (i := 18) rfl))) (Or.inr (hw _ (List.mem_of_getElem? (i := 17) rfl))) (by decide) (t := .byte) (t' := (.array .byte)) (by decide) (by decide)))
  have A52 := own_here K52
  refine own_aloadN A52 hx (pc' := 18) (hb hby d_jdk_42_method_149_17) rfl rfl rfl ?_
  refine own_ldcR (n := 0) (zn := (0 : Int32)) (vs := []) K52 hx (hw _ (List.mem_of_getElem? (i := 15) rfl)) (own_sa hw) (by decide +kernel) ⟨by decide +kernel, by decide +kernel⟩ (by decide) (by decide) (hb hby d_jdk_42_method_149_18) (pc' := 20) rfl (by decide +kernel) (by decide) (by decide) (by decide) ?_
  intro b53 T53 h53 t53 kt53 K53 E53 X53 C53 V53 Y53 N53
  have E := E.ext E53
  have V := V.ext E53
  have C := C.ext E53
  have Y50 := Y50.ext E53
  have A53 := own_here K53
  refine own_getF K53 hx (host := "") (Or.inl (hw _ (List.mem_of_getElem? (i := 22) rfl))) Via.refl C53 (hb hby d_jdk_42_method_149_20) (pc' := 23) rfl ?_
  intro T54 K54
  have A54 := own_here K54
  refine own_putF K54 hx (host := "") (Or.inl (hw _ (List.mem_of_getElem? (i := 22) rfl))) Via.refl C E (Or.inr ⟨(hw _ (List.mem_of_getElem? (i := 18) rfl)), rfl, hnm⟩) (hw _ (List.mem_of_getElem? (i := 3) rfl)) (ty := .byte) (by decide) (by decide) (by decide) (List.mem_of_getElem? (i := 0) rfl) (hb hby d_jdk_42_method_149_23) (pc' := 26) rfl ?_
  intro T55 h55 K55 W55
  have E := E.wr W55
  have Y50 := Y50.other W55 (Ne.symm (N50 x (List.mem_of_getElem? (i := 0) rfl)).2)
  have X53 := X53.wr W55
  have C53 := C53.other W55 (Or.inl (Ne.symm (N53 x (List.mem_of_getElem? (i := 0) rfl)).1))
  have V53 := V53.other W55 (Or.inl (Ne.symm (N53 x (List.mem_of_getElem? (i := 0) rfl)).1))
  have Y53 := Y53.other W55 (Ne.symm (N53 x (List.mem_of_getElem? (i := 0) rfl)).2)
  have V := V.other W55 (Or.inr (slot_ne (Or.inr (hw _ (List.mem_of_getElem? (i := 17) rfl))) (Or.inr (hw _ (List.mem_of_getElem? (i := 18) rfl))) (by decide) (t := (.array .byte)) (t' := .byte) (by decide) (by decide)))
  have C := C.same W55
  have A55 := own_here K55
  exact own_retV K55 hx hlk hret (hb hby d_jdk_42_method_149_26) (by decide) (by decide) ⟨rfl, E, C, _, _, V, Y50⟩
theorem ef_rm_new0 (m : MethodId) (q_0 : Addr) (q_1 : Addr)  : entryFrame m #[(.ref q_0), (.ref q_1)] 2 = mkF m 0 #[.val (.ref q_0), .val (.ref q_1)] [] := by  first | (simp [entryFrame, mkF, argsToLocals, Value.category]; done) | rfl
set_option maxRecDepth 65536 in
set_option maxHeartbeats 40000000 in
theorem rm_new0 (l : Launch) (Z : State) (a0 : Array Value) (hw : ∀ d ∈ tables_1, d.before a0 Z = true) (more : List Jvm.Cond) (h0 : Heap) (x : Addr) (b : Addr) (v0 c0 d0 : Value) (kb : ClassId) (vs0 : List Value) (E : Exa Z h0 x "java/lang/String") (V : Fld Z h0 x "java/lang/String" "value" "[B" v0) (C : Fld Z h0 x "java/lang/String" "coder" "B" c0) (A0 : Arv Z h0 b kb .char (0 : Int32) vs0 d0) :
    own_Met true false consts_1 l Z a0 (⟨"java/lang/String", "<init>", "([C)V"⟩ : MethodName) jdk_42_method_3_code 2 none more ({ frames := 2, cells := 4, slots := 8, locals := 29 } : Room) #[(.ref x), (.ref b)] h0 [x] (fun v h => v = none ∧ Exa Z h x "java/lang/String" ∧ Fld Z h x "java/lang/String" "coder" "B" (.int 0) ∧ ∃ t k, Fld Z h x "java/lang/String" "value" "[B" (.ref t) ∧ Arv Z h t k .byte 0 [] (.int 0)) := by
  refine own_enter (own := "java/lang/String") rfl (plainFor_of_name pn_1) ?_
  intro p e s m below meth c T hx hby hml hret hlk hnm K
  rw [ef_rm_new0 m x b]
  have A := own_here K
  refine own_aloadN A hx (pc' := 1) (hb hby d_jdk_42_method_3_0) rfl rfl rfl ?_
  refine own_aloadN A hx (pc' := 2) (hb hby d_jdk_42_method_3_1) rfl rfl rfl ?_
  refine own_iconst A hx (pc' := 3) (hb hby d_jdk_42_method_3_2) (z := (0 : Int32)) (by decide) rfl ?_
  refine own_aloadN A hx (pc' := 4) (hb hby d_jdk_42_method_3_3) rfl rfl rfl ?_
  refine own_len K hx A0 (hb hby d_jdk_42_method_3_4) (pc' := 5) rfl ?_
  refine own_null A hx (pc' := 6) (hb hby d_jdk_42_method_3_5) rfl ?_
  refine own_callSp K hx (by rw [hml]; rfl) rfl (hw _ (List.mem_of_getElem? (i := 8) rfl)) (hw _ (List.mem_of_getElem? (i := 9) rfl)) (hw _ (List.mem_of_getElem? (i := 4) rfl)) (hw _ (List.mem_of_getElem? (i := 11) rfl)) (by decide) (rm_new0a l Z a0 hw [] h0 x b _ _ E V C) (own_mem1 (List.mem_of_getElem? (i := 0) rfl)) (argsL := [(.ref b), (.int (0 : Int32)), (.int (0 : Int32)), .null]) (rest := []) (lenOf pd_7 rfl) rfl 0 (Nat.le_of_eq rfl) (hb hby d_jdk_42_method_3_6) (pc' := 9) rfl (by decide) (by decide) (by decide) (by decide) ?_
  intro v56 T56 h56 K56 Kp56 Q56
  obtain ⟨rfl, E56, C56, t56, kt56, V56, Y56⟩ := Q56
  have A56 := own_here K56
  show own_Go p.tables e below _ T56 (mkF m 9 #[.val (.ref x), .val (.ref b)] [])
  exact own_retV K56 hx hlk hret (hb hby d_jdk_42_method_3_9) (by decide) (by decide) ⟨rfl, E56, C56, _, _, V56, Y56⟩
theorem pd_15 : parseMethodDescriptor "([C)V" = some ⟨[(.array .char)], none⟩ := by decide +kernel
theorem pd_16 : parseMethodDescriptor "(Ljava/lang/String;)Z" = some ⟨[(.object "java/lang/String")], some .boolean⟩ := by decide +kernel
theorem pd_17 : parseMethodDescriptor "(C)Z" = some ⟨[.char], some .boolean⟩ := by decide +kernel
theorem ef_rm_law (m : MethodId) (q_0 : Int32) (q_1 : Int32) (q_2 : Int32)  : entryFrame m #[(.int q_0), (.int q_1), (.int q_2)] maxLocals = mkF m 0 #[.val (.int q_0), .val (.int q_1), .val (.int q_2), .unset, .unset, .unset, .unset, .unset, .unset] [] := by  first | (simp [entryFrame, mkF, argsToLocals, Value.category, maxLocals]; done) | rfl
set_option maxRecDepth 65536 in
set_option maxHeartbeats 40000000 in
theorem rm_law (l : Launch) (Z : State) (a0 : Array Value) (hw : ∀ d ∈ tables_1, d.before a0 Z = true) (more : List Jvm.Cond) (h0 : Heap) (i0 : Int32) (i1 : Int32) (i2 : Int32)  (G1 : Int32) (O2 : Sta Z Z.heap "java/lang/String" "COMPACT_STRINGS" "Z" (.int G1)) (P5 : ¬ (G1 = (0 : Int32))) (U1 : Sta Z Z.heap "java/lang/StringUTF16" "$assertionsDisabled" "Z" (.int 1)) (U2 : Sta Z Z.heap "java/lang/StringUTF16" "HI_BYTE_SHIFT" "I" (.int 0)) (U3 : Sta Z Z.heap "java/lang/StringUTF16" "LO_BYTE_SHIFT" "I" (.int 8)) (G3 : Value) (O4 : Sta Z Z.heap "jdk/internal/util/Preconditions" "SIOOBE_FORMATTER" "Ljava/util/function/BiFunction;" G3) (hr_G3 : G3.isRef = true) :
    own_Met true false consts_1 l Z a0 x code maxLocals ret more room_1 #[(.int i0), (.int i1), (.int i2)] h0 [] (fun v h => v = some (.int 1)) := by
  refine own_enter (own := "com/example/kustody/kustody/Sha256IsBegunPinLaw") rfl (plainFor_of_name pn_4) ?_
  intro p e s m below meth c T hx hby hml hret hlk hnm K
  rw [ef_rm_law m i0 i1 i2]
  have A := own_here K
  refine own_iloadN A hx (pc' := 1) (hb hby at_0) rfl rfl ?_
  refine own_ldcI K hx (hw _ (List.mem_of_getElem? (i := 0) rfl)) (hb hby at_1) (pc' := 3) rfl ?_
  refine own_iand A hx (pc' := 4) (hb hby at_3) (z := (i1 &&& (65535 : Int32))) rfl rfl ?_
  refine own_i2c A hx (pc' := 5) (hb hby at_4) (z := ((i1 &&& (65535 : Int32)).toUInt32.toUInt16.toUInt32.toInt32)) rfl rfl ?_
  refine own_istoreN A hx (pc' := 6) #[.val (.int i0), .val (.int i1), .val (.int i2), .val (.int ((i1 &&& (65535 : Int32)).toUInt32.toUInt16.toUInt32.toInt32)), .unset, .unset, .unset, .unset, .unset] (hb hby at_5) rfl rfl ?_
  obtain ⟨c0, hc0⟩ : ∃ z, z = ((i1 &&& (65535 : Int32)).toUInt32.toUInt16.toUInt32.toInt32) := ⟨_, rfl⟩
  rw [← hc0]
  have n0 : nar .char c0 = c0 := by rw [hc0]; exact own_nchar _
  have r0 := own_rchar (i1 &&& (65535 : Int32))
  rw [← hc0] at r0
  refine own_iloadN A hx (pc' := 7) (hb hby at_6) rfl rfl ?_
  refine own_bipush A hx (pc' := 9) (hb hby at_7) (z := (16 : Int32)) (by decide) rfl ?_
  refine own_iushr A hx (pc' := 10) (hb hby at_9) (z := ((i1.toUInt32 >>> ((16 : Int32) &&& 31).toUInt32).toInt32)) rfl rfl ?_
  refine own_i2c A hx (pc' := 11) (hb hby at_10) (z := (((i1.toUInt32 >>> ((16 : Int32) &&& 31).toUInt32).toInt32).toUInt32.toUInt16.toUInt32.toInt32)) rfl rfl ?_
  refine own_istore A hx (pc' := 13) #[.val (.int i0), .val (.int i1), .val (.int i2), .val (.int c0), .val (.int (((i1.toUInt32 >>> ((16 : Int32) &&& 31).toUInt32).toInt32).toUInt32.toUInt16.toUInt32.toInt32)), .unset, .unset, .unset, .unset] (hb hby at_11) rfl rfl ?_
  obtain ⟨c1, hc1⟩ : ∃ z, z = (((i1.toUInt32 >>> ((16 : Int32) &&& 31).toUInt32).toInt32).toUInt32.toUInt16.toUInt32.toInt32) := ⟨_, rfl⟩
  rw [← hc1]
  have n1 : nar .char c1 = c1 := by rw [hc1]; exact own_nchar _
  have r1 : ¬ c1 < 0 ∧ ¬ (65535 : Int32) < c1 := by rw [hc1]; exact own_rchar _
  refine own_iloadN A hx (pc' := 14) (hb hby at_13) rfl rfl ?_
  refine own_ldcI K hx (hw _ (List.mem_of_getElem? (i := 0) rfl)) (hb hby at_14) (pc' := 16) rfl ?_
  refine own_iand A hx (pc' := 17) (hb hby at_16) (z := (i2 &&& (65535 : Int32))) rfl rfl ?_
  refine own_i2c A hx (pc' := 18) (hb hby at_17) (z := ((i2 &&& (65535 : Int32)).toUInt32.toUInt16.toUInt32.toInt32)) rfl rfl ?_
  refine own_istore A hx (pc' := 20) #[.val (.int i0), .val (.int i1), .val (.int i2), .val (.int c0), .val (.int c1), .val (.int ((i2 &&& (65535 : Int32)).toUInt32.toUInt16.toUInt32.toInt32)), .unset, .unset, .unset] (hb hby at_18) rfl rfl ?_
  obtain ⟨c2, hc2⟩ : ∃ z, z = ((i2 &&& (65535 : Int32)).toUInt32.toUInt16.toUInt32.toInt32) := ⟨_, rfl⟩
  rw [← hc2]
  have n2 : nar .char c2 = c2 := by rw [hc2]; exact own_nchar _
  have r2 : ¬ c2 < 0 ∧ ¬ (65535 : Int32) < c2 := by rw [hc2]; exact own_rchar _
  refine own_iloadN A hx (pc' := 21) (hb hby at_20) rfl rfl ?_
  refine own_bipush A hx (pc' := 23) (hb hby at_21) (z := (7 : Int32)) (by decide) rfl ?_
  refine own_iand A hx (pc' := 24) (hb hby at_23) (z := (i0 &&& (7 : Int32))) rfl rfl ?_
  refine own_istore A hx (pc' := 26) #[.val (.int i0), .val (.int i1), .val (.int i2), .val (.int c0), .val (.int c1), .val (.int c2), .val (.int (i0 &&& (7 : Int32))), .unset, .unset] (hb hby at_24) rfl rfl ?_
  obtain ⟨sv, hsv⟩ : ∃ z, z = (i0 &&& (7 : Int32)) := ⟨_, rfl⟩
  rw [← hsv]
  refine own_iload A hx (pc' := 28) (hb hby at_26) rfl rfl ?_
  refine own_iconst A hx (pc' := 29) (hb hby at_28) (z := (3 : Int32)) (by decide) rfl ?_
  have hs7 := own_m7 i0
  rw [← hsv] at hs7
  refine own_icmp_gt A hx 144 32 (hb hby at_29) (by decide) (by decide) rfl (fun hc29 => ?_) (fun hc29 => ?_)
  · refine own_iload A hx (pc' := 146) (hb hby at_144) rfl rfl ?_
    refine own_bipush A hx (pc' := 148) (hb hby at_146) (z := (7 : Int32)) (by decide) rfl ?_
    refine own_icmp_ne A hx 180 151 (hb hby at_148) (by decide) (by decide) rfl (fun hc148 => ?_) (fun hc148 => ?_)
    · refine own_bipush A hx (pc' := 182) (hb hby at_180) (z := (64 : Int32)) (by decide) rfl ?_
      refine own_newarr K hx (hw _ (List.mem_of_getElem? (i := 1) rfl)) (hb hby at_182) (pc' := 184) rfl (by decide) 64 (by decide) (by decide) (by decide) (by decide) ?_
      intro T57 h57 b57 k57 g57 K57 E57 V57
      have A57 := own_here K57
      have V57 : Arv Z h57 b57 k57 .char 64 (own_w 0) (.int (0 : Int32)) := V57.pad (pad_rep [] (.int (0 : Int32)) 64)
      refine own_dup A57 hx (pc' := 185) (hb hby at_184) rfl rfl ?_
      refine own_iconst A57 hx (pc' := 186) (hb hby at_185) (z := (0 : Int32)) (by decide) rfl ?_
      refine own_bipush A57 hx (pc' := 188) (hb hby at_186) (z := (48 : Int32)) (by decide) rfl ?_
      refine own_stC K57 hx V57 (List.mem_of_getElem? (i := 0) rfl) (by decide) 0 rfl (by decide) (hb hby at_188) (pc' := 189) rfl ?_
      intro T58 h58 K58 W58 V58
      have A58 := own_here K58
      rw [show (own_w 0).set 0 (.int (nar .char (48 : Int32))) = own_w 1 by decide +kernel] at V58
      refine own_dup A58 hx (pc' := 190) (hb hby at_189) rfl rfl ?_
      refine own_iconst A58 hx (pc' := 191) (hb hby at_190) (z := (1 : Int32)) (by decide) rfl ?_
      refine own_bipush A58 hx (pc' := 193) (hb hby at_191) (z := (49 : Int32)) (by decide) rfl ?_
      refine own_stC K58 hx V58 (List.mem_of_getElem? (i := 0) rfl) (by decide) 1 rfl (by decide) (hb hby at_193) (pc' := 194) rfl ?_
      intro T59 h59 K59 W59 V59
      have A59 := own_here K59
      rw [show (own_w 1).set 1 (.int (nar .char (49 : Int32))) = own_w 2 by decide +kernel] at V59
      refine own_dup A59 hx (pc' := 195) (hb hby at_194) rfl rfl ?_
      refine own_iconst A59 hx (pc' := 196) (hb hby at_195) (z := (2 : Int32)) (by decide) rfl ?_
      refine own_bipush A59 hx (pc' := 198) (hb hby at_196) (z := (50 : Int32)) (by decide) rfl ?_
      refine own_stC K59 hx V59 (List.mem_of_getElem? (i := 0) rfl) (by decide) 2 rfl (by decide) (hb hby at_198) (pc' := 199) rfl ?_
      intro T60 h60 K60 W60 V60
      have A60 := own_here K60
      rw [show (own_w 2).set 2 (.int (nar .char (50 : Int32))) = own_w 3 by decide +kernel] at V60
      refine own_dup A60 hx (pc' := 200) (hb hby at_199) rfl rfl ?_
      refine own_iconst A60 hx (pc' := 201) (hb hby at_200) (z := (3 : Int32)) (by decide) rfl ?_
      refine own_bipush A60 hx (pc' := 203) (hb hby at_201) (z := (51 : Int32)) (by decide) rfl ?_
      refine own_stC K60 hx V60 (List.mem_of_getElem? (i := 0) rfl) (by decide) 3 rfl (by decide) (hb hby at_203) (pc' := 204) rfl ?_
      intro T61 h61 K61 W61 V61
      have A61 := own_here K61
      rw [show (own_w 3).set 3 (.int (nar .char (51 : Int32))) = own_w 4 by decide +kernel] at V61
      refine own_dup A61 hx (pc' := 205) (hb hby at_204) rfl rfl ?_
      refine own_iconst A61 hx (pc' := 206) (hb hby at_205) (z := (4 : Int32)) (by decide) rfl ?_
      refine own_bipush A61 hx (pc' := 208) (hb hby at_206) (z := (52 : Int32)) (by decide) rfl ?_
      refine own_stC K61 hx V61 (List.mem_of_getElem? (i := 0) rfl) (by decide) 4 rfl (by decide) (hb hby at_208) (pc' := 209) rfl ?_
      intro T62 h62 K62 W62 V62
      have A62 := own_here K62
      rw [show (own_w 4).set 4 (.int (nar .char (52 : Int32))) = own_w 5 by decide +kernel] at V62
      refine own_dup A62 hx (pc' := 210) (hb hby at_209) rfl rfl ?_
      refine own_iconst A62 hx (pc' := 211) (hb hby at_210) (z := (5 : Int32)) (by decide) rfl ?_
      refine own_bipush A62 hx (pc' := 213) (hb hby at_211) (z := (53 : Int32)) (by decide) rfl ?_
      refine own_stC K62 hx V62 (List.mem_of_getElem? (i := 0) rfl) (by decide) 5 rfl (by decide) (hb hby at_213) (pc' := 214) rfl ?_
      intro T63 h63 K63 W63 V63
      have A63 := own_here K63
      rw [show (own_w 5).set 5 (.int (nar .char (53 : Int32))) = own_w 6 by decide +kernel] at V63
      refine own_dup A63 hx (pc' := 215) (hb hby at_214) rfl rfl ?_
      refine own_bipush A63 hx (pc' := 217) (hb hby at_215) (z := (6 : Int32)) (by decide) rfl ?_
      refine own_bipush A63 hx (pc' := 219) (hb hby at_217) (z := (54 : Int32)) (by decide) rfl ?_
      refine own_stC K63 hx V63 (List.mem_of_getElem? (i := 0) rfl) (by decide) 6 rfl (by decide) (hb hby at_219) (pc' := 220) rfl ?_
      intro T64 h64 K64 W64 V64
      have A64 := own_here K64
      rw [show (own_w 6).set 6 (.int (nar .char (54 : Int32))) = own_w 7 by decide +kernel] at V64
      refine own_dup A64 hx (pc' := 221) (hb hby at_220) rfl rfl ?_
      refine own_bipush A64 hx (pc' := 223) (hb hby at_221) (z := (7 : Int32)) (by decide) rfl ?_
      refine own_bipush A64 hx (pc' := 225) (hb hby at_223) (z := (55 : Int32)) (by decide) rfl ?_
      refine own_stC K64 hx V64 (List.mem_of_getElem? (i := 0) rfl) (by decide) 7 rfl (by decide) (hb hby at_225) (pc' := 226) rfl ?_
      intro T65 h65 K65 W65 V65
      have A65 := own_here K65
      rw [show (own_w 7).set 7 (.int (nar .char (55 : Int32))) = own_w 8 by decide +kernel] at V65
      refine own_dup A65 hx (pc' := 227) (hb hby at_226) rfl rfl ?_
      refine own_bipush A65 hx (pc' := 229) (hb hby at_227) (z := (8 : Int32)) (by decide) rfl ?_
      refine own_bipush A65 hx (pc' := 231) (hb hby at_229) (z := (56 : Int32)) (by decide) rfl ?_
      refine own_stC K65 hx V65 (List.mem_of_getElem? (i := 0) rfl) (by decide) 8 rfl (by decide) (hb hby at_231) (pc' := 232) rfl ?_
      intro T66 h66 K66 W66 V66
      have A66 := own_here K66
      rw [show (own_w 8).set 8 (.int (nar .char (56 : Int32))) = own_w 9 by decide +kernel] at V66
      refine own_dup A66 hx (pc' := 233) (hb hby at_232) rfl rfl ?_
      refine own_bipush A66 hx (pc' := 235) (hb hby at_233) (z := (9 : Int32)) (by decide) rfl ?_
      refine own_bipush A66 hx (pc' := 237) (hb hby at_235) (z := (57 : Int32)) (by decide) rfl ?_
      refine own_stC K66 hx V66 (List.mem_of_getElem? (i := 0) rfl) (by decide) 9 rfl (by decide) (hb hby at_237) (pc' := 238) rfl ?_
      intro T67 h67 K67 W67 V67
      have A67 := own_here K67
      rw [show (own_w 9).set 9 (.int (nar .char (57 : Int32))) = own_w 10 by decide +kernel] at V67
      refine own_dup A67 hx (pc' := 239) (hb hby at_238) rfl rfl ?_
      refine own_bipush A67 hx (pc' := 241) (hb hby at_239) (z := (10 : Int32)) (by decide) rfl ?_
      refine own_bipush A67 hx (pc' := 243) (hb hby at_241) (z := (97 : Int32)) (by decide) rfl ?_
      refine own_stC K67 hx V67 (List.mem_of_getElem? (i := 0) rfl) (by decide) 10 rfl (by decide) (hb hby at_243) (pc' := 244) rfl ?_
      intro T68 h68 K68 W68 V68
      have A68 := own_here K68
      rw [show (own_w 10).set 10 (.int (nar .char (97 : Int32))) = own_w 11 by decide +kernel] at V68
      refine own_dup A68 hx (pc' := 245) (hb hby at_244) rfl rfl ?_
      refine own_bipush A68 hx (pc' := 247) (hb hby at_245) (z := (11 : Int32)) (by decide) rfl ?_
      refine own_bipush A68 hx (pc' := 249) (hb hby at_247) (z := (98 : Int32)) (by decide) rfl ?_
      refine own_stC K68 hx V68 (List.mem_of_getElem? (i := 0) rfl) (by decide) 11 rfl (by decide) (hb hby at_249) (pc' := 250) rfl ?_
      intro T69 h69 K69 W69 V69
      have A69 := own_here K69
      rw [show (own_w 11).set 11 (.int (nar .char (98 : Int32))) = own_w 12 by decide +kernel] at V69
      refine own_dup A69 hx (pc' := 251) (hb hby at_250) rfl rfl ?_
      refine own_bipush A69 hx (pc' := 253) (hb hby at_251) (z := (12 : Int32)) (by decide) rfl ?_
      refine own_bipush A69 hx (pc' := 255) (hb hby at_253) (z := (99 : Int32)) (by decide) rfl ?_
      refine own_stC K69 hx V69 (List.mem_of_getElem? (i := 0) rfl) (by decide) 12 rfl (by decide) (hb hby at_255) (pc' := 256) rfl ?_
      intro T70 h70 K70 W70 V70
      have A70 := own_here K70
      rw [show (own_w 12).set 12 (.int (nar .char (99 : Int32))) = own_w 13 by decide +kernel] at V70
      refine own_dup A70 hx (pc' := 257) (hb hby at_256) rfl rfl ?_
      refine own_bipush A70 hx (pc' := 259) (hb hby at_257) (z := (13 : Int32)) (by decide) rfl ?_
      refine own_bipush A70 hx (pc' := 261) (hb hby at_259) (z := (100 : Int32)) (by decide) rfl ?_
      refine own_stC K70 hx V70 (List.mem_of_getElem? (i := 0) rfl) (by decide) 13 rfl (by decide) (hb hby at_261) (pc' := 262) rfl ?_
      intro T71 h71 K71 W71 V71
      have A71 := own_here K71
      rw [show (own_w 13).set 13 (.int (nar .char (100 : Int32))) = own_w 14 by decide +kernel] at V71
      refine own_dup A71 hx (pc' := 263) (hb hby at_262) rfl rfl ?_
      refine own_bipush A71 hx (pc' := 265) (hb hby at_263) (z := (14 : Int32)) (by decide) rfl ?_
      refine own_bipush A71 hx (pc' := 267) (hb hby at_265) (z := (101 : Int32)) (by decide) rfl ?_
      refine own_stC K71 hx V71 (List.mem_of_getElem? (i := 0) rfl) (by decide) 14 rfl (by decide) (hb hby at_267) (pc' := 268) rfl ?_
      intro T72 h72 K72 W72 V72
      have A72 := own_here K72
      rw [show (own_w 14).set 14 (.int (nar .char (101 : Int32))) = own_w 15 by decide +kernel] at V72
      refine own_dup A72 hx (pc' := 269) (hb hby at_268) rfl rfl ?_
      refine own_bipush A72 hx (pc' := 271) (hb hby at_269) (z := (15 : Int32)) (by decide) rfl ?_
      refine own_bipush A72 hx (pc' := 273) (hb hby at_271) (z := (102 : Int32)) (by decide) rfl ?_
      refine own_stC K72 hx V72 (List.mem_of_getElem? (i := 0) rfl) (by decide) 15 rfl (by decide) (hb hby at_273) (pc' := 274) rfl ?_
      intro T73 h73 K73 W73 V73
      have A73 := own_here K73
      rw [show (own_w 15).set 15 (.int (nar .char (102 : Int32))) = own_w 16 by decide +kernel] at V73
      refine own_dup A73 hx (pc' := 275) (hb hby at_274) rfl rfl ?_
      refine own_bipush A73 hx (pc' := 277) (hb hby at_275) (z := (16 : Int32)) (by decide) rfl ?_
      refine own_bipush A73 hx (pc' := 279) (hb hby at_277) (z := (48 : Int32)) (by decide) rfl ?_
      refine own_stC K73 hx V73 (List.mem_of_getElem? (i := 0) rfl) (by decide) 16 rfl (by decide) (hb hby at_279) (pc' := 280) rfl ?_
      intro T74 h74 K74 W74 V74
      have A74 := own_here K74
      rw [show (own_w 16).set 16 (.int (nar .char (48 : Int32))) = own_w 17 by decide +kernel] at V74
      refine own_dup A74 hx (pc' := 281) (hb hby at_280) rfl rfl ?_
      refine own_bipush A74 hx (pc' := 283) (hb hby at_281) (z := (17 : Int32)) (by decide) rfl ?_
      refine own_bipush A74 hx (pc' := 285) (hb hby at_283) (z := (49 : Int32)) (by decide) rfl ?_
      refine own_stC K74 hx V74 (List.mem_of_getElem? (i := 0) rfl) (by decide) 17 rfl (by decide) (hb hby at_285) (pc' := 286) rfl ?_
      intro T75 h75 K75 W75 V75
      have A75 := own_here K75
      rw [show (own_w 17).set 17 (.int (nar .char (49 : Int32))) = own_w 18 by decide +kernel] at V75
      refine own_dup A75 hx (pc' := 287) (hb hby at_286) rfl rfl ?_
      refine own_bipush A75 hx (pc' := 289) (hb hby at_287) (z := (18 : Int32)) (by decide) rfl ?_
      refine own_bipush A75 hx (pc' := 291) (hb hby at_289) (z := (50 : Int32)) (by decide) rfl ?_
      refine own_stC K75 hx V75 (List.mem_of_getElem? (i := 0) rfl) (by decide) 18 rfl (by decide) (hb hby at_291) (pc' := 292) rfl ?_
      intro T76 h76 K76 W76 V76
      have A76 := own_here K76
      rw [show (own_w 18).set 18 (.int (nar .char (50 : Int32))) = own_w 19 by decide +kernel] at V76
      refine own_dup A76 hx (pc' := 293) (hb hby at_292) rfl rfl ?_
      refine own_bipush A76 hx (pc' := 295) (hb hby at_293) (z := (19 : Int32)) (by decide) rfl ?_
      refine own_bipush A76 hx (pc' := 297) (hb hby at_295) (z := (51 : Int32)) (by decide) rfl ?_
      refine own_stC K76 hx V76 (List.mem_of_getElem? (i := 0) rfl) (by decide) 19 rfl (by decide) (hb hby at_297) (pc' := 298) rfl ?_
      intro T77 h77 K77 W77 V77
      have A77 := own_here K77
      rw [show (own_w 19).set 19 (.int (nar .char (51 : Int32))) = own_w 20 by decide +kernel] at V77
      refine own_dup A77 hx (pc' := 299) (hb hby at_298) rfl rfl ?_
      refine own_bipush A77 hx (pc' := 301) (hb hby at_299) (z := (20 : Int32)) (by decide) rfl ?_
      refine own_bipush A77 hx (pc' := 303) (hb hby at_301) (z := (52 : Int32)) (by decide) rfl ?_
      refine own_stC K77 hx V77 (List.mem_of_getElem? (i := 0) rfl) (by decide) 20 rfl (by decide) (hb hby at_303) (pc' := 304) rfl ?_
      intro T78 h78 K78 W78 V78
      have A78 := own_here K78
      rw [show (own_w 20).set 20 (.int (nar .char (52 : Int32))) = own_w 21 by decide +kernel] at V78
      refine own_dup A78 hx (pc' := 305) (hb hby at_304) rfl rfl ?_
      refine own_bipush A78 hx (pc' := 307) (hb hby at_305) (z := (21 : Int32)) (by decide) rfl ?_
      refine own_bipush A78 hx (pc' := 309) (hb hby at_307) (z := (53 : Int32)) (by decide) rfl ?_
      refine own_stC K78 hx V78 (List.mem_of_getElem? (i := 0) rfl) (by decide) 21 rfl (by decide) (hb hby at_309) (pc' := 310) rfl ?_
      intro T79 h79 K79 W79 V79
      have A79 := own_here K79
      rw [show (own_w 21).set 21 (.int (nar .char (53 : Int32))) = own_w 22 by decide +kernel] at V79
      refine own_dup A79 hx (pc' := 311) (hb hby at_310) rfl rfl ?_
      refine own_bipush A79 hx (pc' := 313) (hb hby at_311) (z := (22 : Int32)) (by decide) rfl ?_
      refine own_bipush A79 hx (pc' := 315) (hb hby at_313) (z := (54 : Int32)) (by decide) rfl ?_
      refine own_stC K79 hx V79 (List.mem_of_getElem? (i := 0) rfl) (by decide) 22 rfl (by decide) (hb hby at_315) (pc' := 316) rfl ?_
      intro T80 h80 K80 W80 V80
      have A80 := own_here K80
      rw [show (own_w 22).set 22 (.int (nar .char (54 : Int32))) = own_w 23 by decide +kernel] at V80
      refine own_dup A80 hx (pc' := 317) (hb hby at_316) rfl rfl ?_
      refine own_bipush A80 hx (pc' := 319) (hb hby at_317) (z := (23 : Int32)) (by decide) rfl ?_
      refine own_bipush A80 hx (pc' := 321) (hb hby at_319) (z := (55 : Int32)) (by decide) rfl ?_
      refine own_stC K80 hx V80 (List.mem_of_getElem? (i := 0) rfl) (by decide) 23 rfl (by decide) (hb hby at_321) (pc' := 322) rfl ?_
      intro T81 h81 K81 W81 V81
      have A81 := own_here K81
      rw [show (own_w 23).set 23 (.int (nar .char (55 : Int32))) = own_w 24 by decide +kernel] at V81
      refine own_dup A81 hx (pc' := 323) (hb hby at_322) rfl rfl ?_
      refine own_bipush A81 hx (pc' := 325) (hb hby at_323) (z := (24 : Int32)) (by decide) rfl ?_
      refine own_bipush A81 hx (pc' := 327) (hb hby at_325) (z := (56 : Int32)) (by decide) rfl ?_
      refine own_stC K81 hx V81 (List.mem_of_getElem? (i := 0) rfl) (by decide) 24 rfl (by decide) (hb hby at_327) (pc' := 328) rfl ?_
      intro T82 h82 K82 W82 V82
      have A82 := own_here K82
      rw [show (own_w 24).set 24 (.int (nar .char (56 : Int32))) = own_w 25 by decide +kernel] at V82
      refine own_dup A82 hx (pc' := 329) (hb hby at_328) rfl rfl ?_
      refine own_bipush A82 hx (pc' := 331) (hb hby at_329) (z := (25 : Int32)) (by decide) rfl ?_
      refine own_bipush A82 hx (pc' := 333) (hb hby at_331) (z := (57 : Int32)) (by decide) rfl ?_
      refine own_stC K82 hx V82 (List.mem_of_getElem? (i := 0) rfl) (by decide) 25 rfl (by decide) (hb hby at_333) (pc' := 334) rfl ?_
      intro T83 h83 K83 W83 V83
      have A83 := own_here K83
      rw [show (own_w 25).set 25 (.int (nar .char (57 : Int32))) = own_w 26 by decide +kernel] at V83
      refine own_dup A83 hx (pc' := 335) (hb hby at_334) rfl rfl ?_
      refine own_bipush A83 hx (pc' := 337) (hb hby at_335) (z := (26 : Int32)) (by decide) rfl ?_
      refine own_bipush A83 hx (pc' := 339) (hb hby at_337) (z := (97 : Int32)) (by decide) rfl ?_
      refine own_stC K83 hx V83 (List.mem_of_getElem? (i := 0) rfl) (by decide) 26 rfl (by decide) (hb hby at_339) (pc' := 340) rfl ?_
      intro T84 h84 K84 W84 V84
      have A84 := own_here K84
      rw [show (own_w 26).set 26 (.int (nar .char (97 : Int32))) = own_w 27 by decide +kernel] at V84
      refine own_dup A84 hx (pc' := 341) (hb hby at_340) rfl rfl ?_
      refine own_bipush A84 hx (pc' := 343) (hb hby at_341) (z := (27 : Int32)) (by decide) rfl ?_
      refine own_bipush A84 hx (pc' := 345) (hb hby at_343) (z := (98 : Int32)) (by decide) rfl ?_
      refine own_stC K84 hx V84 (List.mem_of_getElem? (i := 0) rfl) (by decide) 27 rfl (by decide) (hb hby at_345) (pc' := 346) rfl ?_
      intro T85 h85 K85 W85 V85
      have A85 := own_here K85
      rw [show (own_w 27).set 27 (.int (nar .char (98 : Int32))) = own_w 28 by decide +kernel] at V85
      refine own_dup A85 hx (pc' := 347) (hb hby at_346) rfl rfl ?_
      refine own_bipush A85 hx (pc' := 349) (hb hby at_347) (z := (28 : Int32)) (by decide) rfl ?_
      refine own_bipush A85 hx (pc' := 351) (hb hby at_349) (z := (99 : Int32)) (by decide) rfl ?_
      refine own_stC K85 hx V85 (List.mem_of_getElem? (i := 0) rfl) (by decide) 28 rfl (by decide) (hb hby at_351) (pc' := 352) rfl ?_
      intro T86 h86 K86 W86 V86
      have A86 := own_here K86
      rw [show (own_w 28).set 28 (.int (nar .char (99 : Int32))) = own_w 29 by decide +kernel] at V86
      refine own_dup A86 hx (pc' := 353) (hb hby at_352) rfl rfl ?_
      refine own_bipush A86 hx (pc' := 355) (hb hby at_353) (z := (29 : Int32)) (by decide) rfl ?_
      refine own_bipush A86 hx (pc' := 357) (hb hby at_355) (z := (100 : Int32)) (by decide) rfl ?_
      refine own_stC K86 hx V86 (List.mem_of_getElem? (i := 0) rfl) (by decide) 29 rfl (by decide) (hb hby at_357) (pc' := 358) rfl ?_
      intro T87 h87 K87 W87 V87
      have A87 := own_here K87
      rw [show (own_w 29).set 29 (.int (nar .char (100 : Int32))) = own_w 30 by decide +kernel] at V87
      refine own_dup A87 hx (pc' := 359) (hb hby at_358) rfl rfl ?_
      refine own_bipush A87 hx (pc' := 361) (hb hby at_359) (z := (30 : Int32)) (by decide) rfl ?_
      refine own_bipush A87 hx (pc' := 363) (hb hby at_361) (z := (101 : Int32)) (by decide) rfl ?_
      refine own_stC K87 hx V87 (List.mem_of_getElem? (i := 0) rfl) (by decide) 30 rfl (by decide) (hb hby at_363) (pc' := 364) rfl ?_
      intro T88 h88 K88 W88 V88
      have A88 := own_here K88
      rw [show (own_w 30).set 30 (.int (nar .char (101 : Int32))) = own_w 31 by decide +kernel] at V88
      refine own_dup A88 hx (pc' := 365) (hb hby at_364) rfl rfl ?_
      refine own_bipush A88 hx (pc' := 367) (hb hby at_365) (z := (31 : Int32)) (by decide) rfl ?_
      refine own_bipush A88 hx (pc' := 369) (hb hby at_367) (z := (102 : Int32)) (by decide) rfl ?_
      refine own_stC K88 hx V88 (List.mem_of_getElem? (i := 0) rfl) (by decide) 31 rfl (by decide) (hb hby at_369) (pc' := 370) rfl ?_
      intro T89 h89 K89 W89 V89
      have A89 := own_here K89
      rw [show (own_w 31).set 31 (.int (nar .char (102 : Int32))) = own_w 32 by decide +kernel] at V89
      refine own_dup A89 hx (pc' := 371) (hb hby at_370) rfl rfl ?_
      refine own_bipush A89 hx (pc' := 373) (hb hby at_371) (z := (32 : Int32)) (by decide) rfl ?_
      refine own_bipush A89 hx (pc' := 375) (hb hby at_373) (z := (48 : Int32)) (by decide) rfl ?_
      refine own_stC K89 hx V89 (List.mem_of_getElem? (i := 0) rfl) (by decide) 32 rfl (by decide) (hb hby at_375) (pc' := 376) rfl ?_
      intro T90 h90 K90 W90 V90
      have A90 := own_here K90
      rw [show (own_w 32).set 32 (.int (nar .char (48 : Int32))) = own_w 33 by decide +kernel] at V90
      refine own_dup A90 hx (pc' := 377) (hb hby at_376) rfl rfl ?_
      refine own_bipush A90 hx (pc' := 379) (hb hby at_377) (z := (33 : Int32)) (by decide) rfl ?_
      refine own_bipush A90 hx (pc' := 381) (hb hby at_379) (z := (49 : Int32)) (by decide) rfl ?_
      refine own_stC K90 hx V90 (List.mem_of_getElem? (i := 0) rfl) (by decide) 33 rfl (by decide) (hb hby at_381) (pc' := 382) rfl ?_
      intro T91 h91 K91 W91 V91
      have A91 := own_here K91
      rw [show (own_w 33).set 33 (.int (nar .char (49 : Int32))) = own_w 34 by decide +kernel] at V91
      refine own_dup A91 hx (pc' := 383) (hb hby at_382) rfl rfl ?_
      refine own_bipush A91 hx (pc' := 385) (hb hby at_383) (z := (34 : Int32)) (by decide) rfl ?_
      refine own_bipush A91 hx (pc' := 387) (hb hby at_385) (z := (50 : Int32)) (by decide) rfl ?_
      refine own_stC K91 hx V91 (List.mem_of_getElem? (i := 0) rfl) (by decide) 34 rfl (by decide) (hb hby at_387) (pc' := 388) rfl ?_
      intro T92 h92 K92 W92 V92
      have A92 := own_here K92
      rw [show (own_w 34).set 34 (.int (nar .char (50 : Int32))) = own_w 35 by decide +kernel] at V92
      refine own_dup A92 hx (pc' := 389) (hb hby at_388) rfl rfl ?_
      refine own_bipush A92 hx (pc' := 391) (hb hby at_389) (z := (35 : Int32)) (by decide) rfl ?_
      refine own_bipush A92 hx (pc' := 393) (hb hby at_391) (z := (51 : Int32)) (by decide) rfl ?_
      refine own_stC K92 hx V92 (List.mem_of_getElem? (i := 0) rfl) (by decide) 35 rfl (by decide) (hb hby at_393) (pc' := 394) rfl ?_
      intro T93 h93 K93 W93 V93
      have A93 := own_here K93
      rw [show (own_w 35).set 35 (.int (nar .char (51 : Int32))) = own_w 36 by decide +kernel] at V93
      refine own_dup A93 hx (pc' := 395) (hb hby at_394) rfl rfl ?_
      refine own_bipush A93 hx (pc' := 397) (hb hby at_395) (z := (36 : Int32)) (by decide) rfl ?_
      refine own_bipush A93 hx (pc' := 399) (hb hby at_397) (z := (52 : Int32)) (by decide) rfl ?_
      refine own_stC K93 hx V93 (List.mem_of_getElem? (i := 0) rfl) (by decide) 36 rfl (by decide) (hb hby at_399) (pc' := 400) rfl ?_
      intro T94 h94 K94 W94 V94
      have A94 := own_here K94
      rw [show (own_w 36).set 36 (.int (nar .char (52 : Int32))) = own_w 37 by decide +kernel] at V94
      refine own_dup A94 hx (pc' := 401) (hb hby at_400) rfl rfl ?_
      refine own_bipush A94 hx (pc' := 403) (hb hby at_401) (z := (37 : Int32)) (by decide) rfl ?_
      refine own_bipush A94 hx (pc' := 405) (hb hby at_403) (z := (53 : Int32)) (by decide) rfl ?_
      refine own_stC K94 hx V94 (List.mem_of_getElem? (i := 0) rfl) (by decide) 37 rfl (by decide) (hb hby at_405) (pc' := 406) rfl ?_
      intro T95 h95 K95 W95 V95
      have A95 := own_here K95
      rw [show (own_w 37).set 37 (.int (nar .char (53 : Int32))) = own_w 38 by decide +kernel] at V95
      refine own_dup A95 hx (pc' := 407) (hb hby at_406) rfl rfl ?_
      refine own_bipush A95 hx (pc' := 409) (hb hby at_407) (z := (38 : Int32)) (by decide) rfl ?_
      refine own_bipush A95 hx (pc' := 411) (hb hby at_409) (z := (54 : Int32)) (by decide) rfl ?_
      refine own_stC K95 hx V95 (List.mem_of_getElem? (i := 0) rfl) (by decide) 38 rfl (by decide) (hb hby at_411) (pc' := 412) rfl ?_
      intro T96 h96 K96 W96 V96
      have A96 := own_here K96
      rw [show (own_w 38).set 38 (.int (nar .char (54 : Int32))) = own_w 39 by decide +kernel] at V96
      refine own_dup A96 hx (pc' := 413) (hb hby at_412) rfl rfl ?_
      refine own_bipush A96 hx (pc' := 415) (hb hby at_413) (z := (39 : Int32)) (by decide) rfl ?_
      refine own_bipush A96 hx (pc' := 417) (hb hby at_415) (z := (55 : Int32)) (by decide) rfl ?_
      refine own_stC K96 hx V96 (List.mem_of_getElem? (i := 0) rfl) (by decide) 39 rfl (by decide) (hb hby at_417) (pc' := 418) rfl ?_
      intro T97 h97 K97 W97 V97
      have A97 := own_here K97
      rw [show (own_w 39).set 39 (.int (nar .char (55 : Int32))) = own_w 40 by decide +kernel] at V97
      refine own_dup A97 hx (pc' := 419) (hb hby at_418) rfl rfl ?_
      refine own_bipush A97 hx (pc' := 421) (hb hby at_419) (z := (40 : Int32)) (by decide) rfl ?_
      refine own_bipush A97 hx (pc' := 423) (hb hby at_421) (z := (56 : Int32)) (by decide) rfl ?_
      refine own_stC K97 hx V97 (List.mem_of_getElem? (i := 0) rfl) (by decide) 40 rfl (by decide) (hb hby at_423) (pc' := 424) rfl ?_
      intro T98 h98 K98 W98 V98
      have A98 := own_here K98
      rw [show (own_w 40).set 40 (.int (nar .char (56 : Int32))) = own_w 41 by decide +kernel] at V98
      refine own_dup A98 hx (pc' := 425) (hb hby at_424) rfl rfl ?_
      refine own_bipush A98 hx (pc' := 427) (hb hby at_425) (z := (41 : Int32)) (by decide) rfl ?_
      refine own_bipush A98 hx (pc' := 429) (hb hby at_427) (z := (57 : Int32)) (by decide) rfl ?_
      refine own_stC K98 hx V98 (List.mem_of_getElem? (i := 0) rfl) (by decide) 41 rfl (by decide) (hb hby at_429) (pc' := 430) rfl ?_
      intro T99 h99 K99 W99 V99
      have A99 := own_here K99
      rw [show (own_w 41).set 41 (.int (nar .char (57 : Int32))) = own_w 42 by decide +kernel] at V99
      refine own_dup A99 hx (pc' := 431) (hb hby at_430) rfl rfl ?_
      refine own_bipush A99 hx (pc' := 433) (hb hby at_431) (z := (42 : Int32)) (by decide) rfl ?_
      refine own_bipush A99 hx (pc' := 435) (hb hby at_433) (z := (97 : Int32)) (by decide) rfl ?_
      refine own_stC K99 hx V99 (List.mem_of_getElem? (i := 0) rfl) (by decide) 42 rfl (by decide) (hb hby at_435) (pc' := 436) rfl ?_
      intro T100 h100 K100 W100 V100
      have A100 := own_here K100
      rw [show (own_w 42).set 42 (.int (nar .char (97 : Int32))) = own_w 43 by decide +kernel] at V100
      refine own_dup A100 hx (pc' := 437) (hb hby at_436) rfl rfl ?_
      refine own_bipush A100 hx (pc' := 439) (hb hby at_437) (z := (43 : Int32)) (by decide) rfl ?_
      refine own_bipush A100 hx (pc' := 441) (hb hby at_439) (z := (98 : Int32)) (by decide) rfl ?_
      refine own_stC K100 hx V100 (List.mem_of_getElem? (i := 0) rfl) (by decide) 43 rfl (by decide) (hb hby at_441) (pc' := 442) rfl ?_
      intro T101 h101 K101 W101 V101
      have A101 := own_here K101
      rw [show (own_w 43).set 43 (.int (nar .char (98 : Int32))) = own_w 44 by decide +kernel] at V101
      refine own_dup A101 hx (pc' := 443) (hb hby at_442) rfl rfl ?_
      refine own_bipush A101 hx (pc' := 445) (hb hby at_443) (z := (44 : Int32)) (by decide) rfl ?_
      refine own_bipush A101 hx (pc' := 447) (hb hby at_445) (z := (99 : Int32)) (by decide) rfl ?_
      refine own_stC K101 hx V101 (List.mem_of_getElem? (i := 0) rfl) (by decide) 44 rfl (by decide) (hb hby at_447) (pc' := 448) rfl ?_
      intro T102 h102 K102 W102 V102
      have A102 := own_here K102
      rw [show (own_w 44).set 44 (.int (nar .char (99 : Int32))) = own_w 45 by decide +kernel] at V102
      refine own_dup A102 hx (pc' := 449) (hb hby at_448) rfl rfl ?_
      refine own_bipush A102 hx (pc' := 451) (hb hby at_449) (z := (45 : Int32)) (by decide) rfl ?_
      refine own_bipush A102 hx (pc' := 453) (hb hby at_451) (z := (100 : Int32)) (by decide) rfl ?_
      refine own_stC K102 hx V102 (List.mem_of_getElem? (i := 0) rfl) (by decide) 45 rfl (by decide) (hb hby at_453) (pc' := 454) rfl ?_
      intro T103 h103 K103 W103 V103
      have A103 := own_here K103
      rw [show (own_w 45).set 45 (.int (nar .char (100 : Int32))) = own_w 46 by decide +kernel] at V103
      refine own_dup A103 hx (pc' := 455) (hb hby at_454) rfl rfl ?_
      refine own_bipush A103 hx (pc' := 457) (hb hby at_455) (z := (46 : Int32)) (by decide) rfl ?_
      refine own_bipush A103 hx (pc' := 459) (hb hby at_457) (z := (101 : Int32)) (by decide) rfl ?_
      refine own_stC K103 hx V103 (List.mem_of_getElem? (i := 0) rfl) (by decide) 46 rfl (by decide) (hb hby at_459) (pc' := 460) rfl ?_
      intro T104 h104 K104 W104 V104
      have A104 := own_here K104
      rw [show (own_w 46).set 46 (.int (nar .char (101 : Int32))) = own_w 47 by decide +kernel] at V104
      refine own_dup A104 hx (pc' := 461) (hb hby at_460) rfl rfl ?_
      refine own_bipush A104 hx (pc' := 463) (hb hby at_461) (z := (47 : Int32)) (by decide) rfl ?_
      refine own_bipush A104 hx (pc' := 465) (hb hby at_463) (z := (102 : Int32)) (by decide) rfl ?_
      refine own_stC K104 hx V104 (List.mem_of_getElem? (i := 0) rfl) (by decide) 47 rfl (by decide) (hb hby at_465) (pc' := 466) rfl ?_
      intro T105 h105 K105 W105 V105
      have A105 := own_here K105
      rw [show (own_w 47).set 47 (.int (nar .char (102 : Int32))) = own_w 48 by decide +kernel] at V105
      refine own_dup A105 hx (pc' := 467) (hb hby at_466) rfl rfl ?_
      refine own_bipush A105 hx (pc' := 469) (hb hby at_467) (z := (48 : Int32)) (by decide) rfl ?_
      refine own_bipush A105 hx (pc' := 471) (hb hby at_469) (z := (48 : Int32)) (by decide) rfl ?_
      refine own_stC K105 hx V105 (List.mem_of_getElem? (i := 0) rfl) (by decide) 48 rfl (by decide) (hb hby at_471) (pc' := 472) rfl ?_
      intro T106 h106 K106 W106 V106
      have A106 := own_here K106
      rw [show (own_w 48).set 48 (.int (nar .char (48 : Int32))) = own_w 49 by decide +kernel] at V106
      refine own_dup A106 hx (pc' := 473) (hb hby at_472) rfl rfl ?_
      refine own_bipush A106 hx (pc' := 475) (hb hby at_473) (z := (49 : Int32)) (by decide) rfl ?_
      refine own_bipush A106 hx (pc' := 477) (hb hby at_475) (z := (49 : Int32)) (by decide) rfl ?_
      refine own_stC K106 hx V106 (List.mem_of_getElem? (i := 0) rfl) (by decide) 49 rfl (by decide) (hb hby at_477) (pc' := 478) rfl ?_
      intro T107 h107 K107 W107 V107
      have A107 := own_here K107
      rw [show (own_w 49).set 49 (.int (nar .char (49 : Int32))) = own_w 50 by decide +kernel] at V107
      refine own_dup A107 hx (pc' := 479) (hb hby at_478) rfl rfl ?_
      refine own_bipush A107 hx (pc' := 481) (hb hby at_479) (z := (50 : Int32)) (by decide) rfl ?_
      refine own_bipush A107 hx (pc' := 483) (hb hby at_481) (z := (50 : Int32)) (by decide) rfl ?_
      refine own_stC K107 hx V107 (List.mem_of_getElem? (i := 0) rfl) (by decide) 50 rfl (by decide) (hb hby at_483) (pc' := 484) rfl ?_
      intro T108 h108 K108 W108 V108
      have A108 := own_here K108
      rw [show (own_w 50).set 50 (.int (nar .char (50 : Int32))) = own_w 51 by decide +kernel] at V108
      refine own_dup A108 hx (pc' := 485) (hb hby at_484) rfl rfl ?_
      refine own_bipush A108 hx (pc' := 487) (hb hby at_485) (z := (51 : Int32)) (by decide) rfl ?_
      refine own_bipush A108 hx (pc' := 489) (hb hby at_487) (z := (51 : Int32)) (by decide) rfl ?_
      refine own_stC K108 hx V108 (List.mem_of_getElem? (i := 0) rfl) (by decide) 51 rfl (by decide) (hb hby at_489) (pc' := 490) rfl ?_
      intro T109 h109 K109 W109 V109
      have A109 := own_here K109
      rw [show (own_w 51).set 51 (.int (nar .char (51 : Int32))) = own_w 52 by decide +kernel] at V109
      refine own_dup A109 hx (pc' := 491) (hb hby at_490) rfl rfl ?_
      refine own_bipush A109 hx (pc' := 493) (hb hby at_491) (z := (52 : Int32)) (by decide) rfl ?_
      refine own_bipush A109 hx (pc' := 495) (hb hby at_493) (z := (52 : Int32)) (by decide) rfl ?_
      refine own_stC K109 hx V109 (List.mem_of_getElem? (i := 0) rfl) (by decide) 52 rfl (by decide) (hb hby at_495) (pc' := 496) rfl ?_
      intro T110 h110 K110 W110 V110
      have A110 := own_here K110
      rw [show (own_w 52).set 52 (.int (nar .char (52 : Int32))) = own_w 53 by decide +kernel] at V110
      refine own_dup A110 hx (pc' := 497) (hb hby at_496) rfl rfl ?_
      refine own_bipush A110 hx (pc' := 499) (hb hby at_497) (z := (53 : Int32)) (by decide) rfl ?_
      refine own_bipush A110 hx (pc' := 501) (hb hby at_499) (z := (53 : Int32)) (by decide) rfl ?_
      refine own_stC K110 hx V110 (List.mem_of_getElem? (i := 0) rfl) (by decide) 53 rfl (by decide) (hb hby at_501) (pc' := 502) rfl ?_
      intro T111 h111 K111 W111 V111
      have A111 := own_here K111
      rw [show (own_w 53).set 53 (.int (nar .char (53 : Int32))) = own_w 54 by decide +kernel] at V111
      refine own_dup A111 hx (pc' := 503) (hb hby at_502) rfl rfl ?_
      refine own_bipush A111 hx (pc' := 505) (hb hby at_503) (z := (54 : Int32)) (by decide) rfl ?_
      refine own_bipush A111 hx (pc' := 507) (hb hby at_505) (z := (54 : Int32)) (by decide) rfl ?_
      refine own_stC K111 hx V111 (List.mem_of_getElem? (i := 0) rfl) (by decide) 54 rfl (by decide) (hb hby at_507) (pc' := 508) rfl ?_
      intro T112 h112 K112 W112 V112
      have A112 := own_here K112
      rw [show (own_w 54).set 54 (.int (nar .char (54 : Int32))) = own_w 55 by decide +kernel] at V112
      refine own_dup A112 hx (pc' := 509) (hb hby at_508) rfl rfl ?_
      refine own_bipush A112 hx (pc' := 511) (hb hby at_509) (z := (55 : Int32)) (by decide) rfl ?_
      refine own_bipush A112 hx (pc' := 513) (hb hby at_511) (z := (55 : Int32)) (by decide) rfl ?_
      refine own_stC K112 hx V112 (List.mem_of_getElem? (i := 0) rfl) (by decide) 55 rfl (by decide) (hb hby at_513) (pc' := 514) rfl ?_
      intro T113 h113 K113 W113 V113
      have A113 := own_here K113
      rw [show (own_w 55).set 55 (.int (nar .char (55 : Int32))) = own_w 56 by decide +kernel] at V113
      refine own_dup A113 hx (pc' := 515) (hb hby at_514) rfl rfl ?_
      refine own_bipush A113 hx (pc' := 517) (hb hby at_515) (z := (56 : Int32)) (by decide) rfl ?_
      refine own_bipush A113 hx (pc' := 519) (hb hby at_517) (z := (56 : Int32)) (by decide) rfl ?_
      refine own_stC K113 hx V113 (List.mem_of_getElem? (i := 0) rfl) (by decide) 56 rfl (by decide) (hb hby at_519) (pc' := 520) rfl ?_
      intro T114 h114 K114 W114 V114
      have A114 := own_here K114
      rw [show (own_w 56).set 56 (.int (nar .char (56 : Int32))) = own_w 57 by decide +kernel] at V114
      refine own_dup A114 hx (pc' := 521) (hb hby at_520) rfl rfl ?_
      refine own_bipush A114 hx (pc' := 523) (hb hby at_521) (z := (57 : Int32)) (by decide) rfl ?_
      refine own_bipush A114 hx (pc' := 525) (hb hby at_523) (z := (57 : Int32)) (by decide) rfl ?_
      refine own_stC K114 hx V114 (List.mem_of_getElem? (i := 0) rfl) (by decide) 57 rfl (by decide) (hb hby at_525) (pc' := 526) rfl ?_
      intro T115 h115 K115 W115 V115
      have A115 := own_here K115
      rw [show (own_w 57).set 57 (.int (nar .char (57 : Int32))) = own_w 58 by decide +kernel] at V115
      refine own_dup A115 hx (pc' := 527) (hb hby at_526) rfl rfl ?_
      refine own_bipush A115 hx (pc' := 529) (hb hby at_527) (z := (58 : Int32)) (by decide) rfl ?_
      refine own_bipush A115 hx (pc' := 531) (hb hby at_529) (z := (97 : Int32)) (by decide) rfl ?_
      refine own_stC K115 hx V115 (List.mem_of_getElem? (i := 0) rfl) (by decide) 58 rfl (by decide) (hb hby at_531) (pc' := 532) rfl ?_
      intro T116 h116 K116 W116 V116
      have A116 := own_here K116
      rw [show (own_w 58).set 58 (.int (nar .char (97 : Int32))) = own_w 59 by decide +kernel] at V116
      refine own_dup A116 hx (pc' := 533) (hb hby at_532) rfl rfl ?_
      refine own_bipush A116 hx (pc' := 535) (hb hby at_533) (z := (59 : Int32)) (by decide) rfl ?_
      refine own_bipush A116 hx (pc' := 537) (hb hby at_535) (z := (98 : Int32)) (by decide) rfl ?_
      refine own_stC K116 hx V116 (List.mem_of_getElem? (i := 0) rfl) (by decide) 59 rfl (by decide) (hb hby at_537) (pc' := 538) rfl ?_
      intro T117 h117 K117 W117 V117
      have A117 := own_here K117
      rw [show (own_w 59).set 59 (.int (nar .char (98 : Int32))) = own_w 60 by decide +kernel] at V117
      refine own_dup A117 hx (pc' := 539) (hb hby at_538) rfl rfl ?_
      refine own_bipush A117 hx (pc' := 541) (hb hby at_539) (z := (60 : Int32)) (by decide) rfl ?_
      refine own_bipush A117 hx (pc' := 543) (hb hby at_541) (z := (99 : Int32)) (by decide) rfl ?_
      refine own_stC K117 hx V117 (List.mem_of_getElem? (i := 0) rfl) (by decide) 60 rfl (by decide) (hb hby at_543) (pc' := 544) rfl ?_
      intro T118 h118 K118 W118 V118
      have A118 := own_here K118
      rw [show (own_w 60).set 60 (.int (nar .char (99 : Int32))) = own_w 61 by decide +kernel] at V118
      refine own_dup A118 hx (pc' := 545) (hb hby at_544) rfl rfl ?_
      refine own_bipush A118 hx (pc' := 547) (hb hby at_545) (z := (61 : Int32)) (by decide) rfl ?_
      refine own_bipush A118 hx (pc' := 549) (hb hby at_547) (z := (100 : Int32)) (by decide) rfl ?_
      refine own_stC K118 hx V118 (List.mem_of_getElem? (i := 0) rfl) (by decide) 61 rfl (by decide) (hb hby at_549) (pc' := 550) rfl ?_
      intro T119 h119 K119 W119 V119
      have A119 := own_here K119
      rw [show (own_w 61).set 61 (.int (nar .char (100 : Int32))) = own_w 62 by decide +kernel] at V119
      refine own_dup A119 hx (pc' := 551) (hb hby at_550) rfl rfl ?_
      refine own_bipush A119 hx (pc' := 553) (hb hby at_551) (z := (62 : Int32)) (by decide) rfl ?_
      refine own_bipush A119 hx (pc' := 555) (hb hby at_553) (z := (101 : Int32)) (by decide) rfl ?_
      refine own_stC K119 hx V119 (List.mem_of_getElem? (i := 0) rfl) (by decide) 62 rfl (by decide) (hb hby at_555) (pc' := 556) rfl ?_
      intro T120 h120 K120 W120 V120
      have A120 := own_here K120
      rw [show (own_w 62).set 62 (.int (nar .char (101 : Int32))) = own_w 63 by decide +kernel] at V120
      refine own_dup A120 hx (pc' := 557) (hb hby at_556) rfl rfl ?_
      refine own_bipush A120 hx (pc' := 559) (hb hby at_557) (z := (63 : Int32)) (by decide) rfl ?_
      refine own_bipush A120 hx (pc' := 561) (hb hby at_559) (z := (102 : Int32)) (by decide) rfl ?_
      refine own_stC K120 hx V120 (List.mem_of_getElem? (i := 0) rfl) (by decide) 63 rfl (by decide) (hb hby at_561) (pc' := 562) rfl ?_
      intro T121 h121 K121 W121 V121
      have A121 := own_here K121
      rw [show (own_w 63).set 63 (.int (nar .char (102 : Int32))) = own_w 64 by decide +kernel] at V121
      refine own_astore A121 hx (pc' := 564) #[.val (.int i0), .val (.int i1), .val (.int i2), .val (.int c0), .val (.int c1), .val (.int c2), .val (.int sv), .val (.ref b57), .unset] (hb hby at_562) rfl rfl rfl ?_
      refine own_aload A121 hx (pc' := 566) (hb hby at_564) rfl rfl rfl ?_
      refine own_iloadN A121 hx (pc' := 567) (hb hby at_566) rfl rfl ?_
      refine own_bipush A121 hx (pc' := 569) (hb hby at_567) (z := (16 : Int32)) (by decide) rfl ?_
      refine own_iushr A121 hx (pc' := 570) (hb hby at_569) (z := ((i2.toUInt32 >>> ((16 : Int32) &&& 31).toUInt32).toInt32)) rfl rfl ?_
      refine own_bipush A121 hx (pc' := 572) (hb hby at_570) (z := (63 : Int32)) (by decide) rfl ?_
      refine own_iand A121 hx (pc' := 573) (hb hby at_572) (z := (((i2.toUInt32 >>> ((16 : Int32) &&& 31).toUInt32).toInt32) &&& (63 : Int32))) rfl rfl ?_
      refine own_iloadN A121 hx (pc' := 574) (hb hby at_573) rfl rfl ?_
      have hj := own_m63 ((i2.toUInt32 >>> ((16 : Int32) &&& 31).toUInt32).toInt32)
      have hjl := own_cl hj
      refine own_stC K121 hx V121 (List.mem_of_getElem? (i := 0) rfl) hj _ rfl (by show _ < 64; exact hjl) (hb hby at_574) (pc' := 575) rfl ?_
      intro T122 h122 K122 W122 V122
      have A122 := own_here K122
      rw [n0, own_wset] at V122
      refine own_new K122 hx (hw _ (List.mem_of_getElem? (i := 2) rfl)) (hw _ (List.mem_of_getElem? (i := 3) rfl)) (hw _ (List.mem_of_getElem? (i := 4) rfl)) (hb hby at_575) (pc' := 578) rfl (by decide) (by decide) ?_
      intro T123 h123 b123 g123 K123 E123 X123 D123 U123
      have ne_b57_b123 : b57 ≠ b123 := by rw [g123]; exact Nat.ne_of_lt V122.lt
      have V122 := V122.ext E123
      have A123 := own_here K123
      have F_value_b123 := D123 (Or.inr (hw _ (List.mem_of_getElem? (i := 17) rfl))) (ty := (.array .byte)) (by decide)
      have F_coder_b123 := D123 (Or.inr (hw _ (List.mem_of_getElem? (i := 18) rfl))) (ty := .byte) (by decide)
      refine own_dup A123 hx (pc' := 579) (hb hby at_578) rfl rfl ?_
      refine own_aload A123 hx (pc' := 581) (hb hby at_579) rfl rfl rfl ?_
      have hcl : (own_pat.set (((i2.toUInt32 >>> ((16 : Int32) &&& 31).toUInt32).toInt32) &&& (63 : Int32)).toNatClampNeg c0).length = 64 := by rw [List.length_set]; rfl
      rw [show (64 : Int32) = Int32.ofNat (own_pat.set (((i2.toUInt32 >>> ((16 : Int32) &&& 31).toUInt32).toInt32) &&& (63 : Int32)).toNatClampNeg c0).length by rw [hcl]; rfl] at V122
      refine own_callSp K123 hx (by rw [hml]; rfl) rfl (hw _ (List.mem_of_getElem? (i := 5) rfl)) (hw _ (List.mem_of_getElem? (i := 6) rfl)) (hw _ (List.mem_of_getElem? (i := 4) rfl)) (hw _ (List.mem_of_getElem? (i := 7) rfl)) (by decide) (ru_i1 l Z a0 hw [] h123 b123 b57 (own_pat.set (((i2.toUInt32 >>> ((16 : Int32) &&& 31).toUInt32).toInt32) &&& (63 : Int32)).toNatClampNeg c0) k57 _ _ _ G1 O2 P5 U1 U2 U3 X123 F_value_b123 F_coder_b123 V122 ne_b57_b123 (by rw [hcl]; decide) (by rw [hcl]; exact Nat.le_refl _) (fun c hc => by rcases List.mem_or_eq_of_mem_set hc with r | rfl; exact own_patR c r; exact r0)) (own_mem1 (List.mem_of_getElem? (i := 0) rfl)) (argsL := [(.ref b57)]) (rest := [(.ref b123)]) (lenOf pd_15 rfl) rfl 1 (Nat.le_of_eq rfl) (hb hby at_581) (pc' := 584) rfl (by decide) (by decide) (by decide) (by decide) ?_
      intro v124 T124 h124 K124 Kp124 Q124
      obtain ⟨rfl, S124⟩ := Q124
      have V122 := V122.keep Kp124 (ninS ne_b57_b123 nin0)
      have A124 := own_here K124
      show own_Go p.tables e below _ T124 (mkF m 584 #[.val (.int i0), .val (.int i1), .val (.int i2), .val (.int c0), .val (.int c1), .val (.int c2), .val (.int sv), .val (.ref b57), .unset] [(.ref b123)])
      refine own_callS K124 hx (by rw [hml]; rfl) (hw _ (List.mem_of_getElem? (i := 23) rfl)) (hw _ (List.mem_of_getElem? (i := 24) rfl)) (hw _ (List.mem_of_getElem? (i := 25) rfl)) (hw _ (List.mem_of_getElem? (i := 26) rfl)) (by decide) (rm_beg l Z a0 hw [] h124 b123 (own_pat.set (((i2.toUInt32 >>> ((16 : Int32) &&& 31).toUInt32).toInt32) &&& (63 : Int32)).toNatClampNeg c0) G1 O2 P5 U1 U2 U3 G3 O4 hr_G3 S124 (by rw [hcl]; decide)) (fun _ q => nomatch q) (argsL := [(.ref b123)]) (rest := []) (lenOf pd_16 rfl) rfl 0 (Nat.le_of_eq rfl) (hb hby at_584) (pc' := 587) rfl (by decide) (by decide) (by decide) (by decide) ?_
      intro v125 T125 h125 K125 Kp125 Q125
      obtain rfl := Q125
      have V122 := V122.keep Kp125 nin0
      have S124 := S124.keep Kp125 own_off0
      have A125 := own_here K125
      show own_Go p.tables e below _ T125 (mkF m 587 #[.val (.int i0), .val (.int i1), .val (.int i2), .val (.int c0), .val (.int c1), .val (.int c2), .val (.int sv), .val (.ref b57), .unset] [(.int (own_beg (own_pat.set (((i2.toUInt32 >>> ((16 : Int32) &&& 31).toUInt32).toInt32) &&& (63 : Int32)).toNatClampNeg c0)))])
      refine own_iloadN A125 hx (pc' := 588) (hb hby at_587) rfl rfl ?_
      refine own_callS K125 hx (by rw [hml]; rfl) (hw _ (List.mem_of_getElem? (i := 38) rfl)) (hw _ (List.mem_of_getElem? (i := 39) rfl)) (hw _ (List.mem_of_getElem? (i := 40) rfl)) (hw _ (List.mem_of_getElem? (i := 41) rfl)) (by decide) (rm_hex l Z a0 hw [] h125 c0) (fun _ q => nomatch q) (argsL := [(.int c0)]) (rest := [(.int (own_beg (own_pat.set (((i2.toUInt32 >>> ((16 : Int32) &&& 31).toUInt32).toInt32) &&& (63 : Int32)).toNatClampNeg c0)))]) (lenOf pd_17 rfl) rfl 1 (Nat.le_of_eq rfl) (hb hby at_588) (pc' := 591) rfl (by decide) (by decide) (by decide) (by decide) ?_
      intro v126 T126 h126 K126 Kp126 Q126
      obtain ⟨rfl, -⟩ := Q126
      have V122 := V122.keep Kp126 nin0
      have S124 := S124.keep Kp126 own_off0
      have A126 := own_here K126
      show own_Go p.tables e below _ T126 (mkF m 591 #[.val (.int i0), .val (.int i1), .val (.int i2), .val (.int c0), .val (.int c1), .val (.int c2), .val (.int sv), .val (.ref b57), .unset] [(.int (if own_HX c0 then (1 : Int32) else 0)), (.int (own_beg (own_pat.set (((i2.toUInt32 >>> ((16 : Int32) &&& 31).toUInt32).toInt32) &&& (63 : Int32)).toNatClampNeg c0)))])
      refine own_icmp_ne A126 hx 598 594 (hb hby at_591) (by decide) (by decide) rfl (fun hc591 => ?_) (fun hc591 => ?_)
      · exact absurd (own_begset hjl) hc591
      refine own_iconst A126 hx (pc' := 595) (hb hby at_594) (z := (1 : Int32)) (by decide) rfl ?_
      refine own_goto A126 hx 599 (hb hby at_595) (by decide) (by decide) ?_
      exact own_retN K126 hx hlk hret (by simp) (hb hby at_599) (by decide) (by decide) rfl
    · refine own_ldcR (n := 260) (zn := (65 : Int32)) (vs := [(.int (48 : Int32)), (.int (49 : Int32)), (.int (50 : Int32)), (.int (51 : Int32)), (.int (52 : Int32)), (.int (53 : Int32)), (.int (54 : Int32)), (.int (55 : Int32)), (.int (56 : Int32)), (.int (57 : Int32)), (.int (48 : Int32)), (.int (97 : Int32)), (.int (98 : Int32)), (.int (99 : Int32)), (.int (100 : Int32)), (.int (101 : Int32)), (.int (102 : Int32)), (.int (48 : Int32)), (.int (49 : Int32)), (.int (50 : Int32)), (.int (51 : Int32)), (.int (52 : Int32)), (.int (53 : Int32)), (.int (54 : Int32)), (.int (55 : Int32)), (.int (56 : Int32)), (.int (57 : Int32)), (.int (97 : Int32)), (.int (98 : Int32)), (.int (99 : Int32)), (.int (100 : Int32)), (.int (101 : Int32)), (.int (102 : Int32)), (.int (48 : Int32)), (.int (49 : Int32)), (.int (50 : Int32)), (.int (51 : Int32)), (.int (52 : Int32)), (.int (53 : Int32)), (.int (54 : Int32)), (.int (55 : Int32)), (.int (56 : Int32)), (.int (57 : Int32)), (.int (97 : Int32)), (.int (98 : Int32)), (.int (99 : Int32)), (.int (100 : Int32)), (.int (101 : Int32)), (.int (102 : Int32)), (.int (48 : Int32)), (.int (49 : Int32)), (.int (50 : Int32)), (.int (51 : Int32)), (.int (52 : Int32)), (.int (53 : Int32)), (.int (54 : Int32)), (.int (55 : Int32)), (.int (56 : Int32)), (.int (57 : Int32)), (.int (97 : Int32)), (.int (98 : Int32)), (.int (99 : Int32)), (.int (100 : Int32)), (.int (101 : Int32)), (.int (102 : Int32))]) K hx (hw _ (List.mem_of_getElem? (i := 74) rfl)) (own_sa hw) (by decide +kernel) ⟨by decide +kernel, by decide +kernel⟩ (by decide) (by decide) (hb hby at_151) (pc' := 153) rfl (by decide +kernel) (by decide) (by decide) (by decide) ?_
      intro b127 T127 h127 t127 kt127 K127 E127 X127 C127 V127 Y127 N127
      have A127 := own_here K127
      have S127 := own_Str.of0 (cs := [(48 : Int32), (49 : Int32), (50 : Int32), (51 : Int32), (52 : Int32), (53 : Int32), (54 : Int32), (55 : Int32), (56 : Int32), (57 : Int32), (48 : Int32), (97 : Int32), (98 : Int32), (99 : Int32), (100 : Int32), (101 : Int32), (102 : Int32), (48 : Int32), (49 : Int32), (50 : Int32), (51 : Int32), (52 : Int32), (53 : Int32), (54 : Int32), (55 : Int32), (56 : Int32), (57 : Int32), (97 : Int32), (98 : Int32), (99 : Int32), (100 : Int32), (101 : Int32), (102 : Int32), (48 : Int32), (49 : Int32), (50 : Int32), (51 : Int32), (52 : Int32), (53 : Int32), (54 : Int32), (55 : Int32), (56 : Int32), (57 : Int32), (97 : Int32), (98 : Int32), (99 : Int32), (100 : Int32), (101 : Int32), (102 : Int32), (48 : Int32), (49 : Int32), (50 : Int32), (51 : Int32), (52 : Int32), (53 : Int32), (54 : Int32), (55 : Int32), (56 : Int32), (57 : Int32), (97 : Int32), (98 : Int32), (99 : Int32), (100 : Int32), (101 : Int32), (102 : Int32)]) X127 V127 C127 Y127 rfl (by decide +kernel) (by decide +kernel) (by decide)
      refine own_strLen K127 hx (by rw [hml]; rfl) (hw _ (List.mem_of_getElem? (i := 75) rfl)) (hw _ (List.mem_of_getElem? (i := 28) rfl)) (hw _ (List.mem_of_getElem? (i := 30) rfl)) (hw _ (List.mem_of_getElem? (i := 29) rfl)) (own_wl hw) (hw _ (List.mem_of_getElem? (i := 3) rfl)) S127 O2 P5 (lenOf pd_13 rfl) 0 (Nat.le_of_eq rfl) (hb hby at_153) (pc' := 156) rfl (by decide) (by decide) (by decide) (by decide) ?_
      intro T128 K128
      have A128 := own_here K128
      refine own_bipush A128 hx (pc' := 158) (hb hby at_156) (z := (65 : Int32)) (by decide) rfl ?_
      refine own_icmp_ne A128 hx 166 161 (hb hby at_158) (by decide) (by decide) rfl (fun hc158 => ?_) (fun hc158 => ?_)
      · exact absurd (by decide) hc158
      refine own_ldcR (n := 260) (zn := (65 : Int32)) (vs := [(.int (48 : Int32)), (.int (49 : Int32)), (.int (50 : Int32)), (.int (51 : Int32)), (.int (52 : Int32)), (.int (53 : Int32)), (.int (54 : Int32)), (.int (55 : Int32)), (.int (56 : Int32)), (.int (57 : Int32)), (.int (48 : Int32)), (.int (97 : Int32)), (.int (98 : Int32)), (.int (99 : Int32)), (.int (100 : Int32)), (.int (101 : Int32)), (.int (102 : Int32)), (.int (48 : Int32)), (.int (49 : Int32)), (.int (50 : Int32)), (.int (51 : Int32)), (.int (52 : Int32)), (.int (53 : Int32)), (.int (54 : Int32)), (.int (55 : Int32)), (.int (56 : Int32)), (.int (57 : Int32)), (.int (97 : Int32)), (.int (98 : Int32)), (.int (99 : Int32)), (.int (100 : Int32)), (.int (101 : Int32)), (.int (102 : Int32)), (.int (48 : Int32)), (.int (49 : Int32)), (.int (50 : Int32)), (.int (51 : Int32)), (.int (52 : Int32)), (.int (53 : Int32)), (.int (54 : Int32)), (.int (55 : Int32)), (.int (56 : Int32)), (.int (57 : Int32)), (.int (97 : Int32)), (.int (98 : Int32)), (.int (99 : Int32)), (.int (100 : Int32)), (.int (101 : Int32)), (.int (102 : Int32)), (.int (48 : Int32)), (.int (49 : Int32)), (.int (50 : Int32)), (.int (51 : Int32)), (.int (52 : Int32)), (.int (53 : Int32)), (.int (54 : Int32)), (.int (55 : Int32)), (.int (56 : Int32)), (.int (57 : Int32)), (.int (97 : Int32)), (.int (98 : Int32)), (.int (99 : Int32)), (.int (100 : Int32)), (.int (101 : Int32)), (.int (102 : Int32))]) K128 hx (hw _ (List.mem_of_getElem? (i := 74) rfl)) (own_sa hw) (by decide +kernel) ⟨by decide +kernel, by decide +kernel⟩ (by decide) (by decide) (hb hby at_161) (pc' := 163) rfl (by decide +kernel) (by decide) (by decide) (by decide) ?_
      intro b129 T129 h129 t129 kt129 K129 E129 X129 C129 V129 Y129 N129
      have S127 := S127.ext E129
      have A129 := own_here K129
      have S129 := own_Str.of0 (cs := [(48 : Int32), (49 : Int32), (50 : Int32), (51 : Int32), (52 : Int32), (53 : Int32), (54 : Int32), (55 : Int32), (56 : Int32), (57 : Int32), (48 : Int32), (97 : Int32), (98 : Int32), (99 : Int32), (100 : Int32), (101 : Int32), (102 : Int32), (48 : Int32), (49 : Int32), (50 : Int32), (51 : Int32), (52 : Int32), (53 : Int32), (54 : Int32), (55 : Int32), (56 : Int32), (57 : Int32), (97 : Int32), (98 : Int32), (99 : Int32), (100 : Int32), (101 : Int32), (102 : Int32), (48 : Int32), (49 : Int32), (50 : Int32), (51 : Int32), (52 : Int32), (53 : Int32), (54 : Int32), (55 : Int32), (56 : Int32), (57 : Int32), (97 : Int32), (98 : Int32), (99 : Int32), (100 : Int32), (101 : Int32), (102 : Int32), (48 : Int32), (49 : Int32), (50 : Int32), (51 : Int32), (52 : Int32), (53 : Int32), (54 : Int32), (55 : Int32), (56 : Int32), (57 : Int32), (97 : Int32), (98 : Int32), (99 : Int32), (100 : Int32), (101 : Int32), (102 : Int32)]) X129 V129 C129 Y129 rfl (by decide +kernel) (by decide +kernel) (by decide)
      refine own_goto A129 hx 168 (hb hby at_163) (by decide) (by decide) ?_
      refine own_callS K129 hx (by rw [hml]; rfl) (hw _ (List.mem_of_getElem? (i := 23) rfl)) (hw _ (List.mem_of_getElem? (i := 24) rfl)) (hw _ (List.mem_of_getElem? (i := 25) rfl)) (hw _ (List.mem_of_getElem? (i := 26) rfl)) (by decide) (rm_beg l Z a0 hw [] h129 b129 [(48 : Int32), (49 : Int32), (50 : Int32), (51 : Int32), (52 : Int32), (53 : Int32), (54 : Int32), (55 : Int32), (56 : Int32), (57 : Int32), (48 : Int32), (97 : Int32), (98 : Int32), (99 : Int32), (100 : Int32), (101 : Int32), (102 : Int32), (48 : Int32), (49 : Int32), (50 : Int32), (51 : Int32), (52 : Int32), (53 : Int32), (54 : Int32), (55 : Int32), (56 : Int32), (57 : Int32), (97 : Int32), (98 : Int32), (99 : Int32), (100 : Int32), (101 : Int32), (102 : Int32), (48 : Int32), (49 : Int32), (50 : Int32), (51 : Int32), (52 : Int32), (53 : Int32), (54 : Int32), (55 : Int32), (56 : Int32), (57 : Int32), (97 : Int32), (98 : Int32), (99 : Int32), (100 : Int32), (101 : Int32), (102 : Int32), (48 : Int32), (49 : Int32), (50 : Int32), (51 : Int32), (52 : Int32), (53 : Int32), (54 : Int32), (55 : Int32), (56 : Int32), (57 : Int32), (97 : Int32), (98 : Int32), (99 : Int32), (100 : Int32), (101 : Int32), (102 : Int32)] G1 O2 P5 U1 U2 U3 G3 O4 hr_G3 S129 (by decide)) (fun _ q => nomatch q) (argsL := [(.ref b129)]) (rest := []) (lenOf pd_16 rfl) rfl 0 (Nat.le_of_eq rfl) (hb hby at_168) (pc' := 171) rfl (by decide) (by decide) (by decide) (by decide) ?_
      intro v130 T130 h130 K130 Kp130 Q130
      obtain rfl := Q130
      have S127 := S127.keep Kp130 own_off0
      have S129 := S129.keep Kp130 own_off0
      have A130 := own_here K130
      show own_Go p.tables e below _ T130 (mkF m 171 #[.val (.int i0), .val (.int i1), .val (.int i2), .val (.int c0), .val (.int c1), .val (.int c2), .val (.int sv), .unset, .unset] [(.int (own_beg [(48 : Int32), (49 : Int32), (50 : Int32), (51 : Int32), (52 : Int32), (53 : Int32), (54 : Int32), (55 : Int32), (56 : Int32), (57 : Int32), (48 : Int32), (97 : Int32), (98 : Int32), (99 : Int32), (100 : Int32), (101 : Int32), (102 : Int32), (48 : Int32), (49 : Int32), (50 : Int32), (51 : Int32), (52 : Int32), (53 : Int32), (54 : Int32), (55 : Int32), (56 : Int32), (57 : Int32), (97 : Int32), (98 : Int32), (99 : Int32), (100 : Int32), (101 : Int32), (102 : Int32), (48 : Int32), (49 : Int32), (50 : Int32), (51 : Int32), (52 : Int32), (53 : Int32), (54 : Int32), (55 : Int32), (56 : Int32), (57 : Int32), (97 : Int32), (98 : Int32), (99 : Int32), (100 : Int32), (101 : Int32), (102 : Int32), (48 : Int32), (49 : Int32), (50 : Int32), (51 : Int32), (52 : Int32), (53 : Int32), (54 : Int32), (55 : Int32), (56 : Int32), (57 : Int32), (97 : Int32), (98 : Int32), (99 : Int32), (100 : Int32), (101 : Int32), (102 : Int32)]))])
      refine own_if_ne A130 hx 178 174 (hb hby at_171) (by decide) (by decide) rfl (fun hc171 => ?_) (fun hc171 => ?_)
      · exact absurd (by rw [own_beg, if_neg (fun q => absurd q.1 (by decide))]) hc171
      refine own_iconst A130 hx (pc' := 175) (hb hby at_174) (z := (1 : Int32)) (by decide) rfl ?_
      refine own_goto A130 hx 179 (hb hby at_175) (by decide) (by decide) ?_
      exact own_retN K130 hx hlk hret (by simp) (hb hby at_179) (by decide) (by decide) rfl
  · have hs4 : sv = 0 ∨ sv = 1 ∨ sv = 2 ∨ sv = 3 := by rcases hs7 with q | q | q | q | q; exact Or.inl q; exact Or.inr (Or.inl q); exact Or.inr (Or.inr (Or.inl q)); exact Or.inr (Or.inr (Or.inr q)); exact absurd q hc29
    rcases hs4 with q | q | q | q <;> subst q
    · show own_Go p.tables e below _ T (mkF m 32 #[.val (.int i0), .val (.int i1), .val (.int i2), .val (.int c0), .val (.int c1), .val (.int c2), .val (.int (0 : Int32)), .unset, .unset] [])
      refine own_iload A hx (pc' := 34) (hb hby at_32) rfl rfl ?_
      refine own_newarr K hx (hw _ (List.mem_of_getElem? (i := 1) rfl)) (hb hby at_34) (pc' := 36) rfl (by decide) 0 (by decide) (by decide) (by decide) (by decide) ?_
      intro T131 h131 b131 k131 g131 K131 E131 V131
      have A131 := own_here K131
      refine own_astore A131 hx (pc' := 38) #[.val (.int i0), .val (.int i1), .val (.int i2), .val (.int c0), .val (.int c1), .val (.int c2), .val (.int (0 : Int32)), .val (.ref b131), .unset] (hb hby at_36) rfl rfl rfl ?_
      refine own_iload A131 hx (pc' := 40) (hb hby at_38) rfl rfl ?_
      refine own_iconst A131 hx (pc' := 41) (hb hby at_40) (z := (1 : Int32)) (by decide) rfl ?_
      refine own_icmp_lt A131 hx 49 44 (hb hby at_41) (by decide) (by decide) rfl (fun hc41 => ?_) (fun hc41 => ?_)
      rotate_left
      · exact absurd hc41 (by decide)
      refine own_iload A131 hx (pc' := 51) (hb hby at_49) rfl rfl ?_
      refine own_iconst A131 hx (pc' := 52) (hb hby at_51) (z := (2 : Int32)) (by decide) rfl ?_
      refine own_icmp_lt A131 hx 61 55 (hb hby at_52) (by decide) (by decide) rfl (fun hc52 => ?_) (fun hc52 => ?_)
      rotate_left
      · exact absurd hc52 (by decide)
      refine own_iload A131 hx (pc' := 63) (hb hby at_61) rfl rfl ?_
      refine own_iconst A131 hx (pc' := 64) (hb hby at_63) (z := (3 : Int32)) (by decide) rfl ?_
      refine own_icmp_lt A131 hx 73 67 (hb hby at_64) (by decide) (by decide) rfl (fun hc64 => ?_) (fun hc64 => ?_)
      rotate_left
      · exact absurd hc64 (by decide)
      refine own_iload A131 hx (pc' := 75) (hb hby at_73) rfl rfl ?_
      refine own_iconst A131 hx (pc' := 76) (hb hby at_75) (z := (1 : Int32)) (by decide) rfl ?_
      refine own_icmp_lt A131 hx 86 79 (hb hby at_76) (by decide) (by decide) rfl (fun hc76 => ?_) (fun hc76 => ?_)
      rotate_left
      · exact absurd hc76 (by decide)
      refine own_iload A131 hx (pc' := 88) (hb hby at_86) rfl rfl ?_
      refine own_iconst A131 hx (pc' := 89) (hb hby at_88) (z := (2 : Int32)) (by decide) rfl ?_
      refine own_icmp_lt A131 hx 100 92 (hb hby at_89) (by decide) (by decide) rfl (fun hc89 => ?_) (fun hc89 => ?_)
      rotate_left
      · exact absurd hc89 (by decide)
      refine own_iload A131 hx (pc' := 102) (hb hby at_100) rfl rfl ?_
      refine own_iconst A131 hx (pc' := 103) (hb hby at_102) (z := (3 : Int32)) (by decide) rfl ?_
      refine own_icmp_lt A131 hx 114 106 (hb hby at_103) (by decide) (by decide) rfl (fun hc103 => ?_) (fun hc103 => ?_)
      rotate_left
      · exact absurd hc103 (by decide)
      refine own_iconst A131 hx (pc' := 115) (hb hby at_114) (z := (1 : Int32)) (by decide) rfl ?_
      refine own_goto A131 hx 119 (hb hby at_115) (by decide) (by decide) ?_
      refine own_istore A131 hx (pc' := 121) #[.val (.int i0), .val (.int i1), .val (.int i2), .val (.int c0), .val (.int c1), .val (.int c2), .val (.int (0 : Int32)), .val (.ref b131), .val (.int (1 : Int32))] (hb hby at_119) rfl rfl ?_
      refine own_new K131 hx (hw _ (List.mem_of_getElem? (i := 2) rfl)) (hw _ (List.mem_of_getElem? (i := 3) rfl)) (hw _ (List.mem_of_getElem? (i := 4) rfl)) (hb hby at_121) (pc' := 124) rfl (by decide) (by decide) ?_
      intro T132 h132 b132 g132 K132 E132 X132 D132 U132
      have ne_b131_b132 : b131 ≠ b132 := by rw [g132]; exact Nat.ne_of_lt V131.lt
      have V131 := V131.ext E132
      have A132 := own_here K132
      have F_value_b132 := D132 (Or.inr (hw _ (List.mem_of_getElem? (i := 17) rfl))) (ty := (.array .byte)) (by decide)
      have F_coder_b132 := D132 (Or.inr (hw _ (List.mem_of_getElem? (i := 18) rfl))) (ty := .byte) (by decide)
      refine own_dup A132 hx (pc' := 125) (hb hby at_124) rfl rfl ?_
      refine own_aload A132 hx (pc' := 127) (hb hby at_125) rfl rfl rfl ?_
      refine own_callSp K132 hx (by rw [hml]; rfl) rfl (hw _ (List.mem_of_getElem? (i := 5) rfl)) (hw _ (List.mem_of_getElem? (i := 6) rfl)) (hw _ (List.mem_of_getElem? (i := 4) rfl)) (hw _ (List.mem_of_getElem? (i := 7) rfl)) (by decide) (rm_new0 l Z a0 hw [] h132 b132 b131 _ _ _ _ _ X132 F_value_b132 F_coder_b132 V131) (own_mem1 (List.mem_of_getElem? (i := 0) rfl)) (argsL := [(.ref b131)]) (rest := [(.ref b132)]) (lenOf pd_15 rfl) rfl 1 (Nat.le_of_eq rfl) (hb hby at_127) (pc' := 130) rfl (by decide) (by decide) (by decide) (by decide) ?_
      intro v133 T133 h133 K133 Kp133 Q133
      obtain ⟨rfl, E133, C133, t133, kt133, V133, Y133⟩ := Q133
      have X132 := X132.keep Kp133
      have A133 := own_here K133
      show own_Go p.tables e below _ T133 (mkF m 130 #[.val (.int i0), .val (.int i1), .val (.int i2), .val (.int c0), .val (.int c1), .val (.int c2), .val (.int (0 : Int32)), .val (.ref b131), .val (.int (1 : Int32))] [(.ref b132)])
      have S133 := own_Str.of0 (cs := []) E133 V133 C133 Y133 rfl rfl (fun c hc => nomatch hc) (by decide)
      refine own_callS K133 hx (by rw [hml]; rfl) (hw _ (List.mem_of_getElem? (i := 23) rfl)) (hw _ (List.mem_of_getElem? (i := 24) rfl)) (hw _ (List.mem_of_getElem? (i := 25) rfl)) (hw _ (List.mem_of_getElem? (i := 26) rfl)) (by decide) (rm_beg l Z a0 hw [] h133 b132 [] G1 O2 P5 U1 U2 U3 G3 O4 hr_G3 S133 (Nat.le_of_ble_eq_true rfl)) (fun _ q => nomatch q) (argsL := [(.ref b132)]) (rest := []) (lenOf pd_16 rfl) rfl 0 (Nat.le_of_eq rfl) (hb hby at_130) (pc' := 133) rfl (by decide) (by decide) (by decide) (by decide) ?_
      intro v134 T134 h134 K134 Kp134 Q134
      obtain rfl := Q134
      have X132 := X132.keep Kp134
      have S133 := S133.keep Kp134 own_off0
      have A134 := own_here K134
      show own_Go p.tables e below _ T134 (mkF m 133 #[.val (.int i0), .val (.int i1), .val (.int i2), .val (.int c0), .val (.int c1), .val (.int c2), .val (.int (0 : Int32)), .val (.ref b131), .val (.int (1 : Int32))] [(.int (own_beg []))])
      refine own_iload A134 hx (pc' := 135) (hb hby at_133) rfl rfl ?_
      refine own_icmp_ne A134 hx 142 138 (hb hby at_135) (by decide) (by decide) rfl (fun hc135 => ?_) (fun hc135 => ?_)
      · exact absurd (by simp [own_beg]) hc135
      refine own_iconst A134 hx (pc' := 139) (hb hby at_138) (z := (1 : Int32)) (by decide) rfl ?_
      refine own_goto A134 hx 143 (hb hby at_139) (by decide) (by decide) ?_
      exact own_retN K134 hx hlk hret (by simp) (hb hby at_143) (by decide) (by decide) rfl
    · show own_Go p.tables e below _ T (mkF m 32 #[.val (.int i0), .val (.int i1), .val (.int i2), .val (.int c0), .val (.int c1), .val (.int c2), .val (.int (1 : Int32)), .unset, .unset] [])
      refine own_iload A hx (pc' := 34) (hb hby at_32) rfl rfl ?_
      refine own_newarr K hx (hw _ (List.mem_of_getElem? (i := 1) rfl)) (hb hby at_34) (pc' := 36) rfl (by decide) 1 (by decide) (by decide) (by decide) (by decide) ?_
      intro T135 h135 b135 k135 g135 K135 E135 V135
      have A135 := own_here K135
      have V135 : Arv Z h135 b135 k135 .char (1 : Int32) [(.int (0 : Int32))] (.int (0 : Int32)) := V135.pad (pad_rep [] (.int (0 : Int32)) 1)
      refine own_astore A135 hx (pc' := 38) #[.val (.int i0), .val (.int i1), .val (.int i2), .val (.int c0), .val (.int c1), .val (.int c2), .val (.int (1 : Int32)), .val (.ref b135), .unset] (hb hby at_36) rfl rfl rfl ?_
      refine own_iload A135 hx (pc' := 40) (hb hby at_38) rfl rfl ?_
      refine own_iconst A135 hx (pc' := 41) (hb hby at_40) (z := (1 : Int32)) (by decide) rfl ?_
      refine own_icmp_lt A135 hx 49 44 (hb hby at_41) (by decide) (by decide) rfl (fun hc41 => ?_) (fun hc41 => ?_)
      · exact absurd hc41 (by decide)
      refine own_aload A135 hx (pc' := 46) (hb hby at_44) rfl rfl rfl ?_
      refine own_iconst A135 hx (pc' := 47) (hb hby at_46) (z := (0 : Int32)) (by decide) rfl ?_
      refine own_iloadN A135 hx (pc' := 48) (hb hby at_47) rfl rfl ?_
      refine own_stC K135 hx V135 (List.mem_of_getElem? (i := 0) rfl) (by decide) 0 rfl (Nat.le_of_ble_eq_true rfl) (hb hby at_48) (pc' := 49) rfl ?_
      intro T136 h136 K136 W136 V136
      have A136 := own_here K136
      have V136 : Arv Z h136 b135 k135 .char (1 : Int32) [(.int (nar .char c0))] (.int (0 : Int32)) := V136
      refine own_iload A136 hx (pc' := 51) (hb hby at_49) rfl rfl ?_
      refine own_iconst A136 hx (pc' := 52) (hb hby at_51) (z := (2 : Int32)) (by decide) rfl ?_
      refine own_icmp_lt A136 hx 61 55 (hb hby at_52) (by decide) (by decide) rfl (fun hc52 => ?_) (fun hc52 => ?_)
      rotate_left
      · exact absurd hc52 (by decide)
      refine own_iload A136 hx (pc' := 63) (hb hby at_61) rfl rfl ?_
      refine own_iconst A136 hx (pc' := 64) (hb hby at_63) (z := (3 : Int32)) (by decide) rfl ?_
      refine own_icmp_lt A136 hx 73 67 (hb hby at_64) (by decide) (by decide) rfl (fun hc64 => ?_) (fun hc64 => ?_)
      rotate_left
      · exact absurd hc64 (by decide)
      refine own_iload A136 hx (pc' := 75) (hb hby at_73) rfl rfl ?_
      refine own_iconst A136 hx (pc' := 76) (hb hby at_75) (z := (1 : Int32)) (by decide) rfl ?_
      refine own_icmp_lt A136 hx 86 79 (hb hby at_76) (by decide) (by decide) rfl (fun hc76 => ?_) (fun hc76 => ?_)
      · exact absurd hc76 (by decide)
      refine own_iloadN A136 hx (pc' := 80) (hb hby at_79) rfl rfl ?_
      refine own_callS K136 hx (by rw [hml]; rfl) (hw _ (List.mem_of_getElem? (i := 38) rfl)) (hw _ (List.mem_of_getElem? (i := 39) rfl)) (hw _ (List.mem_of_getElem? (i := 40) rfl)) (hw _ (List.mem_of_getElem? (i := 41) rfl)) (by decide) (rm_hex l Z a0 hw [] h136 c0) (fun _ q => nomatch q) (argsL := [(.int c0)]) (rest := []) (lenOf pd_17 rfl) rfl 0 (Nat.le_of_eq rfl) (hb hby at_80) (pc' := 83) rfl (by decide) (by decide) (by decide) (by decide) ?_
      intro v137 T137 h137 K137 Kp137 Q137
      obtain ⟨rfl, -⟩ := Q137
      have V136 := V136.keep Kp137 nin0
      have A137 := own_here K137
      show own_Go p.tables e below _ T137 (mkF m 83 #[.val (.int i0), .val (.int i1), .val (.int i2), .val (.int c0), .val (.int c1), .val (.int c2), .val (.int (1 : Int32)), .val (.ref b135), .unset] [(.int (if own_HX c0 then (1 : Int32) else 0))])
      refine own_if_eq A137 hx 118 86 (hb hby at_83) (by decide) (by decide) rfl (fun hc83 => ?_) (fun hc83 => ?_)
      · refine own_iconst A137 hx (pc' := 119) (hb hby at_118) (z := (0 : Int32)) (by decide) rfl ?_
        refine own_istore A137 hx (pc' := 121) #[.val (.int i0), .val (.int i1), .val (.int i2), .val (.int c0), .val (.int c1), .val (.int c2), .val (.int (1 : Int32)), .val (.ref b135), .val (.int (0 : Int32))] (hb hby at_119) rfl rfl ?_
        refine own_new K137 hx (hw _ (List.mem_of_getElem? (i := 2) rfl)) (hw _ (List.mem_of_getElem? (i := 3) rfl)) (hw _ (List.mem_of_getElem? (i := 4) rfl)) (hb hby at_121) (pc' := 124) rfl (by decide) (by decide) ?_
        intro T138 h138 b138 g138 K138 E138 X138 D138 U138
        have ne_b135_b138 : b135 ≠ b138 := by rw [g138]; exact Nat.ne_of_lt V136.lt
        have V136 := V136.ext E138
        have A138 := own_here K138
        have F_value_b138 := D138 (Or.inr (hw _ (List.mem_of_getElem? (i := 17) rfl))) (ty := (.array .byte)) (by decide)
        have F_coder_b138 := D138 (Or.inr (hw _ (List.mem_of_getElem? (i := 18) rfl))) (ty := .byte) (by decide)
        refine own_dup A138 hx (pc' := 125) (hb hby at_124) rfl rfl ?_
        refine own_aload A138 hx (pc' := 127) (hb hby at_125) rfl rfl rfl ?_
        rw [n0] at V136
        refine own_callSp K138 hx (by rw [hml]; rfl) rfl (hw _ (List.mem_of_getElem? (i := 5) rfl)) (hw _ (List.mem_of_getElem? (i := 6) rfl)) (hw _ (List.mem_of_getElem? (i := 4) rfl)) (hw _ (List.mem_of_getElem? (i := 7) rfl)) (by decide) (ru_i1 l Z a0 hw [] h138 b138 b135 [c0] k135 _ _ _ G1 O2 P5 U1 U2 U3 X138 F_value_b138 F_coder_b138 V136 ne_b135_b138 (Nat.le_of_ble_eq_true rfl) (Nat.le_of_ble_eq_true rfl) (fun c hc => by simp only [List.mem_cons, List.not_mem_nil, or_false] at hc; rcases hc with rfl <;> assumption)) (own_mem1 (List.mem_of_getElem? (i := 0) rfl)) (argsL := [(.ref b135)]) (rest := [(.ref b138)]) (lenOf pd_15 rfl) rfl 1 (Nat.le_of_eq rfl) (hb hby at_127) (pc' := 130) rfl (by decide) (by decide) (by decide) (by decide) ?_
        intro v139 T139 h139 K139 Kp139 Q139
        obtain ⟨rfl, S139⟩ := Q139
        have V136 := V136.keep Kp139 (ninS ne_b135_b138 nin0)
        have A139 := own_here K139
        show own_Go p.tables e below _ T139 (mkF m 130 #[.val (.int i0), .val (.int i1), .val (.int i2), .val (.int c0), .val (.int c1), .val (.int c2), .val (.int (1 : Int32)), .val (.ref b135), .val (.int (0 : Int32))] [(.ref b138)])
        refine own_callS K139 hx (by rw [hml]; rfl) (hw _ (List.mem_of_getElem? (i := 23) rfl)) (hw _ (List.mem_of_getElem? (i := 24) rfl)) (hw _ (List.mem_of_getElem? (i := 25) rfl)) (hw _ (List.mem_of_getElem? (i := 26) rfl)) (by decide) (rm_beg l Z a0 hw [] h139 b138 [c0] G1 O2 P5 U1 U2 U3 G3 O4 hr_G3 S139 (Nat.le_of_ble_eq_true rfl)) (fun _ q => nomatch q) (argsL := [(.ref b138)]) (rest := []) (lenOf pd_16 rfl) rfl 0 (Nat.le_of_eq rfl) (hb hby at_130) (pc' := 133) rfl (by decide) (by decide) (by decide) (by decide) ?_
        intro v140 T140 h140 K140 Kp140 Q140
        obtain rfl := Q140
        have V136 := V136.keep Kp140 nin0
        have S139 := S139.keep Kp140 own_off0
        have A140 := own_here K140
        show own_Go p.tables e below _ T140 (mkF m 133 #[.val (.int i0), .val (.int i1), .val (.int i2), .val (.int c0), .val (.int c1), .val (.int c2), .val (.int (1 : Int32)), .val (.ref b135), .val (.int (0 : Int32))] [(.int (own_beg [c0]))])
        refine own_iload A140 hx (pc' := 135) (hb hby at_133) rfl rfl ?_
        refine own_icmp_ne A140 hx 142 138 (hb hby at_135) (by decide) (by decide) rfl (fun hc135 => ?_) (fun hc135 => ?_)
        · exact absurd (by simp [own_beg, own_if0 hc83]) hc135
        refine own_iconst A140 hx (pc' := 139) (hb hby at_138) (z := (1 : Int32)) (by decide) rfl ?_
        refine own_goto A140 hx 143 (hb hby at_139) (by decide) (by decide) ?_
        exact own_retN K140 hx hlk hret (by simp) (hb hby at_143) (by decide) (by decide) rfl
      · refine own_iload A137 hx (pc' := 88) (hb hby at_86) rfl rfl ?_
        refine own_iconst A137 hx (pc' := 89) (hb hby at_88) (z := (2 : Int32)) (by decide) rfl ?_
        refine own_icmp_lt A137 hx 100 92 (hb hby at_89) (by decide) (by decide) rfl (fun hc89 => ?_) (fun hc89 => ?_)
        rotate_left
        · exact absurd hc89 (by decide)
        refine own_iload A137 hx (pc' := 102) (hb hby at_100) rfl rfl ?_
        refine own_iconst A137 hx (pc' := 103) (hb hby at_102) (z := (3 : Int32)) (by decide) rfl ?_
        refine own_icmp_lt A137 hx 114 106 (hb hby at_103) (by decide) (by decide) rfl (fun hc103 => ?_) (fun hc103 => ?_)
        rotate_left
        · exact absurd hc103 (by decide)
        refine own_iconst A137 hx (pc' := 115) (hb hby at_114) (z := (1 : Int32)) (by decide) rfl ?_
        refine own_goto A137 hx 119 (hb hby at_115) (by decide) (by decide) ?_
        refine own_istore A137 hx (pc' := 121) #[.val (.int i0), .val (.int i1), .val (.int i2), .val (.int c0), .val (.int c1), .val (.int c2), .val (.int (1 : Int32)), .val (.ref b135), .val (.int (1 : Int32))] (hb hby at_119) rfl rfl ?_
        refine own_new K137 hx (hw _ (List.mem_of_getElem? (i := 2) rfl)) (hw _ (List.mem_of_getElem? (i := 3) rfl)) (hw _ (List.mem_of_getElem? (i := 4) rfl)) (hb hby at_121) (pc' := 124) rfl (by decide) (by decide) ?_
        intro T141 h141 b141 g141 K141 E141 X141 D141 U141
        have ne_b135_b141 : b135 ≠ b141 := by rw [g141]; exact Nat.ne_of_lt V136.lt
        have V136 := V136.ext E141
        have A141 := own_here K141
        have F_value_b141 := D141 (Or.inr (hw _ (List.mem_of_getElem? (i := 17) rfl))) (ty := (.array .byte)) (by decide)
        have F_coder_b141 := D141 (Or.inr (hw _ (List.mem_of_getElem? (i := 18) rfl))) (ty := .byte) (by decide)
        refine own_dup A141 hx (pc' := 125) (hb hby at_124) rfl rfl ?_
        refine own_aload A141 hx (pc' := 127) (hb hby at_125) rfl rfl rfl ?_
        rw [n0] at V136
        refine own_callSp K141 hx (by rw [hml]; rfl) rfl (hw _ (List.mem_of_getElem? (i := 5) rfl)) (hw _ (List.mem_of_getElem? (i := 6) rfl)) (hw _ (List.mem_of_getElem? (i := 4) rfl)) (hw _ (List.mem_of_getElem? (i := 7) rfl)) (by decide) (ru_i1 l Z a0 hw [] h141 b141 b135 [c0] k135 _ _ _ G1 O2 P5 U1 U2 U3 X141 F_value_b141 F_coder_b141 V136 ne_b135_b141 (Nat.le_of_ble_eq_true rfl) (Nat.le_of_ble_eq_true rfl) (fun c hc => by simp only [List.mem_cons, List.not_mem_nil, or_false] at hc; rcases hc with rfl <;> assumption)) (own_mem1 (List.mem_of_getElem? (i := 0) rfl)) (argsL := [(.ref b135)]) (rest := [(.ref b141)]) (lenOf pd_15 rfl) rfl 1 (Nat.le_of_eq rfl) (hb hby at_127) (pc' := 130) rfl (by decide) (by decide) (by decide) (by decide) ?_
        intro v142 T142 h142 K142 Kp142 Q142
        obtain ⟨rfl, S142⟩ := Q142
        have V136 := V136.keep Kp142 (ninS ne_b135_b141 nin0)
        have A142 := own_here K142
        show own_Go p.tables e below _ T142 (mkF m 130 #[.val (.int i0), .val (.int i1), .val (.int i2), .val (.int c0), .val (.int c1), .val (.int c2), .val (.int (1 : Int32)), .val (.ref b135), .val (.int (1 : Int32))] [(.ref b141)])
        refine own_callS K142 hx (by rw [hml]; rfl) (hw _ (List.mem_of_getElem? (i := 23) rfl)) (hw _ (List.mem_of_getElem? (i := 24) rfl)) (hw _ (List.mem_of_getElem? (i := 25) rfl)) (hw _ (List.mem_of_getElem? (i := 26) rfl)) (by decide) (rm_beg l Z a0 hw [] h142 b141 [c0] G1 O2 P5 U1 U2 U3 G3 O4 hr_G3 S142 (Nat.le_of_ble_eq_true rfl)) (fun _ q => nomatch q) (argsL := [(.ref b141)]) (rest := []) (lenOf pd_16 rfl) rfl 0 (Nat.le_of_eq rfl) (hb hby at_130) (pc' := 133) rfl (by decide) (by decide) (by decide) (by decide) ?_
        intro v143 T143 h143 K143 Kp143 Q143
        obtain rfl := Q143
        have V136 := V136.keep Kp143 nin0
        have S142 := S142.keep Kp143 own_off0
        have A143 := own_here K143
        show own_Go p.tables e below _ T143 (mkF m 133 #[.val (.int i0), .val (.int i1), .val (.int i2), .val (.int c0), .val (.int c1), .val (.int c2), .val (.int (1 : Int32)), .val (.ref b135), .val (.int (1 : Int32))] [(.int (own_beg [c0]))])
        refine own_iload A143 hx (pc' := 135) (hb hby at_133) rfl rfl ?_
        refine own_icmp_ne A143 hx 142 138 (hb hby at_135) (by decide) (by decide) rfl (fun hc135 => ?_) (fun hc135 => ?_)
        · exact absurd (by simp [own_beg, own_if1 hc83]) hc135
        refine own_iconst A143 hx (pc' := 139) (hb hby at_138) (z := (1 : Int32)) (by decide) rfl ?_
        refine own_goto A143 hx 143 (hb hby at_139) (by decide) (by decide) ?_
        exact own_retN K143 hx hlk hret (by simp) (hb hby at_143) (by decide) (by decide) rfl
    · show own_Go p.tables e below _ T (mkF m 32 #[.val (.int i0), .val (.int i1), .val (.int i2), .val (.int c0), .val (.int c1), .val (.int c2), .val (.int (2 : Int32)), .unset, .unset] [])
      refine own_iload A hx (pc' := 34) (hb hby at_32) rfl rfl ?_
      refine own_newarr K hx (hw _ (List.mem_of_getElem? (i := 1) rfl)) (hb hby at_34) (pc' := 36) rfl (by decide) 2 (by decide) (by decide) (by decide) (by decide) ?_
      intro T144 h144 b144 k144 g144 K144 E144 V144
      have A144 := own_here K144
      have V144 : Arv Z h144 b144 k144 .char (2 : Int32) [(.int (0 : Int32)), (.int (0 : Int32))] (.int (0 : Int32)) := V144.pad (pad_rep [] (.int (0 : Int32)) 2)
      refine own_astore A144 hx (pc' := 38) #[.val (.int i0), .val (.int i1), .val (.int i2), .val (.int c0), .val (.int c1), .val (.int c2), .val (.int (2 : Int32)), .val (.ref b144), .unset] (hb hby at_36) rfl rfl rfl ?_
      refine own_iload A144 hx (pc' := 40) (hb hby at_38) rfl rfl ?_
      refine own_iconst A144 hx (pc' := 41) (hb hby at_40) (z := (1 : Int32)) (by decide) rfl ?_
      refine own_icmp_lt A144 hx 49 44 (hb hby at_41) (by decide) (by decide) rfl (fun hc41 => ?_) (fun hc41 => ?_)
      · exact absurd hc41 (by decide)
      refine own_aload A144 hx (pc' := 46) (hb hby at_44) rfl rfl rfl ?_
      refine own_iconst A144 hx (pc' := 47) (hb hby at_46) (z := (0 : Int32)) (by decide) rfl ?_
      refine own_iloadN A144 hx (pc' := 48) (hb hby at_47) rfl rfl ?_
      refine own_stC K144 hx V144 (List.mem_of_getElem? (i := 0) rfl) (by decide) 0 rfl (Nat.le_of_ble_eq_true rfl) (hb hby at_48) (pc' := 49) rfl ?_
      intro T145 h145 K145 W145 V145
      have A145 := own_here K145
      have V145 : Arv Z h145 b144 k144 .char (2 : Int32) [(.int (nar .char c0)), (.int (0 : Int32))] (.int (0 : Int32)) := V145
      refine own_iload A145 hx (pc' := 51) (hb hby at_49) rfl rfl ?_
      refine own_iconst A145 hx (pc' := 52) (hb hby at_51) (z := (2 : Int32)) (by decide) rfl ?_
      refine own_icmp_lt A145 hx 61 55 (hb hby at_52) (by decide) (by decide) rfl (fun hc52 => ?_) (fun hc52 => ?_)
      · exact absurd hc52 (by decide)
      refine own_aload A145 hx (pc' := 57) (hb hby at_55) rfl rfl rfl ?_
      refine own_iconst A145 hx (pc' := 58) (hb hby at_57) (z := (1 : Int32)) (by decide) rfl ?_
      refine own_iload A145 hx (pc' := 60) (hb hby at_58) rfl rfl ?_
      refine own_stC K145 hx V145 (List.mem_of_getElem? (i := 0) rfl) (by decide) 1 rfl (Nat.le_of_ble_eq_true rfl) (hb hby at_60) (pc' := 61) rfl ?_
      intro T146 h146 K146 W146 V146
      have A146 := own_here K146
      have V146 : Arv Z h146 b144 k144 .char (2 : Int32) [(.int (nar .char c0)), (.int (nar .char c1))] (.int (0 : Int32)) := V146
      refine own_iload A146 hx (pc' := 63) (hb hby at_61) rfl rfl ?_
      refine own_iconst A146 hx (pc' := 64) (hb hby at_63) (z := (3 : Int32)) (by decide) rfl ?_
      refine own_icmp_lt A146 hx 73 67 (hb hby at_64) (by decide) (by decide) rfl (fun hc64 => ?_) (fun hc64 => ?_)
      rotate_left
      · exact absurd hc64 (by decide)
      refine own_iload A146 hx (pc' := 75) (hb hby at_73) rfl rfl ?_
      refine own_iconst A146 hx (pc' := 76) (hb hby at_75) (z := (1 : Int32)) (by decide) rfl ?_
      refine own_icmp_lt A146 hx 86 79 (hb hby at_76) (by decide) (by decide) rfl (fun hc76 => ?_) (fun hc76 => ?_)
      · exact absurd hc76 (by decide)
      refine own_iloadN A146 hx (pc' := 80) (hb hby at_79) rfl rfl ?_
      refine own_callS K146 hx (by rw [hml]; rfl) (hw _ (List.mem_of_getElem? (i := 38) rfl)) (hw _ (List.mem_of_getElem? (i := 39) rfl)) (hw _ (List.mem_of_getElem? (i := 40) rfl)) (hw _ (List.mem_of_getElem? (i := 41) rfl)) (by decide) (rm_hex l Z a0 hw [] h146 c0) (fun _ q => nomatch q) (argsL := [(.int c0)]) (rest := []) (lenOf pd_17 rfl) rfl 0 (Nat.le_of_eq rfl) (hb hby at_80) (pc' := 83) rfl (by decide) (by decide) (by decide) (by decide) ?_
      intro v147 T147 h147 K147 Kp147 Q147
      obtain ⟨rfl, -⟩ := Q147
      have V146 := V146.keep Kp147 nin0
      have A147 := own_here K147
      show own_Go p.tables e below _ T147 (mkF m 83 #[.val (.int i0), .val (.int i1), .val (.int i2), .val (.int c0), .val (.int c1), .val (.int c2), .val (.int (2 : Int32)), .val (.ref b144), .unset] [(.int (if own_HX c0 then (1 : Int32) else 0))])
      refine own_if_eq A147 hx 118 86 (hb hby at_83) (by decide) (by decide) rfl (fun hc83 => ?_) (fun hc83 => ?_)
      · refine own_iconst A147 hx (pc' := 119) (hb hby at_118) (z := (0 : Int32)) (by decide) rfl ?_
        refine own_istore A147 hx (pc' := 121) #[.val (.int i0), .val (.int i1), .val (.int i2), .val (.int c0), .val (.int c1), .val (.int c2), .val (.int (2 : Int32)), .val (.ref b144), .val (.int (0 : Int32))] (hb hby at_119) rfl rfl ?_
        refine own_new K147 hx (hw _ (List.mem_of_getElem? (i := 2) rfl)) (hw _ (List.mem_of_getElem? (i := 3) rfl)) (hw _ (List.mem_of_getElem? (i := 4) rfl)) (hb hby at_121) (pc' := 124) rfl (by decide) (by decide) ?_
        intro T148 h148 b148 g148 K148 E148 X148 D148 U148
        have ne_b144_b148 : b144 ≠ b148 := by rw [g148]; exact Nat.ne_of_lt V146.lt
        have V146 := V146.ext E148
        have A148 := own_here K148
        have F_value_b148 := D148 (Or.inr (hw _ (List.mem_of_getElem? (i := 17) rfl))) (ty := (.array .byte)) (by decide)
        have F_coder_b148 := D148 (Or.inr (hw _ (List.mem_of_getElem? (i := 18) rfl))) (ty := .byte) (by decide)
        refine own_dup A148 hx (pc' := 125) (hb hby at_124) rfl rfl ?_
        refine own_aload A148 hx (pc' := 127) (hb hby at_125) rfl rfl rfl ?_
        rw [n0, n1] at V146
        refine own_callSp K148 hx (by rw [hml]; rfl) rfl (hw _ (List.mem_of_getElem? (i := 5) rfl)) (hw _ (List.mem_of_getElem? (i := 6) rfl)) (hw _ (List.mem_of_getElem? (i := 4) rfl)) (hw _ (List.mem_of_getElem? (i := 7) rfl)) (by decide) (ru_i1 l Z a0 hw [] h148 b148 b144 [c0, c1] k144 _ _ _ G1 O2 P5 U1 U2 U3 X148 F_value_b148 F_coder_b148 V146 ne_b144_b148 (Nat.le_of_ble_eq_true rfl) (Nat.le_of_ble_eq_true rfl) (fun c hc => by simp only [List.mem_cons, List.not_mem_nil, or_false] at hc; rcases hc with rfl | rfl <;> assumption)) (own_mem1 (List.mem_of_getElem? (i := 0) rfl)) (argsL := [(.ref b144)]) (rest := [(.ref b148)]) (lenOf pd_15 rfl) rfl 1 (Nat.le_of_eq rfl) (hb hby at_127) (pc' := 130) rfl (by decide) (by decide) (by decide) (by decide) ?_
        intro v149 T149 h149 K149 Kp149 Q149
        obtain ⟨rfl, S149⟩ := Q149
        have V146 := V146.keep Kp149 (ninS ne_b144_b148 nin0)
        have A149 := own_here K149
        show own_Go p.tables e below _ T149 (mkF m 130 #[.val (.int i0), .val (.int i1), .val (.int i2), .val (.int c0), .val (.int c1), .val (.int c2), .val (.int (2 : Int32)), .val (.ref b144), .val (.int (0 : Int32))] [(.ref b148)])
        refine own_callS K149 hx (by rw [hml]; rfl) (hw _ (List.mem_of_getElem? (i := 23) rfl)) (hw _ (List.mem_of_getElem? (i := 24) rfl)) (hw _ (List.mem_of_getElem? (i := 25) rfl)) (hw _ (List.mem_of_getElem? (i := 26) rfl)) (by decide) (rm_beg l Z a0 hw [] h149 b148 [c0, c1] G1 O2 P5 U1 U2 U3 G3 O4 hr_G3 S149 (Nat.le_of_ble_eq_true rfl)) (fun _ q => nomatch q) (argsL := [(.ref b148)]) (rest := []) (lenOf pd_16 rfl) rfl 0 (Nat.le_of_eq rfl) (hb hby at_130) (pc' := 133) rfl (by decide) (by decide) (by decide) (by decide) ?_
        intro v150 T150 h150 K150 Kp150 Q150
        obtain rfl := Q150
        have V146 := V146.keep Kp150 nin0
        have S149 := S149.keep Kp150 own_off0
        have A150 := own_here K150
        show own_Go p.tables e below _ T150 (mkF m 133 #[.val (.int i0), .val (.int i1), .val (.int i2), .val (.int c0), .val (.int c1), .val (.int c2), .val (.int (2 : Int32)), .val (.ref b144), .val (.int (0 : Int32))] [(.int (own_beg [c0, c1]))])
        refine own_iload A150 hx (pc' := 135) (hb hby at_133) rfl rfl ?_
        refine own_icmp_ne A150 hx 142 138 (hb hby at_135) (by decide) (by decide) rfl (fun hc135 => ?_) (fun hc135 => ?_)
        · exact absurd (by simp [own_beg, own_if0 hc83]) hc135
        refine own_iconst A150 hx (pc' := 139) (hb hby at_138) (z := (1 : Int32)) (by decide) rfl ?_
        refine own_goto A150 hx 143 (hb hby at_139) (by decide) (by decide) ?_
        exact own_retN K150 hx hlk hret (by simp) (hb hby at_143) (by decide) (by decide) rfl
      · refine own_iload A147 hx (pc' := 88) (hb hby at_86) rfl rfl ?_
        refine own_iconst A147 hx (pc' := 89) (hb hby at_88) (z := (2 : Int32)) (by decide) rfl ?_
        refine own_icmp_lt A147 hx 100 92 (hb hby at_89) (by decide) (by decide) rfl (fun hc89 => ?_) (fun hc89 => ?_)
        · exact absurd hc89 (by decide)
        refine own_iload A147 hx (pc' := 94) (hb hby at_92) rfl rfl ?_
        refine own_callS K147 hx (by rw [hml]; rfl) (hw _ (List.mem_of_getElem? (i := 38) rfl)) (hw _ (List.mem_of_getElem? (i := 39) rfl)) (hw _ (List.mem_of_getElem? (i := 40) rfl)) (hw _ (List.mem_of_getElem? (i := 41) rfl)) (by decide) (rm_hex l Z a0 hw [] h147 c1) (fun _ q => nomatch q) (argsL := [(.int c1)]) (rest := []) (lenOf pd_17 rfl) rfl 0 (Nat.le_of_eq rfl) (hb hby at_94) (pc' := 97) rfl (by decide) (by decide) (by decide) (by decide) ?_
        intro v151 T151 h151 K151 Kp151 Q151
        obtain ⟨rfl, -⟩ := Q151
        have V146 := V146.keep Kp151 nin0
        have A151 := own_here K151
        show own_Go p.tables e below _ T151 (mkF m 97 #[.val (.int i0), .val (.int i1), .val (.int i2), .val (.int c0), .val (.int c1), .val (.int c2), .val (.int (2 : Int32)), .val (.ref b144), .unset] [(.int (if own_HX c1 then (1 : Int32) else 0))])
        refine own_if_eq A151 hx 118 100 (hb hby at_97) (by decide) (by decide) rfl (fun hc97 => ?_) (fun hc97 => ?_)
        · refine own_iconst A151 hx (pc' := 119) (hb hby at_118) (z := (0 : Int32)) (by decide) rfl ?_
          refine own_istore A151 hx (pc' := 121) #[.val (.int i0), .val (.int i1), .val (.int i2), .val (.int c0), .val (.int c1), .val (.int c2), .val (.int (2 : Int32)), .val (.ref b144), .val (.int (0 : Int32))] (hb hby at_119) rfl rfl ?_
          refine own_new K151 hx (hw _ (List.mem_of_getElem? (i := 2) rfl)) (hw _ (List.mem_of_getElem? (i := 3) rfl)) (hw _ (List.mem_of_getElem? (i := 4) rfl)) (hb hby at_121) (pc' := 124) rfl (by decide) (by decide) ?_
          intro T152 h152 b152 g152 K152 E152 X152 D152 U152
          have ne_b144_b152 : b144 ≠ b152 := by rw [g152]; exact Nat.ne_of_lt V146.lt
          have V146 := V146.ext E152
          have A152 := own_here K152
          have F_value_b152 := D152 (Or.inr (hw _ (List.mem_of_getElem? (i := 17) rfl))) (ty := (.array .byte)) (by decide)
          have F_coder_b152 := D152 (Or.inr (hw _ (List.mem_of_getElem? (i := 18) rfl))) (ty := .byte) (by decide)
          refine own_dup A152 hx (pc' := 125) (hb hby at_124) rfl rfl ?_
          refine own_aload A152 hx (pc' := 127) (hb hby at_125) rfl rfl rfl ?_
          rw [n0, n1] at V146
          refine own_callSp K152 hx (by rw [hml]; rfl) rfl (hw _ (List.mem_of_getElem? (i := 5) rfl)) (hw _ (List.mem_of_getElem? (i := 6) rfl)) (hw _ (List.mem_of_getElem? (i := 4) rfl)) (hw _ (List.mem_of_getElem? (i := 7) rfl)) (by decide) (ru_i1 l Z a0 hw [] h152 b152 b144 [c0, c1] k144 _ _ _ G1 O2 P5 U1 U2 U3 X152 F_value_b152 F_coder_b152 V146 ne_b144_b152 (Nat.le_of_ble_eq_true rfl) (Nat.le_of_ble_eq_true rfl) (fun c hc => by simp only [List.mem_cons, List.not_mem_nil, or_false] at hc; rcases hc with rfl | rfl <;> assumption)) (own_mem1 (List.mem_of_getElem? (i := 0) rfl)) (argsL := [(.ref b144)]) (rest := [(.ref b152)]) (lenOf pd_15 rfl) rfl 1 (Nat.le_of_eq rfl) (hb hby at_127) (pc' := 130) rfl (by decide) (by decide) (by decide) (by decide) ?_
          intro v153 T153 h153 K153 Kp153 Q153
          obtain ⟨rfl, S153⟩ := Q153
          have V146 := V146.keep Kp153 (ninS ne_b144_b152 nin0)
          have A153 := own_here K153
          show own_Go p.tables e below _ T153 (mkF m 130 #[.val (.int i0), .val (.int i1), .val (.int i2), .val (.int c0), .val (.int c1), .val (.int c2), .val (.int (2 : Int32)), .val (.ref b144), .val (.int (0 : Int32))] [(.ref b152)])
          refine own_callS K153 hx (by rw [hml]; rfl) (hw _ (List.mem_of_getElem? (i := 23) rfl)) (hw _ (List.mem_of_getElem? (i := 24) rfl)) (hw _ (List.mem_of_getElem? (i := 25) rfl)) (hw _ (List.mem_of_getElem? (i := 26) rfl)) (by decide) (rm_beg l Z a0 hw [] h153 b152 [c0, c1] G1 O2 P5 U1 U2 U3 G3 O4 hr_G3 S153 (Nat.le_of_ble_eq_true rfl)) (fun _ q => nomatch q) (argsL := [(.ref b152)]) (rest := []) (lenOf pd_16 rfl) rfl 0 (Nat.le_of_eq rfl) (hb hby at_130) (pc' := 133) rfl (by decide) (by decide) (by decide) (by decide) ?_
          intro v154 T154 h154 K154 Kp154 Q154
          obtain rfl := Q154
          have V146 := V146.keep Kp154 nin0
          have S153 := S153.keep Kp154 own_off0
          have A154 := own_here K154
          show own_Go p.tables e below _ T154 (mkF m 133 #[.val (.int i0), .val (.int i1), .val (.int i2), .val (.int c0), .val (.int c1), .val (.int c2), .val (.int (2 : Int32)), .val (.ref b144), .val (.int (0 : Int32))] [(.int (own_beg [c0, c1]))])
          refine own_iload A154 hx (pc' := 135) (hb hby at_133) rfl rfl ?_
          refine own_icmp_ne A154 hx 142 138 (hb hby at_135) (by decide) (by decide) rfl (fun hc135 => ?_) (fun hc135 => ?_)
          · exact absurd (by simp [own_beg, own_if1 hc83, own_if0 hc97]) hc135
          refine own_iconst A154 hx (pc' := 139) (hb hby at_138) (z := (1 : Int32)) (by decide) rfl ?_
          refine own_goto A154 hx 143 (hb hby at_139) (by decide) (by decide) ?_
          exact own_retN K154 hx hlk hret (by simp) (hb hby at_143) (by decide) (by decide) rfl
        · refine own_iload A151 hx (pc' := 102) (hb hby at_100) rfl rfl ?_
          refine own_iconst A151 hx (pc' := 103) (hb hby at_102) (z := (3 : Int32)) (by decide) rfl ?_
          refine own_icmp_lt A151 hx 114 106 (hb hby at_103) (by decide) (by decide) rfl (fun hc103 => ?_) (fun hc103 => ?_)
          rotate_left
          · exact absurd hc103 (by decide)
          refine own_iconst A151 hx (pc' := 115) (hb hby at_114) (z := (1 : Int32)) (by decide) rfl ?_
          refine own_goto A151 hx 119 (hb hby at_115) (by decide) (by decide) ?_
          refine own_istore A151 hx (pc' := 121) #[.val (.int i0), .val (.int i1), .val (.int i2), .val (.int c0), .val (.int c1), .val (.int c2), .val (.int (2 : Int32)), .val (.ref b144), .val (.int (1 : Int32))] (hb hby at_119) rfl rfl ?_
          refine own_new K151 hx (hw _ (List.mem_of_getElem? (i := 2) rfl)) (hw _ (List.mem_of_getElem? (i := 3) rfl)) (hw _ (List.mem_of_getElem? (i := 4) rfl)) (hb hby at_121) (pc' := 124) rfl (by decide) (by decide) ?_
          intro T155 h155 b155 g155 K155 E155 X155 D155 U155
          have ne_b144_b155 : b144 ≠ b155 := by rw [g155]; exact Nat.ne_of_lt V146.lt
          have V146 := V146.ext E155
          have A155 := own_here K155
          have F_value_b155 := D155 (Or.inr (hw _ (List.mem_of_getElem? (i := 17) rfl))) (ty := (.array .byte)) (by decide)
          have F_coder_b155 := D155 (Or.inr (hw _ (List.mem_of_getElem? (i := 18) rfl))) (ty := .byte) (by decide)
          refine own_dup A155 hx (pc' := 125) (hb hby at_124) rfl rfl ?_
          refine own_aload A155 hx (pc' := 127) (hb hby at_125) rfl rfl rfl ?_
          rw [n0, n1] at V146
          refine own_callSp K155 hx (by rw [hml]; rfl) rfl (hw _ (List.mem_of_getElem? (i := 5) rfl)) (hw _ (List.mem_of_getElem? (i := 6) rfl)) (hw _ (List.mem_of_getElem? (i := 4) rfl)) (hw _ (List.mem_of_getElem? (i := 7) rfl)) (by decide) (ru_i1 l Z a0 hw [] h155 b155 b144 [c0, c1] k144 _ _ _ G1 O2 P5 U1 U2 U3 X155 F_value_b155 F_coder_b155 V146 ne_b144_b155 (Nat.le_of_ble_eq_true rfl) (Nat.le_of_ble_eq_true rfl) (fun c hc => by simp only [List.mem_cons, List.not_mem_nil, or_false] at hc; rcases hc with rfl | rfl <;> assumption)) (own_mem1 (List.mem_of_getElem? (i := 0) rfl)) (argsL := [(.ref b144)]) (rest := [(.ref b155)]) (lenOf pd_15 rfl) rfl 1 (Nat.le_of_eq rfl) (hb hby at_127) (pc' := 130) rfl (by decide) (by decide) (by decide) (by decide) ?_
          intro v156 T156 h156 K156 Kp156 Q156
          obtain ⟨rfl, S156⟩ := Q156
          have V146 := V146.keep Kp156 (ninS ne_b144_b155 nin0)
          have A156 := own_here K156
          show own_Go p.tables e below _ T156 (mkF m 130 #[.val (.int i0), .val (.int i1), .val (.int i2), .val (.int c0), .val (.int c1), .val (.int c2), .val (.int (2 : Int32)), .val (.ref b144), .val (.int (1 : Int32))] [(.ref b155)])
          refine own_callS K156 hx (by rw [hml]; rfl) (hw _ (List.mem_of_getElem? (i := 23) rfl)) (hw _ (List.mem_of_getElem? (i := 24) rfl)) (hw _ (List.mem_of_getElem? (i := 25) rfl)) (hw _ (List.mem_of_getElem? (i := 26) rfl)) (by decide) (rm_beg l Z a0 hw [] h156 b155 [c0, c1] G1 O2 P5 U1 U2 U3 G3 O4 hr_G3 S156 (Nat.le_of_ble_eq_true rfl)) (fun _ q => nomatch q) (argsL := [(.ref b155)]) (rest := []) (lenOf pd_16 rfl) rfl 0 (Nat.le_of_eq rfl) (hb hby at_130) (pc' := 133) rfl (by decide) (by decide) (by decide) (by decide) ?_
          intro v157 T157 h157 K157 Kp157 Q157
          obtain rfl := Q157
          have V146 := V146.keep Kp157 nin0
          have S156 := S156.keep Kp157 own_off0
          have A157 := own_here K157
          show own_Go p.tables e below _ T157 (mkF m 133 #[.val (.int i0), .val (.int i1), .val (.int i2), .val (.int c0), .val (.int c1), .val (.int c2), .val (.int (2 : Int32)), .val (.ref b144), .val (.int (1 : Int32))] [(.int (own_beg [c0, c1]))])
          refine own_iload A157 hx (pc' := 135) (hb hby at_133) rfl rfl ?_
          refine own_icmp_ne A157 hx 142 138 (hb hby at_135) (by decide) (by decide) rfl (fun hc135 => ?_) (fun hc135 => ?_)
          · exact absurd (by simp [own_beg, own_if1 hc83, own_if1 hc97]) hc135
          refine own_iconst A157 hx (pc' := 139) (hb hby at_138) (z := (1 : Int32)) (by decide) rfl ?_
          refine own_goto A157 hx 143 (hb hby at_139) (by decide) (by decide) ?_
          exact own_retN K157 hx hlk hret (by simp) (hb hby at_143) (by decide) (by decide) rfl
    · show own_Go p.tables e below _ T (mkF m 32 #[.val (.int i0), .val (.int i1), .val (.int i2), .val (.int c0), .val (.int c1), .val (.int c2), .val (.int (3 : Int32)), .unset, .unset] [])
      refine own_iload A hx (pc' := 34) (hb hby at_32) rfl rfl ?_
      refine own_newarr K hx (hw _ (List.mem_of_getElem? (i := 1) rfl)) (hb hby at_34) (pc' := 36) rfl (by decide) 3 (by decide) (by decide) (by decide) (by decide) ?_
      intro T158 h158 b158 k158 g158 K158 E158 V158
      have A158 := own_here K158
      have V158 : Arv Z h158 b158 k158 .char (3 : Int32) [(.int (0 : Int32)), (.int (0 : Int32)), (.int (0 : Int32))] (.int (0 : Int32)) := V158.pad (pad_rep [] (.int (0 : Int32)) 3)
      refine own_astore A158 hx (pc' := 38) #[.val (.int i0), .val (.int i1), .val (.int i2), .val (.int c0), .val (.int c1), .val (.int c2), .val (.int (3 : Int32)), .val (.ref b158), .unset] (hb hby at_36) rfl rfl rfl ?_
      refine own_iload A158 hx (pc' := 40) (hb hby at_38) rfl rfl ?_
      refine own_iconst A158 hx (pc' := 41) (hb hby at_40) (z := (1 : Int32)) (by decide) rfl ?_
      refine own_icmp_lt A158 hx 49 44 (hb hby at_41) (by decide) (by decide) rfl (fun hc41 => ?_) (fun hc41 => ?_)
      · exact absurd hc41 (by decide)
      refine own_aload A158 hx (pc' := 46) (hb hby at_44) rfl rfl rfl ?_
      refine own_iconst A158 hx (pc' := 47) (hb hby at_46) (z := (0 : Int32)) (by decide) rfl ?_
      refine own_iloadN A158 hx (pc' := 48) (hb hby at_47) rfl rfl ?_
      refine own_stC K158 hx V158 (List.mem_of_getElem? (i := 0) rfl) (by decide) 0 rfl (Nat.le_of_ble_eq_true rfl) (hb hby at_48) (pc' := 49) rfl ?_
      intro T159 h159 K159 W159 V159
      have A159 := own_here K159
      have V159 : Arv Z h159 b158 k158 .char (3 : Int32) [(.int (nar .char c0)), (.int (0 : Int32)), (.int (0 : Int32))] (.int (0 : Int32)) := V159
      refine own_iload A159 hx (pc' := 51) (hb hby at_49) rfl rfl ?_
      refine own_iconst A159 hx (pc' := 52) (hb hby at_51) (z := (2 : Int32)) (by decide) rfl ?_
      refine own_icmp_lt A159 hx 61 55 (hb hby at_52) (by decide) (by decide) rfl (fun hc52 => ?_) (fun hc52 => ?_)
      · exact absurd hc52 (by decide)
      refine own_aload A159 hx (pc' := 57) (hb hby at_55) rfl rfl rfl ?_
      refine own_iconst A159 hx (pc' := 58) (hb hby at_57) (z := (1 : Int32)) (by decide) rfl ?_
      refine own_iload A159 hx (pc' := 60) (hb hby at_58) rfl rfl ?_
      refine own_stC K159 hx V159 (List.mem_of_getElem? (i := 0) rfl) (by decide) 1 rfl (Nat.le_of_ble_eq_true rfl) (hb hby at_60) (pc' := 61) rfl ?_
      intro T160 h160 K160 W160 V160
      have A160 := own_here K160
      have V160 : Arv Z h160 b158 k158 .char (3 : Int32) [(.int (nar .char c0)), (.int (nar .char c1)), (.int (0 : Int32))] (.int (0 : Int32)) := V160
      refine own_iload A160 hx (pc' := 63) (hb hby at_61) rfl rfl ?_
      refine own_iconst A160 hx (pc' := 64) (hb hby at_63) (z := (3 : Int32)) (by decide) rfl ?_
      refine own_icmp_lt A160 hx 73 67 (hb hby at_64) (by decide) (by decide) rfl (fun hc64 => ?_) (fun hc64 => ?_)
      · exact absurd hc64 (by decide)
      refine own_aload A160 hx (pc' := 69) (hb hby at_67) rfl rfl rfl ?_
      refine own_iconst A160 hx (pc' := 70) (hb hby at_69) (z := (2 : Int32)) (by decide) rfl ?_
      refine own_iload A160 hx (pc' := 72) (hb hby at_70) rfl rfl ?_
      refine own_stC K160 hx V160 (List.mem_of_getElem? (i := 0) rfl) (by decide) 2 rfl (Nat.le_of_ble_eq_true rfl) (hb hby at_72) (pc' := 73) rfl ?_
      intro T161 h161 K161 W161 V161
      have A161 := own_here K161
      have V161 : Arv Z h161 b158 k158 .char (3 : Int32) [(.int (nar .char c0)), (.int (nar .char c1)), (.int (nar .char c2))] (.int (0 : Int32)) := V161
      refine own_iload A161 hx (pc' := 75) (hb hby at_73) rfl rfl ?_
      refine own_iconst A161 hx (pc' := 76) (hb hby at_75) (z := (1 : Int32)) (by decide) rfl ?_
      refine own_icmp_lt A161 hx 86 79 (hb hby at_76) (by decide) (by decide) rfl (fun hc76 => ?_) (fun hc76 => ?_)
      · exact absurd hc76 (by decide)
      refine own_iloadN A161 hx (pc' := 80) (hb hby at_79) rfl rfl ?_
      refine own_callS K161 hx (by rw [hml]; rfl) (hw _ (List.mem_of_getElem? (i := 38) rfl)) (hw _ (List.mem_of_getElem? (i := 39) rfl)) (hw _ (List.mem_of_getElem? (i := 40) rfl)) (hw _ (List.mem_of_getElem? (i := 41) rfl)) (by decide) (rm_hex l Z a0 hw [] h161 c0) (fun _ q => nomatch q) (argsL := [(.int c0)]) (rest := []) (lenOf pd_17 rfl) rfl 0 (Nat.le_of_eq rfl) (hb hby at_80) (pc' := 83) rfl (by decide) (by decide) (by decide) (by decide) ?_
      intro v162 T162 h162 K162 Kp162 Q162
      obtain ⟨rfl, -⟩ := Q162
      have V161 := V161.keep Kp162 nin0
      have A162 := own_here K162
      show own_Go p.tables e below _ T162 (mkF m 83 #[.val (.int i0), .val (.int i1), .val (.int i2), .val (.int c0), .val (.int c1), .val (.int c2), .val (.int (3 : Int32)), .val (.ref b158), .unset] [(.int (if own_HX c0 then (1 : Int32) else 0))])
      refine own_if_eq A162 hx 118 86 (hb hby at_83) (by decide) (by decide) rfl (fun hc83 => ?_) (fun hc83 => ?_)
      · refine own_iconst A162 hx (pc' := 119) (hb hby at_118) (z := (0 : Int32)) (by decide) rfl ?_
        refine own_istore A162 hx (pc' := 121) #[.val (.int i0), .val (.int i1), .val (.int i2), .val (.int c0), .val (.int c1), .val (.int c2), .val (.int (3 : Int32)), .val (.ref b158), .val (.int (0 : Int32))] (hb hby at_119) rfl rfl ?_
        refine own_new K162 hx (hw _ (List.mem_of_getElem? (i := 2) rfl)) (hw _ (List.mem_of_getElem? (i := 3) rfl)) (hw _ (List.mem_of_getElem? (i := 4) rfl)) (hb hby at_121) (pc' := 124) rfl (by decide) (by decide) ?_
        intro T163 h163 b163 g163 K163 E163 X163 D163 U163
        have ne_b158_b163 : b158 ≠ b163 := by rw [g163]; exact Nat.ne_of_lt V161.lt
        have V161 := V161.ext E163
        have A163 := own_here K163
        have F_value_b163 := D163 (Or.inr (hw _ (List.mem_of_getElem? (i := 17) rfl))) (ty := (.array .byte)) (by decide)
        have F_coder_b163 := D163 (Or.inr (hw _ (List.mem_of_getElem? (i := 18) rfl))) (ty := .byte) (by decide)
        refine own_dup A163 hx (pc' := 125) (hb hby at_124) rfl rfl ?_
        refine own_aload A163 hx (pc' := 127) (hb hby at_125) rfl rfl rfl ?_
        rw [n0, n1, n2] at V161
        refine own_callSp K163 hx (by rw [hml]; rfl) rfl (hw _ (List.mem_of_getElem? (i := 5) rfl)) (hw _ (List.mem_of_getElem? (i := 6) rfl)) (hw _ (List.mem_of_getElem? (i := 4) rfl)) (hw _ (List.mem_of_getElem? (i := 7) rfl)) (by decide) (ru_i1 l Z a0 hw [] h163 b163 b158 [c0, c1, c2] k158 _ _ _ G1 O2 P5 U1 U2 U3 X163 F_value_b163 F_coder_b163 V161 ne_b158_b163 (Nat.le_of_ble_eq_true rfl) (Nat.le_of_ble_eq_true rfl) (fun c hc => by simp only [List.mem_cons, List.not_mem_nil, or_false] at hc; rcases hc with rfl | rfl | rfl <;> assumption)) (own_mem1 (List.mem_of_getElem? (i := 0) rfl)) (argsL := [(.ref b158)]) (rest := [(.ref b163)]) (lenOf pd_15 rfl) rfl 1 (Nat.le_of_eq rfl) (hb hby at_127) (pc' := 130) rfl (by decide) (by decide) (by decide) (by decide) ?_
        intro v164 T164 h164 K164 Kp164 Q164
        obtain ⟨rfl, S164⟩ := Q164
        have V161 := V161.keep Kp164 (ninS ne_b158_b163 nin0)
        have A164 := own_here K164
        show own_Go p.tables e below _ T164 (mkF m 130 #[.val (.int i0), .val (.int i1), .val (.int i2), .val (.int c0), .val (.int c1), .val (.int c2), .val (.int (3 : Int32)), .val (.ref b158), .val (.int (0 : Int32))] [(.ref b163)])
        refine own_callS K164 hx (by rw [hml]; rfl) (hw _ (List.mem_of_getElem? (i := 23) rfl)) (hw _ (List.mem_of_getElem? (i := 24) rfl)) (hw _ (List.mem_of_getElem? (i := 25) rfl)) (hw _ (List.mem_of_getElem? (i := 26) rfl)) (by decide) (rm_beg l Z a0 hw [] h164 b163 [c0, c1, c2] G1 O2 P5 U1 U2 U3 G3 O4 hr_G3 S164 (Nat.le_of_ble_eq_true rfl)) (fun _ q => nomatch q) (argsL := [(.ref b163)]) (rest := []) (lenOf pd_16 rfl) rfl 0 (Nat.le_of_eq rfl) (hb hby at_130) (pc' := 133) rfl (by decide) (by decide) (by decide) (by decide) ?_
        intro v165 T165 h165 K165 Kp165 Q165
        obtain rfl := Q165
        have V161 := V161.keep Kp165 nin0
        have S164 := S164.keep Kp165 own_off0
        have A165 := own_here K165
        show own_Go p.tables e below _ T165 (mkF m 133 #[.val (.int i0), .val (.int i1), .val (.int i2), .val (.int c0), .val (.int c1), .val (.int c2), .val (.int (3 : Int32)), .val (.ref b158), .val (.int (0 : Int32))] [(.int (own_beg [c0, c1, c2]))])
        refine own_iload A165 hx (pc' := 135) (hb hby at_133) rfl rfl ?_
        refine own_icmp_ne A165 hx 142 138 (hb hby at_135) (by decide) (by decide) rfl (fun hc135 => ?_) (fun hc135 => ?_)
        · exact absurd (by simp [own_beg, own_if0 hc83]) hc135
        refine own_iconst A165 hx (pc' := 139) (hb hby at_138) (z := (1 : Int32)) (by decide) rfl ?_
        refine own_goto A165 hx 143 (hb hby at_139) (by decide) (by decide) ?_
        exact own_retN K165 hx hlk hret (by simp) (hb hby at_143) (by decide) (by decide) rfl
      · refine own_iload A162 hx (pc' := 88) (hb hby at_86) rfl rfl ?_
        refine own_iconst A162 hx (pc' := 89) (hb hby at_88) (z := (2 : Int32)) (by decide) rfl ?_
        refine own_icmp_lt A162 hx 100 92 (hb hby at_89) (by decide) (by decide) rfl (fun hc89 => ?_) (fun hc89 => ?_)
        · exact absurd hc89 (by decide)
        refine own_iload A162 hx (pc' := 94) (hb hby at_92) rfl rfl ?_
        refine own_callS K162 hx (by rw [hml]; rfl) (hw _ (List.mem_of_getElem? (i := 38) rfl)) (hw _ (List.mem_of_getElem? (i := 39) rfl)) (hw _ (List.mem_of_getElem? (i := 40) rfl)) (hw _ (List.mem_of_getElem? (i := 41) rfl)) (by decide) (rm_hex l Z a0 hw [] h162 c1) (fun _ q => nomatch q) (argsL := [(.int c1)]) (rest := []) (lenOf pd_17 rfl) rfl 0 (Nat.le_of_eq rfl) (hb hby at_94) (pc' := 97) rfl (by decide) (by decide) (by decide) (by decide) ?_
        intro v166 T166 h166 K166 Kp166 Q166
        obtain ⟨rfl, -⟩ := Q166
        have V161 := V161.keep Kp166 nin0
        have A166 := own_here K166
        show own_Go p.tables e below _ T166 (mkF m 97 #[.val (.int i0), .val (.int i1), .val (.int i2), .val (.int c0), .val (.int c1), .val (.int c2), .val (.int (3 : Int32)), .val (.ref b158), .unset] [(.int (if own_HX c1 then (1 : Int32) else 0))])
        refine own_if_eq A166 hx 118 100 (hb hby at_97) (by decide) (by decide) rfl (fun hc97 => ?_) (fun hc97 => ?_)
        · refine own_iconst A166 hx (pc' := 119) (hb hby at_118) (z := (0 : Int32)) (by decide) rfl ?_
          refine own_istore A166 hx (pc' := 121) #[.val (.int i0), .val (.int i1), .val (.int i2), .val (.int c0), .val (.int c1), .val (.int c2), .val (.int (3 : Int32)), .val (.ref b158), .val (.int (0 : Int32))] (hb hby at_119) rfl rfl ?_
          refine own_new K166 hx (hw _ (List.mem_of_getElem? (i := 2) rfl)) (hw _ (List.mem_of_getElem? (i := 3) rfl)) (hw _ (List.mem_of_getElem? (i := 4) rfl)) (hb hby at_121) (pc' := 124) rfl (by decide) (by decide) ?_
          intro T167 h167 b167 g167 K167 E167 X167 D167 U167
          have ne_b158_b167 : b158 ≠ b167 := by rw [g167]; exact Nat.ne_of_lt V161.lt
          have V161 := V161.ext E167
          have A167 := own_here K167
          have F_value_b167 := D167 (Or.inr (hw _ (List.mem_of_getElem? (i := 17) rfl))) (ty := (.array .byte)) (by decide)
          have F_coder_b167 := D167 (Or.inr (hw _ (List.mem_of_getElem? (i := 18) rfl))) (ty := .byte) (by decide)
          refine own_dup A167 hx (pc' := 125) (hb hby at_124) rfl rfl ?_
          refine own_aload A167 hx (pc' := 127) (hb hby at_125) rfl rfl rfl ?_
          rw [n0, n1, n2] at V161
          refine own_callSp K167 hx (by rw [hml]; rfl) rfl (hw _ (List.mem_of_getElem? (i := 5) rfl)) (hw _ (List.mem_of_getElem? (i := 6) rfl)) (hw _ (List.mem_of_getElem? (i := 4) rfl)) (hw _ (List.mem_of_getElem? (i := 7) rfl)) (by decide) (ru_i1 l Z a0 hw [] h167 b167 b158 [c0, c1, c2] k158 _ _ _ G1 O2 P5 U1 U2 U3 X167 F_value_b167 F_coder_b167 V161 ne_b158_b167 (Nat.le_of_ble_eq_true rfl) (Nat.le_of_ble_eq_true rfl) (fun c hc => by simp only [List.mem_cons, List.not_mem_nil, or_false] at hc; rcases hc with rfl | rfl | rfl <;> assumption)) (own_mem1 (List.mem_of_getElem? (i := 0) rfl)) (argsL := [(.ref b158)]) (rest := [(.ref b167)]) (lenOf pd_15 rfl) rfl 1 (Nat.le_of_eq rfl) (hb hby at_127) (pc' := 130) rfl (by decide) (by decide) (by decide) (by decide) ?_
          intro v168 T168 h168 K168 Kp168 Q168
          obtain ⟨rfl, S168⟩ := Q168
          have V161 := V161.keep Kp168 (ninS ne_b158_b167 nin0)
          have A168 := own_here K168
          show own_Go p.tables e below _ T168 (mkF m 130 #[.val (.int i0), .val (.int i1), .val (.int i2), .val (.int c0), .val (.int c1), .val (.int c2), .val (.int (3 : Int32)), .val (.ref b158), .val (.int (0 : Int32))] [(.ref b167)])
          refine own_callS K168 hx (by rw [hml]; rfl) (hw _ (List.mem_of_getElem? (i := 23) rfl)) (hw _ (List.mem_of_getElem? (i := 24) rfl)) (hw _ (List.mem_of_getElem? (i := 25) rfl)) (hw _ (List.mem_of_getElem? (i := 26) rfl)) (by decide) (rm_beg l Z a0 hw [] h168 b167 [c0, c1, c2] G1 O2 P5 U1 U2 U3 G3 O4 hr_G3 S168 (Nat.le_of_ble_eq_true rfl)) (fun _ q => nomatch q) (argsL := [(.ref b167)]) (rest := []) (lenOf pd_16 rfl) rfl 0 (Nat.le_of_eq rfl) (hb hby at_130) (pc' := 133) rfl (by decide) (by decide) (by decide) (by decide) ?_
          intro v169 T169 h169 K169 Kp169 Q169
          obtain rfl := Q169
          have V161 := V161.keep Kp169 nin0
          have S168 := S168.keep Kp169 own_off0
          have A169 := own_here K169
          show own_Go p.tables e below _ T169 (mkF m 133 #[.val (.int i0), .val (.int i1), .val (.int i2), .val (.int c0), .val (.int c1), .val (.int c2), .val (.int (3 : Int32)), .val (.ref b158), .val (.int (0 : Int32))] [(.int (own_beg [c0, c1, c2]))])
          refine own_iload A169 hx (pc' := 135) (hb hby at_133) rfl rfl ?_
          refine own_icmp_ne A169 hx 142 138 (hb hby at_135) (by decide) (by decide) rfl (fun hc135 => ?_) (fun hc135 => ?_)
          · exact absurd (by simp [own_beg, own_if1 hc83, own_if0 hc97]) hc135
          refine own_iconst A169 hx (pc' := 139) (hb hby at_138) (z := (1 : Int32)) (by decide) rfl ?_
          refine own_goto A169 hx 143 (hb hby at_139) (by decide) (by decide) ?_
          exact own_retN K169 hx hlk hret (by simp) (hb hby at_143) (by decide) (by decide) rfl
        · refine own_iload A166 hx (pc' := 102) (hb hby at_100) rfl rfl ?_
          refine own_iconst A166 hx (pc' := 103) (hb hby at_102) (z := (3 : Int32)) (by decide) rfl ?_
          refine own_icmp_lt A166 hx 114 106 (hb hby at_103) (by decide) (by decide) rfl (fun hc103 => ?_) (fun hc103 => ?_)
          · exact absurd hc103 (by decide)
          refine own_iload A166 hx (pc' := 108) (hb hby at_106) rfl rfl ?_
          refine own_callS K166 hx (by rw [hml]; rfl) (hw _ (List.mem_of_getElem? (i := 38) rfl)) (hw _ (List.mem_of_getElem? (i := 39) rfl)) (hw _ (List.mem_of_getElem? (i := 40) rfl)) (hw _ (List.mem_of_getElem? (i := 41) rfl)) (by decide) (rm_hex l Z a0 hw [] h166 c2) (fun _ q => nomatch q) (argsL := [(.int c2)]) (rest := []) (lenOf pd_17 rfl) rfl 0 (Nat.le_of_eq rfl) (hb hby at_108) (pc' := 111) rfl (by decide) (by decide) (by decide) (by decide) ?_
          intro v170 T170 h170 K170 Kp170 Q170
          obtain ⟨rfl, -⟩ := Q170
          have V161 := V161.keep Kp170 nin0
          have A170 := own_here K170
          show own_Go p.tables e below _ T170 (mkF m 111 #[.val (.int i0), .val (.int i1), .val (.int i2), .val (.int c0), .val (.int c1), .val (.int c2), .val (.int (3 : Int32)), .val (.ref b158), .unset] [(.int (if own_HX c2 then (1 : Int32) else 0))])
          refine own_if_eq A170 hx 118 114 (hb hby at_111) (by decide) (by decide) rfl (fun hc111 => ?_) (fun hc111 => ?_)
          · refine own_iconst A170 hx (pc' := 119) (hb hby at_118) (z := (0 : Int32)) (by decide) rfl ?_
            refine own_istore A170 hx (pc' := 121) #[.val (.int i0), .val (.int i1), .val (.int i2), .val (.int c0), .val (.int c1), .val (.int c2), .val (.int (3 : Int32)), .val (.ref b158), .val (.int (0 : Int32))] (hb hby at_119) rfl rfl ?_
            refine own_new K170 hx (hw _ (List.mem_of_getElem? (i := 2) rfl)) (hw _ (List.mem_of_getElem? (i := 3) rfl)) (hw _ (List.mem_of_getElem? (i := 4) rfl)) (hb hby at_121) (pc' := 124) rfl (by decide) (by decide) ?_
            intro T171 h171 b171 g171 K171 E171 X171 D171 U171
            have ne_b158_b171 : b158 ≠ b171 := by rw [g171]; exact Nat.ne_of_lt V161.lt
            have V161 := V161.ext E171
            have A171 := own_here K171
            have F_value_b171 := D171 (Or.inr (hw _ (List.mem_of_getElem? (i := 17) rfl))) (ty := (.array .byte)) (by decide)
            have F_coder_b171 := D171 (Or.inr (hw _ (List.mem_of_getElem? (i := 18) rfl))) (ty := .byte) (by decide)
            refine own_dup A171 hx (pc' := 125) (hb hby at_124) rfl rfl ?_
            refine own_aload A171 hx (pc' := 127) (hb hby at_125) rfl rfl rfl ?_
            rw [n0, n1, n2] at V161
            refine own_callSp K171 hx (by rw [hml]; rfl) rfl (hw _ (List.mem_of_getElem? (i := 5) rfl)) (hw _ (List.mem_of_getElem? (i := 6) rfl)) (hw _ (List.mem_of_getElem? (i := 4) rfl)) (hw _ (List.mem_of_getElem? (i := 7) rfl)) (by decide) (ru_i1 l Z a0 hw [] h171 b171 b158 [c0, c1, c2] k158 _ _ _ G1 O2 P5 U1 U2 U3 X171 F_value_b171 F_coder_b171 V161 ne_b158_b171 (Nat.le_of_ble_eq_true rfl) (Nat.le_of_ble_eq_true rfl) (fun c hc => by simp only [List.mem_cons, List.not_mem_nil, or_false] at hc; rcases hc with rfl | rfl | rfl <;> assumption)) (own_mem1 (List.mem_of_getElem? (i := 0) rfl)) (argsL := [(.ref b158)]) (rest := [(.ref b171)]) (lenOf pd_15 rfl) rfl 1 (Nat.le_of_eq rfl) (hb hby at_127) (pc' := 130) rfl (by decide) (by decide) (by decide) (by decide) ?_
            intro v172 T172 h172 K172 Kp172 Q172
            obtain ⟨rfl, S172⟩ := Q172
            have V161 := V161.keep Kp172 (ninS ne_b158_b171 nin0)
            have A172 := own_here K172
            show own_Go p.tables e below _ T172 (mkF m 130 #[.val (.int i0), .val (.int i1), .val (.int i2), .val (.int c0), .val (.int c1), .val (.int c2), .val (.int (3 : Int32)), .val (.ref b158), .val (.int (0 : Int32))] [(.ref b171)])
            refine own_callS K172 hx (by rw [hml]; rfl) (hw _ (List.mem_of_getElem? (i := 23) rfl)) (hw _ (List.mem_of_getElem? (i := 24) rfl)) (hw _ (List.mem_of_getElem? (i := 25) rfl)) (hw _ (List.mem_of_getElem? (i := 26) rfl)) (by decide) (rm_beg l Z a0 hw [] h172 b171 [c0, c1, c2] G1 O2 P5 U1 U2 U3 G3 O4 hr_G3 S172 (Nat.le_of_ble_eq_true rfl)) (fun _ q => nomatch q) (argsL := [(.ref b171)]) (rest := []) (lenOf pd_16 rfl) rfl 0 (Nat.le_of_eq rfl) (hb hby at_130) (pc' := 133) rfl (by decide) (by decide) (by decide) (by decide) ?_
            intro v173 T173 h173 K173 Kp173 Q173
            obtain rfl := Q173
            have V161 := V161.keep Kp173 nin0
            have S172 := S172.keep Kp173 own_off0
            have A173 := own_here K173
            show own_Go p.tables e below _ T173 (mkF m 133 #[.val (.int i0), .val (.int i1), .val (.int i2), .val (.int c0), .val (.int c1), .val (.int c2), .val (.int (3 : Int32)), .val (.ref b158), .val (.int (0 : Int32))] [(.int (own_beg [c0, c1, c2]))])
            refine own_iload A173 hx (pc' := 135) (hb hby at_133) rfl rfl ?_
            refine own_icmp_ne A173 hx 142 138 (hb hby at_135) (by decide) (by decide) rfl (fun hc135 => ?_) (fun hc135 => ?_)
            · exact absurd (by simp [own_beg, own_if1 hc83, own_if1 hc97, own_if0 hc111]) hc135
            refine own_iconst A173 hx (pc' := 139) (hb hby at_138) (z := (1 : Int32)) (by decide) rfl ?_
            refine own_goto A173 hx 143 (hb hby at_139) (by decide) (by decide) ?_
            exact own_retN K173 hx hlk hret (by simp) (hb hby at_143) (by decide) (by decide) rfl
          · refine own_iconst A170 hx (pc' := 115) (hb hby at_114) (z := (1 : Int32)) (by decide) rfl ?_
            refine own_goto A170 hx 119 (hb hby at_115) (by decide) (by decide) ?_
            refine own_istore A170 hx (pc' := 121) #[.val (.int i0), .val (.int i1), .val (.int i2), .val (.int c0), .val (.int c1), .val (.int c2), .val (.int (3 : Int32)), .val (.ref b158), .val (.int (1 : Int32))] (hb hby at_119) rfl rfl ?_
            refine own_new K170 hx (hw _ (List.mem_of_getElem? (i := 2) rfl)) (hw _ (List.mem_of_getElem? (i := 3) rfl)) (hw _ (List.mem_of_getElem? (i := 4) rfl)) (hb hby at_121) (pc' := 124) rfl (by decide) (by decide) ?_
            intro T174 h174 b174 g174 K174 E174 X174 D174 U174
            have ne_b158_b174 : b158 ≠ b174 := by rw [g174]; exact Nat.ne_of_lt V161.lt
            have V161 := V161.ext E174
            have A174 := own_here K174
            have F_value_b174 := D174 (Or.inr (hw _ (List.mem_of_getElem? (i := 17) rfl))) (ty := (.array .byte)) (by decide)
            have F_coder_b174 := D174 (Or.inr (hw _ (List.mem_of_getElem? (i := 18) rfl))) (ty := .byte) (by decide)
            refine own_dup A174 hx (pc' := 125) (hb hby at_124) rfl rfl ?_
            refine own_aload A174 hx (pc' := 127) (hb hby at_125) rfl rfl rfl ?_
            rw [n0, n1, n2] at V161
            refine own_callSp K174 hx (by rw [hml]; rfl) rfl (hw _ (List.mem_of_getElem? (i := 5) rfl)) (hw _ (List.mem_of_getElem? (i := 6) rfl)) (hw _ (List.mem_of_getElem? (i := 4) rfl)) (hw _ (List.mem_of_getElem? (i := 7) rfl)) (by decide) (ru_i1 l Z a0 hw [] h174 b174 b158 [c0, c1, c2] k158 _ _ _ G1 O2 P5 U1 U2 U3 X174 F_value_b174 F_coder_b174 V161 ne_b158_b174 (Nat.le_of_ble_eq_true rfl) (Nat.le_of_ble_eq_true rfl) (fun c hc => by simp only [List.mem_cons, List.not_mem_nil, or_false] at hc; rcases hc with rfl | rfl | rfl <;> assumption)) (own_mem1 (List.mem_of_getElem? (i := 0) rfl)) (argsL := [(.ref b158)]) (rest := [(.ref b174)]) (lenOf pd_15 rfl) rfl 1 (Nat.le_of_eq rfl) (hb hby at_127) (pc' := 130) rfl (by decide) (by decide) (by decide) (by decide) ?_
            intro v175 T175 h175 K175 Kp175 Q175
            obtain ⟨rfl, S175⟩ := Q175
            have V161 := V161.keep Kp175 (ninS ne_b158_b174 nin0)
            have A175 := own_here K175
            show own_Go p.tables e below _ T175 (mkF m 130 #[.val (.int i0), .val (.int i1), .val (.int i2), .val (.int c0), .val (.int c1), .val (.int c2), .val (.int (3 : Int32)), .val (.ref b158), .val (.int (1 : Int32))] [(.ref b174)])
            refine own_callS K175 hx (by rw [hml]; rfl) (hw _ (List.mem_of_getElem? (i := 23) rfl)) (hw _ (List.mem_of_getElem? (i := 24) rfl)) (hw _ (List.mem_of_getElem? (i := 25) rfl)) (hw _ (List.mem_of_getElem? (i := 26) rfl)) (by decide) (rm_beg l Z a0 hw [] h175 b174 [c0, c1, c2] G1 O2 P5 U1 U2 U3 G3 O4 hr_G3 S175 (Nat.le_of_ble_eq_true rfl)) (fun _ q => nomatch q) (argsL := [(.ref b174)]) (rest := []) (lenOf pd_16 rfl) rfl 0 (Nat.le_of_eq rfl) (hb hby at_130) (pc' := 133) rfl (by decide) (by decide) (by decide) (by decide) ?_
            intro v176 T176 h176 K176 Kp176 Q176
            obtain rfl := Q176
            have V161 := V161.keep Kp176 nin0
            have S175 := S175.keep Kp176 own_off0
            have A176 := own_here K176
            show own_Go p.tables e below _ T176 (mkF m 133 #[.val (.int i0), .val (.int i1), .val (.int i2), .val (.int c0), .val (.int c1), .val (.int c2), .val (.int (3 : Int32)), .val (.ref b158), .val (.int (1 : Int32))] [(.int (own_beg [c0, c1, c2]))])
            refine own_iload A176 hx (pc' := 135) (hb hby at_133) rfl rfl ?_
            refine own_icmp_ne A176 hx 142 138 (hb hby at_135) (by decide) (by decide) rfl (fun hc135 => ?_) (fun hc135 => ?_)
            · exact absurd (by simp [own_beg, own_if1 hc83, own_if1 hc97, own_if1 hc111]) hc135
            refine own_iconst A176 hx (pc' := 139) (hb hby at_138) (z := (1 : Int32)) (by decide) rfl ?_
            refine own_goto A176 hx 143 (hb hby at_139) (by decide) (by decide) ?_
            exact own_retN K176 hx hlk hret (by simp) (hb hby at_143) (by decide) (by decide) rfl
set_option maxRecDepth 65536 in
set_option maxHeartbeats 40000000 in
theorem comes_1 {Post : Tables → Env → Array Value → State → Outcome → State → Prop} (hpost : ∀ tb e args s v u, (limb_1_1.after args s (.returned v) u = true ∧ limb_1_2.after args s (.returned v) u = true ∧ True) → own_End true s (.returned v) u (Jvm.fieldLocs frame_1_writes args s ++ Jvm.arrayLocs frame_1_arrays args s ++ Jvm.staticLocs frame_1_statics s) 24 2688 → Post tb e args s (.returned v) u) :
    ArmFor flags0 classFile x code maxLocals ret World_1 tables_1 room_1 Calls_1 rest_1 Pre_1 Post := by
  intro l hfl _ _ p e ha hc hk s m args below hf hA hF happ hP
  obtain ⟨hcalls, hrest, hpre⟩ := hP
  obtain ⟨-, -, -, hnamed, -, -, -, hat⟩ := (Spec.applies_iff hf).mp happ
  obtain ⟨hg, hn⟩ := and_e (Cond.before_iff.mp (show (Jvm.Cond.and given_1 narrow_1).before args s = true from hpre))
  obtain ⟨g_c, g_r0⟩ := and_e hg
  obtain ⟨g_0, g_r1⟩ := and_e g_r0
  obtain ⟨g_1, g_r2⟩ := and_e g_r1
  obtain ⟨w0, w1, w2, rfl⟩ : ∃ w0 w1 w2 : Value, args = #[w0, w1, w2] := by
    have hs : args.size = 3 := by simpa [Cond.value, given_1] using g_c
    obtain ⟨L⟩ := args
    match L, hs with
    | [w0, w1, w2], _ => exact ⟨w0, w1, w2, rfl⟩
  have hw := fun d (hd : d ∈ tables_1) => atoms_spec (ws := Jvm.Cond.code x code maxLocals ret :: tables_1) hat d (List.mem_cons_of_mem _ hd)
  have hfit : Fit s := fun {y c} hc i hi => by
    obtain ⟨ha, rfl⟩ := Array.getElem?_eq_some_iff.mp hc
    have q := List.all_eq_true.mp ((Array.all_eq_true_iff_forall_mem.mp hF) _ (Array.getElem_mem ha)) i (List.mem_range.mpr hi)
    simpa [Array.getElem?_eq_getElem hi] using q
  obtain ⟨hsets, hown0⟩ := atoms_of _ (rest_1_c_eq ▸ (show rest_1_c.before _ s = true from hrest))
  obtain ⟨i0, ei0⟩ := is_v g_0
  obtain rfl : w0 = (.int i0) := Option.some.inj ei0
  obtain ⟨i1, ei1⟩ := is_v g_1
  obtain rfl : w1 = (.int i1) := Option.some.inj ei1
  obtain ⟨i2, ei2⟩ := is_v g_r2
  obtain rfl : w2 = (.int i2) := Option.some.inj ei2
  have n5 := not_v (Cond.before_iff.mp (hsets _ (List.mem_of_getElem? (i := 2) rfl)))
  obtain ⟨z1, ez1⟩ := is_v (Cond.before_iff.mp (hsets _ (List.mem_of_getElem? (i := 1) rfl)))
  have S12 : Sta s s.heap "java/lang/String" "COMPACT_STRINGS" "Z" (.int z1) := Sta.start ez1 (Or.inl (hsets _ (List.mem_of_getElem? (i := 0) rfl)))
  have c17 : ¬ (z1 = (0 : Int32)) := gotF (Cond.eq_ints ez1 (Term.int_eval (0))) n5
  obtain ⟨v13, e14, r15⟩ := isR_v (Cond.before_iff.mp (hsets _ (List.mem_of_getElem? (i := 8) rfl)))
  have S16 : Sta s s.heap "jdk/internal/util/Preconditions" "SIOOBE_FORMATTER" "Ljava/util/function/BiFunction;" v13 := Sta.start e14 (Or.inl (hsets _ (List.mem_of_getElem? (i := 7) rfl)))
  have SU1 := Sta.start (eqv_i (Term.int_eval (1)) (Cond.before_iff.mp (hsets _ (List.mem_of_getElem? (i := 12) rfl)))) (Or.inl (hsets _ (List.mem_of_getElem? (i := 11) rfl)))
  have SU2 := Sta.start (eqv_i (Term.int_eval (0)) (Cond.before_iff.mp (hsets _ (List.mem_of_getElem? (i := 15) rfl)))) (Or.inl (hsets _ (List.mem_of_getElem? (i := 14) rfl)))
  have SU3 := Sta.start (eqv_i (Term.int_eval (8)) (Cond.before_iff.mp (hsets _ (List.mem_of_getElem? (i := 18) rfl)))) (Or.inl (hsets _ (List.mem_of_getElem? (i := 17) rfl)))
  have hEW : EW s _ consts_1 := (EW.cons (hw _ (List.mem_of_getElem? (i := 74) rfl)) (by decide +kernel) (EW.cons (hw _ (List.mem_of_getElem? (i := 15) rfl)) (by decide +kernel) EW.nil))
  have hCH : CHv s consts_1 s.vm s.heap := CHv.start hEW (fun p hp => hcalls.1 p hp) (hsets _ (List.mem_of_getElem? (i := 2) rfl)) (hw _ (List.mem_of_getElem? (i := 16) rfl)) (hw _ (List.mem_of_getElem? (i := 3) rfl))
  obtain ⟨n, o, h1, h2, h3, v, L, rfl, rfl, hKp, N, hCH, hE⟩ := rm_law l s _ hw tables_1 s.heap i0 i1 i2 z1 S12 c17 SU1 SU2 SU3 v13 S16 r15 p e ha hc hk s m _ below hf ((Spec.applies_iff_loose hf).mp happ).1 ⟨rfl, State.Warmed39.refl s, rfl, ⟨Nat.le_refl _, fun _ _ q => q⟩, hEW, hCH, fun _ q => nomatch q⟩ (fun q => by cases q)
  refine ⟨n, _, h1, h2, h3, hpost _ _ _ _ _ _ ⟨Cond.after_iff.mpr rfl, Cond.after_iff.mpr (eq_i res_at (Term.int_eval (1)) rfl), trivial⟩ ⟨fun _ => ⟨(hE.1 rfl).1, (hE.1 rfl).2.1, (hE.1 rfl).2.2.1, ((hE.1 rfl).2.2.2.sift fun y hy => Or.inr (N y hy)).mono (by decide) (by decide)⟩, (fun q => by cases q)⟩⟩
theorem main_1_1 : Claimed_1_1 := comes_1 fun _ _ _ _ _ _ h hF => ⟨h.1, hF.1 rfl⟩
theorem main_1_2 : Claimed_1_2 := comes_1 fun _ _ _ _ _ _ h hF => ⟨h.2.1, hF.1 rfl⟩

end Jvm.Pilot.@@N@@
namespace Jvm.Pilot.@@N@@
open Jvm Jvm.ClassFile Sem Op Lib Jvm.Free Jvm.Stand Jvm.Pilot.@@N@@.Jvm.D
/-! MADE BY PROGRAM (witnessworld.py) out of the Statement's table words and the real class files: 20 classes; the members and pool entries that the words name. The judged class is class 1, her method 2. -/
namespace start1
open Jvm.ClassFile
def u (s : String) : CpInfo := .utf8 (stringToUtf16 s)
/-- a pool by its gaps: so many unusable entries, then the entry; so many at the end -/
def gap : Nat → List CpInfo → List CpInfo
  | 0, r => r
  | n + 1, r => .unusable :: gap n r
def poolList (es : List (Nat × CpInfo)) (last : Nat) : List CpInfo := es.foldr (fun e r => gap e.1 (e.2 :: r)) (gap last [])
def pool (es : List (Nat × CpInfo)) (last : Nat) : Array CpInfo := ⟨poolList es last⟩
def fileOf (pool : Array CpInfo) (this : Nat) (attrs : Array Attribute := #[]) (ms : Array MethodInfo := #[]) (fl : Nat := 33) (sup : Nat := 0) (ifs : Array Nat := #[]) (fds : Array FieldInfo := #[]) : ClassFile where
  minorVersion := 0
  majorVersion := 65
  constantPool := pool
  accessFlags := fl
  thisClass := this
  superClass := sup
  interfaces := ifs
  fields := fds
  methods := ms
  attributes := attrs
def plain (name : String) (sup : Option ClassId) : Class where
  name := name
  kind := .ordinary
  loader := none
  accessFlags := 33
  super := sup
  interfaces := #[]
  cf := none
  fields := #[]
  methods := #[]
  instanceTypes := #[]
  staticTypes := #[]
  resolved := #[]
  callSites := []
  init := .initialized
  statics := none
  mirror := none

def pool0 : Array CpInfo := pool [(5, u "<init>"), (0, u "()V"), (1, .class_ 10), (1, u "java/lang/Object")] 113

def k0c0 : Code := { maxStack := 0, maxLocals := 1, code := object_method_1_code, exceptionTable := #[], attributes := #[] }
def k0m0 : Method := { name := "<init>", desc := "()V", sig := { parameters := [], returnType := none }, accessFlags := 1, code := some k0c0 }
/-- java/lang/Object -/
def k0 : Class := { plain "java/lang/Object" none with
  accessFlags := 33
  interfaces := #[]
  cf := some (fileOf pool0 8 #[] #[{ accessFlags := 1, nameIndex := 5, descriptorIndex := 6, attributes := #[] }] 33 0 #[] #[])
  fields := #[]
  methods := #[k0m0]
  instanceTypes := #[]
  staticTypes := #[]
  resolved := Array.replicate 124 none
  statics := none }

def pool1 : Array CpInfo := pool [(2, .class_ 4), (1, u "java/lang/Object"), (0, u "<init>"), (0, u "()V"), (0, .integer 65535), (0, .methodref 9 10), (0, .class_ 11), (0, .nameAndType 12 13), (0, u "com/example/kustody/kustody/Sha256IsBegunPinLaw"), (0, u "hexDigit"), (0, u "(C)Z"), (0, .class_ 15), (0, u "java/lang/String"), (0, .methodref 14 17), (0, .nameAndType 5 18), (0, u "([C)V"), (0, .methodref 20 21), (0, .class_ 22), (0, .nameAndType 23 24), (0, u "com/example/kustody/kustody/Sha256"), (0, u "isBegun"), (0, u "(Ljava/lang/String;)Z"), (0, .string 26), (0, u "01234567890abcdef0123456789abcdef0123456789abcdef0123456789abcdef"), (0, .methodref 14 28), (0, .nameAndType 29 30), (0, u "length"), (0, u "()I"), (5, u "law"), (0, u "(III)Z")] 4

def k1m0 : Method := { name := "<init>", desc := "()V", sig := { parameters := [], returnType := none }, accessFlags := 1, code := none }
def k1c1 : Code := { maxStack := 2, maxLocals := 1, code := method_2_code, exceptionTable := #[], attributes := #[] }
def k1m1 : Method := { name := "hexDigit", desc := "(C)Z", sig := { parameters := [.char], returnType := some .boolean }, accessFlags := 10, code := some k1c1 }
def k1c2 : Code := { maxStack := 4, maxLocals := 9, code := code, exceptionTable := #[], attributes := #[] }
def k1m2 : Method := { name := "law", desc := "(III)Z", sig := { parameters := [.int, .int, .int], returnType := some .boolean }, accessFlags := 9, code := some k1c2 }
/-- com/example/kustody/kustody/Sha256IsBegunPinLaw -/
def k1 : Class := { plain "com/example/kustody/kustody/Sha256IsBegunPinLaw" (some 0) with
  accessFlags := 49
  interfaces := #[]
  cf := some (fileOf pool1 9 #[] #[{ accessFlags := 1, nameIndex := 5, descriptorIndex := 6, attributes := #[] }, { accessFlags := 10, nameIndex := 12, descriptorIndex := 13, attributes := #[] }, { accessFlags := 9, nameIndex := 36, descriptorIndex := 37, attributes := #[] }] 49 2 #[] #[])
  fields := #[]
  methods := #[k1m0, k1m1, k1m2]
  instanceTypes := #[]
  staticTypes := #[]
  resolved := Array.replicate 42 none
  statics := none }

def pool2 : Array CpInfo := pool [(1, .class_ 2), (0, u "java/io/Serializable"), (0, .class_ 4), (0, u "java/lang/Object")] 2

/-- java/io/Serializable -/
def k2 : Class := { plain "java/io/Serializable" (some 0) with
  accessFlags := 1537
  interfaces := #[]
  cf := some (fileOf pool2 1 #[] #[] 1537 3 #[] #[])
  fields := #[]
  methods := #[]
  instanceTypes := #[]
  staticTypes := #[]
  resolved := Array.replicate 7 none
  statics := none }

def pool3 : Array CpInfo := pool [(1, .class_ 2), (0, u "java/lang/Comparable"), (0, .class_ 4), (0, u "java/lang/Object")] 7

/-- java/lang/Comparable -/
def k3 : Class := { plain "java/lang/Comparable" (some 0) with
  accessFlags := 1537
  interfaces := #[]
  cf := some (fileOf pool3 1 #[] #[] 1537 3 #[] #[])
  fields := #[]
  methods := #[]
  instanceTypes := #[]
  staticTypes := #[]
  resolved := Array.replicate 12 none
  statics := none }

def pool4 : Array CpInfo := pool [(2, .class_ 4), (1, u "java/lang/CharSequence"), (42, .class_ 48), (0, u "java/lang/CharSequence$1CodePointIterator"), (10, .class_ 60), (0, u "java/lang/CharSequence$1CharIterator"), (5, .class_ 67), (0, u "java/lang/Object")] 63

/-- java/lang/CharSequence -/
def k4 : Class := { plain "java/lang/CharSequence" (some 0) with
  accessFlags := 1537
  interfaces := #[]
  cf := some (fileOf pool4 2 #[.nestMembers #[47, 59]] #[] 1537 66 #[] #[])
  fields := #[]
  methods := #[]
  instanceTypes := #[]
  staticTypes := #[]
  resolved := Array.replicate 131 none
  statics := none }

def pool5 : Array CpInfo := pool [(1, .class_ 2), (0, u "java/lang/constant/Constable"), (0, .class_ 4), (0, u "java/lang/Object")] 6

/-- java/lang/constant/Constable -/
def k5 : Class := { plain "java/lang/constant/Constable" (some 0) with
  accessFlags := 1537
  interfaces := #[]
  cf := some (fileOf pool5 1 #[] #[] 1537 3 #[] #[])
  fields := #[]
  methods := #[]
  instanceTypes := #[]
  staticTypes := #[]
  resolved := Array.replicate 11 none
  statics := none }

def pool6 : Array CpInfo := pool [(1, .class_ 2), (0, u "java/lang/constant/ConstantDesc"), (0, .class_ 4), (0, u "java/lang/Object")] 32

/-- java/lang/constant/ConstantDesc -/
def k6 : Class := { plain "java/lang/constant/ConstantDesc" (some 0) with
  accessFlags := 1537
  interfaces := #[]
  cf := some (fileOf pool6 1 #[] #[] 1537 3 #[] #[])
  fields := #[]
  methods := #[]
  instanceTypes := #[]
  staticTypes := #[]
  resolved := Array.replicate 37 none
  statics := none }

def pool7 : Array CpInfo := pool [(1, .methodref 2 3), (0, .class_ 4), (0, .nameAndType 5 6), (0, u "java/lang/Object"), (0, u "<init>"), (0, u "()V"), (0, .string 8), (0, u ""), (0, .fieldref 10 11), (0, .class_ 12), (0, .nameAndType 13 14), (0, u "java/lang/String"), (0, u "value"), (0, u "[B"), (0, .fieldref 10 16), (0, .nameAndType 17 18), (0, u "coder"), (0, u "B"), (2, u "hash"), (0, u "I"), (2, u "hashIsZero"), (0, u "Z"), (0, .methodref 10 28), (0, .nameAndType 5 29), (0, u "([CIILjava/lang/Void;)V"), (8, .fieldref 10 39), (0, .nameAndType 40 26), (0, u "COMPACT_STRINGS"), (1, .class_ 44), (1, u "java/lang/StringUTF16"), (0, u "compress"), (1, .methodref 42 48), (0, .nameAndType 49 50), (0, u "coderFromArrayLen"), (0, u "([BI)B"), (56, .class_ 109), (1, u "java/lang/StringLatin1"), (32, u "()Z"), (34, .methodref 42 178), (0, .nameAndType 45 179), (0, u "([CII)[B"), (154, u "()I"), (0, .methodref 10 336), (0, .nameAndType 17 337), (0, u "()B"), (25, u "([BI)C"), (27, u "(II)V"), (35, u "(I)C"), (64, .methodref 10 493), (0, .nameAndType 494 142), (0, u "isLatin1"), (0, .methodref 107 496), (0, .nameAndType 497 363), (0, u "charAt"), (0, .methodref 42 496), (2, u "checkIndex"), (5, u "length"), (67, .class_ 576), (0, u "java/lang/CharSequence"), (22, u "CASE_INSENSITIVE_ORDER"), (0, u "Ljava/util/Comparator;"), (409, u "([C)V"), (42, .fieldref 1054 1055), (0, .class_ 1056), (0, .nameAndType 1057 1058), (0, u "jdk/internal/util/Preconditions"), (0, u "SIOOBE_FORMATTER"), (0, u "Ljava/util/function/BiFunction;"), (0, .methodref 1054 1060), (0, .nameAndType 501 1061), (0, u "(IILjava/util/function/BiFunction;)I"), (39, u "serialPersistentFields"), (0, u "[Ljava/io/ObjectStreamField;"), (0, .class_ 1104), (0, u "java/lang/String$CaseInsensitiveComparator"), (1, .class_ 1107), (0, u "java/io/Serializable"), (0, .class_ 1109), (0, u "java/lang/Comparable"), (0, .class_ 1111), (0, u "java/lang/constant/Constable"), (0, .class_ 1113), (0, u "java/lang/constant/ConstantDesc"), (2, u "serialVersionUID"), (0, u "J"), (3, u "REPL"), (0, u "C"), (2, u "LATIN1"), (1, u "UTF16")] 323

def k7m0 : Method := { name := "<init>", desc := "()V", sig := { parameters := [], returnType := none }, accessFlags := 1, code := none }
def k7c1 : Code := { maxStack := 5, maxLocals := 2, code := jdk_42_method_3_code, exceptionTable := #[], attributes := #[] }
def k7m1 : Method := { name := "<init>", desc := "([C)V", sig := { parameters := [(.array .char)], returnType := none }, accessFlags := 1, code := some k7c1 }
def k7c2 : Code := { maxStack := 2, maxLocals := 1, code := jdk_42_method_54_code, exceptionTable := #[], attributes := #[] }
def k7m2 : Method := { name := "length", desc := "()I", sig := { parameters := [], returnType := some .int }, accessFlags := 1, code := some k7c2 }
def k7c3 : Code := { maxStack := 2, maxLocals := 2, code := jdk_42_method_56_code, exceptionTable := #[], attributes := #[] }
def k7m3 : Method := { name := "charAt", desc := "(I)C", sig := { parameters := [.int], returnType := some .char }, accessFlags := 1, code := some k7c3 }
def k7c4 : Code := { maxStack := 4, maxLocals := 6, code := jdk_42_method_149_code, exceptionTable := #[], attributes := #[] }
def k7m4 : Method := { name := "<init>", desc := "([CIILjava/lang/Void;)V", sig := { parameters := [(.array .char), .int, .int, (.object "java/lang/Void")], returnType := none }, accessFlags := 2, code := some k7c4 }
def k7c5 : Code := { maxStack := 1, maxLocals := 1, code := jdk_42_method_152_code, exceptionTable := #[], attributes := #[] }
def k7m5 : Method := { name := "coder", desc := "()B", sig := { parameters := [], returnType := some .byte }, accessFlags := 0, code := some k7c5 }
def k7c6 : Code := { maxStack := 1, maxLocals := 1, code := jdk_42_method_154_code, exceptionTable := #[], attributes := #[] }
def k7m6 : Method := { name := "isLatin1", desc := "()Z", sig := { parameters := [], returnType := some .boolean }, accessFlags := 0, code := some k7c6 }
def k7c7 : Code := { maxStack := 3, maxLocals := 2, code := jdk_42_method_155_code, exceptionTable := #[], attributes := #[] }
def k7m7 : Method := { name := "checkIndex", desc := "(II)V", sig := { parameters := [.int, .int], returnType := none }, accessFlags := 8, code := some k7c7 }
/-- java/lang/String -/
def k7 : Class := { plain "java/lang/String" (some 0) with
  accessFlags := 49
  interfaces := #[2, 3, 4, 5, 6]
  cf := some (fileOf pool7 10 #[.nestMembers #[1103]] #[{ accessFlags := 1, nameIndex := 5, descriptorIndex := 6, attributes := #[] }, { accessFlags := 1, nameIndex := 5, descriptorIndex := 1010, attributes := #[] }, { accessFlags := 1, nameIndex := 507, descriptorIndex := 334, attributes := #[] }, { accessFlags := 1, nameIndex := 497, descriptorIndex := 427, attributes := #[] }, { accessFlags := 2, nameIndex := 5, descriptorIndex := 29, attributes := #[] }, { accessFlags := 0, nameIndex := 17, descriptorIndex := 337, attributes := #[] }, { accessFlags := 0, nameIndex := 494, descriptorIndex := 142, attributes := #[] }, { accessFlags := 8, nameIndex := 501, descriptorIndex := 391, attributes := #[] }] 49 2 #[1106, 1108, 575, 1110, 1112] #[{ accessFlags := 18, nameIndex := 13, descriptorIndex := 14, attributes := #[] }, { accessFlags := 18, nameIndex := 17, descriptorIndex := 18, attributes := #[] }, { accessFlags := 2, nameIndex := 21, descriptorIndex := 22, attributes := #[] }, { accessFlags := 2, nameIndex := 25, descriptorIndex := 26, attributes := #[] }, { accessFlags := 26, nameIndex := 1116, descriptorIndex := 1117, attributes := #[] }, { accessFlags := 24, nameIndex := 40, descriptorIndex := 26, attributes := #[] }, { accessFlags := 26, nameIndex := 1101, descriptorIndex := 1102, attributes := #[] }, { accessFlags := 26, nameIndex := 1121, descriptorIndex := 1122, attributes := #[] }, { accessFlags := 25, nameIndex := 599, descriptorIndex := 600, attributes := #[] }, { accessFlags := 24, nameIndex := 1125, descriptorIndex := 18, attributes := #[] }, { accessFlags := 24, nameIndex := 1127, descriptorIndex := 18, attributes := #[] }])
  fields := #[{ name := "value", type := (.array .byte), accessFlags := 18, slot := 0, constantValue := 0 }, { name := "coder", type := .byte, accessFlags := 18, slot := 1, constantValue := 0 }, { name := "hash", type := .int, accessFlags := 2, slot := 2, constantValue := 0 }, { name := "hashIsZero", type := .boolean, accessFlags := 2, slot := 3, constantValue := 0 }, { name := "serialVersionUID", type := .long, accessFlags := 26, slot := 0, constantValue := 0 }, { name := "COMPACT_STRINGS", type := .boolean, accessFlags := 24, slot := 1, constantValue := 0 }, { name := "serialPersistentFields", type := (.array (.object "java/io/ObjectStreamField")), accessFlags := 26, slot := 2, constantValue := 0 }, { name := "REPL", type := .char, accessFlags := 26, slot := 3, constantValue := 0 }, { name := "CASE_INSENSITIVE_ORDER", type := (.object "java/util/Comparator"), accessFlags := 25, slot := 4, constantValue := 0 }, { name := "LATIN1", type := .byte, accessFlags := 24, slot := 5, constantValue := 0 }, { name := "UTF16", type := .byte, accessFlags := 24, slot := 6, constantValue := 0 }]
  methods := #[k7m0, k7m1, k7m2, k7m3, k7m4, k7m5, k7m6, k7m7]
  instanceTypes := #[(.array .byte), .byte, .int, .boolean]
  staticTypes := #[.long, .boolean, (.array (.object "java/io/ObjectStreamField")), .char, (.object "java/util/Comparator"), .byte, .byte]
  resolved := Array.replicate 1451 none
  statics := some 0 }

def pool8 : Array CpInfo := pool [(2, .class_ 4), (1, u "java/lang/Object"), (0, u "<init>"), (0, u "()V"), (28, .class_ 37), (1, u "com/example/kustody/kustody/Sha256"), (9, .class_ 49), (1, u "java/lang/String"), (45, .methodref 47 96), (0, .nameAndType 97 98), (0, u "length"), (0, u "()I"), (2, u "isBegun"), (0, u "(Ljava/lang/String;)Z"), (0, .methodref 47 104), (0, .nameAndType 105 106), (0, u "charAt"), (0, u "(I)C")] 13

def k8m0 : Method := { name := "<init>", desc := "()V", sig := { parameters := [], returnType := none }, accessFlags := 2, code := none }
def k8c1 : Code := { maxStack := 2, maxLocals := 3, code := prog_10_method_7_code, exceptionTable := #[], attributes := #[] }
def k8m1 : Method := { name := "isBegun", desc := "(Ljava/lang/String;)Z", sig := { parameters := [(.object "java/lang/String")], returnType := some .boolean }, accessFlags := 8, code := some k8c1 }
/-- com/example/kustody/kustody/Sha256 -/
def k8 : Class := { plain "com/example/kustody/kustody/Sha256" (some 0) with
  accessFlags := 48
  interfaces := #[]
  cf := some (fileOf pool8 35 #[] #[{ accessFlags := 2, nameIndex := 5, descriptorIndex := 6, attributes := #[] }, { accessFlags := 8, nameIndex := 101, descriptorIndex := 102, attributes := #[] }] 48 2 #[] #[])
  fields := #[]
  methods := #[k8m0, k8m1]
  instanceTypes := #[]
  staticTypes := #[]
  resolved := Array.replicate 120 none
  statics := none }

def pool9 : Array CpInfo := pool [(3, .class_ 4), (0, u "java/lang/String"), (1, .class_ 8), (1, u "java/lang/Object"), (0, u "<init>"), (0, u "()V"), (0, .methodref 12 13), (0, .class_ 14), (0, .nameAndType 15 16), (0, u "java/lang/StringUTF16"), (0, u "newBytesLength"), (0, u "(I)I"), (3, .integer 1073741823), (23, .fieldref 12 45), (0, .nameAndType 46 47), (0, u "$assertionsDisabled"), (0, u "Z"), (0, .methodref 12 49), (0, .nameAndType 50 51), (0, u "length"), (0, u "([B)I"), (7, .fieldref 12 60), (0, .nameAndType 61 62), (0, u "HI_BYTE_SHIFT"), (0, u "I"), (0, .fieldref 12 64), (0, .nameAndType 65 62), (0, u "LO_BYTE_SHIFT"), (1, .methodref 12 68), (0, .nameAndType 69 70), (0, u "checkIndex"), (0, u "(I[B)V"), (0, .methodref 12 72), (0, .nameAndType 73 74), (0, u "getChar"), (0, u "([BI)C"), (32, .methodref 12 108), (0, .nameAndType 109 110), (0, u "newBytesFor"), (0, u "(I)[B"), (0, .methodref 12 112), (0, .nameAndType 113 114), (0, u "putChar"), (0, u "([BII)V"), (0, .methodref 12 116), (0, .nameAndType 117 118), (0, u "compress"), (0, u "([CI[BII)I"), (0, .methodref 12 120), (0, .nameAndType 121 122), (0, u "toBytes"), (0, u "([CII)[B"), (138, u "coderFromArrayLen"), (0, u "([BI)B"), (106, .class_ 371), (1, u "java/lang/StringUTF16$LinesSpliterator"), (20, u "charAt"), (21, .methodref 3 415), (0, .nameAndType 69 416), (0, u "(II)V"), (13, u "MAX_LENGTH"), (196, .class_ 628), (0, u "java/lang/StringUTF16$CodePointsSpliterator"), (0, .class_ 630), (0, u "java/lang/StringUTF16$CharsSpliterator")] 4

def k9m0 : Method := { name := "<init>", desc := "()V", sig := { parameters := [], returnType := none }, accessFlags := 0, code := none }
def k9c1 : Code := { maxStack := 1, maxLocals := 1, code := jdk_52_method_2_code, exceptionTable := #[], attributes := #[] }
def k9m1 : Method := { name := "newBytesFor", desc := "(I)[B", sig := { parameters := [.int], returnType := some (.array .byte) }, accessFlags := 9, code := some k9c1 }
def k9c2 : Code := { maxStack := 4, maxLocals := 1, code := jdk_52_method_3_code, exceptionTable := #[], attributes := #[] }
def k9m2 : Method := { name := "newBytesLength", desc := "(I)I", sig := { parameters := [.int], returnType := some .int }, accessFlags := 9, code := some k9c2 }
def k9c3 : Code := { maxStack := 4, maxLocals := 3, code := jdk_52_method_4_code, exceptionTable := #[], attributes := #[] }
def k9m3 : Method := { name := "putChar", desc := "([BII)V", sig := { parameters := [(.array .byte), .int, .int], returnType := none }, accessFlags := 8, code := some k9c3 }
def k9c4 : Code := { maxStack := 3, maxLocals := 2, code := jdk_52_method_5_code, exceptionTable := #[], attributes := #[] }
def k9m4 : Method := { name := "getChar", desc := "([BI)C", sig := { parameters := [(.array .byte), .int], returnType := some .char }, accessFlags := 8, code := some k9c4 }
def k9c5 : Code := { maxStack := 2, maxLocals := 1, code := jdk_52_method_6_code, exceptionTable := #[], attributes := #[] }
def k9m5 : Method := { name := "length", desc := "([B)I", sig := { parameters := [(.array .byte)], returnType := some .int }, accessFlags := 9, code := some k9c5 }
def k9c6 : Code := { maxStack := 4, maxLocals := 5, code := jdk_52_method_14_code, exceptionTable := #[], attributes := #[] }
def k9m6 : Method := { name := "toBytes", desc := "([CII)[B", sig := { parameters := [(.array .char), .int, .int], returnType := some (.array .byte) }, accessFlags := 9, code := some k9c6 }
def k9c7 : Code := { maxStack := 2, maxLocals := 2, code := jdk_52_method_15_code, exceptionTable := #[], attributes := #[] }
def k9m7 : Method := { name := "coderFromArrayLen", desc := "([BI)B", sig := { parameters := [(.array .byte), .int], returnType := some .byte }, accessFlags := 8, code := some k9c7 }
def k9c8 : Code := { maxStack := 5, maxLocals := 6, code := jdk_52_method_16_code, exceptionTable := #[], attributes := #[] }
def k9m8 : Method := { name := "compress", desc := "([CII)[B", sig := { parameters := [(.array .char), .int, .int], returnType := some (.array .byte) }, accessFlags := 9, code := some k9c8 }
def k9c9 : Code := { maxStack := 3, maxLocals := 7, code := jdk_52_method_21_code, exceptionTable := #[], attributes := #[] }
def k9m9 : Method := { name := "compress", desc := "([CI[BII)I", sig := { parameters := [(.array .char), .int, (.array .byte), .int, .int], returnType := some .int }, accessFlags := 9, code := some k9c9 }
def k9c10 : Code := { maxStack := 2, maxLocals := 2, code := jdk_52_method_83_code, exceptionTable := #[], attributes := #[] }
def k9m10 : Method := { name := "charAt", desc := "([BI)C", sig := { parameters := [(.array .byte), .int], returnType := some .char }, accessFlags := 9, code := some k9c10 }
def k9c11 : Code := { maxStack := 2, maxLocals := 2, code := jdk_52_method_91_code, exceptionTable := #[], attributes := #[] }
def k9m11 : Method := { name := "checkIndex", desc := "(I[B)V", sig := { parameters := [.int, (.array .byte)], returnType := none }, accessFlags := 9, code := some k9c11 }
/-- java/lang/StringUTF16 -/
def k9 : Class := { plain "java/lang/StringUTF16" (some 0) with
  accessFlags := 48
  interfaces := #[]
  cf := some (fileOf pool9 12 #[.nestMembers #[627, 629, 369]] #[{ accessFlags := 0, nameIndex := 9, descriptorIndex := 10, attributes := #[] }, { accessFlags := 9, nameIndex := 109, descriptorIndex := 110, attributes := #[] }, { accessFlags := 9, nameIndex := 15, descriptorIndex := 16, attributes := #[] }, { accessFlags := 8, nameIndex := 113, descriptorIndex := 114, attributes := #[] }, { accessFlags := 8, nameIndex := 73, descriptorIndex := 74, attributes := #[] }, { accessFlags := 9, nameIndex := 50, descriptorIndex := 51, attributes := #[] }, { accessFlags := 9, nameIndex := 121, descriptorIndex := 122, attributes := #[] }, { accessFlags := 8, nameIndex := 261, descriptorIndex := 262, attributes := #[] }, { accessFlags := 9, nameIndex := 117, descriptorIndex := 122, attributes := #[] }, { accessFlags := 9, nameIndex := 117, descriptorIndex := 118, attributes := #[] }, { accessFlags := 9, nameIndex := 392, descriptorIndex := 74, attributes := #[] }, { accessFlags := 9, nameIndex := 69, descriptorIndex := 70, attributes := #[] }] 48 6 #[] #[{ accessFlags := 26, nameIndex := 61, descriptorIndex := 62, attributes := #[] }, { accessFlags := 26, nameIndex := 65, descriptorIndex := 62, attributes := #[] }, { accessFlags := 24, nameIndex := 430, descriptorIndex := 62, attributes := #[] }, { accessFlags := 4120, nameIndex := 46, descriptorIndex := 47, attributes := #[] }])
  fields := #[{ name := "HI_BYTE_SHIFT", type := .int, accessFlags := 26, slot := 0, constantValue := 0 }, { name := "LO_BYTE_SHIFT", type := .int, accessFlags := 26, slot := 1, constantValue := 0 }, { name := "MAX_LENGTH", type := .int, accessFlags := 24, slot := 2, constantValue := 0 }, { name := "$assertionsDisabled", type := .boolean, accessFlags := 4120, slot := 3, constantValue := 0 }]
  methods := #[k9m0, k9m1, k9m2, k9m3, k9m4, k9m5, k9m6, k9m7, k9m8, k9m9, k9m10, k9m11]
  instanceTypes := #[]
  staticTypes := #[.int, .int, .int, .boolean]
  resolved := Array.replicate 635 none
  statics := some 1 }

def pool10 : Array CpInfo := pool [(1, .class_ 2), (0, u "java/lang/String"), (1, .class_ 6), (1, u "java/lang/Object"), (0, u "<init>"), (0, u "()V"), (0, .methodref 1 10), (0, .nameAndType 11 12), (0, u "checkIndex"), (0, u "(II)V"), (1, .class_ 16), (1, u "java/lang/StringLatin1"), (36, u "([BI)C"), (67, u "$assertionsDisabled"), (0, u "Z"), (98, .class_ 223), (1, u "java/lang/StringLatin1$LinesSpliterator"), (28, u "charAt"), (137, .class_ 391), (0, u "java/lang/StringLatin1$CharsSpliterator")] 3

def k10m0 : Method := { name := "<init>", desc := "()V", sig := { parameters := [], returnType := none }, accessFlags := 0, code := none }
def k10c1 : Code := { maxStack := 2, maxLocals := 2, code := jdk_43_method_2_code, exceptionTable := #[], attributes := #[] }
def k10m1 : Method := { name := "charAt", desc := "([BI)C", sig := { parameters := [(.array .byte), .int], returnType := some .char }, accessFlags := 9, code := some k10c1 }
/-- java/lang/StringLatin1 -/
def k10 : Class := { plain "java/lang/StringLatin1" (some 0) with
  accessFlags := 48
  interfaces := #[]
  cf := some (fileOf pool10 14 #[.nestMembers #[390, 221]] #[{ accessFlags := 0, nameIndex := 7, descriptorIndex := 8, attributes := #[] }, { accessFlags := 9, nameIndex := 252, descriptorIndex := 53, attributes := #[] }] 48 4 #[] #[{ accessFlags := 4120, nameIndex := 121, descriptorIndex := 122, attributes := #[] }])
  fields := #[{ name := "$assertionsDisabled", type := .boolean, accessFlags := 4120, slot := 0, constantValue := 0 }]
  methods := #[k10m0, k10m1]
  instanceTypes := #[]
  staticTypes := #[.boolean]
  resolved := Array.replicate 395 none
  statics := none }

def pool11 : Array CpInfo := pool [(2, .class_ 4), (1, u "java/lang/Object"), (0, u "<init>"), (0, u "()V"), (17, .class_ 26), (1, u "jdk/internal/util/Preconditions"), (6, u "checkIndex"), (21, .class_ 56), (0, u "jdk/internal/util/Preconditions$4"), (57, .class_ 115), (0, u "jdk/internal/util/Preconditions$1"), (7, u "SIOOBE_FORMATTER"), (0, u "Ljava/util/function/BiFunction;"), (0, .class_ 126), (0, u "jdk/internal/util/Preconditions$2"), (3, u "AIOOBE_FORMATTER"), (0, .class_ 132), (0, u "jdk/internal/util/Preconditions$3"), (3, u "IOOBE_FORMATTER"), (41, u "(IILjava/util/function/BiFunction;)I")] 15

def k11m0 : Method := { name := "<init>", desc := "()V", sig := { parameters := [], returnType := none }, accessFlags := 1, code := none }
def k11c1 : Code := { maxStack := 3, maxLocals := 3, code := jdk_41_method_11_code, exceptionTable := #[], attributes := #[] }
def k11m1 : Method := { name := "checkIndex", desc := "(IILjava/util/function/BiFunction;)I", sig := { parameters := [.int, .int, (.object "java/util/function/BiFunction")], returnType := some .int }, accessFlags := 9, code := some k11c1 }
/-- jdk/internal/util/Preconditions -/
def k11 : Class := { plain "jdk/internal/util/Preconditions" (some 0) with
  accessFlags := 33
  interfaces := #[]
  cf := some (fileOf pool11 24 #[.nestMembers #[55, 131, 125, 114]] #[{ accessFlags := 1, nameIndex := 5, descriptorIndex := 6, attributes := #[] }, { accessFlags := 9, nameIndex := 33, descriptorIndex := 178, attributes := #[] }] 33 2 #[] #[{ accessFlags := 25, nameIndex := 123, descriptorIndex := 124, attributes := #[] }, { accessFlags := 25, nameIndex := 130, descriptorIndex := 124, attributes := #[] }, { accessFlags := 25, nameIndex := 136, descriptorIndex := 124, attributes := #[] }])
  fields := #[{ name := "SIOOBE_FORMATTER", type := (.object "java/util/function/BiFunction"), accessFlags := 25, slot := 0, constantValue := 0 }, { name := "AIOOBE_FORMATTER", type := (.object "java/util/function/BiFunction"), accessFlags := 25, slot := 1, constantValue := 0 }, { name := "IOOBE_FORMATTER", type := (.object "java/util/function/BiFunction"), accessFlags := 25, slot := 2, constantValue := 0 }]
  methods := #[k11m0, k11m1]
  instanceTypes := #[]
  staticTypes := #[(.object "java/util/function/BiFunction"), (.object "java/util/function/BiFunction"), (.object "java/util/function/BiFunction")]
  resolved := Array.replicate 194 none
  statics := some 2 }

def pool12 : Array CpInfo := pool [(9, u "<init>"), (6, .class_ 18), (1, u "java/lang/Object"), (0, u "()V"), (1, .class_ 23), (1, u "jdk/internal/util/ArraysSupport"), (0, u "LOG2_ARRAY_LONG_INDEX_SCALE"), (0, u "I"), (2, u "U"), (0, u "Ljdk/internal/misc/Unsafe;"), (8, u "BIG_ENDIAN"), (0, u "Z"), (8, u "LOG2_BYTE_BIT_SIZE"), (4, u "LOG2_ARRAY_INT_INDEX_SCALE"), (54, u "JLA"), (0, u "Ljdk/internal/access/JavaLangAccess;"), (11, u "LOG2_ARRAY_BOOLEAN_INDEX_SCALE"), (9, u "LOG2_ARRAY_BYTE_INDEX_SCALE"), (5, u "LOG2_ARRAY_CHAR_INDEX_SCALE"), (5, u "LOG2_ARRAY_SHORT_INDEX_SCALE"), (18, u "LOG2_ARRAY_FLOAT_INDEX_SCALE"), (24, u "LOG2_ARRAY_DOUBLE_INDEX_SCALE"), (89, u "T_BOOLEAN"), (2, u "T_CHAR"), (1, u "T_FLOAT"), (1, u "T_DOUBLE"), (1, u "T_BYTE"), (1, u "T_SHORT"), (1, u "T_INT"), (1, u "T_LONG"), (1, u "SOFT_MAX_ARRAY_LENGTH")] 83

def k12m0 : Method := { name := "<init>", desc := "()V", sig := { parameters := [], returnType := none }, accessFlags := 2, code := none }
/-- jdk/internal/util/ArraysSupport -/
def k12 : Class := { plain "jdk/internal/util/ArraysSupport" (some 0) with
  accessFlags := 33
  interfaces := #[]
  cf := some (fileOf pool12 21 #[] #[{ accessFlags := 2, nameIndex := 9, descriptorIndex := 19, attributes := #[] }] 33 16 #[] #[{ accessFlags := 24, nameIndex := 28, descriptorIndex := 29, attributes := #[] }, { accessFlags := 26, nameIndex := 38, descriptorIndex := 39, attributes := #[] }, { accessFlags := 25, nameIndex := 121, descriptorIndex := 25, attributes := #[] }, { accessFlags := 25, nameIndex := 131, descriptorIndex := 25, attributes := #[] }, { accessFlags := 25, nameIndex := 137, descriptorIndex := 25, attributes := #[] }, { accessFlags := 25, nameIndex := 143, descriptorIndex := 25, attributes := #[] }, { accessFlags := 25, nameIndex := 53, descriptorIndex := 25, attributes := #[] }, { accessFlags := 25, nameIndex := 24, descriptorIndex := 25, attributes := #[] }, { accessFlags := 25, nameIndex := 162, descriptorIndex := 25, attributes := #[] }, { accessFlags := 25, nameIndex := 187, descriptorIndex := 25, attributes := #[] }, { accessFlags := 26, nameIndex := 48, descriptorIndex := 25, attributes := #[] }, { accessFlags := 25, nameIndex := 277, descriptorIndex := 25, attributes := #[] }, { accessFlags := 25, nameIndex := 280, descriptorIndex := 25, attributes := #[] }, { accessFlags := 25, nameIndex := 282, descriptorIndex := 25, attributes := #[] }, { accessFlags := 25, nameIndex := 284, descriptorIndex := 25, attributes := #[] }, { accessFlags := 25, nameIndex := 286, descriptorIndex := 25, attributes := #[] }, { accessFlags := 25, nameIndex := 288, descriptorIndex := 25, attributes := #[] }, { accessFlags := 25, nameIndex := 290, descriptorIndex := 25, attributes := #[] }, { accessFlags := 25, nameIndex := 292, descriptorIndex := 25, attributes := #[] }, { accessFlags := 26, nameIndex := 108, descriptorIndex := 109, attributes := #[] }, { accessFlags := 25, nameIndex := 294, descriptorIndex := 25, attributes := #[] }])
  fields := #[{ name := "U", type := (.object "jdk/internal/misc/Unsafe"), accessFlags := 24, slot := 0, constantValue := 0 }, { name := "BIG_ENDIAN", type := .boolean, accessFlags := 26, slot := 1, constantValue := 0 }, { name := "LOG2_ARRAY_BOOLEAN_INDEX_SCALE", type := .int, accessFlags := 25, slot := 2, constantValue := 0 }, { name := "LOG2_ARRAY_BYTE_INDEX_SCALE", type := .int, accessFlags := 25, slot := 3, constantValue := 0 }, { name := "LOG2_ARRAY_CHAR_INDEX_SCALE", type := .int, accessFlags := 25, slot := 4, constantValue := 0 }, { name := "LOG2_ARRAY_SHORT_INDEX_SCALE", type := .int, accessFlags := 25, slot := 5, constantValue := 0 }, { name := "LOG2_ARRAY_INT_INDEX_SCALE", type := .int, accessFlags := 25, slot := 6, constantValue := 0 }, { name := "LOG2_ARRAY_LONG_INDEX_SCALE", type := .int, accessFlags := 25, slot := 7, constantValue := 0 }, { name := "LOG2_ARRAY_FLOAT_INDEX_SCALE", type := .int, accessFlags := 25, slot := 8, constantValue := 0 }, { name := "LOG2_ARRAY_DOUBLE_INDEX_SCALE", type := .int, accessFlags := 25, slot := 9, constantValue := 0 }, { name := "LOG2_BYTE_BIT_SIZE", type := .int, accessFlags := 26, slot := 10, constantValue := 0 }, { name := "T_BOOLEAN", type := .int, accessFlags := 25, slot := 11, constantValue := 0 }, { name := "T_CHAR", type := .int, accessFlags := 25, slot := 12, constantValue := 0 }, { name := "T_FLOAT", type := .int, accessFlags := 25, slot := 13, constantValue := 0 }, { name := "T_DOUBLE", type := .int, accessFlags := 25, slot := 14, constantValue := 0 }, { name := "T_BYTE", type := .int, accessFlags := 25, slot := 15, constantValue := 0 }, { name := "T_SHORT", type := .int, accessFlags := 25, slot := 16, constantValue := 0 }, { name := "T_INT", type := .int, accessFlags := 25, slot := 17, constantValue := 0 }, { name := "T_LONG", type := .int, accessFlags := 25, slot := 18, constantValue := 0 }, { name := "JLA", type := (.object "jdk/internal/access/JavaLangAccess"), accessFlags := 26, slot := 19, constantValue := 0 }, { name := "SOFT_MAX_ARRAY_LENGTH", type := .int, accessFlags := 25, slot := 20, constantValue := 0 }]
  methods := #[k12m0]
  instanceTypes := #[]
  staticTypes := #[(.object "jdk/internal/misc/Unsafe"), .boolean, .int, .int, .int, .int, .int, .int, .int, .int, .int, .int, .int, .int, .int, .int, .int, .int, .int, (.object "jdk/internal/access/JavaLangAccess"), .int]
  resolved := Array.replicate 378 none
  statics := none }

def pool13 : Array CpInfo := pool [(1, u "java/lang/Cloneable"), (0, .class_ 1), (0, u "java/lang/Object"), (0, .class_ 3)] 3

/-- java/lang/Cloneable -/
def k13 : Class := { plain "java/lang/Cloneable" (some 0) with
  accessFlags := 1537
  interfaces := #[]
  cf := some (fileOf pool13 2 #[] #[] 1537 4 #[] #[])
  fields := #[]
  methods := #[]
  instanceTypes := #[]
  staticTypes := #[]
  resolved := Array.replicate 8 none
  statics := none }

/-- the primitive byte -/
def k14 : Class := { plain "byte" none with kind := .primitive 'B', accessFlags := 0x411 }
/-- [B -/
def k15 : Class := { plain "[B" (some 0) with kind := .array 14 .byte, interfaces := #[13, 2], accessFlags := 1041 }

/-- the primitive char -/
def k16 : Class := { plain "char" none with kind := .primitive 'C', accessFlags := 0x411 }
/-- [C -/
def k17 : Class := { plain "[C" (some 0) with kind := .array 16 .char, interfaces := #[13, 2], accessFlags := 1041 }

/-- the primitive int -/
def k18 : Class := { plain "int" none with kind := .primitive 'I', accessFlags := 0x411 }
/-- [I -/
def k19 : Class := { plain "[I" (some 0) with kind := .array 18 .int, interfaces := #[13, 2], accessFlags := 1041 }

def heap : Heap := #[{ cls := 7, slots := #[.long 0, .int 1, .null, .int 0, .null, .int 0, .int 0], vm := .statics 7 },
  { cls := 9, slots := #[.int 0, .int 8, .int 0, .int 1], vm := .statics 9 },
  { cls := 11, slots := #[.null, .null, .null], vm := .statics 11 }]
def classes : Array Class := #[k0, k1, k2, k3, k4, k5, k6, k7, k8, k9, k10, k11, k12, k13, k14, k15, k16, k17, k18, k19]
def interned : List (Array UInt16 × Addr) := []
def slotsUsed : Nat := 14
def theMethod : MethodId := ⟨1, 2⟩
def args0 : Array Value := #[.int 5, .int 7, .int 3]
def aboutOver (below : List Frame) : State where
  vm := { classes := classes, interned := interned.toArray }
  heap := heap
  slotsUsed := slotsUsed
  threads := #[{ frames := .invoking theMethod args0 :: below }]
def below0 : List Frame := [.native { method := ⟨0, 0⟩, args := #[] }]
def about1 : State := aboutOver below0
def p0 : Program := .bare "" "" ""
def e0 : Env := launch0.env 0 0 0
theorem w_frames : about1.frames = Frame.invoking theMethod args0 :: below0 := rfl
set_option maxRecDepth 65536 in
theorem w_args : argsFit about1.vm theMethod args0 = true := by decide +kernel
set_option maxRecDepth 65536 in
theorem w_heap : heapFits about1 = true := by decide +kernel
set_option maxRecDepth 65536 in
theorem w_runnable : about1.curStatus? = some .runnable := by decide +kernel
set_option maxRecDepth 65536 in
theorem w_alone : about1.alone = true := by decide +kernel
set_option maxRecDepth 65536 in
theorem w_named : about1.methodNamed? x = some theMethod := by decide +kernel
set_option maxRecDepth 65536 in
theorem w_hears : about1.hears theMethod below0 = true := by decide +kernel
set_option maxRecDepth 65536 in
theorem w_ripe : about1.ripe theMethod args0 below0 = true := by decide +kernel
theorem w_running : about1.status = .running := rfl
set_option maxRecDepth 65536 in
theorem w_room : about1.hasRoom e0.platform room_1 = true :=
  launch0.hasRoom_least _ room_1 (by decide +kernel) (by decide +kernel) (by decide +kernel) (by decide +kernel) (by decide +kernel) (by decide +kernel)
theorem allAtoms_all (ts : List Jvm.Cond) (a : Array Jvm.Value) (st : Jvm.State) : (allAtoms ts).before a st = ts.all (fun c => c.before a st) := by
  induction ts with
  | nil => rfl
  | cons c t ih =>
    show (Jvm.Cond.and c (allAtoms t)).before a st = _
    rw [Jvm.Cond.before_and, ih, List.all_cons]
def words1 : List Jvm.Cond := Jvm.Cond.code x code maxLocals ret :: tables_1
/-- a 'code' word, met by the world's own term for the bytes: nothing is compared byte by byte -/
theorem code_word {y : MethodName} {bytes : ByteArray} {mx : Nat} {rt : Option FieldType} {a : Array Value} {s : State} {m : MethodId} {meth : Method} {c : Code} (h1 : s.methodNamed? y = some m) (h2 : s.vm.method? m = some meth) (h3 : meth.code = some c) (h4 : c.code = bytes)
    (h5 : (c.maxLocals == mx && c.exceptionTable.isEmpty && decide (c.maxStack ≤ mostOperands) && decide (meth.sig.returnType = rt) && !meth.locks && decide (parseMethodDescriptor y.desc = some meth.sig)) = true) : (Jvm.Cond.code y bytes mx rt).before a s = true := by
  simp only [Bool.and_eq_true, beq_iff_eq, Bool.not_eq_true', decide_eq_true_eq] at h5
  obtain ⟨⟨⟨⟨⟨g1, g2⟩, g3⟩, g4⟩, g5⟩, g6⟩ := h5
  simp [Cond.before, Cond.holds, Cond.value, h1, h2, h3, h4, g1, g2, g3, g4, g5, g6]
def isCode : Jvm.Cond → Bool
  | .code _ _ _ _ => true
  | _ => false
theorem all_split {L : List Jvm.Cond} {P : Jvm.Cond → Bool} (h1 : L.all (fun c => isCode c || P c) = true) (h2 : ∀ c ∈ L.filter isCode, P c = true) : L.all P = true := by
  refine List.all_eq_true.mpr fun c hc => ?_
  have h := List.all_eq_true.mp h1 c hc
  rcases Bool.eq_false_or_eq_true (isCode c) with hi | hi
  · exact h2 c (List.mem_filter.mpr ⟨hc, hi⟩)
  · simpa [hi] using h
set_option maxRecDepth 65536 in
theorem w_c0 : (Jvm.Cond.code x code maxLocals ret).before args0 about1 = true := code_word (m := ⟨1, 2⟩) (meth := k1m2) (c := k1c2) (by decide +kernel) rfl rfl rfl (by decide +kernel)
set_option maxRecDepth 65536 in
theorem w_c1 : (Jvm.Cond.code ({ cls := "java/lang/String", name := "<init>", desc := "([C)V" } : Jvm.MethodName) jdk_42_method_3_code (2 : Nat) (Option.none : Option Jvm.ClassFile.FieldType)).before args0 about1 = true := code_word (m := ⟨7, 1⟩) (meth := k7m1) (c := k7c1) (by decide +kernel) rfl rfl rfl (by decide +kernel)
set_option maxRecDepth 65536 in
theorem w_c2 : (Jvm.Cond.code ({ cls := "java/lang/String", name := "<init>", desc := "([CIILjava/lang/Void;)V" } : Jvm.MethodName) jdk_42_method_149_code (6 : Nat) (Option.none : Option Jvm.ClassFile.FieldType)).before args0 about1 = true := code_word (m := ⟨7, 4⟩) (meth := k7m4) (c := k7c4) (by decide +kernel) rfl rfl rfl (by decide +kernel)
set_option maxRecDepth 65536 in
theorem w_c3 : (Jvm.Cond.code ({ cls := "java/lang/Object", name := "<init>", desc := "()V" } : Jvm.MethodName) object_method_1_code (1 : Nat) (Option.none : Option Jvm.ClassFile.FieldType)).before args0 about1 = true := code_word (m := ⟨0, 0⟩) (meth := k0m0) (c := k0c0) (by decide +kernel) rfl rfl rfl (by decide +kernel)
set_option maxRecDepth 65536 in
theorem w_c4 : (Jvm.Cond.code ({ cls := "com/example/kustody/kustody/Sha256", name := "isBegun", desc := "(Ljava/lang/String;)Z" } : Jvm.MethodName) prog_10_method_7_code (3 : Nat) (Option.some Jvm.ClassFile.FieldType.boolean)).before args0 about1 = true := code_word (m := ⟨8, 1⟩) (meth := k8m1) (c := k8c1) (by decide +kernel) rfl rfl rfl (by decide +kernel)
set_option maxRecDepth 65536 in
theorem w_c5 : (Jvm.Cond.code ({ cls := "java/lang/String", name := "length", desc := "()I" } : Jvm.MethodName) jdk_42_method_54_code (1 : Nat) (Option.some Jvm.ClassFile.FieldType.int)).before args0 about1 = true := code_word (m := ⟨7, 2⟩) (meth := k7m2) (c := k7c2) (by decide +kernel) rfl rfl rfl (by decide +kernel)
set_option maxRecDepth 65536 in
theorem w_c6 : (Jvm.Cond.code ({ cls := "java/lang/String", name := "coder", desc := "()B" } : Jvm.MethodName) jdk_42_method_152_code (1 : Nat) (Option.some Jvm.ClassFile.FieldType.byte)).before args0 about1 = true := code_word (m := ⟨7, 5⟩) (meth := k7m5) (c := k7c5) (by decide +kernel) rfl rfl rfl (by decide +kernel)
set_option maxRecDepth 65536 in
theorem w_c7 : (Jvm.Cond.code ({ cls := "com/example/kustody/kustody/Sha256IsBegunPinLaw", name := "hexDigit", desc := "(C)Z" } : Jvm.MethodName) method_2_code (1 : Nat) (Option.some Jvm.ClassFile.FieldType.boolean)).before args0 about1 = true := code_word (m := ⟨1, 1⟩) (meth := k1m1) (c := k1c1) (by decide +kernel) rfl rfl rfl (by decide +kernel)
set_option maxRecDepth 65536 in
theorem w_c8 : (Jvm.Cond.code ({ cls := "java/lang/StringUTF16", name := "compress", desc := "([CII)[B" } : Jvm.MethodName) jdk_52_method_16_code (6 : Nat) (Option.some (Jvm.ClassFile.FieldType.array Jvm.ClassFile.FieldType.byte))).before args0 about1 = true := code_word (m := ⟨9, 8⟩) (meth := k9m8) (c := k9c8) (by decide +kernel) rfl rfl rfl (by decide +kernel)
set_option maxRecDepth 65536 in
theorem w_c9 : (Jvm.Cond.code ({ cls := "java/lang/StringUTF16", name := "compress", desc := "([CI[BII)I" } : Jvm.MethodName) jdk_52_method_21_code (7 : Nat) (Option.some Jvm.ClassFile.FieldType.int)).before args0 about1 = true := code_word (m := ⟨9, 9⟩) (meth := k9m9) (c := k9c9) (by decide +kernel) rfl rfl rfl (by decide +kernel)
set_option maxRecDepth 65536 in
theorem w_c10 : (Jvm.Cond.code ({ cls := "java/lang/StringUTF16", name := "coderFromArrayLen", desc := "([BI)B" } : Jvm.MethodName) jdk_52_method_15_code (2 : Nat) (Option.some Jvm.ClassFile.FieldType.byte)).before args0 about1 = true := code_word (m := ⟨9, 7⟩) (meth := k9m7) (c := k9c7) (by decide +kernel) rfl rfl rfl (by decide +kernel)
set_option maxRecDepth 65536 in
theorem w_c11 : (Jvm.Cond.code ({ cls := "java/lang/String", name := "charAt", desc := "(I)C" } : Jvm.MethodName) jdk_42_method_56_code (2 : Nat) (Option.some Jvm.ClassFile.FieldType.char)).before args0 about1 = true := code_word (m := ⟨7, 3⟩) (meth := k7m3) (c := k7c3) (by decide +kernel) rfl rfl rfl (by decide +kernel)
set_option maxRecDepth 65536 in
theorem w_c12 : (Jvm.Cond.code ({ cls := "java/lang/String", name := "isLatin1", desc := "()Z" } : Jvm.MethodName) jdk_42_method_154_code (1 : Nat) (Option.some Jvm.ClassFile.FieldType.boolean)).before args0 about1 = true := code_word (m := ⟨7, 6⟩) (meth := k7m6) (c := k7c6) (by decide +kernel) rfl rfl rfl (by decide +kernel)
set_option maxRecDepth 65536 in
theorem w_c13 : (Jvm.Cond.code ({ cls := "java/lang/StringLatin1", name := "charAt", desc := "([BI)C" } : Jvm.MethodName) jdk_43_method_2_code (2 : Nat) (Option.some Jvm.ClassFile.FieldType.char)).before args0 about1 = true := code_word (m := ⟨10, 1⟩) (meth := k10m1) (c := k10c1) (by decide +kernel) rfl rfl rfl (by decide +kernel)
set_option maxRecDepth 65536 in
theorem w_c14 : (Jvm.Cond.code ({ cls := "java/lang/String", name := "checkIndex", desc := "(II)V" } : Jvm.MethodName) jdk_42_method_155_code (2 : Nat) (Option.none : Option Jvm.ClassFile.FieldType)).before args0 about1 = true := code_word (m := ⟨7, 7⟩) (meth := k7m7) (c := k7c7) (by decide +kernel) rfl rfl rfl (by decide +kernel)
set_option maxRecDepth 65536 in
theorem w_c15 : (Jvm.Cond.code ({ cls := "jdk/internal/util/Preconditions", name := "checkIndex", desc := "(IILjava/util/function/BiFunction;)I" } : Jvm.MethodName) jdk_41_method_11_code (3 : Nat) (Option.some Jvm.ClassFile.FieldType.int)).before args0 about1 = true := code_word (m := ⟨11, 1⟩) (meth := k11m1) (c := k11c1) (by decide +kernel) rfl rfl rfl (by decide +kernel)
set_option maxRecDepth 65536 in
theorem w_c16 : (Jvm.Cond.code ({ cls := "java/lang/StringUTF16", name := "toBytes", desc := "([CII)[B" } : Jvm.MethodName) jdk_52_method_14_code (5 : Nat) (Option.some (Jvm.ClassFile.FieldType.array Jvm.ClassFile.FieldType.byte))).before args0 about1 = true := code_word (m := ⟨9, 6⟩) (meth := k9m6) (c := k9c6) (by decide +kernel) rfl rfl rfl (by decide +kernel)
set_option maxRecDepth 65536 in
theorem w_c17 : (Jvm.Cond.code ({ cls := "java/lang/StringUTF16", name := "newBytesFor", desc := "(I)[B" } : Jvm.MethodName) jdk_52_method_2_code (1 : Nat) (Option.some (Jvm.ClassFile.FieldType.array Jvm.ClassFile.FieldType.byte))).before args0 about1 = true := code_word (m := ⟨9, 1⟩) (meth := k9m1) (c := k9c1) (by decide +kernel) rfl rfl rfl (by decide +kernel)
set_option maxRecDepth 65536 in
theorem w_c18 : (Jvm.Cond.code ({ cls := "java/lang/StringUTF16", name := "newBytesLength", desc := "(I)I" } : Jvm.MethodName) jdk_52_method_3_code (1 : Nat) (Option.some Jvm.ClassFile.FieldType.int)).before args0 about1 = true := code_word (m := ⟨9, 2⟩) (meth := k9m2) (c := k9c2) (by decide +kernel) rfl rfl rfl (by decide +kernel)
set_option maxRecDepth 65536 in
theorem w_c19 : (Jvm.Cond.code ({ cls := "java/lang/StringUTF16", name := "putChar", desc := "([BII)V" } : Jvm.MethodName) jdk_52_method_4_code (3 : Nat) (Option.none : Option Jvm.ClassFile.FieldType)).before args0 about1 = true := code_word (m := ⟨9, 3⟩) (meth := k9m3) (c := k9c3) (by decide +kernel) rfl rfl rfl (by decide +kernel)
set_option maxRecDepth 65536 in
theorem w_c20 : (Jvm.Cond.code ({ cls := "java/lang/StringUTF16", name := "getChar", desc := "([BI)C" } : Jvm.MethodName) jdk_52_method_5_code (2 : Nat) (Option.some Jvm.ClassFile.FieldType.char)).before args0 about1 = true := code_word (m := ⟨9, 4⟩) (meth := k9m4) (c := k9c4) (by decide +kernel) rfl rfl rfl (by decide +kernel)
set_option maxRecDepth 65536 in
theorem w_c21 : (Jvm.Cond.code ({ cls := "java/lang/StringUTF16", name := "charAt", desc := "([BI)C" } : Jvm.MethodName) jdk_52_method_83_code (2 : Nat) (Option.some Jvm.ClassFile.FieldType.char)).before args0 about1 = true := code_word (m := ⟨9, 10⟩) (meth := k9m10) (c := k9c10) (by decide +kernel) rfl rfl rfl (by decide +kernel)
set_option maxRecDepth 65536 in
theorem w_c22 : (Jvm.Cond.code ({ cls := "java/lang/StringUTF16", name := "checkIndex", desc := "(I[B)V" } : Jvm.MethodName) jdk_52_method_91_code (2 : Nat) (Option.none : Option Jvm.ClassFile.FieldType)).before args0 about1 = true := code_word (m := ⟨9, 11⟩) (meth := k9m11) (c := k9c11) (by decide +kernel) rfl rfl rfl (by decide +kernel)
set_option maxRecDepth 65536 in
theorem w_c23 : (Jvm.Cond.code ({ cls := "java/lang/StringUTF16", name := "length", desc := "([B)I" } : Jvm.MethodName) jdk_52_method_6_code (1 : Nat) (Option.some Jvm.ClassFile.FieldType.int)).before args0 about1 = true := code_word (m := ⟨9, 5⟩) (meth := k9m5) (c := k9c5) (by decide +kernel) rfl rfl rfl (by decide +kernel)
def codes1 : List Jvm.Cond := [Jvm.Cond.code x code maxLocals ret, Jvm.Cond.code ({ cls := "java/lang/String", name := "<init>", desc := "([C)V" } : Jvm.MethodName) jdk_42_method_3_code (2 : Nat) (Option.none : Option Jvm.ClassFile.FieldType), Jvm.Cond.code ({ cls := "java/lang/String", name := "<init>", desc := "([CIILjava/lang/Void;)V" } : Jvm.MethodName) jdk_42_method_149_code (6 : Nat) (Option.none : Option Jvm.ClassFile.FieldType), Jvm.Cond.code ({ cls := "java/lang/Object", name := "<init>", desc := "()V" } : Jvm.MethodName) object_method_1_code (1 : Nat) (Option.none : Option Jvm.ClassFile.FieldType), Jvm.Cond.code ({ cls := "com/example/kustody/kustody/Sha256", name := "isBegun", desc := "(Ljava/lang/String;)Z" } : Jvm.MethodName) prog_10_method_7_code (3 : Nat) (Option.some Jvm.ClassFile.FieldType.boolean), Jvm.Cond.code ({ cls := "java/lang/String", name := "length", desc := "()I" } : Jvm.MethodName) jdk_42_method_54_code (1 : Nat) (Option.some Jvm.ClassFile.FieldType.int), Jvm.Cond.code ({ cls := "java/lang/String", name := "coder", desc := "()B" } : Jvm.MethodName) jdk_42_method_152_code (1 : Nat) (Option.some Jvm.ClassFile.FieldType.byte), Jvm.Cond.code ({ cls := "com/example/kustody/kustody/Sha256IsBegunPinLaw", name := "hexDigit", desc := "(C)Z" } : Jvm.MethodName) method_2_code (1 : Nat) (Option.some Jvm.ClassFile.FieldType.boolean), Jvm.Cond.code ({ cls := "java/lang/StringUTF16", name := "compress", desc := "([CII)[B" } : Jvm.MethodName) jdk_52_method_16_code (6 : Nat) (Option.some (Jvm.ClassFile.FieldType.array Jvm.ClassFile.FieldType.byte)), Jvm.Cond.code ({ cls := "java/lang/StringUTF16", name := "compress", desc := "([CI[BII)I" } : Jvm.MethodName) jdk_52_method_21_code (7 : Nat) (Option.some Jvm.ClassFile.FieldType.int), Jvm.Cond.code ({ cls := "java/lang/StringUTF16", name := "coderFromArrayLen", desc := "([BI)B" } : Jvm.MethodName) jdk_52_method_15_code (2 : Nat) (Option.some Jvm.ClassFile.FieldType.byte), Jvm.Cond.code ({ cls := "java/lang/String", name := "charAt", desc := "(I)C" } : Jvm.MethodName) jdk_42_method_56_code (2 : Nat) (Option.some Jvm.ClassFile.FieldType.char), Jvm.Cond.code ({ cls := "java/lang/String", name := "isLatin1", desc := "()Z" } : Jvm.MethodName) jdk_42_method_154_code (1 : Nat) (Option.some Jvm.ClassFile.FieldType.boolean), Jvm.Cond.code ({ cls := "java/lang/StringLatin1", name := "charAt", desc := "([BI)C" } : Jvm.MethodName) jdk_43_method_2_code (2 : Nat) (Option.some Jvm.ClassFile.FieldType.char), Jvm.Cond.code ({ cls := "java/lang/String", name := "checkIndex", desc := "(II)V" } : Jvm.MethodName) jdk_42_method_155_code (2 : Nat) (Option.none : Option Jvm.ClassFile.FieldType), Jvm.Cond.code ({ cls := "jdk/internal/util/Preconditions", name := "checkIndex", desc := "(IILjava/util/function/BiFunction;)I" } : Jvm.MethodName) jdk_41_method_11_code (3 : Nat) (Option.some Jvm.ClassFile.FieldType.int), Jvm.Cond.code ({ cls := "java/lang/StringUTF16", name := "toBytes", desc := "([CII)[B" } : Jvm.MethodName) jdk_52_method_14_code (5 : Nat) (Option.some (Jvm.ClassFile.FieldType.array Jvm.ClassFile.FieldType.byte)), Jvm.Cond.code ({ cls := "java/lang/StringUTF16", name := "newBytesFor", desc := "(I)[B" } : Jvm.MethodName) jdk_52_method_2_code (1 : Nat) (Option.some (Jvm.ClassFile.FieldType.array Jvm.ClassFile.FieldType.byte)), Jvm.Cond.code ({ cls := "java/lang/StringUTF16", name := "newBytesLength", desc := "(I)I" } : Jvm.MethodName) jdk_52_method_3_code (1 : Nat) (Option.some Jvm.ClassFile.FieldType.int), Jvm.Cond.code ({ cls := "java/lang/StringUTF16", name := "putChar", desc := "([BII)V" } : Jvm.MethodName) jdk_52_method_4_code (3 : Nat) (Option.none : Option Jvm.ClassFile.FieldType), Jvm.Cond.code ({ cls := "java/lang/StringUTF16", name := "getChar", desc := "([BI)C" } : Jvm.MethodName) jdk_52_method_5_code (2 : Nat) (Option.some Jvm.ClassFile.FieldType.char), Jvm.Cond.code ({ cls := "java/lang/StringUTF16", name := "charAt", desc := "([BI)C" } : Jvm.MethodName) jdk_52_method_83_code (2 : Nat) (Option.some Jvm.ClassFile.FieldType.char), Jvm.Cond.code ({ cls := "java/lang/StringUTF16", name := "checkIndex", desc := "(I[B)V" } : Jvm.MethodName) jdk_52_method_91_code (2 : Nat) (Option.none : Option Jvm.ClassFile.FieldType), Jvm.Cond.code ({ cls := "java/lang/StringUTF16", name := "length", desc := "([B)I" } : Jvm.MethodName) jdk_52_method_6_code (1 : Nat) (Option.some Jvm.ClassFile.FieldType.int)]
set_option maxRecDepth 65536 in
theorem codes_eq : words1.filter isCode = codes1 := rfl
theorem w_codes : ∀ c ∈ words1.filter isCode, c.before args0 about1 = true := by
  rw [codes_eq]
  intro c hc
  simp only [codes1, List.mem_cons, List.not_mem_nil, or_false] at hc
  rcases hc with rfl | rfl | rfl | rfl | rfl | rfl | rfl | rfl | rfl | rfl | rfl | rfl | rfl | rfl | rfl | rfl | rfl | rfl | rfl | rfl | rfl | rfl | rfl | rfl
  · exact w_c0
  · exact w_c1
  · exact w_c2
  · exact w_c3
  · exact w_c4
  · exact w_c5
  · exact w_c6
  · exact w_c7
  · exact w_c8
  · exact w_c9
  · exact w_c10
  · exact w_c11
  · exact w_c12
  · exact w_c13
  · exact w_c14
  · exact w_c15
  · exact w_c16
  · exact w_c17
  · exact w_c18
  · exact w_c19
  · exact w_c20
  · exact w_c21
  · exact w_c22
  · exact w_c23
set_option maxRecDepth 65536 in
theorem w_t1 : (words1.take 24).all (fun c => isCode c || c.before args0 about1) = true := by decide +kernel
set_option maxRecDepth 65536 in
theorem w_t2 : ((words1.drop 24).take 24).all (fun c => isCode c || c.before args0 about1) = true := by decide +kernel
set_option maxRecDepth 65536 in
theorem w_t3 : (((words1.drop 24).drop 24).take 24).all (fun c => isCode c || c.before args0 about1) = true := by decide +kernel
set_option maxRecDepth 65536 in
theorem w_t4 : ((((words1.drop 24).drop 24).drop 24).take 24).all (fun c => isCode c || c.before args0 about1) = true := by decide +kernel
set_option maxRecDepth 65536 in
theorem w_t5 : ((((words1.drop 24).drop 24).drop 24).drop 24).all (fun c => isCode c || c.before args0 about1) = true := by decide +kernel
theorem w_tables : (allAtoms (Jvm.Cond.code x code maxLocals ret :: tables_1)).before args0 about1 = true := by
  rw [allAtoms_all]
  show words1.all (fun c => c.before args0 about1) = true
  refine all_split ?_ w_codes
  rw [← List.take_append_drop 24 words1, List.all_append, w_t1, ← List.take_append_drop 24 (words1.drop 24), List.all_append, w_t2, ← List.take_append_drop 24 ((words1.drop 24).drop 24), List.all_append, w_t3, ← List.take_append_drop 24 (((words1.drop 24).drop 24).drop 24), List.all_append, w_t4, w_t5]
  rfl
set_option maxRecDepth 65536 in
theorem w_rest : rest_1_c.before args0 about1 = true := by decide +kernel
set_option maxRecDepth 65536 in
theorem w_case : (Jvm.Cond.and given_1 narrow_1).before args0 about1 = true := by decide +kernel
set_option maxRecDepth 65536 in
theorem w_consts : constsHeld consts_1 about1 := Jvm.Lit.constsHeldB_iff.mp (by decide +kernel)
theorem w_applies : (headSpec (Jvm.Cond.code x code maxLocals ret :: tables_1) room_1).applies x e0.platform about1 = true :=
  (Spec.applies_iff w_frames).mpr ⟨w_running, w_runnable, w_alone, w_named, w_hears, w_ripe, w_room, w_tables⟩
theorem atStart : AtStart classFile x code maxLocals ret World_1 tables_1 room_1 Calls_1 rest_1 Pre_1 launch0 p0 e0 about1 theMethod args0 below0 :=
  ⟨lists_1, trivial, launch0.admits_env _ _ _, launch0.least_env, fairChoices_fair.cas, fairChoices_fair.clock, w_frames, w_args, w_heap, w_applies, ⟨w_consts, trivial⟩, w_rest, w_case⟩
end start1
theorem witness_1 : WitnessClaimed_1 := ⟨start1.p0, start1.e0, start1.about1, start1.theMethod, start1.args0, start1.below0, start1.atStart⟩
end Jvm.Pilot.@@N@@
