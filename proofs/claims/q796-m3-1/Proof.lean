import JvmDerived
import JvmDerived.Pilot.@@N@@Statement
import JvmDerived.Pilot.@@N@@Code
set_option linter.unusedVariables false
set_option linter.unusedSimpArgs false
/- laws to paste: Road.backV, Road.lenW, Road.eqW, Road.codOf, StrChars.pair_says, StrChars.narrow_ch, StrChars.shr1, StrChars.chr8_lo8, StrChars.lo8_mask, Road.low_at, Road.wide_hi (cut by pick.py; bodies as the Statement names them) -/
namespace Jvm.Pilot.@@N@@
namespace StrChars
open Jvm Sem ClassFile Op Lib Jvm.Stand Jvm.Free.XT Jvm.Free.ALB Jvm.Free.JM Jvm.Free
open Jvm.Lib.Cold (StaticIs)
/-- a char array whose places are chars -/
def Ch (a : Addr) (A : Cell) (U : State) : Prop := Arr .char a A U ∧ Typed .char A
theorem Ch.mv {a : Addr} {A : Cell} {U U' : State} (h : Ch a A U) (hal : U.vm.Alike U'.vm) (hh : U'.heap = U.heap) : Ch a A U' := ⟨h.1.mv hal hh, h.2⟩
theorem Ch.keep {a : Addr} {A : Cell} {U U' : State} (h : Ch a A U) (hal : U.vm.Alike U'.vm) (hk : U'.heap[a]? = some A) : Ch a A U' := ⟨h.1.keep hal hk, h.2⟩
/-- what place i of a char[]'s cell holds -/
def cv (A : Cell) (i : Nat) : Int32 := match A.slots[i]? with | some (.int x) => x | _ => 0
theorem Ch.get {a : Addr} {A : Cell} {U : State} (h : Ch a A U) {i : Nat} (hi : i < A.slots.size) : A.slots[i]? = some (.int (cv A i)) := by
  have e := Array.getElem?_eq_getElem hi
  have f := h.2 i _ e
  unfold cv; rw [e]
  generalize A.slots[i] = v at f
  cases v <;> simp [fits] at f ⊢
/-- the byte that i2b leaves of a char -/
def lo8 (x : Int32) : Int32 := x.toInt8.toInt32
theorem fits_lo8 (y : Int32) : fits .byte (.int (lo8 y)) = true := by
  have h1 := y.toInt8.le_toInt
  have h2 := y.toInt8.toInt_lt
  simp only [lo8, fits, Bool.and_eq_true, decide_eq_true_eq, Int32.le_iff_toInt_le, Int8.toInt_toInt32, show (-128 : Int32).toInt = -128 from by decide, show (127 : Int32).toInt = 127 from by decide]
  omega
/-- A' is A but that each place j of lo .. hi - 1 holds f j -/
def Laid (A A' : Cell) (lo hi : Nat) (f : Nat → Value) : Prop := A'.cls = A.cls ∧ A'.vm = A.vm ∧ A'.slots.size = A.slots.size ∧ ∀ i, A'.slots[i]? = if lo ≤ i ∧ i < hi then some (f i) else A.slots[i]?
theorem Laid.zero (A : Cell) (lo : Nat) (f : Nat → Value) : Laid A A lo (lo + 0) f := ⟨rfl, rfl, rfl, fun i => by rw [if_neg (by omega)]⟩
theorem Laid.step {A Ak : Cell} {lo k : Nat} {f : Nat → Value} {v : Value} (h : Laid A Ak lo k f) (hlo : lo ≤ k) (hk : k < Ak.slots.size) (hv : v = f k) : Laid A (Ak.setSlot k v) lo (k + 1) f := by
  refine ⟨h.1, h.2.1, by simpa [Cell.setSlot] using h.2.2.1, fun i => ?_⟩
  by_cases e : k = i
  · subst e; rw [Cell.slots_setSlot_self v hk, if_pos (by omega), hv]
  · rw [Cell.slots_setSlot_ne v e, h.2.2.2 i]
    by_cases q : lo ≤ i ∧ i < k
    · rw [if_pos q, if_pos (by omega)]
    · rw [if_neg q, if_neg (by omega)]
def U16 : String := "java/lang/StringUTF16"
namespace Cmp5
def yN : MethodName := ⟨"java/lang/StringUTF16", "compress", "([CI[BII)I"⟩
abbrev yB : ByteArray := jdk_52_method_21_code
theorem d0 : decode yB 0 = .ok (.iconst 0, 1) := by decide +kernel
theorem d1 : decode yB 1 = .ok (.istore 5, 2) := by decide +kernel
theorem d3 : decode yB 3 = .ok (.iload 5, 2) := by decide +kernel
theorem d5 : decode yB 5 = .ok (.iload 4, 2) := by decide +kernel
theorem d7 : decode yB 7 = .ok (.if_icmp (.ge) 37, 3) := by decide +kernel
theorem d10 : decode yB 10 = .ok (.aload_n 0, 1) := by decide +kernel
theorem d11 : decode yB 11 = .ok (.iload_n 1, 1) := by decide +kernel
theorem d12 : decode yB 12 = .ok (.caload, 1) := by decide +kernel
theorem d13 : decode yB 13 = .ok (.istore 6, 2) := by decide +kernel
theorem d15 : decode yB 15 = .ok (.iload 6, 2) := by decide +kernel
theorem d17 : decode yB 17 = .ok (.sipush 255, 3) := by decide +kernel
theorem d20 : decode yB 20 = .ok (.if_icmp (.le) 6, 3) := by decide +kernel
theorem d26 : decode yB 26 = .ok (.aload_n 2, 1) := by decide +kernel
theorem d27 : decode yB 27 = .ok (.iload_n 3, 1) := by decide +kernel
theorem d28 : decode yB 28 = .ok (.iload 6, 2) := by decide +kernel
theorem d30 : decode yB 30 = .ok (.i2b, 1) := by decide +kernel
theorem d31 : decode yB 31 = .ok (.bastore, 1) := by decide +kernel
theorem d32 : decode yB 32 = .ok (.iinc 1 1, 3) := by decide +kernel
theorem d35 : decode yB 35 = .ok (.iinc 3 1, 3) := by decide +kernel
theorem d38 : decode yB 38 = .ok (.iinc 5 1, 3) := by decide +kernel
theorem d41 : decode yB 41 = .ok (.goto (-38), 3) := by decide +kernel
theorem d44 : decode yB 44 = .ok (.iload 4, 2) := by decide +kernel
theorem d46 : decode yB 46 = .ok (.ireturn, 1) := by decide +kernel
def site : List Cond := []
def tab : Cond := tabOf yN yB 7 (some .int) site
def P (b : Addr) (A : Cell) (d : Addr) (B : Cell) (o q len : Nat) (args : Array Value) (s : State) : Prop := args = #[.ref b, .int (Int32.ofNat o), .ref d, .int (Int32.ofNat q), .int (Int32.ofNat len)] ∧ Ch b A s ∧ Arr .byte d B s ∧ b ≠ d ∧ o + len ≤ A.slots.size ∧ q + len ≤ B.slots.size ∧ ∀ i, i < len → ¬ 255 < cv A (o + i)
def E (b : Addr) (A : Cell) (d : Addr) (B : Cell) (o q len : Nat) (r : Option Value) (s u : State) : Prop := r = some (.int (Int32.ofNat len)) ∧ ∃ B', Put d B' s u ∧ Laid B B' q (q + len) (fun j => Value.int (lo8 (cv A (o + (j - q)))))
/-- no char of the range above 255: len; the places written hold each char's low byte -/
theorem law (l : Launch) (b : Addr) (A : Cell) (d : Addr) (B : Cell) (o q len : Nat) : Law l yN 5 5 0 0 yB 7 (some .int) site (P b A d B o q len) (E b A d B o q len) (copyLocs d q len) 0 0 := by
  refine Law.of_walk (plainFor_of_name (by decide +kernel)) (by decide +kernel) (by decide +kernel) (by decide) (fun _ _ h => by rw [h.1]; rfl) (fun _ U U' hal hh h => ⟨h.1, h.2.1.mv hal hh, h.2.2.1.mv hal hh, h.2.2.2⟩) (fun r U U' V V' h1 hal h2 h => ⟨h.1, h.2.elim fun B' q => ⟨B', q.1.mv h1 h2, q.2⟩⟩) ?_
  intro p e s m args below meth c s₁ X0 hexec hbytes hml hret hlk hnm hown hh0 W hP
  obtain ⟨rfl, hA, hB, hne, l1, l2, hp⟩ := hP
  have c1 : Steps p.tables e below (s₁.setTop (entryFrame m #[.ref b, .int (Int32.ofNat o), .ref d, .int (Int32.ofNat q), .int (Int32.ofNat len)] 7)) (s₁.setTop (mkF m 0 #[.val (.ref b), .val (.int (Int32.ofNat o)), .val (.ref d), .val (.int (Int32.ofNat q)), .val (.int (Int32.ofNat len)), .unset, .unset] [])) := entry rfl
  have hA0 := hA.1.mv X0.warmed.alike hh0
  have hB0 := hB.mv X0.warmed.alike hh0
  have a31 := hA.1.2.2.2
  have c2 : Steps p.tables e below (s₁.setTop (entryFrame m #[.ref b, .int (Int32.ofNat o), .ref d, .int (Int32.ofNat q), .int (Int32.ofNat len)] 7)) (s₁.setTop (mkF m 3 #[.val (.ref b), .val (.int (Int32.ofNat o)), .val (.ref d), .val (.int (Int32.ofNat q)), .val (.int (Int32.ofNat len)), .val (.int 0), .unset] [])) := c1.trans (by
    refine iconstV X0.here hexec rfl 0 (hb hbytes d0) (by decide) ?_
    refine XS.istore X0.here hexec rfl (hb hbytes d1) rfl rfl ?_
    exact Steps.refl _)
  have loop : ∀ (r i : Nat), i + r = len → ∀ (z : Slot), (z = .unset ∨ ∃ w, z = .val w ∧ w.category = 1) → ∀ (Tl : State) (Bk : Cell), Stand p l e { frames := 0, locals := 0, cells := 0, slots := 0 } s m #[.ref b, .int (Int32.ofNat o), .ref d, .int (Int32.ofNat q), .int (Int32.ofNat len)] below meth c Tl ([] ++ copyLocs d q i) 0 0 → Put d Bk s₁ Tl → Laid B Bk q (q + i) (fun j => Value.int (lo8 (cv A (o + (j - q))))) →
      Steps p.tables e below (s₁.setTop (entryFrame m #[.ref b, .int (Int32.ofNat o), .ref d, .int (Int32.ofNat q), .int (Int32.ofNat len)] 7)) (Tl.setTop (mkF m 3 #[.val (.ref b), .val (.int (Int32.ofNat (o + i))), .val (.ref d), .val (.int (Int32.ofNat (q + i))), .val (.int (Int32.ofNat len)), .val (.int (Int32.ofNat i)), z] [])) → ∃ (T' : State) (B' : Cell) (z' : Slot), Stand p l e { frames := 0, locals := 0, cells := 0, slots := 0 } s m #[.ref b, .int (Int32.ofNat o), .ref d, .int (Int32.ofNat q), .int (Int32.ofNat len)] below meth c T' ([] ++ copyLocs d q len) 0 0 ∧ Put d B' s₁ T' ∧ Laid B B' q (q + len) (fun j => Value.int (lo8 (cv A (o + (j - q))))) ∧
      Steps p.tables e below (s₁.setTop (entryFrame m #[.ref b, .int (Int32.ofNat o), .ref d, .int (Int32.ofNat q), .int (Int32.ofNat len)] 7)) (T'.setTop (mkF m 3 #[.val (.ref b), .val (.int (Int32.ofNat (o + len))), .val (.ref d), .val (.int (Int32.ofNat (q + len))), .val (.int (Int32.ofNat len)), .val (.int (Int32.ofNat len)), z'] [])) := by
    intro r
    induction r with
    | zero =>
      intro i hi z hz Tl Bk Xl pl fl cl
      have hil : i = len := by omega
      rw [hil] at Xl fl cl
      exact ⟨Tl, Bk, z, Xl, pl, fl, cl⟩
    | succ r ih =>
      intro i hi z hz Tl Bk Xl pl fl cl
      have all := X0.warmed.alike.symm.trans Xl.warmed.alike
      have hAl := hA0.keep all (pl.other hne hA0.1)
      have hBk := hB0.like all pl.1 fl.1 fl.2.1 fl.2.2.1
      have hlt : q + i < Bk.slots.size := by rw [fl.2.2.1]; omega
      have c3 : Steps p.tables e below (s₁.setTop (entryFrame m #[.ref b, .int (Int32.ofNat o), .ref d, .int (Int32.ofNat q), .int (Int32.ofNat len)] 7)) (Tl.setTop (mkF m 12 #[.val (.ref b), .val (.int (Int32.ofNat (o + i))), .val (.ref d), .val (.int (Int32.ofNat (q + i))), .val (.int (Int32.ofNat len)), .val (.int (Int32.ofNat i)), z] [.int (Int32.ofNat (o + i)), .ref b])) := cl.trans (by
        refine XS.iload Xl.here hexec rfl (hb hbytes d3) rfl ?_
        refine XS.iload Xl.here hexec rfl (hb hbytes d5) rfl ?_
        refine XS.icmpNo Xl.here hexec rfl (hb hbytes d7) rfl (ii_ge_f (lt32 (by omega) (by omega))) ?_
        refine XS.aloadN Xl.here hexec rfl (hb hbytes d10) rfl rfl ?_
        refine XS.iloadN Xl.here hexec rfl (hb hbytes d11) rfl ?_
        exact Steps.refl _)
      have c4 : Steps p.tables e below (s₁.setTop (entryFrame m #[.ref b, .int (Int32.ofNat o), .ref d, .int (Int32.ofNat q), .int (Int32.ofNat len)] 7)) (Tl.setTop (mkF m 13 #[.val (.ref b), .val (.int (Int32.ofNat (o + i))), .val (.ref d), .val (.int (Int32.ofNat (q + i))), .val (.int (Int32.ofNat len)), .val (.int (Int32.ofNat i)), z] [.int (cv A (o + i))])) := c3.trans (by
        refine Xl.aget hexec hAl rfl (hA.get (i := o + i) (by omega)) rfl rfl (hb hbytes d12) ?_
        exact Steps.refl _)
      have c5 : Steps p.tables e below (s₁.setTop (entryFrame m #[.ref b, .int (Int32.ofNat o), .ref d, .int (Int32.ofNat q), .int (Int32.ofNat len)] 7)) (Tl.setTop (mkF m 15 #[.val (.ref b), .val (.int (Int32.ofNat (o + i))), .val (.ref d), .val (.int (Int32.ofNat (q + i))), .val (.int (Int32.ofNat len)), .val (.int (Int32.ofNat i)), .val (.int (cv A (o + i)))] [])) := c4.trans (by
        refine XS.istoreS Xl.here hexec rfl (hb hbytes d13) rfl rfl hz ?_
        exact Steps.refl _)
      have c6 : Steps p.tables e below (s₁.setTop (entryFrame m #[.ref b, .int (Int32.ofNat o), .ref d, .int (Int32.ofNat q), .int (Int32.ofNat len)] 7)) (Tl.setTop (mkF m 31 #[.val (.ref b), .val (.int (Int32.ofNat (o + i))), .val (.ref d), .val (.int (Int32.ofNat (q + i))), .val (.int (Int32.ofNat len)), .val (.int (Int32.ofNat i)), .val (.int (cv A (o + i)))] [.int (lo8 (cv A (o + i))), .int (Int32.ofNat (q + i)), .ref d])) := c5.trans (by
        refine XS.iload Xl.here hexec rfl (hb hbytes d15) rfl ?_
        refine sipushV Xl.here hexec rfl 255 (hb hbytes d17) (by decide) ?_
        refine XS.icmpYes Xl.here hexec rfl (pc0 := 20) rfl (hb hbytes d20) rfl (ii_le_t (hp i (by omega))) (by decide) rfl ?_
        refine XS.aloadN Xl.here hexec rfl (hb hbytes d26) rfl rfl ?_
        refine XS.iloadN Xl.here hexec rfl (hb hbytes d27) rfl ?_
        refine XS.iload Xl.here hexec rfl (hb hbytes d28) rfl ?_
        refine i2b Xl.here hexec rfl (hb hbytes d30) rfl ?_
        exact Steps.refl _)
      obtain ⟨T7, X7, p7, st7⟩ := Xl.aput hexec hBk rfl hlt rfl (fits_lo8 (cv A (o + i))) (g := (mkF m 31 #[.val (.ref b), .val (.int (Int32.ofNat (o + i))), .val (.ref d), .val (.int (Int32.ofNat (q + i))), .val (.int (Int32.ofNat len)), .val (.int (Int32.ofNat i)), .val (.int (cv A (o + i)))] [.int (lo8 (cv A (o + i))), .int (Int32.ofNat (q + i)), .ref d])) rfl (rest := []) rfl (hb hbytes d31)
      have c8 : Steps p.tables e below (s₁.setTop (entryFrame m #[.ref b, .int (Int32.ofNat o), .ref d, .int (Int32.ofNat q), .int (Int32.ofNat len)] 7)) (T7.setTop (mkF m 32 #[.val (.ref b), .val (.int (Int32.ofNat (o + i))), .val (.ref d), .val (.int (Int32.ofNat (q + i))), .val (.int (Int32.ofNat len)), .val (.int (Int32.ofNat i)), .val (.int (cv A (o + i)))] [])) := c6.trans (st7 _ (Steps.refl _))
      have c9 : Steps p.tables e below (s₁.setTop (entryFrame m #[.ref b, .int (Int32.ofNat o), .ref d, .int (Int32.ofNat q), .int (Int32.ofNat len)] 7)) (T7.setTop (mkF m 3 #[.val (.ref b), .val (.int (Int32.ofNat (o + i) + 1)), .val (.ref d), .val (.int (Int32.ofNat (q + i) + 1)), .val (.int (Int32.ofNat len)), .val (.int (Int32.ofNat i + 1)), .val (.int (cv A (o + i)))] [])) := c8.trans (by
        refine iincV X7.here hexec rfl 1 (hb hbytes d32) (by decide) rfl rfl ?_
        refine iincV X7.here hexec rfl 1 (hb hbytes d35) (by decide) rfl rfl ?_
        refine iincV X7.here hexec rfl 1 (hb hbytes d38) (by decide) rfl rfl ?_
        refine XS.goto X7.here hexec rfl (pc0 := 41) rfl (hb hbytes d41) (by decide) rfl ?_
        exact Steps.refl _)
      have c10 : Steps p.tables e below (s₁.setTop (entryFrame m #[.ref b, .int (Int32.ofNat o), .ref d, .int (Int32.ofNat q), .int (Int32.ofNat len)] 7)) (T7.setTop (mkF m 3 #[.val (.ref b), .val (.int (Int32.ofNat (o + (i + 1)))), .val (.ref d), .val (.int (Int32.ofNat (q + (i + 1)))), .val (.int (Int32.ofNat len)), .val (.int (Int32.ofNat (i + 1))), .val (.int (cv A (o + i)))] [])) := by
        have := c9
        rw [succ32, succ32, succ32] at this
        exact this
      exact ih (i + 1) (by omega) _ (Or.inr ⟨_, rfl, rfl⟩) T7 _ (by rw [copyLocs_step, ← List.append_assoc]; exact X7) (pl.trans p7) (fl.step (by omega) hlt (by simp)) c10
  obtain ⟨T9, B9, z9, X9, p9, f9, g9⟩ := loop len 0 (by omega) .unset (Or.inl rfl) s₁ B (by simpa [copyLocs] using X0) ⟨hB0.1, fun _ _ => rfl, rfl⟩ (Laid.zero _ _ _) c2
  have c11 : Steps p.tables e below (s₁.setTop (entryFrame m #[.ref b, .int (Int32.ofNat o), .ref d, .int (Int32.ofNat q), .int (Int32.ofNat len)] 7)) (T9.setTop (mkF m 46 #[.val (.ref b), .val (.int (Int32.ofNat (o + len))), .val (.ref d), .val (.int (Int32.ofNat (q + len))), .val (.int (Int32.ofNat len)), .val (.int (Int32.ofNat len)), z9] [.int (Int32.ofNat len)])) := g9.trans (by
    refine XS.iload X9.here hexec rfl (hb hbytes d3) rfl ?_
    refine XS.iload X9.here hexec rfl (hb hbytes d5) rfl ?_
    refine XS.icmpYes X9.here hexec rfl (pc0 := 7) rfl (hb hbytes d7) rfl (ii_ge_t (nlt32 (by omega) (Nat.le_refl _))) (by decide) rfl ?_
    refine XS.iload X9.here hexec rfl (hb hbytes d44) rfl ?_
    exact Steps.refl _)
  exact ⟨T9, some (.int (Int32.ofNat len)), _, _, _, X9, by simp, rfl, rfl, (fun h => by cases h), ⟨rfl, B9, p9.from hh0, f9⟩, fun fs hl => c11.trans (X9.ireturnOut hexec hret rfl (Or.inl rfl) (hb hbytes d46) hl)⟩
end Cmp5
namespace Cmp3
def yN : MethodName := ⟨"java/lang/StringUTF16", "compress", "([CII)[B"⟩
abbrev yB : ByteArray := jdk_52_method_16_code
theorem d0 : decode yB 0 = .ok (.iload_n 2, 1) := by decide +kernel
theorem d1 : decode yB 1 = .ok (.newarray .byte, 2) := by decide +kernel
theorem d3 : decode yB 3 = .ok (.astore_n 3, 1) := by decide +kernel
theorem d4 : decode yB 4 = .ok (.aload_n 0, 1) := by decide +kernel
theorem d5 : decode yB 5 = .ok (.iload_n 1, 1) := by decide +kernel
theorem d6 : decode yB 6 = .ok (.aload_n 3, 1) := by decide +kernel
theorem d7 : decode yB 7 = .ok (.iconst 0, 1) := by decide +kernel
theorem d8 : decode yB 8 = .ok (.iload_n 2, 1) := by decide +kernel
theorem d9 : decode yB 9 = .ok (.invokestatic 115, 3) := by decide +kernel
theorem d12 : decode yB 12 = .ok (.istore 4, 2) := by decide +kernel
theorem d14 : decode yB 14 = .ok (.iload 4, 2) := by decide +kernel
theorem d16 : decode yB 16 = .ok (.iload_n 2, 1) := by decide +kernel
theorem d17 : decode yB 17 = .ok (.if_icmp (.eq) 40, 3) := by decide +kernel
theorem d57 : decode yB 57 = .ok (.aload_n 3, 1) := by decide +kernel
theorem d58 : decode yB 58 = .ok (.areturn, 1) := by decide +kernel
def site : List Cond := [.arrayClass .byte, Cmp5.tab] ++ staticW U16 115 Cmp5.yN
def tab : Cond := tabOf yN yB 6 (some (.array .byte)) site
def P (b : Addr) (A : Cell) (o len : Nat) (args : Array Value) (s : State) : Prop := args = #[.ref b, .int (Int32.ofNat o), .int (Int32.ofNat len)] ∧ Ch b A s ∧ o + len ≤ A.slots.size ∧ len ≤ 536870912 ∧ ∀ i, i < len → ¬ 255 < cv A (o + i)
def E (b : Addr) (A : Cell) (o len : Nat) (r : Option Value) (s u : State) : Prop := NewArr .byte "[B" len (fun j => .int (lo8 (cv A (o + j)))) r s u ∧ u.heap.size = s.heap.size + 1
/-- no char of the range above 255: a new byte[] of their low bytes -/
theorem law (l : Launch) (b : Addr) (A : Cell) (o len : Nat) : Law l yN 3 3 1 18 yB 6 (some (.array .byte)) site (P b A o len) (E b A o len) [] 1 len := by
  refine Law.of_walk (plainFor_of_name (by decide +kernel)) (by decide +kernel) (by decide +kernel) (by decide) (fun _ _ h => by rw [h.1]; rfl) (fun _ U U' hal hh h => ⟨h.1, h.2.1.mv hal hh, h.2.2⟩) (fun r U U' V V' h1 hal h2 h => ⟨NewArr.mv r U U' V V' h1 hal h2 h.1, by rw [h1, h2]; exact h.2⟩) ?_
  intro p e s m args below meth c s₁ X0 hexec hbytes hml hret hlk hnm hown hh0 W hP
  obtain ⟨rfl, hA, l1, l2, hp⟩ := hP
  have a31 := hA.1.2.2.2
  have c1 : Steps p.tables e below (s₁.setTop (entryFrame m #[.ref b, .int (Int32.ofNat o), .int (Int32.ofNat len)] 6)) (s₁.setTop (mkF m 0 #[.val (.ref b), .val (.int (Int32.ofNat o)), .val (.int (Int32.ofNat len)), .unset, .unset, .unset] [])) := entry rfl
  have c2 : Steps p.tables e below (s₁.setTop (entryFrame m #[.ref b, .int (Int32.ofNat o), .int (Int32.ofNat len)] 6)) (s₁.setTop (mkF m 1 #[.val (.ref b), .val (.int (Int32.ofNat o)), .val (.int (Int32.ofNat len)), .unset, .unset, .unset] [.int (Int32.ofNat len)])) := c1.trans (by
    refine XS.iloadN X0.here hexec rfl (hb hbytes d0) rfl ?_
    exact Steps.refl _)
  obtain ⟨T3, B3, X3, ba3, bs3, bv3, bh3, bf3, st3⟩ := X0.anew hexec (atype := .byte) (wk W (.arrayClass .byte)) rfl (by show len * 1 ≤ _; omega) (by omega) (g := (mkF m 1 #[.val (.ref b), .val (.int (Int32.ofNat o)), .val (.int (Int32.ofNat len)), .unset, .unset, .unset] [.int (Int32.ofNat len)])) rfl (hb hbytes d1) (rest := []) rfl (Nat.le_refl _) (by show 0 + len ≤ len; omega)
  rw [hh0] at ba3 st3
  have kp3 : XT.Kept s T3 := (XT.Kept.of_eq hh0).push bh3
  have hA3 := hA.keep X3.warmed.alike (kp3 _ _ hA.1.1)
  have hne : b ≠ s.heap.size := hA.1.ne
  have c4 : Steps p.tables e below (s₁.setTop (entryFrame m #[.ref b, .int (Int32.ofNat o), .int (Int32.ofNat len)] 6)) (T3.setTop (mkF m 3 #[.val (.ref b), .val (.int (Int32.ofNat o)), .val (.int (Int32.ofNat len)), .unset, .unset, .unset] [.ref s.heap.size])) := c2.trans (st3 _ (Steps.refl _))
  have c5 : Steps p.tables e below (s₁.setTop (entryFrame m #[.ref b, .int (Int32.ofNat o), .int (Int32.ofNat len)] 6)) (T3.setTop (mkF m 9 #[.val (.ref b), .val (.int (Int32.ofNat o)), .val (.int (Int32.ofNat len)), .val (.ref s.heap.size), .unset, .unset] [.int (Int32.ofNat len), .int 0, .ref s.heap.size, .int (Int32.ofNat o), .ref b])) := c4.trans (by
    refine XS.astoreN X3.here hexec rfl (hb hbytes d3) rfl rfl rfl ?_
    refine XS.aloadN X3.here hexec rfl (hb hbytes d4) rfl rfl ?_
    refine XS.iloadN X3.here hexec rfl (hb hbytes d5) rfl ?_
    refine XS.aloadN X3.here hexec rfl (hb hbytes d6) rfl rfl ?_
    refine iconstV X3.here hexec rfl 0 (hb hbytes d7) (by decide) ?_
    refine XS.iloadN X3.here hexec rfl (hb hbytes d8) rfl ?_
    exact Steps.refl _)
  obtain ⟨v6, T6, X6, E6, g6⟩ := X3.callS hexec (Cmp5.law l b A s.heap.size B3 o 0 len) hown (wks W (staticW U16 115 Cmp5.yN)) (wk W Cmp5.tab) (W := 0) (Nat.le_of_ble_eq_true rfl) (Nat.le_of_ble_eq_true rfl) (Nat.le_refl _) (by show 0 + len + 0 ≤ len; omega) (g := (mkF m 9 #[.val (.ref b), .val (.int (Int32.ofNat o)), .val (.int (Int32.ofNat len)), .val (.ref s.heap.size), .unset, .unset] [.int (Int32.ofNat len), .int (Int32.ofNat 0), .ref s.heap.size, .int (Int32.ofNat o), .ref b])) rfl (by rw [hml]; rfl) c5 (argsL := [.ref b, .int (Int32.ofNat o), .ref s.heap.size, .int (Int32.ofNat 0), .int (Int32.ofNat len)]) (rest := []) rfl rfl (by show 2 * 0 + 0 ≤ _; decide) (hb hbytes d9) (⟨rfl, hA3, ba3, hne, l1, by rw [bs3]; simp, hp⟩)
  obtain ⟨rfl, B6, p6, f6⟩ := E6
  have c7 : Steps p.tables e below (s₁.setTop (entryFrame m #[.ref b, .int (Int32.ofNat o), .int (Int32.ofNat len)] 6)) (T6.setTop (mkF m 12 #[.val (.ref b), .val (.int (Int32.ofNat o)), .val (.int (Int32.ofNat len)), .val (.ref s.heap.size), .unset, .unset] [.int (Int32.ofNat len)])) := g6
  have c8 : Steps p.tables e below (s₁.setTop (entryFrame m #[.ref b, .int (Int32.ofNat o), .int (Int32.ofNat len)] 6)) (T6.setTop (mkF m 58 #[.val (.ref b), .val (.int (Int32.ofNat o)), .val (.int (Int32.ofNat len)), .val (.ref s.heap.size), .val (.int (Int32.ofNat len)), .unset] [.ref s.heap.size])) := c7.trans (by
    refine XS.istore X6.here hexec rfl (hb hbytes d12) rfl rfl ?_
    refine XS.iload X6.here hexec rfl (hb hbytes d14) rfl ?_
    refine XS.iloadN X6.here hexec rfl (hb hbytes d16) rfl ?_
    refine XS.icmpYes X6.here hexec rfl (pc0 := 17) rfl (hb hbytes d17) rfl (ii_eq_t rfl) (by decide) rfl ?_
    refine XS.aloadN X6.here hexec rfl (hb hbytes d57) rfl rfl ?_
    exact Steps.refl _)
  have X8 := X6.wide (L' := []) (cells' := 1) (slots' := len) (fun x hx hlt => by
    simp only [List.nil_append, copyLocs, List.mem_map, List.mem_range] at hx
    obtain ⟨i, -, rfl⟩ := hx
    exact absurd hlt (Nat.lt_irrefl _)) (Nat.le_refl _) (by omega)
  exact ⟨T6, some (.ref s.heap.size), _, _, _, X8, rfl, rfl, rfl, (fun h => by cases h), ⟨⟨rfl, B6, ba3.like (X3.warmed.alike.symm.trans X6.warmed.alike) p6.1 f6.1 f6.2.1 f6.2.2.1, f6.2.1.trans bv3, by rw [X6.warmed.alike.findClass, f6.1]; exact bf3, by rw [f6.2.2.1, bs3]; simp, fun j hj => by rw [f6.2.2.2 j, if_pos (by omega)]; rfl, kp3.put p6 (Nat.le_refl _)⟩, by rw [p6.2.2, bh3, hh0]; simp⟩, fun fs hl => c8.trans (X8.areturnOut hexec rfl hret rfl (hb hbytes d58) hl)⟩
end Cmp3
namespace CodL
def yN : MethodName := ⟨"java/lang/StringUTF16", "coderFromArrayLen", "([BI)B"⟩
abbrev yB : ByteArray := jdk_52_method_15_code
theorem d0 : decode yB 0 = .ok (.iload_n 1, 1) := by decide +kernel
theorem d1 : decode yB 1 = .ok (.aload_n 0, 1) := by decide +kernel
theorem d2 : decode yB 2 = .ok (.arraylength, 1) := by decide +kernel
theorem d3 : decode yB 3 = .ok (.isub, 1) := by decide +kernel
theorem d4 : decode yB 4 = .ok (.bipush 31, 2) := by decide +kernel
theorem d6 : decode yB 6 = .ok (.iushr, 1) := by decide +kernel
theorem d7 : decode yB 7 = .ok (.i2b, 1) := by decide +kernel
theorem d8 : decode yB 8 = .ok (.ireturn, 1) := by decide +kernel
def site : List Cond := []
def tab : Cond := tabOf yN yB 2 (some .byte) site
def P (d : Addr) (B : Cell) (args : Array Value) (s : State) : Prop := args = #[.ref d, .int (Int32.ofNat B.slots.size)] ∧ Arr .byte d B s
def E (r : Option Value) (s u : State) : Prop := XT.PureE (some (.int 0)) r s u
/-- an array as long as the number of chars: LATIN1 -/
theorem law (l : Launch) (d : Addr) (B : Cell) : Law l yN 2 2 0 0 yB 2 (some .byte) site (P d B) E [] 0 0 := by
  refine Law.of_walk (plainFor_of_name (by decide +kernel)) (by decide +kernel) (by decide +kernel) (by decide) (fun _ _ h => by rw [h.1]; rfl) (fun _ U U' hal hh h => ⟨h.1, h.2.mv hal hh⟩) (fun r U U' V V' h1 hal h2 h => XT.PureE.mv r U U' V V' h1 hal h2 h) ?_
  intro p e s m args below meth c s₁ X0 hexec hbytes hml hret hlk hnm hown hh0 W hP
  obtain ⟨rfl, hB⟩ := hP
  have hB0 := hB.mv X0.warmed.alike hh0
  have c1 : Steps p.tables e below (s₁.setTop (entryFrame m #[.ref d, .int (Int32.ofNat B.slots.size)] 2)) (s₁.setTop (mkF m 0 #[.val (.ref d), .val (.int (Int32.ofNat B.slots.size))] [])) := entry rfl
  have c2 : Steps p.tables e below (s₁.setTop (entryFrame m #[.ref d, .int (Int32.ofNat B.slots.size)] 2)) (s₁.setTop (mkF m 2 #[.val (.ref d), .val (.int (Int32.ofNat B.slots.size))] [.ref d, .int (Int32.ofNat B.slots.size)])) := c1.trans (by
    refine XS.iloadN X0.here hexec rfl (hb hbytes d0) rfl ?_
    refine XS.aloadN X0.here hexec rfl (hb hbytes d1) rfl rfl ?_
    exact Steps.refl _)
  have c3 : Steps p.tables e below (s₁.setTop (entryFrame m #[.ref d, .int (Int32.ofNat B.slots.size)] 2)) (s₁.setTop (mkF m 8 #[.val (.ref d), .val (.int (Int32.ofNat B.slots.size))] [.int (lo8 (ushr (Int32.ofNat B.slots.size - Int32.ofNat B.slots.size) 31))])) := c2.trans (by
    refine X0.alen hexec hB0 rfl rfl (hb hbytes d2) ?_
    refine XS.isub X0.here hexec rfl (hb hbytes d3) rfl ?_
    refine bipushV X0.here hexec rfl 31 (hb hbytes d4) (by decide) ?_
    refine iushr X0.here hexec rfl (hb hbytes d6) rfl ?_
    refine i2b X0.here hexec rfl (hb hbytes d7) rfl ?_
    exact Steps.refl _)
  have e0 : lo8 (ushr (Int32.ofNat B.slots.size - Int32.ofNat B.slots.size) 31) = 0 := by rw [Int32.sub_self]; decide
  rw [e0] at c3
  exact ⟨s₁, some (.int 0), _, _, _, X0, rfl, rfl, rfl, (fun h => by cases h), ⟨rfl, hh0⟩, fun fs hl => c3.trans (X0.ireturnOut hexec hret rfl (Or.inr (Or.inr (Or.inl rfl))) (hb hbytes d8) hl)⟩
end CodL
/-- the String at a is Latin-1 over a new byte[] (the heap's one new cell): the low bytes of the len chars of A from o on; every cell but a is kept -/
def Got (a : Addr) (D : Cell) (fV fC : Field) (A : Cell) (o len : Nat) (r : Option Value) (s u : State) : Prop := r = none ∧ ∃ D' V : Cell, Blank "java/lang/String" a D' u ∧ Same D D' [fV.slot, fC.slot] ∧ D'.slots[fV.slot]? = some (.ref s.heap.size) ∧ D'.slots[fC.slot]? = some (.int 0) ∧ Arr .byte s.heap.size V u ∧ V.vm = .none ∧ u.vm.findClass "[B" = some V.cls ∧ V.slots.size = len ∧ (∀ j, j < len → V.slots[j]? = some (.int (lo8 (cv A (o + j))))) ∧ (∀ (y : Addr) (c : Cell), y ≠ a → s.heap[y]? = some c → u.heap[y]? = some c) ∧ u.heap.size = s.heap.size + 1
theorem Got.mv {a : Addr} {D A : Cell} {fV fC : Field} {o len : Nat} : ∀ r (U U' V V' : State), U'.heap = U.heap → V.vm.Alike V'.vm → V'.heap = V.heap → Got a D fV fC A o len r U V → Got a D fV fC A o len r U' V' :=
  fun r U U' V V' h1 hal h2 ⟨e0, D', X, a1, a2, a3, a4, a5, a6, a7, a8, a9, a10, a11⟩ => ⟨e0, D', X, a1.mv hal h2, a2, by rw [h1]; exact a3, a4, by rw [h1]; exact a5.mv hal h2, a6, by rw [hal.findClass]; exact a7, a8, a9, by rw [h1, h2]; exact a10, by rw [h1, h2]; exact a11⟩
namespace New4
def yN : MethodName := ⟨"java/lang/String", "<init>", "([CIILjava/lang/Void;)V"⟩
abbrev yB : ByteArray := jdk_42_method_149_code
theorem d0 : decode yB 0 = .ok (.aload_n 0, 1) := by decide +kernel
theorem d1 : decode yB 1 = .ok (.invokespecial 1, 3) := by decide +kernel
theorem d4 : decode yB 4 = .ok (.iload_n 3, 1) := by decide +kernel
theorem d5 : decode yB 5 = .ok (.ifCond (.ne) 22, 3) := by decide +kernel
theorem d27 : decode yB 27 = .ok (.getstatic 38, 3) := by decide +kernel
theorem d30 : decode yB 30 = .ok (.ifCond (.eq) 28, 3) := by decide +kernel
theorem d33 : decode yB 33 = .ok (.aload_n 1, 1) := by decide +kernel
theorem d34 : decode yB 34 = .ok (.iload_n 2, 1) := by decide +kernel
theorem d35 : decode yB 35 = .ok (.iload_n 3, 1) := by decide +kernel
theorem d36 : decode yB 36 = .ok (.invokestatic 177, 3) := by decide +kernel
theorem d39 : decode yB 39 = .ok (.astore 5, 2) := by decide +kernel
theorem d41 : decode yB 41 = .ok (.aload_n 0, 1) := by decide +kernel
theorem d42 : decode yB 42 = .ok (.aload 5, 2) := by decide +kernel
theorem d44 : decode yB 44 = .ok (.iload_n 3, 1) := by decide +kernel
theorem d45 : decode yB 45 = .ok (.invokestatic 47, 3) := by decide +kernel
theorem d48 : decode yB 48 = .ok (.putfield 15, 3) := by decide +kernel
theorem d51 : decode yB 51 = .ok (.aload_n 0, 1) := by decide +kernel
theorem d52 : decode yB 52 = .ok (.aload 5, 2) := by decide +kernel
theorem d54 : decode yB 54 = .ok (.putfield 9, 3) := by decide +kernel
theorem d57 : decode yB 57 = .ok (.return_, 1) := by decide +kernel
def site : List Cond := [.fieldLink "java/lang/String" 38 "java/lang/String" "COMPACT_STRINGS" "Z", Cmp3.tab, CodL.tab, .laysFinal "java/lang/String" "java/lang/String" "value" "[B", .fieldLink "java/lang/String" 9 "java/lang/String" "value" "[B", .laysFinal "java/lang/String" "java/lang/String" "coder" "B", .fieldLink "java/lang/String" 15 "java/lang/String" "coder" "B"] ++ objW "java/lang/String" 1 ++ staticW "java/lang/String" 177 Cmp3.yN ++ staticW "java/lang/String" 47 CodL.yN
def tab : Cond := tabOf yN yB 6 none site
def P (a : Addr) (D : Cell) (fV fC : Field) (b : Addr) (A : Cell) (z : Int32) (o len : Nat) (args : Array Value) (s : State) : Prop := args = #[.ref a, .ref b, .int (Int32.ofNat o), .int (Int32.ofNat len), .null] ∧ Blank "java/lang/String" a D s ∧ Found "java/lang/String" "value" "[B" fV s ∧ Found "java/lang/String" "coder" "B" fC s ∧ Ch b A s ∧ StaticIs s "java/lang/String" "COMPACT_STRINGS" "Z" (.int z) ∧ ¬ z = 0 ∧ 0 < len ∧ o + len ≤ A.slots.size ∧ len ≤ 536870912 ∧ ∀ i, i < len → ¬ 255 < cv A (o + i)
def E (a : Addr) (D : Cell) (fV fC : Field) (A : Cell) (o len : Nat) (r : Option Value) (s u : State) : Prop := Got a D fV fC A o len r s u
/-- len > 0, no char of the range above 255: a Latin-1 String of their low bytes -/
theorem law (l : Launch) (a : Addr) (D : Cell) (fV fC : Field) (b : Addr) (A : Cell) (z : Int32) (o len : Nat) : Law l yN 5 4 2 35 yB 6 none site (P a D fV fC b A z o len) (E a D fV fC A o len) [⟨a, fC.slot⟩, ⟨a, fV.slot⟩] 1 len := by
  refine Law.of_walk (plainFor_of_name (by decide +kernel)) (by decide +kernel) (by decide +kernel) (by decide) (fun _ _ h => by rw [h.1]; rfl) (fun _ U U' hal hh h => ⟨h.1, h.2.1.mv hal hh, h.2.2.1.al hal, h.2.2.2.1.al hal, h.2.2.2.2.1.mv hal hh, h.2.2.2.2.2.1.there hal hh, h.2.2.2.2.2.2⟩) (fun r U U' V V' h1 hal h2 h => Got.mv r U U' V V' h1 hal h2 h) ?_
  intro p e s m args below meth c s₁ X0 hexec hbytes hml hret hlk hnm hown hh0 W hP
  obtain ⟨rfl, hB, f1, f2, hA, s1, hz, l0, l1, l2, hp⟩ := hP
  have a31 := hA.1.2.2.2
  have c1 : Steps p.tables e below (s₁.setTop (entryFrame m #[.ref a, .ref b, .int (Int32.ofNat o), .int (Int32.ofNat len), .null] 6)) (s₁.setTop (mkF m 0 #[.val (.ref a), .val (.ref b), .val (.int (Int32.ofNat o)), .val (.int (Int32.ofNat len)), .val .null, .unset] [])) := entry rfl
  have c2 : Steps p.tables e below (s₁.setTop (entryFrame m #[.ref a, .ref b, .int (Int32.ofNat o), .int (Int32.ofNat len), .null] 6)) (s₁.setTop (mkF m 1 #[.val (.ref a), .val (.ref b), .val (.int (Int32.ofNat o)), .val (.int (Int32.ofNat len)), .val .null, .unset] [.ref a])) := c1.trans (by
    refine XS.aloadN X0.here hexec rfl (hb hbytes d0) rfl rfl ?_
    exact Steps.refl _)
  obtain ⟨T3, X3, q3, st3⟩ := X0.oinit hexec hown (wks W (objW "java/lang/String" 1)) (g := (mkF m 1 #[.val (.ref a), .val (.ref b), .val (.int (Int32.ofNat o)), .val (.int (Int32.ofNat len)), .val .null, .unset] [.ref a])) rfl (by rw [hml]; rfl) (rest := []) rfl (hb hbytes d1) (W := 0) (by show 2 * 0 + 0 ≤ _; decide) (Nat.le_of_ble_eq_true rfl) (Nat.le_of_ble_eq_true rfl)
  have hh3 := q3.trans hh0
  have c4 : Steps p.tables e below (s₁.setTop (entryFrame m #[.ref a, .ref b, .int (Int32.ofNat o), .int (Int32.ofNat len), .null] 6)) (T3.setTop (mkF m 27 #[.val (.ref a), .val (.ref b), .val (.int (Int32.ofNat o)), .val (.int (Int32.ofNat len)), .val .null, .unset] [])) := (c2.trans (st3 _ (Steps.refl _))).trans (by
    refine XS.iloadN X3.here hexec rfl (hb hbytes d4) rfl ?_
    refine XS.ifYes X3.here hexec rfl (pc0 := 5) rfl (hb hbytes d5) rfl (i0_ne_t (nz32 (by omega) l0)) (by decide) rfl ?_
    exact Steps.refl _)
  obtain ⟨T5, X5, q5, st5⟩ := X3.sget hexec hown (wk W (.fieldLink "java/lang/String" 38 "java/lang/String" "COMPACT_STRINGS" "Z")) s1 (fun _ _ h => by rw [hh3]; exact h) (g := (mkF m 27 #[.val (.ref a), .val (.ref b), .val (.int (Int32.ofNat o)), .val (.int (Int32.ofNat len)), .val .null, .unset] [])) rfl (hb hbytes d27)
  have hh5 := q5.trans hh3
  have c6 : Steps p.tables e below (s₁.setTop (entryFrame m #[.ref a, .ref b, .int (Int32.ofNat o), .int (Int32.ofNat len), .null] 6)) (T5.setTop (mkF m 30 #[.val (.ref a), .val (.ref b), .val (.int (Int32.ofNat o)), .val (.int (Int32.ofNat len)), .val .null, .unset] [.int z])) := c4.trans (st5 _ (Steps.refl _))
  have c7 : Steps p.tables e below (s₁.setTop (entryFrame m #[.ref a, .ref b, .int (Int32.ofNat o), .int (Int32.ofNat len), .null] 6)) (T5.setTop (mkF m 36 #[.val (.ref a), .val (.ref b), .val (.int (Int32.ofNat o)), .val (.int (Int32.ofNat len)), .val .null, .unset] [.int (Int32.ofNat len), .int (Int32.ofNat o), .ref b])) := c6.trans (by
    refine XS.ifNo X5.here hexec rfl (hb hbytes d30) rfl (i0_eq_f hz) ?_
    refine XS.aloadN X5.here hexec rfl (hb hbytes d33) rfl rfl ?_
    refine XS.iloadN X5.here hexec rfl (hb hbytes d34) rfl ?_
    refine XS.iloadN X5.here hexec rfl (hb hbytes d35) rfl ?_
    exact Steps.refl _)
  obtain ⟨v8, T8, X8, E8, g8⟩ := X5.callS hexec (Cmp3.law l b A o len) hown (wks W (staticW "java/lang/String" 177 Cmp3.yN)) (wk W Cmp3.tab) (W := 0) (Nat.le_of_ble_eq_true rfl) (Nat.le_of_ble_eq_true rfl) (Nat.le_refl _) (by show 0 + len ≤ len; omega) (g := (mkF m 36 #[.val (.ref a), .val (.ref b), .val (.int (Int32.ofNat o)), .val (.int (Int32.ofNat len)), .val .null, .unset] [.int (Int32.ofNat len), .int (Int32.ofNat o), .ref b])) rfl (by rw [hml]; rfl) c7 (argsL := [.ref b, .int (Int32.ofNat o), .int (Int32.ofNat len)]) (rest := []) rfl rfl (by show 2 * 0 + 0 ≤ _; decide) (hb hbytes d36) (⟨rfl, hA.mv X5.warmed.alike hh5, l1, l2, hp⟩)
  obtain ⟨e8, z8⟩ := E8
  obtain ⟨rfl, N, n1, n2, n3, n4, n5, n6⟩ := NewArr.mv _ T5 s _ _ hh5.symm (Vm.Alike.refl _) rfl e8
  rw [hh5] at z8
  have hB1 := hB.keep X8.warmed.alike (n6 _ _ hB.1)
  have hne : s.heap.size ≠ a := (Nat.ne_of_lt (Array.getElem?_eq_some_iff.mp hB.1).1).symm
  have c9 : Steps p.tables e below (s₁.setTop (entryFrame m #[.ref a, .ref b, .int (Int32.ofNat o), .int (Int32.ofNat len), .null] 6)) (T8.setTop (mkF m 39 #[.val (.ref a), .val (.ref b), .val (.int (Int32.ofNat o)), .val (.int (Int32.ofNat len)), .val .null, .unset] [.ref s.heap.size])) := g8
  have c10 : Steps p.tables e below (s₁.setTop (entryFrame m #[.ref a, .ref b, .int (Int32.ofNat o), .int (Int32.ofNat len), .null] 6)) (T8.setTop (mkF m 45 #[.val (.ref a), .val (.ref b), .val (.int (Int32.ofNat o)), .val (.int (Int32.ofNat len)), .val .null, .val (.ref s.heap.size)] [.int (Int32.ofNat N.slots.size), .ref s.heap.size, .ref a])) := by
    have hc : Steps p.tables e below (s₁.setTop (entryFrame m #[.ref a, .ref b, .int (Int32.ofNat o), .int (Int32.ofNat len), .null] 6)) (T8.setTop (mkF m 45 #[.val (.ref a), .val (.ref b), .val (.int (Int32.ofNat o)), .val (.int (Int32.ofNat len)), .val .null, .val (.ref s.heap.size)] [.int (Int32.ofNat len), .ref s.heap.size, .ref a])) := c9.trans (by
      refine XS.astore X8.here hexec rfl (hb hbytes d39) rfl rfl rfl ?_
      refine XS.aloadN X8.here hexec rfl (hb hbytes d41) rfl rfl ?_
      refine XS.aload X8.here hexec rfl (hb hbytes d42) rfl rfl ?_
      refine XS.iloadN X8.here hexec rfl (hb hbytes d44) rfl ?_
      exact Steps.refl _)
    rw [n4]; exact hc
  obtain ⟨v11, T11, X11, E11, g11⟩ := X8.callS hexec (CodL.law l s.heap.size N) hown (wks W (staticW "java/lang/String" 47 CodL.yN)) (wk W CodL.tab) (W := 1) (Nat.le_of_ble_eq_true rfl) (Nat.le_of_ble_eq_true rfl) (Nat.le_refl _) (by show 0 + len + 0 ≤ len; omega) (g := (mkF m 45 #[.val (.ref a), .val (.ref b), .val (.int (Int32.ofNat o)), .val (.int (Int32.ofNat len)), .val .null, .val (.ref s.heap.size)] [.int (Int32.ofNat N.slots.size), .ref s.heap.size, .ref a])) rfl (by rw [hml]; rfl) c10 (argsL := [.ref s.heap.size, .int (Int32.ofNat N.slots.size)]) (rest := [.ref a]) rfl rfl (by show 2 * 0 + (1 + 0) ≤ _; decide) (hb hbytes d45) (⟨rfl, n1⟩)
  obtain ⟨rfl, q11⟩ := E11
  have hB11 := hB1.mv (X8.warmed.alike.symm.trans X11.warmed.alike) q11
  have c12 : Steps p.tables e below (s₁.setTop (entryFrame m #[.ref a, .ref b, .int (Int32.ofNat o), .int (Int32.ofNat len), .null] 6)) (T11.setTop (mkF m 48 #[.val (.ref a), .val (.ref b), .val (.int (Int32.ofNat o)), .val (.int (Int32.ofNat len)), .val .null, .val (.ref s.heap.size)] [.int 0, .ref a])) := g11
  obtain ⟨T13, X13, p13, bl13, sl13, st13⟩ := X11.finit hexec hown (wk W (.fieldLink "java/lang/String" 15 "java/lang/String" "coder" "B")) (Or.inr ⟨_, (wk W (.laysFinal "java/lang/String" "java/lang/String" "coder" "B"))⟩) (Or.inl ⟨rfl, hnm⟩) f2 (Or.inl rfl) hB11 (t := .byte) (by decide +kernel) rfl (g := (mkF m 48 #[.val (.ref a), .val (.ref b), .val (.int (Int32.ofNat o)), .val (.int (Int32.ofNat len)), .val .null, .val (.ref s.heap.size)] [.int 0, .ref a])) rfl (rest := []) rfl (hb hbytes d48)
  have c14 : Steps p.tables e below (s₁.setTop (entryFrame m #[.ref a, .ref b, .int (Int32.ofNat o), .int (Int32.ofNat len), .null] 6)) (T13.setTop (mkF m 54 #[.val (.ref a), .val (.ref b), .val (.int (Int32.ofNat o)), .val (.int (Int32.ofNat len)), .val .null, .val (.ref s.heap.size)] [.ref s.heap.size, .ref a])) := (c12.trans (st13 _ (Steps.refl _))).trans (by
    refine XS.aloadN X13.here hexec rfl (hb hbytes d51) rfl rfl ?_
    refine XS.aload X13.here hexec rfl (hb hbytes d52) rfl rfl ?_
    exact Steps.refl _)
  obtain ⟨T15, X15, p15, bl15, sl15, st15⟩ := X13.finit hexec hown (wk W (.fieldLink "java/lang/String" 9 "java/lang/String" "value" "[B")) (Or.inr ⟨_, (wk W (.laysFinal "java/lang/String" "java/lang/String" "value" "[B"))⟩) (Or.inl ⟨rfl, hnm⟩) f1 (Or.inl rfl) bl13 (t := (.array .byte)) (by decide +kernel) rfl (g := (mkF m 54 #[.val (.ref a), .val (.ref b), .val (.int (Int32.ofNat o)), .val (.int (Int32.ofNat len)), .val .null, .val (.ref s.heap.size)] [.ref s.heap.size, .ref a])) rfl (rest := []) rfl (hb hbytes d54)
  have c16 : Steps p.tables e below (s₁.setTop (entryFrame m #[.ref a, .ref b, .int (Int32.ofNat o), .int (Int32.ofNat len), .null] 6)) (T15.setTop (mkF m 57 #[.val (.ref a), .val (.ref b), .val (.int (Int32.ofNat o)), .val (.int (Int32.ofNat len)), .val .null, .val (.ref s.heap.size)] [])) := c14.trans (st15 _ (Steps.refl _))
  have ap := apart (Or.inr ⟨_, (wk W (.laysFinal "java/lang/String" "java/lang/String" "value" "[B"))⟩) (Or.inr ⟨_, (wk W (.laysFinal "java/lang/String" "java/lang/String" "coder" "B"))⟩) f1 f2 (t₁ := .array .byte) (t₂ := .byte) (by decide +kernel) (by decide +kernel) (by decide)
  have al := X8.warmed.alike.symm.trans X15.warmed.alike
  have n7 : T11.heap[s.heap.size]? = some N := by rw [q11]; exact n1.1
  exact ⟨T15, none, _, _, _, X15, by simp, rfl, by omega, (fun _ => rfl), ⟨rfl, _, N, bl15, ((Same.refl D _).set _ (by simp)).set _ (by simp), sl15, (Cell.slots_setSlot_ne _ ap).trans sl13, n1.keep al (p15.other hne (p13.other hne n7)), n2, by rw [al.findClass]; exact n3, n4, n5, fun y c h1 h2 => p15.other h1 (p13.other h1 (by rw [q11]; exact n6 y c h2)), by rw [p15.2.2, p13.2.2, q11]; exact z8⟩, fun fs hl => c16.trans (X15.returnOut hexec hret (hb hbytes d57) hl)⟩
end New4
namespace New1
def yN : MethodName := ⟨"java/lang/String", "<init>", "([C)V"⟩
abbrev yB : ByteArray := jdk_42_method_3_code
theorem d0 : decode yB 0 = .ok (.aload_n 0, 1) := by decide +kernel
theorem d1 : decode yB 1 = .ok (.aload_n 1, 1) := by decide +kernel
theorem d2 : decode yB 2 = .ok (.iconst 0, 1) := by decide +kernel
theorem d3 : decode yB 3 = .ok (.aload_n 1, 1) := by decide +kernel
theorem d4 : decode yB 4 = .ok (.arraylength, 1) := by decide +kernel
theorem d5 : decode yB 5 = .ok (.aconst_null, 1) := by decide +kernel
theorem d6 : decode yB 6 = .ok (.invokespecial 27, 3) := by decide +kernel
theorem d9 : decode yB 9 = .ok (.return_, 1) := by decide +kernel
def site : List Cond := [New4.tab] ++ initW "java/lang/String" 27 New4.yN
def tab : Cond := tabOf yN yB 2 none site
def P (a : Addr) (D : Cell) (fV fC : Field) (b : Addr) (A : Cell) (z : Int32) (args : Array Value) (s : State) : Prop := args = #[.ref a, .ref b] ∧ Blank "java/lang/String" a D s ∧ Found "java/lang/String" "value" "[B" fV s ∧ Found "java/lang/String" "coder" "B" fC s ∧ Ch b A s ∧ StaticIs s "java/lang/String" "COMPACT_STRINGS" "Z" (.int z) ∧ ¬ z = 0 ∧ 0 < A.slots.size ∧ A.slots.size ≤ 536870912 ∧ ∀ i, i < A.slots.size → ¬ 255 < cv A i
def E (a : Addr) (D : Cell) (fV fC : Field) (A : Cell) (r : Option Value) (s u : State) : Prop := Got a D fV fC A 0 A.slots.size r s u
/-- new String(chars), not empty, no char above 255: a Latin-1 String of their low bytes -/
theorem law (l : Launch) (a : Addr) (D : Cell) (fV fC : Field) (b : Addr) (A : Cell) (z : Int32) : Law l yN 2 1 3 52 yB 2 none site (P a D fV fC b A z) (E a D fV fC A) [⟨a, fC.slot⟩, ⟨a, fV.slot⟩] 1 A.slots.size := by
  refine Law.of_walk (plainFor_of_name (by decide +kernel)) (by decide +kernel) (by decide +kernel) (by decide) (fun _ _ h => by rw [h.1]; rfl) (fun _ U U' hal hh h => ⟨h.1, h.2.1.mv hal hh, h.2.2.1.al hal, h.2.2.2.1.al hal, h.2.2.2.2.1.mv hal hh, h.2.2.2.2.2.1.there hal hh, h.2.2.2.2.2.2⟩) (fun r U U' V V' h1 hal h2 h => Got.mv r U U' V V' h1 hal h2 h) ?_
  intro p e s m args below meth c s₁ X0 hexec hbytes hml hret hlk hnm hown hh0 W hP
  obtain ⟨rfl, hB, f1, f2, hA, s1, hz, l0, l2, hp⟩ := hP
  have c1 : Steps p.tables e below (s₁.setTop (entryFrame m #[.ref a, .ref b] 2)) (s₁.setTop (mkF m 0 #[.val (.ref a), .val (.ref b)] [])) := entry rfl
  have c2 : Steps p.tables e below (s₁.setTop (entryFrame m #[.ref a, .ref b] 2)) (s₁.setTop (mkF m 6 #[.val (.ref a), .val (.ref b)] [.null, .int (Int32.ofNat A.slots.size), .int 0, .ref b, .ref a])) := c1.trans (by
    refine XS.aloadN X0.here hexec rfl (hb hbytes d0) rfl rfl ?_
    refine XS.aloadN X0.here hexec rfl (hb hbytes d1) rfl rfl ?_
    refine iconstV X0.here hexec rfl 0 (hb hbytes d2) (by decide) ?_
    refine XS.aloadN X0.here hexec rfl (hb hbytes d3) rfl rfl ?_
    refine X0.alen hexec (hA.1.mv X0.warmed.alike hh0) rfl rfl (hb hbytes d4) ?_
    refine XS.aconstNull X0.here hexec rfl (hb hbytes d5) ?_
    exact Steps.refl _)
  obtain ⟨v3, T3, X3, E3, g3⟩ := X0.callN hexec (New4.law l a D fV fC b A z 0 A.slots.size) rfl hown (wks W (initW "java/lang/String" 27 New4.yN)) (W New4.tab (by simp only [site, List.mem_cons, List.mem_append, true_or, or_true])) (W := 0) (Nat.le_of_ble_eq_true rfl) (Nat.le_of_ble_eq_true rfl) (Nat.le_refl _) (by show 0 + A.slots.size ≤ A.slots.size; omega) (g := (mkF m 6 #[.val (.ref a), .val (.ref b)] [.null, .int (Int32.ofNat A.slots.size), .int (Int32.ofNat 0), .ref b, .ref a])) rfl (by rw [hml]; rfl) c2 (argsL := [.ref b, .int (Int32.ofNat 0), .int (Int32.ofNat A.slots.size), .null]) (rest := []) rfl rfl (by show 2 * 0 + 0 ≤ _; decide) (hb hbytes d6) (⟨rfl, hB.mv X0.warmed.alike hh0, f1.al X0.warmed.alike, f2.al X0.warmed.alike, hA.mv X0.warmed.alike hh0, s1.there X0.warmed.alike hh0, hz, l0, by omega, l2, fun i hi => by rw [Nat.zero_add]; exact hp i hi⟩)
  have e0 := Got.mv _ s₁ s _ _ hh0.symm (Vm.Alike.refl _) rfl E3
  obtain rfl := e0.1
  have c4 : Steps p.tables e below (s₁.setTop (entryFrame m #[.ref a, .ref b] 2)) (T3.setTop (mkF m 9 #[.val (.ref a), .val (.ref b)] [])) := g3
  exact ⟨T3, none, _, _, _, X3, by simp, rfl, by omega, (fun _ => rfl), e0, fun fs hl => c4.trans (X3.returnOut hexec hret (hb hbytes d9) hl)⟩
theorem pays {l : Launch} {R : Room} {p : Program} {e : Env} {below : List Frame} {s : State} {sargs : Array Value} {len W : Nat} (a : Addr) (D : Cell) (fV fC : Field) (b : Addr) (A : Cell) (z : Int32) (htab : tab.before sargs s = true) (hfr : 4 ≤ R.frames) (hlo : W + 65 ≤ R.locals) :
    Back l R p e below s sargs yN len W (fun A₁ a₁ => A₁.cells + 1 ≤ R.cells ∧ A₁.slots + A.slots.size ≤ R.slots ∧ P a D fV fC b A z a₁ A₁.U) (fun A₁ _ v₁ B₁ => E a D fV fC A v₁ A₁.U B₁.U ∧ B₁.locs = A₁.locs ++ [⟨a, fC.slot⟩, ⟨a, fV.slot⟩] ∧ B₁.cells = A₁.cells + 1 ∧ B₁.slots = A₁.slots + A.slots.size) :=
  (law l a D fV fC b A z).pays htab hfr (by omega)
end New1
/-- the byte, read back as charAt reads it, is the char -/
theorem lo8_mask {x : Int32} (h0 : ¬ x < 0) (h1 : ¬ 255 < x) : lo8 x &&& 255 = x := by
  have t : ∀ k : Fin 256, lo8 (Int32.ofNat k.val) &&& 255 = Int32.ofNat k.val := by decide +kernel
  rw [Int32.lt_iff_toInt_lt] at h0 h1
  have e0 : (0 : Int32).toInt = 0 := rfl
  have e1 : (255 : Int32).toInt = 255 := rfl
  obtain ⟨k, hk⟩ : ∃ k : Nat, x.toInt = k := ⟨x.toInt.toNat, by omega⟩
  have hx : x = Int32.ofNat k := Int32.toInt_inj.mp (by rw [hk, Int32.toInt_ofNat_small (by omega)])
  rw [hx]
  exact t ⟨k, by omega⟩
end StrChars
namespace StrChars.Road
open Jvm Sem ClassFile Op Lib Jvm.Stand Jvm.Free Jvm.Free.XT
open Jvm.Lib.Cold (StaticIs)
abbrev ST : String := "java/lang/String"
/-- every table word that New1's law asks, flat -/
abbrev words : List Jvm.Cond := [.code New1.yN New1.yB 2 none, .initialized ST, .methodLink ST 27 New4.yN, .instanceMethod New4.yN,
  .code New4.yN New4.yB 6 none, .fieldLink ST 38 ST "COMPACT_STRINGS" "Z", .laysFinal ST ST "value" "[B", .fieldLink ST 9 ST "value" "[B", .laysFinal ST ST "coder" "B", .fieldLink ST 15 ST "coder" "B",
  .methodLink ST 1 Lib.objectInit, .instanceMethod Lib.objectInit, .code Lib.objectInit ⟨#[0xb1]⟩ 1 none, .methodLink ST 177 Cmp3.yN, .static Cmp3.yN, .methodLink ST 47 CodL.yN, .static CodL.yN,
  .code Cmp3.yN Cmp3.yB 6 (some (.array .byte)), .initialized U16, .arrayClass .byte, .methodLink U16 115 Cmp5.yN, .static Cmp5.yN, .code Cmp5.yN Cmp5.yB 7 (some .int), .code CodL.yN CodL.yB 2 (some .byte)]
theorem tab_of {a : Array Value} {s : State} (h : ∀ w ∈ words, w.before a s = true) : New1.tab.before a s = true := by
  have h5 : Cmp5.tab.before a s = true := unparts (wk h (.code Cmp5.yN Cmp5.yB 7 (some .int))) (wks h (.initialized Cmp5.yN.cls :: Cmp5.site))
  have hc : CodL.tab.before a s = true := unparts (wk h (.code CodL.yN CodL.yB 2 (some .byte))) (wks h (.initialized CodL.yN.cls :: CodL.site))
  have q5 : ∀ w ∈ Cmp5.tab :: words, w.before a s = true := fun w hw => (List.mem_cons.mp hw).elim (fun e => e ▸ h5) (h w)
  have h3 : Cmp3.tab.before a s = true := unparts (wk q5 (.code Cmp3.yN Cmp3.yB 6 (some (.array .byte)))) (wks q5 (.initialized Cmp3.yN.cls :: Cmp3.site))
  have q3 : ∀ w ∈ Cmp3.tab :: CodL.tab :: words, w.before a s = true := fun w hw => (List.mem_cons.mp hw).elim (fun e => e ▸ h3) fun hw => (List.mem_cons.mp hw).elim (fun e => e ▸ hc) (h w)
  have h4 : New4.tab.before a s = true := unparts (wk q3 (.code New4.yN New4.yB 6 none)) (wks q3 (.initialized New4.yN.cls :: New4.site))
  have q4 : ∀ w ∈ New4.tab :: words, w.before a s = true := fun w hw => (List.mem_cons.mp hw).elim (fun e => e ▸ h4) (h w)
  exact unparts (wk q4 (.code New1.yN New1.yB 2 none)) (wks q4 (.initialized New1.yN.cls :: New1.site))
/-- the words ride from the start Z to the walk's own state -/
theorem moved {Z s : State} {a0 args : Array Value} (hZ : Z.Warmed39 s.vm) (hw : ∀ d ∈ words, d.before a0 Z = true) : ∀ d ∈ words, d.before args s = true := fun d hd => by
  have q := hw d hd
  have t : ∀ d ∈ words, d = .arrayClass .byte ∨ (d.onTables && d.keepsFace) = true := by decide +kernel
  rcases t d hd with rfl | t
  · exact RoadKit.mvA hZ q
  · exact RoadKit.mv hZ q t
/-- WHAT COMES BACK, over the tables of the start Z: h the heap at the call, h' behind it -/
def Q (Z : State) (x : Addr) (A : Cell) (h : Heap) (v : Option Value) (h' : Heap) (L : List Loc) : Prop := v = none ∧ (∀ y ∈ L, y.base = x) ∧ RoadKit.Keep h h' [x] ∧ h'.size = h.size + 1 ∧ RoadKit.Exa Z h' x ST ∧ RoadKit.Fld Z h' x ST "value" "[B" (.ref h.size) ∧ RoadKit.Fld Z h' x ST "coder" "B" (.int 0) ∧
  (∃ V : Cell, RoadKit.Arr Z h' h.size V .byte ∧ V.vm = .none ∧ Z.vm.findClass "[B" = some V.cls ∧ V.slots.size = A.slots.size ∧ ∀ j, j < A.slots.size → V.slots[j]? = some (.int (lo8 (cv A j)))) ∧
  ∀ (O n d : String) (w : Value), RoadKit.Fld Z h x O n d w → RoadKit.slotOf Z O n d ≠ RoadKit.slotOf Z ST "value" "[B" → RoadKit.slotOf Z O n d ≠ RoadKit.slotOf Z ST "coder" "B" → RoadKit.Fld Z h' x O n d w
/-- **new String(chars) AT A CALL, IN THE ROAD'S FORM**: for specialBack behind newO: x the fresh String, b the char[] with the cell A -/
theorem back {p : Program} {l : Launch} {e : Env} {R : Room} {s : State} {args : Array Value} {below : List Frame} {len W : Nat} {Z : State} {a0 : Array Value} {h : Heap} (hZ : Z.Warmed39 s.vm) (hw : ∀ d ∈ words, d.before a0 Z = true) {kI : Nat} (wi : (Jvm.Cond.instantiable ST kI).before a0 Z = true)
    {x b : Addr} {A : Cell} {z : Int32} {v0 c0 : Value} (E : RoadKit.Exa Z h x ST) (V : RoadKit.Fld Z h x ST "value" "[B" v0) (C : RoadKit.Fld Z h x ST "coder" "B" c0) (K : RoadKit.Arr Z h b A .char) (hty : Typed .char A) (S : RoadKit.Sta Z h ST "COMPACT_STRINGS" "Z" (.int z)) (hz : ¬ z = 0)
    (l0 : 0 < A.slots.size) (l2 : A.slots.size ≤ 536870912) (hp : ∀ i, i < A.slots.size → ¬ 255 < cv A i) (hfr : 4 ≤ R.frames) (hlo : W + 65 ≤ R.locals) :
    Back l R p e below s args New1.yN len W (fun P a => a = #[.ref x, .ref b] ∧ P.U.heap = h ∧ P.cells + 1 ≤ R.cells ∧ P.slots + A.slots.size ≤ R.slots)
      (fun P _ v B => ∃ L, Q Z x A h v B.U.heap L ∧ B.locs = P.locs ++ L ∧ B.cells = P.cells + 1 ∧ B.slots = P.slots + A.slots.size) := by
  intro m meth c P g ig mk a X hg hsize hdg hW hn hp'
  obtain ⟨rfl, rfl, r1, r2⟩ := hp'
  have al : Z.vm.Alike P.U.vm := hZ.alike.trans X.warmed.alike
  obtain ⟨D, cfV, kV, iV, fV, hD, gV, stV, knV, obV, asV, slV⟩ := id V
  obtain ⟨D', cfC, kC, iC, fC, hD', gC, stC, -, -, asC, slC⟩ := id C
  cases hD.symm.trans hD'
  obtain ⟨D2, kD, e1, e2, e3, e4, e5⟩ := id E
  cases hD.symm.trans e1
  obtain ⟨c2, k2, i1, i2, i3, -⟩ := Cond.instantiable_spec wi
  cases e2.symm.trans i1
  cases e3.symm.trans i2
  obtain ⟨kU, u1, u2⟩ := al.2.2 _ _ e3
  have hB : Blank ST x D P.U := ⟨hD, ⟨knV, fun q hq => by rw [hq] at obV; cases obV⟩, by rw [al.findClass]; exact e2, kU, u1, by rw [u2]; exact i3, by rw [u2]; exact e5 i3⟩
  have F1 : Found ST "value" "[B" fV P.U := ⟨SBG.found_only al ⟨cfV, kV, iV, gV⟩, stV⟩
  have F2 : Found ST "coder" "B" fC P.U := ⟨SBG.found_only al ⟨cfC, kC, iC, gC⟩, stC⟩
  have hA : Ch b A P.U := ⟨⟨K.1, State.isArrayOf_alike al K.2.1, K.2.2, by omega⟩, hty⟩
  have hS : StaticIs P.U ST "COMPACT_STRINGS" "Z" (.int z) := by
    obtain ⟨cfS, iS, kS, fS, st, cS, t1, t2, t3, t4, t5, t6, t7⟩ := S
    exact StaticIs.there (s := { Z with heap := P.U.heap }) ⟨cfS, iS, kS, fS, st, cS, t1, t2, t3, t4, t5, (fun q => by rw [q] at t6; cases t6), t7⟩ al rfl
  obtain ⟨v, B, X', ⟨⟨hv, E', V', q1, q2, q3, q4, q5, q6, q7, q8, q9, q10, q11⟩, hl, hc, hs⟩, st⟩ := New1.pays x D fV fC b A z (tab_of (moved hZ hw)) hfr hlo m meth c P g ig mk _ X hg hsize hdg hW hn ⟨r1, r2, rfl, hB, F1, F2, hA, hS, hz, l0, l2, hp⟩
  have al' : Z.vm.Alike B.U.vm := hZ.alike.trans X'.warmed.alike
  have hsz : E'.slots.size = D.slots.size := by
    obtain ⟨-, -, -, kB, w1, w2, w3⟩ := q1
    obtain ⟨kB', y1, y2⟩ := al'.2.2 _ _ e3
    rw [q2.2.1] at w1
    cases w1.symm.trans y1
    rw [w3, e5 i3, y2]
  refine ⟨v, B, X', ⟨_, ⟨hv, ?_, ⟨by omega, fun y cy hy hn' => q10 y cy (by simpa using hn') hy, fun y cy hy => ?_⟩, q11, ⟨E', _, q1.1, by rw [q2.2.1]; exact e2, by rw [q2.2.1]; exact e3, by rw [q2.1]; exact obV, fun _ => by rw [hsz]; exact e5 i3⟩,
    ⟨E', cfV, kV, iV, fV, q1.1, gV, stV, by rw [q2.1]; exact knV, by rw [q2.1]; exact obV, by rw [q2.2.1]; exact asV, q3⟩, ⟨E', cfC, kC, iC, fC, q1.1, gC, stC, by rw [q2.1]; exact knV, by rw [q2.1]; exact obV, by rw [q2.2.1]; exact asC, q4⟩,
    ⟨V', ⟨q5.1, State.isArrayOf_alike al'.symm q5.2.1, q5.2.2.1⟩, q6, by rw [← al'.findClass]; exact q7, q8, fun j hj => by have := q9 j hj; rwa [Nat.zero_add] at this⟩, fun O n d w F n1 n2 => ?_⟩, hl, hc, hs⟩, st⟩
  · intro y hy
    simp only [List.mem_cons, List.not_mem_nil, or_false] at hy
    rcases hy with rfl | rfl <;> rfl
  · by_cases q : y = x
    · subst q
      cases hD.symm.trans hy
      exact ⟨E', q1.1, q2.2.1, q2.1, hsz⟩
    · exact ⟨cy, q10 y cy q hy, rfl, rfl, rfl⟩
  · obtain ⟨D3, cf, k, i, f, g1, g2, g3, g4, g5, g6, g7⟩ := F
    cases hD.symm.trans g1
    simp only [RoadKit.slotOf, g2, gV, gC, Option.map_some, Option.getD_some] at n1 n2
    exact ⟨E', cf, k, i, f, q1.1, g2, g3, by rw [q2.1]; exact g4, by rw [q2.1]; exact g5, by rw [q2.2.1]; exact g6, by rw [q2.2.2 f.slot (by simp [n1, n2])]; exact g7⟩
end StrChars.Road
namespace StrChars.Road
open Jvm Sem ClassFile Op Lib Jvm.Stand Jvm.Free Jvm.Free.XT
/-- WHAT COMES BACK, the byte[] as a list of values -/
def QA (Z : State) (x : Addr) (zn : Int32) (cs : List Int32) (h : Heap) (v : Option Value) (h' : Heap) (L : List Loc) : Prop := v = none ∧ (∀ y ∈ L, y.base = x) ∧ RoadKit.Keep h h' [x] ∧ h'.size = h.size + 1 ∧ RoadKit.Exa Z h' x ST ∧ RoadKit.Fld Z h' x ST "value" "[B" (.ref h.size) ∧ RoadKit.Fld Z h' x ST "coder" "B" (.int 0) ∧
  (∃ kb, Z.vm.findClass "[B" = some kb ∧ RoadKit.Arv Z h' h.size kb .byte zn (cs.map fun c => .int (lo8 c)) (.int 0)) ∧
  ∀ (O n d : String) (w : Value), RoadKit.Fld Z h x O n d w → RoadKit.slotOf Z O n d ≠ RoadKit.slotOf Z ST "value" "[B" → RoadKit.slotOf Z O n d ≠ RoadKit.slotOf Z ST "coder" "B" → RoadKit.Fld Z h' x O n d w
/-- **new String(chars) AT A CALL, THE ARRAYS AS LISTS**: the char[] at b holds cs, not empty, no char above 255 -/
theorem backArv {p : Program} {l : Launch} {e : Env} {R : Room} {s : State} {args : Array Value} {below : List Frame} {len W : Nat} {Z : State} {a0 : Array Value} {h : Heap} (hZ : Z.Warmed39 s.vm) (hw : ∀ d ∈ words, d.before a0 Z = true) {kI : Nat} (wi : (Jvm.Cond.instantiable ST kI).before a0 Z = true)
    {x b : Addr} {k : ClassId} {zn z : Int32} {cs : List Int32} {dv v0 c0 : Value} (E : RoadKit.Exa Z h x ST) (V : RoadKit.Fld Z h x ST "value" "[B" v0) (C : RoadKit.Fld Z h x ST "coder" "B" c0) (K : RoadKit.Arv Z h b k .char zn (cs.map Value.int) dv) (S : RoadKit.Sta Z h ST "COMPACT_STRINGS" "Z" (.int z)) (hz : ¬ z = 0)
    (hlen : zn.toNatClampNeg = cs.length) (h0 : 0 < cs.length) (hbig : cs.length ≤ 536870912) (hall : ∀ c ∈ cs, ¬ 255 < c) (hfr : 4 ≤ R.frames) (hlo : W + 65 ≤ R.locals) :
    Back l R p e below s args New1.yN len W (fun P a => a = #[.ref x, .ref b] ∧ P.U.heap = h ∧ P.cells + 1 ≤ R.cells ∧ P.slots + cs.length ≤ R.slots)
      (fun P _ v B => ∃ L, QA Z x zn cs h v B.U.heap L ∧ B.locs = P.locs ++ L ∧ B.cells = P.cells + 1 ∧ B.slots = P.slots + cs.length) := by
  obtain ⟨A, K1, K2, K3, K4, K5, K6⟩ := K
  have e : A.slots.size = cs.length := K3.trans hlen
  have hat : ∀ (i : Nat) (hi : i < cs.length), A.slots[i]? = some (.int cs[i]) := fun i hi => by rw [K5 i (by omega)]; simp [List.getD_eq_getElem?_getD, hi]
  have hcv : ∀ (i : Nat) (hi : i < cs.length), cv A i = cs[i] := fun i hi => by unfold cv; rw [hat i hi]
  have hty : Typed .char A := fun i v hv => by
    have hi : i < A.slots.size := (Array.getElem?_eq_some_iff.mp hv).1
    have q := K5 i hi
    rw [hv] at q
    rw [Option.some.inj q]
    exact K6 i hi
  refine Back.mono (back hZ hw wi E V C K1 hty S hz (by omega) (by omega) (fun i hi => by rw [hcv i (by omega)]; exact hall _ (List.getElem_mem _)) hfr hlo) (fun P a hp => ⟨hp.1, hp.2.1, hp.2.2.1, by rw [e]; exact hp.2.2.2⟩) (fun P a v B hp hq => ?_)
  obtain ⟨L, ⟨q1, q2, q3, q4, q5, q6, q7, ⟨V', v1, v2, v3, v4, v5⟩, q9⟩, hl, hc, hs⟩ := hq
  refine ⟨L, ⟨q1, q2, q3, q4, q5, q6, q7, ⟨V'.cls, v3, V', v1, rfl, by rw [v4, e, hlen], K4, fun i hi => ?_, fun i hi => ?_⟩, q9⟩, hl, hc, by rw [hs, e]⟩
  · have hi' : i < cs.length := by omega
    rw [v5 i (by omega), hcv i hi']; simp [List.getD_eq_getElem?_getD, hi']
  · have hi' : i < cs.length := by omega
    simp only [List.getD_eq_getElem?_getD, List.getElem?_map, List.getElem?_eq_getElem hi', Option.map_some, Option.getD_some]
    exact fits_lo8 _
end StrChars.Road
namespace StrChars.Road
open Jvm Sem ClassFile Op Lib Jvm.Stand Jvm.Free Jvm.Free.XT
/-- WHAT COMES BACK, in the writer's own shape -/
def QV (Z : State) (x : Addr) (N : Int32) (bs : List Int32) (h : Heap) (n0 : Nat) (v : Option Value) (h' : Heap) (L : List Loc) : Prop := v = none ∧ RoadKit.Fr n0 L ∧ RoadKit.Keep h h' [x] ∧ RoadKit.Exa Z h' x ST ∧ RoadKit.Fld Z h' x ST "coder" "B" (.int 0) ∧
  ∃ (t : Addr) (kb : ClassId), n0 ≤ t ∧ h.size ≤ t ∧ ¬ t = x ∧ RoadKit.Fld Z h' x ST "value" "[B" (.ref t) ∧ RoadKit.Arv Z h' t kb .byte N (bs.map Value.int) (.int 0)
/-- **new String(chars) AT A CALL, FOR THE WRITER**: a char[] of n known ints, each 0 to 255 -/
theorem backV {p : Program} {l : Launch} {e : Env} {R : Room} {s : State} {args : Array Value} {below : List Frame} {len W : Nat} {Z : State} {a0 : Array Value} {h : Heap} (hZ : Z.Warmed39 s.vm) (hw : ∀ d ∈ words, d.before a0 Z = true) {kI : Nat} (wi : (Jvm.Cond.instantiable ST kI).before a0 Z = true)
    {x b : Addr} {kC : ClassId} {cs bs : List Int32} {d v0 c0 : Value} {z N : Int32} {n n0 : Nat} (hx0 : n0 ≤ x) (hh0 : n0 ≤ h.size) (E : RoadKit.Exa Z h x ST) (V : RoadKit.Fld Z h x ST "value" "[B" v0) (C : RoadKit.Fld Z h x ST "coder" "B" c0) (K : RoadKit.Arv Z h b kC .char N (cs.map Value.int) d) (S : RoadKit.Sta Z h ST "COMPACT_STRINGS" "Z" (.int z)) (hz : ¬ z = 0)
    (hn : cs.length = n) (hN : N = Int32.ofNat n) (l0 : 0 < n) (l2 : n ≤ 4000) (hp : ∀ c ∈ cs, ¬ c < 0 ∧ ¬ (255 : Int32) < c) (hb : bs = cs.map (fun c => c.toInt8.toInt32)) (hfr : 4 ≤ R.frames) (hlo : W + 65 ≤ R.locals) :
    Back l R p e below s args (⟨"java/lang/String", "<init>", "([C)V"⟩ : MethodName) len W (fun P a => a = #[.ref x, .ref b] ∧ P.U.heap = h ∧ P.cells + 1 ≤ R.cells ∧ P.slots + n ≤ R.slots)
      (fun P _ v B => ∃ L, QV Z x N bs h n0 v B.U.heap L ∧ B.locs = P.locs ++ L ∧ B.cells = P.cells + 1 ∧ B.slots = P.slots + n) := by
  subst hn hN hb
  refine Back.mono (backArv hZ hw wi E V C K S hz (n32 (by omega)) l0 (by omega) (fun c hc => (hp c hc).2) hfr hlo) (fun P a hp => hp) (fun P a v B hp hq => ?_)
  obtain ⟨L, ⟨q1, q2, q3, q4, q5, q6, q7, ⟨kb, v1, v2⟩, q9⟩, hl, hc, hs⟩ := hq
  exact ⟨L, ⟨q1, fun y hy => by rw [q2 y hy]; exact hx0, q3, q5, q7, h.size, kb, hh0, Nat.le_refl _, Nat.ne_of_gt E.lt, q6, by rw [List.map_map]; exact v2⟩, hl, hc, hs⟩
end StrChars.Road
namespace StrChars
open Jvm Sem ClassFile Op Lib Jvm.Stand Jvm.Free.XT Jvm.Free.ALB Jvm.Free.JM Jvm.Free
open Jvm.Lib.Cold (StaticIs)
def hi8 (x : Int32) : Int32 := lo8 (x >>> ((8 : Int32) &&& 31))
/-- what StringUTF16.getChar makes of two bytes -/
def pairCh (u v : Int32) : Int32 := (((u &&& 255) <<< ((0 : Int32) &&& 31)) ||| ((v &&& 255) <<< ((8 : Int32) &&& 31))).toUInt32.toUInt16.toUInt32.toInt32
theorem shr0 (c : Int32) : c >>> ((0 : Int32) &&& 31) = c := by
  have e : ((0 : Int32) &&& 31) = 0 := by decide
  rw [e]
  apply Int32.toBitVec_inj.mp
  rw [Int32.toBitVec_shiftRight]
  have e1 : ((0 : Int32).toBitVec.smod 32) = 0#32 := by decide
  rw [e1, BitVec.sshiftRight_eq']
  exact BitVec.sshiftRight_zero
theorem lo8_and (x : Int32) : (lo8 x &&& 255).toBitVec.toNat = x.toBitVec.toNat % 256 := by
  have h : (lo8 x).toBitVec = (x.toBitVec.signExtend 8).signExtend 32 := by rw [lo8, Int8.toBitVec_toInt32, Int32.toBitVec_toInt8]
  rw [Int32.toBitVec_and, BitVec.toNat_and, h]
  have e : ((x.toBitVec.signExtend 8).signExtend 32).toNat % 256 = x.toBitVec.toNat % 256 := by
    rw [BitVec.toNat_signExtend]
    have hlt := x.toBitVec.isLt
    simp only [BitVec.toNat_setWidth, BitVec.toNat_signExtend]
    split <;> split <;> omega
  rw [← e]
  exact Nat.and_two_pow_sub_one_eq_mod _ 8
theorem pair_says {c : Int32} (h0 : ¬ c < 0) (h1 : ¬ 65535 < c) : pairCh (lo8 c) (hi8 c) = c := by
  rw [Int32.lt_iff_toInt_lt] at h0 h1
  have e0 : (0 : Int32).toInt = 0 := rfl
  have e1 : (65535 : Int32).toInt = 65535 := rfl
  have hc : c.toInt = c.toBitVec.toNat := by
    have := c.toBitVec.isLt
    have e : c.toInt = c.toBitVec.toInt := rfl
    rw [e] at h0 h1
    rw [e]
    rw [BitVec.toInt_eq_toNat_cond] at h0 h1 ⊢
    split at h0 <;> split <;> omega
  have hn : c.toBitVec.toNat < 65536 := by omega
  have a1 := lo8_and c
  have a2 : (hi8 c &&& 255).toBitVec.toNat = c.toBitVec.toNat / 256 := by
    rw [hi8, lo8_and]
    have e : ((8 : Int32) &&& 31) = 8 := by decide
    rw [e, Int32.toBitVec_shiftRight]
    have e2 : ((8 : Int32).toBitVec.smod 32) = 8#32 := by decide
    rw [e2, BitVec.sshiftRight_eq', BitVec.toNat_sshiftRight_of_msb_false (by rw [BitVec.msb_eq_false_iff_two_mul_lt]; omega)]
    show c.toBitVec.toNat >>> 8 % 256 = _
    rw [Nat.shiftRight_eq_div_pow]
    omega
  unfold pairCh
  apply Int32.toBitVec_inj.mp
  apply BitVec.eq_of_toNat_eq
  have f0 : ((0 : Int32) &&& 31) = 0 := by decide
  have f8 : ((8 : Int32) &&& 31) = 8 := by decide
  rw [f0, f8]
  have g : (((lo8 c &&& 255) <<< (0 : Int32)) ||| ((hi8 c &&& 255) <<< (8 : Int32))).toBitVec.toNat = c.toBitVec.toNat := by
    rw [Int32.toBitVec_or, Int32.toBitVec_shiftLeft, Int32.toBitVec_shiftLeft]
    have s0 : ((0 : Int32).toBitVec.smod 32) = 0#32 := by decide
    have s8 : ((8 : Int32).toBitVec.smod 32) = 8#32 := by decide
    rw [s0, s8, BitVec.toNat_or]
    simp only [BitVec.shiftLeft_eq', BitVec.toNat_shiftLeft, a1, a2]
    show (c.toBitVec.toNat % 256) <<< 0 % 2 ^ 32 ||| (c.toBitVec.toNat / 256) <<< 8 % 2 ^ 32 = _
    rw [Nat.shiftLeft_zero, Nat.mod_eq_of_lt (show c.toBitVec.toNat % 256 < 2 ^ 32 by omega), Nat.mod_eq_of_lt (show (c.toBitVec.toNat / 256) <<< 8 < 2 ^ 32 by rw [Nat.shiftLeft_eq]; omega), Nat.or_comm, ← Nat.shiftLeft_add_eq_or_of_lt (by omega), Nat.shiftLeft_eq]
    omega
  show BitVec.toNat (((((lo8 c &&& 255) <<< (0 : Int32)) ||| ((hi8 c &&& 255) <<< (8 : Int32))).toBitVec.setWidth 16).setWidth 32) = _
  rw [BitVec.toNat_setWidth, BitVec.toNat_setWidth, g]
  omega
end StrChars
namespace StrChars
open Jvm Sem ClassFile Op Lib Jvm.Stand Jvm.Free.XT Jvm.Free.ALB Jvm.Free.JM Jvm.Free
open Jvm.Lib.Cold (StaticIs)
theorem shr1 {n : Nat} (h : 2 * n < 2 ^ 31) : Int32.ofNat (2 * n) >>> ((1 : Int32) &&& 31) = Int32.ofNat n := by
  have e : ((1 : Int32) &&& 31) = 1 := by decide
  rw [e]
  apply Int32.toBitVec_inj.mp
  rw [Int32.toBitVec_shiftRight]
  have e1 : ((1 : Int32).toBitVec.smod 32) = 1#32 := by decide
  have hm : (BitVec.ofNat 32 (2 * n)).toNat = 2 * n := by rw [BitVec.toNat_ofNat, Nat.mod_eq_of_lt (by omega)]
  rw [e1, BitVec.sshiftRight_eq']
  apply BitVec.eq_of_toNat_eq
  show ((BitVec.ofNat 32 (2 * n)).sshiftRight 1).toNat = (BitVec.ofNat 32 n).toNat
  rw [BitVec.toNat_sshiftRight_of_msb_false (by rw [BitVec.msb_eq_false_iff_two_mul_lt, hm]; omega), hm, BitVec.toNat_ofNat, Nat.shiftRight_eq_div_pow]
  omega
/-- charAt's cast of a byte read back -/
def chr8 (u : Int32) : Int32 := (u &&& 255).toUInt32.toUInt16.toUInt32.toInt32
theorem chr8_lo8 {c : Int32} (h0 : ¬ c < 0) (h1 : ¬ 255 < c) : chr8 (lo8 c) = c := by
  have t : ∀ k : Fin 256, (Int32.ofNat k.val).toUInt32.toUInt16.toUInt32.toInt32 = Int32.ofNat k.val := by decide +kernel
  unfold chr8
  rw [lo8_mask h0 h1]
  rw [Int32.lt_iff_toInt_lt] at h0 h1
  have e0 : (0 : Int32).toInt = 0 := rfl
  have e1 : (255 : Int32).toInt = 255 := rfl
  obtain ⟨k, hk⟩ : ∃ k : Nat, c.toInt = k := ⟨c.toInt.toNat, by omega⟩
  have hx : c = Int32.ofNat k := Int32.toInt_inj.mp (by rw [hk, Int32.toInt_ofNat_small (by omega)])
  rw [hx]
  exact t ⟨k, by omega⟩
theorem narrow_ch {c : Int32} (h0 : ¬ c < 0) (h1 : ¬ 65535 < c) : narrow .char (.int c) = .int c := by
  have q : narrow .char (.int (pairCh (lo8 c) (hi8 c))) = .int (pairCh (lo8 c) (hi8 c)) := narrow_c _
  rwa [pair_says h0 h1] at q
/-- the array's cell V codes the n chars f 0 .. f (n - 1) by the coder cd, as the JDK does: coder 1 just where some char is above 255 -/
def Cod (cd : Int32) (n : Nat) (f : Nat → Int32) (V : Cell) : Prop := (cd = 0 ∧ V.slots.size = n ∧ ∀ j, j < n → V.slots[j]? = some (.int (lo8 (f j))) ∧ ¬ 255 < f j) ∨ (cd = 1 ∧ V.slots.size = 2 * n ∧ (∀ j, j < n → V.slots[2 * j]? = some (.int (lo8 (f j))) ∧ V.slots[2 * j + 1]? = some (.int (hi8 (f j)))) ∧ ∃ j, j < n ∧ 255 < f j)
theorem Cod.cd {cd : Int32} {n : Nat} {f : Nat → Int32} {V : Cell} (h : Cod cd n f V) : cd = 0 ∨ cd = 1 := h.imp (fun q => q.1) fun q => q.1
theorem Cod.len {cd : Int32} {n : Nat} {f : Nat → Int32} {V : Cell} (h : Cod cd n f V) (hs : V.slots.size < 2 ^ 31) : Int32.ofNat V.slots.size >>> (cd &&& 31) = Int32.ofNat n := by
  rcases h with ⟨rfl, h, -⟩ | ⟨rfl, h, -⟩
  · rw [shr0, h]
  · rw [h, shr1 (by omega)]
/-- **x is a String of the n chars f 0 .. f (n - 1)**, Latin-1 or UTF-16; its array at t has the cell V -/
def Txt (x t : Addr) (V : Cell) (cd : Int32) (n : Nat) (f : Nat → Int32) (U : State) : Prop := Exact "java/lang/String" x U ∧ Has x "java/lang/String" "value" "[B" (.ref t) U ∧ Has x "java/lang/String" "coder" "B" (.int cd) U ∧ XT.Arr .byte t V U ∧ Cod cd n f V ∧ ∀ j, j < n → ¬ f j < 0 ∧ ¬ 65535 < f j
theorem Txt.mv {x t : Addr} {V : Cell} {cd : Int32} {n : Nat} {f : Nat → Int32} {U U' : State} (h : Txt x t V cd n f U) (hal : U.vm.Alike U'.vm) (hh : U'.heap = U.heap) : Txt x t V cd n f U' := ⟨h.1.mv hal hh, h.2.1.mv hal hh, h.2.2.1.mv hal hh, h.2.2.2.1.mv hal hh, h.2.2.2.2⟩
namespace Cdr
def yN : MethodName := ⟨"java/lang/String", "coder", "()B"⟩
abbrev yB : ByteArray := jdk_42_method_152_code
theorem d0 : decode yB 0 = .ok (.getstatic 38, 3) := by decide +kernel
theorem d3 : decode yB 3 = .ok (.ifCond (.eq) 10, 3) := by decide +kernel
theorem d6 : decode yB 6 = .ok (.aload_n 0, 1) := by decide +kernel
theorem d7 : decode yB 7 = .ok (.getfield 15, 3) := by decide +kernel
theorem d10 : decode yB 10 = .ok (.goto 4, 3) := by decide +kernel
theorem d14 : decode yB 14 = .ok (.ireturn, 1) := by decide +kernel
def site : List Cond := [.fieldLink "java/lang/String" 38 "java/lang/String" "COMPACT_STRINGS" "Z", .fieldLink "java/lang/String" 15 "java/lang/String" "coder" "B"]
def tab : Cond := tabOf yN yB 1 (some .byte) site
def P (x : Addr) (cd z : Int32) (args : Array Value) (s : State) : Prop := args = #[.ref x] ∧ Has x "java/lang/String" "coder" "B" (.int cd) s ∧ (cd = 0 ∨ cd = 1) ∧ StaticIs s "java/lang/String" "COMPACT_STRINGS" "Z" (.int z) ∧ ¬ z = 0
def E (cd : Int32) (r : Option Value) (s u : State) : Prop := XT.PureE (some (.int cd)) r s u
theorem law (l : Launch) (x : Addr) (cd z : Int32) : Law l yN 1 0 0 0 yB 1 (some .byte) site (P x cd z) (E cd) [] 0 0 := by
  refine Law.of_walk (plainFor_of_name (by decide +kernel)) (by decide +kernel) (by decide +kernel) (by decide) (fun _ _ h => by rw [h.1]; rfl) (fun _ U U' hal hh h => ⟨h.1, h.2.1.mv hal hh, h.2.2.1, h.2.2.2.1.there hal hh, h.2.2.2.2⟩) (fun r U U' V V' h1 hal h2 h => XT.PureE.mv r U U' V V' h1 hal h2 h) ?_
  intro p e s m args below meth c s₁ X0 hexec hbytes hml hret hlk hnm hown hh0 W hP
  obtain ⟨rfl, hx, hc, s1, hz⟩ := hP
  have c1 : Steps p.tables e below (s₁.setTop (entryFrame m #[.ref x] 1)) (s₁.setTop (mkF m 0 #[.val (.ref x)] [])) := entry rfl
  obtain ⟨T2, X2, q2, st2⟩ := X0.sget hexec hown (wk W (.fieldLink "java/lang/String" 38 "java/lang/String" "COMPACT_STRINGS" "Z")) s1 (fun _ _ h => by rw [hh0]; exact h) (g := (mkF m 0 #[.val (.ref x)] [])) rfl (hb hbytes d0)
  have hh2 := q2.trans hh0
  have c3 : Steps p.tables e below (s₁.setTop (entryFrame m #[.ref x] 1)) (T2.setTop (mkF m 7 #[.val (.ref x)] [.ref x])) := (c1.trans (st2 _ (Steps.refl _))).trans (by
    refine XS.ifNo X2.here hexec rfl (hb hbytes d3) rfl (i0_eq_f hz) ?_
    refine XS.aloadN X2.here hexec rfl (hb hbytes d6) rfl rfl ?_
    exact Steps.refl _)
  obtain ⟨T4, X4, q4, st4⟩ := X2.hget hexec hown (wk W (.fieldLink "java/lang/String" 15 "java/lang/String" "coder" "B")) (hx.mv X2.warmed.alike hh2) (g := (mkF m 7 #[.val (.ref x)] [.ref x])) rfl (rest := []) rfl (hb hbytes d7)
  have c5 : Steps p.tables e below (s₁.setTop (entryFrame m #[.ref x] 1)) (T4.setTop (mkF m 14 #[.val (.ref x)] [.int cd])) := (c3.trans (st4 _ (Steps.refl _))).trans (by
    refine XS.goto X4.here hexec rfl (pc0 := 10) rfl (hb hbytes d10) (by decide) rfl ?_
    exact Steps.refl _)
  exact ⟨T4, some (.int cd), _, _, _, X4, rfl, rfl, rfl, (fun h => by cases h), ⟨rfl, q4.trans hh2⟩, fun fs hl => c5.trans (X4.ireturnOut hexec hret (by rcases hc with rfl | rfl <;> rfl) (Or.inr (Or.inr (Or.inl rfl))) (hb hbytes d14) hl)⟩
end Cdr
namespace Len
def yN : MethodName := ⟨"java/lang/String", "length", "()I"⟩
abbrev yB : ByteArray := jdk_42_method_54_code
theorem d0 : decode yB 0 = .ok (.aload_n 0, 1) := by decide +kernel
theorem d1 : decode yB 1 = .ok (.getfield 9, 3) := by decide +kernel
theorem d4 : decode yB 4 = .ok (.arraylength, 1) := by decide +kernel
theorem d5 : decode yB 5 = .ok (.aload_n 0, 1) := by decide +kernel
theorem d6 : decode yB 6 = .ok (.invokevirtual 335, 3) := by decide +kernel
theorem d9 : decode yB 9 = .ok (.ishr, 1) := by decide +kernel
theorem d10 : decode yB 10 = .ok (.ireturn, 1) := by decide +kernel
def site : List Cond := [.fieldLink "java/lang/String" 9 "java/lang/String" "value" "[B", Cdr.tab] ++ virtW "java/lang/String" 335 "java/lang/String" Cdr.yN Cdr.yN
def tab : Cond := tabOf yN yB 1 (some .int) site
def P (x t : Addr) (V : Cell) (cd : Int32) (n : Nat) (f : Nat → Int32) (z : Int32) (args : Array Value) (s : State) : Prop := args = #[.ref x] ∧ Txt x t V cd n f s ∧ StaticIs s "java/lang/String" "COMPACT_STRINGS" "Z" (.int z) ∧ ¬ z = 0
def E (n : Nat) (r : Option Value) (s u : State) : Prop := XT.PureE (some (.int (Int32.ofNat n))) r s u
/-- length() of a String of n chars, in either coding -/
theorem law (l : Launch) (x t : Addr) (V : Cell) (cd : Int32) (n : Nat) (f : Nat → Int32) (z : Int32) : Law l yN 1 0 1 13 yB 1 (some .int) site (P x t V cd n f z) (E n) [] 0 0 := by
  refine Law.of_walk (plainFor_of_name (by decide +kernel)) (by decide +kernel) (by decide +kernel) (by decide) (fun _ _ h => by rw [h.1]; rfl) (fun _ U U' hal hh h => ⟨h.1, h.2.1.mv hal hh, h.2.2.1.there hal hh, h.2.2.2⟩) (fun r U U' V V' h1 hal h2 h => XT.PureE.mv r U U' V V' h1 hal h2 h) ?_
  intro p e s m args below meth c s₁ X0 hexec hbytes hml hret hlk hnm hown hh0 W hP
  obtain ⟨rfl, hx, s1, hz⟩ := hP
  have v31 := hx.2.2.2.1.2.2.2
  have c1 : Steps p.tables e below (s₁.setTop (entryFrame m #[.ref x] 1)) (s₁.setTop (mkF m 1 #[.val (.ref x)] [.ref x])) := Steps.trans (entry rfl) (by
    show Steps p.tables e below (s₁.setTop (mkF m 0 #[.val (.ref x)] [])) _
    refine XS.aloadN X0.here hexec rfl (hb hbytes d0) rfl rfl ?_
    exact Steps.refl _)
  obtain ⟨T2, X2, q2, st2⟩ := X0.hget hexec hown (wk W (.fieldLink "java/lang/String" 9 "java/lang/String" "value" "[B")) (hx.mv X0.warmed.alike hh0).2.1 (g := (mkF m 1 #[.val (.ref x)] [.ref x])) rfl (rest := []) rfl (hb hbytes d1)
  have hh2 := q2.trans hh0
  have hx2 := hx.mv X2.warmed.alike hh2
  have c3 : Steps p.tables e below (s₁.setTop (entryFrame m #[.ref x] 1)) (T2.setTop (mkF m 6 #[.val (.ref x)] [.ref x, .int (Int32.ofNat V.slots.size)])) := (c1.trans (st2 _ (Steps.refl _))).trans (by
    refine X2.alen hexec hx2.2.2.2.1 rfl rfl (hb hbytes d4) ?_
    refine XS.aloadN X2.here hexec rfl (hb hbytes d5) rfl rfl ?_
    exact Steps.refl _)
  obtain ⟨v4, T4, X4, E4, g4⟩ := X2.callV hexec (Cdr.law l x cd z) hown (wks W (virtW "java/lang/String" 335 "java/lang/String" Cdr.yN Cdr.yN)) rfl (by decide) (wk W Cdr.tab) (W := 1) (Nat.le_of_ble_eq_true rfl) (Nat.le_of_ble_eq_true rfl) (Nat.le_refl _) (Nat.le_refl _) (hx2.1.fc X2.warmed.alike) hx2.1.is (g := (mkF m 6 #[.val (.ref x)] [.ref x, .int (Int32.ofNat V.slots.size)])) rfl (by rw [hml]; rfl) c3 (argsL := []) (rest := [.int (Int32.ofNat V.slots.size)]) rfl rfl (by show 2 * 0 + (1 + 0) ≤ _; decide) (hb hbytes d6) (⟨rfl, hx2.2.2.1, hx.2.2.2.2.1.cd, s1.there X2.warmed.alike hh2, hz⟩)
  obtain ⟨rfl, q4⟩ := E4
  have c5 : Steps p.tables e below (s₁.setTop (entryFrame m #[.ref x] 1)) (T4.setTop (mkF m 10 #[.val (.ref x)] [.int (Int32.ofNat V.slots.size >>> (cd &&& 31))])) := Steps.trans g4 (by
    refine ishr X4.here hexec rfl (hb hbytes d9) rfl ?_
    exact Steps.refl _)
  rw [hx.2.2.2.2.1.len v31] at c5
  exact ⟨T4, some (.int (Int32.ofNat n)), _, _, _, X4, rfl, rfl, rfl, (fun h => by cases h), ⟨rfl, q4.trans hh2⟩, fun fs hl => c5.trans (X4.ireturnOut hexec hret rfl (Or.inl rfl) (hb hbytes d10) hl)⟩
theorem pays {l : Launch} {R : Room} {p : Program} {e : Env} {below : List Frame} {s : State} {sargs : Array Value} {len W : Nat} (x t : Addr) (V : Cell) (cd : Int32) (n : Nat) (f : Nat → Int32) (z : Int32) (htab : tab.before sargs s = true) (hfr : 2 ≤ R.frames) (hlo : W + 25 ≤ R.locals) :
    Back l R p e below s sargs yN len W (fun A₁ a₁ => A₁.cells + 0 ≤ R.cells ∧ A₁.slots + 0 ≤ R.slots ∧ P x t V cd n f z a₁ A₁.U) (fun A₁ _ v₁ B₁ => E n v₁ A₁.U B₁.U ∧ B₁.locs = A₁.locs ++ [] ∧ B₁.cells = A₁.cells + 0 ∧ B₁.slots = A₁.slots + 0) :=
  (law l x t V cd n f z).pays htab hfr (by omega)
end Len
end StrChars
namespace StrChars.Road
open Jvm Sem ClassFile Op Lib Jvm.Stand Jvm.Free Jvm.Free.XT
open Jvm.Lib.Cold (StaticIs)
theorem consq {a : Array Value} {s : State} {c : Jvm.Cond} {L : List Jvm.Cond} (h0 : c.before a s = true) (h : ∀ w ∈ L, w.before a s = true) : ∀ w ∈ c :: L, w.before a s = true := fun w hw => (List.mem_cons.mp hw).elim (fun e => e ▸ h0) (h w)
/-- the words of String.length(), either coding -/
abbrev wordsLen : List Jvm.Cond := [.code Len.yN Len.yB 1 (some .int), .initialized ST, .fieldLink ST 9 ST "value" "[B", .fieldLink ST 38 ST "COMPACT_STRINGS" "Z", .fieldLink ST 15 ST "coder" "B", .code Cdr.yN Cdr.yB 1 (some .byte), .methodLink ST 335 Cdr.yN, .declares Cdr.yN, .selects ST Cdr.yN Cdr.yN, .instanceMethod Cdr.yN]
theorem tabLen_of {a : Array Value} {s : State} (h : ∀ w ∈ wordsLen, w.before a s = true) : Len.tab.before a s = true := by
  have hc : Cdr.tab.before a s = true := unparts (wk h (.code Cdr.yN Cdr.yB 1 (some .byte))) (wks h (.initialized Cdr.yN.cls :: Cdr.site))
  have q := consq hc h
  exact unparts (wk q (.code Len.yN Len.yB 1 (some .int))) (wks q (.initialized Len.yN.cls :: Len.site))
theorem movedLen {Z s : State} {a0 args : Array Value} (hZ : Z.Warmed39 s.vm) (hw : ∀ d ∈ wordsLen, d.before a0 Z = true) : ∀ d ∈ wordsLen, d.before args s = true := fun d hd => by
  have q := hw d hd
  have t : ∀ d ∈ wordsLen, d = .arrayClass .byte ∨ (d.onTables && d.keepsFace) = true := by decide +kernel
  rcases t d hd with rfl | t
  · exact RoadKit.mvA hZ q
  · exact RoadKit.mv hZ q t
/-- the bytes of the chars cs, low before high -/
def wideBytes : List Int32 → List Value
  | [] => []
  | c :: cs => .int (lo8 c) :: .int (hi8 c) :: wideBytes cs
theorem wide_lo (d : Value) : ∀ (cs : List Int32) (j : Nat), j < cs.length → (wideBytes cs).getD (2 * j) d = .int (lo8 (cs.getD j 0))
  | [], j, h => absurd h (Nat.not_lt_zero j)
  | c :: cs, 0, _ => rfl
  | c :: cs, j + 1, h => by
    have q := wide_lo d cs j (by simpa using h)
    rw [show 2 * (j + 1) = 2 * j + 1 + 1 from by omega]
    simpa [wideBytes] using q
theorem wide_hi (d : Value) : ∀ (cs : List Int32) (j : Nat), j < cs.length → (wideBytes cs).getD (2 * j + 1) d = .int (hi8 (cs.getD j 0))
  | [], j, h => absurd h (Nat.not_lt_zero j)
  | c :: cs, 0, _ => rfl
  | c :: cs, j + 1, h => by
    have q := wide_hi d cs j (by simpa using h)
    rw [show 2 * (j + 1) + 1 = 2 * j + 1 + 1 + 1 from by omega]
    simpa [wideBytes] using q
theorem low_at (d : Value) (cs : List Int32) (j : Nat) (h : j < cs.length) : (cs.map fun c => Value.int (lo8 c)).getD j d = .int (lo8 (cs.getD j 0)) := by
  simp [List.getD_eq_getElem?_getD, h]
/-- an array of N2 bytes vs codes the chars cs by the coder cd -/
def CodA (cs : List Int32) (cd N2 : Int32) (vs : List Value) : Prop := (cd = 0 ∧ N2 = Int32.ofNat cs.length ∧ vs = (cs.map fun c => Value.int (lo8 c)) ∧ ∀ c ∈ cs, ¬ 255 < c) ∨ (cd = 1 ∧ N2 = Int32.ofNat (2 * cs.length) ∧ vs = wideBytes cs ∧ ∃ c ∈ cs, 255 < c)
theorem CodA.cod {cs : List Int32} {cd N2 : Int32} {vs : List Value} {V : Cell} (h : CodA cs cd N2 vs) (hn : 2 * cs.length < 2 ^ 31) (hs : V.slots.size = N2.toNatClampNeg) (hv : RoadKit.Has V vs (.int 0)) : Cod cd cs.length (fun j => cs.getD j 0) V := by
  rcases h with ⟨rfl, rfl, rfl, h⟩ | ⟨rfl, rfl, rfl, c, hc, hw⟩
  · rw [n32 (by omega)] at hs
    exact Or.inl ⟨rfl, hs, fun j hj => ⟨by rw [hv j (by omega), low_at _ _ _ hj], by
      have e : cs.getD j 0 = cs[j] := by simp [List.getD_eq_getElem?_getD, hj]
      show ¬ 255 < cs.getD j 0
      rw [e]; exact h _ (List.getElem_mem _)⟩⟩
  · rw [n32 (by omega)] at hs
    obtain ⟨j, hj, rfl⟩ := List.getElem_of_mem hc
    exact Or.inr ⟨rfl, hs, fun j hj => ⟨by rw [hv _ (by omega), wide_lo _ _ _ hj], by rw [hv _ (by omega), wide_hi _ _ _ hj]⟩, j, hj, by
      have e : cs.getD j 0 = cs[j] := by simp [List.getD_eq_getElem?_getD, hj]
      show 255 < cs.getD j 0
      rw [e]; exact hw⟩
/-- an object of exactly java/lang/String, its two fields found: as the laws ask it -/
theorem strObj {Z U : State} {a0 : Array Value} {kI : Nat} (wi : (Jvm.Cond.instantiable ST kI).before a0 Z = true) (al : Z.vm.Alike U.vm) {x : Addr} {v0 c0 : Value} (E : RoadKit.Exa Z U.heap x ST) (V : RoadKit.Fld Z U.heap x ST "value" "[B" v0) (C : RoadKit.Fld Z U.heap x ST "coder" "B" c0) :
    ∃ (D : Cell) (fV fC : Field), Blank ST x D U ∧ Found ST "value" "[B" fV U ∧ Found ST "coder" "B" fC U ∧ D.slots[fV.slot]? = some v0 ∧ D.slots[fC.slot]? = some c0 ∧ RoadKit.slotOf Z ST "value" "[B" = fV.slot ∧ RoadKit.slotOf Z ST "coder" "B" = fC.slot := by
  obtain ⟨D, cfV, kV, iV, fV, hD, gV, stV, knV, obV, asV, slV⟩ := V
  obtain ⟨D', cfC, kC, iC, fC, hD', gC, stC, -, -, asC, slC⟩ := C
  cases hD.symm.trans hD'
  obtain ⟨D2, kD, e1, e2, e3, e4, e5⟩ := E
  cases hD.symm.trans e1
  obtain ⟨c2, k2, i1, i2, i3, -⟩ := Cond.instantiable_spec wi
  cases e2.symm.trans i1
  cases e3.symm.trans i2
  obtain ⟨kU, u1, u2⟩ := al.2.2 _ _ e3
  exact ⟨D, fV, fC, ⟨hD, ⟨knV, fun q hq => by rw [hq] at obV; cases obV⟩, by rw [al.findClass]; exact e2, kU, u1, by rw [u2]; exact i3, by rw [u2]; exact e5 i3⟩, ⟨SBG.found_only al ⟨cfV, kV, iV, gV⟩, stV⟩, ⟨SBG.found_only al ⟨cfC, kC, iC, gC⟩, stC⟩, slV, slC, by simp [RoadKit.slotOf, gV], by simp [RoadKit.slotOf, gC]⟩
theorem sta_is {Z U : State} (al : Z.vm.Alike U.vm) {C n d : String} {v : Value} (S : RoadKit.Sta Z U.heap C n d v) : StaticIs U C n d v := by
  obtain ⟨cfS, iS, kS, fS, st, cS, t1, t2, t3, t4, t5, t6, t7⟩ := S
  exact StaticIs.there (s := { Z with heap := U.heap }) ⟨cfS, iS, kS, fS, st, cS, t1, t2, t3, t4, t5, (fun q => by rw [q] at t6; cases t6), t7⟩ al rfl
/-- **length() OF SUCH A STRING** -/
theorem lenW {p : Program} {l : Launch} {e : Env} {R : Room} {s : State} {args : Array Value} {below : List Frame} {len W : Nat} {Z : State} {a0 : Array Value} {h : Heap} (hZ : Z.Warmed39 s.vm) (hw : ∀ d ∈ wordsLen, d.before a0 Z = true) {kI : Nat} (wi : (Jvm.Cond.instantiable ST kI).before a0 Z = true)
    {x t : Addr} {kb : ClassId} {cs : List Int32} {cd N2 z : Int32} {vs : List Value} (E : RoadKit.Exa Z h x ST) (V : RoadKit.Fld Z h x ST "value" "[B" (.ref t)) (C : RoadKit.Fld Z h x ST "coder" "B" (.int cd)) (K : RoadKit.Arv Z h t kb .byte N2 vs (.int 0)) (hc : CodA cs cd N2 vs) (hb : ∀ c ∈ cs, ¬ c < 0 ∧ ¬ (65535 : Int32) < c)
    (S : RoadKit.Sta Z h ST "COMPACT_STRINGS" "Z" (.int z)) (hz : ¬ z = 0) (l2 : cs.length ≤ 4000) (hfr : 2 ≤ R.frames) (hlo : W + 25 ≤ R.locals) :
    Back l R p e below s args (⟨"java/lang/String", "length", "()I"⟩ : MethodName) len W (fun P a => a = #[.ref x] ∧ P.U.heap = h ∧ P.cells + 0 ≤ R.cells ∧ P.slots + 0 ≤ R.slots)
      (fun P _ v B => ∃ L, (v = some (.int (Int32.ofNat cs.length)) ∧ L = [] ∧ B.U.heap = h) ∧ B.locs = P.locs ++ L ∧ B.cells = P.cells + 0 ∧ B.slots = P.slots + 0) := by
  obtain ⟨A, K1, K2, K3, K4, K5, K6⟩ := K
  have hcod := hc.cod (by omega) K3 K5
  intro m meth c P g ig mk a X hg hsize hdg hW hn hp'
  obtain ⟨rfl, rfl, r1, r2⟩ := hp'
  have al : Z.vm.Alike P.U.vm := hZ.alike.trans X.warmed.alike
  obtain ⟨D, fV, fC, hB, F1, F2, g1, g2, -, -⟩ := strObj wi al E V C
  have hx : Txt x t A cd cs.length (fun j => cs.getD j 0) P.U := ⟨⟨_, hB.2.2.1, D, hB.1, rfl, by cases q : D.vm <;> first | rfl | exact absurd q (hB.2.1.2 _)⟩, Has.of hB F1 g1, Has.of hB F2 g2, ⟨K1.1, State.isArrayOf_alike al K1.2.1, K1.2.2, by rcases hcod with ⟨-, q, -⟩ | ⟨-, q, -⟩ <;> omega⟩, hcod, fun j hj => by
    have e : cs.getD j 0 = cs[j] := by simp [List.getD_eq_getElem?_getD, hj]
    show ¬ cs.getD j 0 < 0 ∧ ¬ 65535 < cs.getD j 0
    rw [e]; exact hb _ (List.getElem_mem _)⟩
  obtain ⟨v, B, X', ⟨⟨hv, hh⟩, hl, hk, hs⟩, st⟩ := Len.pays x t A cd cs.length (fun j => cs.getD j 0) z (tabLen_of (movedLen hZ hw)) hfr hlo m meth c P g ig mk _ X hg hsize hdg hW hn ⟨r1, r2, rfl, hx, sta_is al S, hz⟩
  exact ⟨v, B, X', ⟨[], ⟨hv, rfl, hh⟩, hl, hk, hs⟩, st⟩
end StrChars.Road
namespace StrChars
open Jvm Sem ClassFile Op Lib Jvm.Stand Jvm.Free.XT Jvm.Free.ALB Jvm.Free.JM Jvm.Free
open Jvm.Lib.Cold (StaticIs)
/-- what place i of a byte[]'s cell holds -/
def yv (A : Cell) (i : Nat) : Int32 := match A.slots[i]? with | some (.int x) => x | _ => 0
theorem yv_get {a : Addr} {A : Cell} {U : State} (h : XT.Arr .byte a A U) (ht : Typed .byte A) {i : Nat} (hi : i < A.slots.size) : A.slots[i]? = some (.int (yv A i)) := by
  have e := Array.getElem?_eq_getElem hi
  have f := ht i _ e
  unfold yv; rw [e]
  generalize A.slots[i] = v at f
  cases v <;> simp [fits] at f ⊢
/-- the two arrays are equal, place for place -/
def EqC (A B : Cell) : Prop := A.slots.size = B.slots.size ∧ ∀ i, i < A.slots.size → yv A i = yv B i
/-- a boolean that says whether p -/
def Says01 (q : Prop) (r : Option Value) (s u : State) : Prop := ∃ v : Int32, r = some (.int v) ∧ u.heap = s.heap ∧ ((v = 1 ∧ q) ∨ (v = 0 ∧ ¬ q))
theorem Says01.mv {q : Prop} : ∀ r (U U' V V' : State), U'.heap = U.heap → V.vm.Alike V'.vm → V'.heap = V.heap → Says01 q r U V → Says01 q r U' V' :=
  fun r U U' V V' h1 _ h2 ⟨v, a, b, c⟩ => ⟨v, a, by rw [h1, h2]; exact b, c⟩
namespace LEq
def yN : MethodName := ⟨"java/lang/StringLatin1", "equals", "([B[B)Z"⟩
abbrev yB : ByteArray := jdk_43_method_13_code
theorem d0 : decode yB 0 = .ok (.aload_n 0, 1) := by decide +kernel
theorem d1 : decode yB 1 = .ok (.arraylength, 1) := by decide +kernel
theorem d2 : decode yB 2 = .ok (.aload_n 1, 1) := by decide +kernel
theorem d3 : decode yB 3 = .ok (.arraylength, 1) := by decide +kernel
theorem d4 : decode yB 4 = .ok (.if_icmp (.ne) 30, 3) := by decide +kernel
theorem d7 : decode yB 7 = .ok (.iconst 0, 1) := by decide +kernel
theorem d8 : decode yB 8 = .ok (.istore_n 2, 1) := by decide +kernel
theorem d9 : decode yB 9 = .ok (.iload_n 2, 1) := by decide +kernel
theorem d10 : decode yB 10 = .ok (.aload_n 0, 1) := by decide +kernel
theorem d11 : decode yB 11 = .ok (.arraylength, 1) := by decide +kernel
theorem d12 : decode yB 12 = .ok (.if_icmp (.ge) 20, 3) := by decide +kernel
theorem d15 : decode yB 15 = .ok (.aload_n 0, 1) := by decide +kernel
theorem d16 : decode yB 16 = .ok (.iload_n 2, 1) := by decide +kernel
theorem d17 : decode yB 17 = .ok (.baload, 1) := by decide +kernel
theorem d18 : decode yB 18 = .ok (.aload_n 1, 1) := by decide +kernel
theorem d19 : decode yB 19 = .ok (.iload_n 2, 1) := by decide +kernel
theorem d20 : decode yB 20 = .ok (.baload, 1) := by decide +kernel
theorem d21 : decode yB 21 = .ok (.if_icmp (.eq) 5, 3) := by decide +kernel
theorem d24 : decode yB 24 = .ok (.iconst 0, 1) := by decide +kernel
theorem d25 : decode yB 25 = .ok (.ireturn, 1) := by decide +kernel
theorem d26 : decode yB 26 = .ok (.iinc 2 1, 3) := by decide +kernel
theorem d29 : decode yB 29 = .ok (.goto (-20), 3) := by decide +kernel
theorem d32 : decode yB 32 = .ok (.iconst 1, 1) := by decide +kernel
theorem d33 : decode yB 33 = .ok (.ireturn, 1) := by decide +kernel
theorem d34 : decode yB 34 = .ok (.iconst 0, 1) := by decide +kernel
theorem d35 : decode yB 35 = .ok (.ireturn, 1) := by decide +kernel
def site : List Cond := []
def tab : Cond := tabOf yN yB 3 (some .boolean) site
def P (a : Addr) (A : Cell) (b : Addr) (B : Cell) (args : Array Value) (s : State) : Prop := args = #[.ref a, .ref b] ∧ XT.Arr .byte a A s ∧ Typed .byte A ∧ XT.Arr .byte b B s ∧ Typed .byte B
/-- whether two byte[] are equal, place for place -/
theorem law (l : Launch) (a : Addr) (A : Cell) (b : Addr) (B : Cell) : Law l yN 2 2 0 0 yB 3 (some .boolean) site (P a A b B) (Says01 (EqC A B)) [] 0 0 := by
  refine Law.of_walk (plainFor_of_name (by decide +kernel)) (by decide +kernel) (by decide +kernel) (by decide) (fun _ _ h => by rw [h.1]; rfl) (fun _ U U' hal hh h => ⟨h.1, h.2.1.mv hal hh, h.2.2.1, h.2.2.2.1.mv hal hh, h.2.2.2.2⟩) (fun r U U' V V' h1 hal h2 h => Says01.mv r U U' V V' h1 hal h2 h) ?_
  intro p e s m args below meth c s₁ X0 hexec hbytes hml hret hlk hnm hown hh0 W hP
  obtain ⟨rfl, hA, tA, hB, tB⟩ := hP
  have a31 := hA.2.2.2
  have b31 := hB.2.2.2
  have hA0 := hA.mv X0.warmed.alike hh0
  have hB0 := hB.mv X0.warmed.alike hh0
  have c1 : Steps p.tables e below (s₁.setTop (entryFrame m #[.ref a, .ref b] 3)) (s₁.setTop (mkF m 0 #[.val (.ref a), .val (.ref b), .unset] [])) := entry rfl
  have c2 : Steps p.tables e below (s₁.setTop (entryFrame m #[.ref a, .ref b] 3)) (s₁.setTop (mkF m 4 #[.val (.ref a), .val (.ref b), .unset] [.int (Int32.ofNat B.slots.size), .int (Int32.ofNat A.slots.size)])) := c1.trans (by
    refine XS.aloadN X0.here hexec rfl (hb hbytes d0) rfl rfl ?_
    refine X0.alen hexec hA0 rfl rfl (hb hbytes d1) ?_
    refine XS.aloadN X0.here hexec rfl (hb hbytes d2) rfl rfl ?_
    refine X0.alen hexec hB0 rfl rfl (hb hbytes d3) ?_
    exact Steps.refl _)
  by_cases hs : A.slots.size = B.slots.size
  · have c3 : Steps p.tables e below (s₁.setTop (entryFrame m #[.ref a, .ref b] 3)) (s₁.setTop (mkF m 9 #[.val (.ref a), .val (.ref b), .val (.int 0)] [])) := c2.trans (by
      refine XS.icmpNo X0.here hexec rfl (hb hbytes d4) rfl (ii_ne_f (by rw [hs])) ?_
      refine iconstV X0.here hexec rfl 0 (hb hbytes d7) (by decide) ?_
      refine XS.istoreN X0.here hexec rfl (hb hbytes d8) rfl rfl ?_
      exact Steps.refl _)
    have loop : ∀ (r i : Nat), i + r = A.slots.size → (∀ j, j < i → yv A j = yv B j) → Steps p.tables e below (s₁.setTop (entryFrame m #[.ref a, .ref b] 3)) (s₁.setTop (mkF m 9 #[.val (.ref a), .val (.ref b), .val (.int (Int32.ofNat i))] [])) → ∃ (pc : Nat) (Ls : Array Slot) (v : Int32), (pc = 25 ∨ pc = 33) ∧ ((v = 1 ∧ EqC A B) ∨ (v = 0 ∧ ¬ EqC A B)) ∧ Steps p.tables e below (s₁.setTop (entryFrame m #[.ref a, .ref b] 3)) (s₁.setTop (mkF m pc Ls [.int v])) := by
      intro r
      induction r with
      | zero =>
        intro i hi he cl
        exact ⟨33, _, 1, Or.inr rfl, Or.inl ⟨rfl, hs, fun j hj => he j (by omega)⟩, cl.trans (by
          refine XS.iloadN X0.here hexec rfl (hb hbytes d9) rfl ?_
          refine XS.aloadN X0.here hexec rfl (hb hbytes d10) rfl rfl ?_
          refine X0.alen hexec hA0 rfl rfl (hb hbytes d11) ?_
          refine XS.icmpYes X0.here hexec rfl (pc0 := 12) rfl (hb hbytes d12) rfl (ii_ge_t (nlt32 (by omega) (by omega))) (by decide) rfl ?_
          refine iconstV X0.here hexec rfl 1 (hb hbytes d32) (by decide) ?_
          exact Steps.refl _)⟩
      | succ r ih =>
        intro i hi he cl
        have c4 : Steps p.tables e below (s₁.setTop (entryFrame m #[.ref a, .ref b] 3)) (s₁.setTop (mkF m 21 #[.val (.ref a), .val (.ref b), .val (.int (Int32.ofNat i))] [.int (yv B i), .int (yv A i)])) := cl.trans (by
          refine XS.iloadN X0.here hexec rfl (hb hbytes d9) rfl ?_
          refine XS.aloadN X0.here hexec rfl (hb hbytes d10) rfl rfl ?_
          refine X0.alen hexec hA0 rfl rfl (hb hbytes d11) ?_
          refine XS.icmpNo X0.here hexec rfl (hb hbytes d12) rfl (ii_ge_f (lt32 (by omega) (by omega))) ?_
          refine XS.aloadN X0.here hexec rfl (hb hbytes d15) rfl rfl ?_
          refine XS.iloadN X0.here hexec rfl (hb hbytes d16) rfl ?_
          refine X0.aget hexec hA0 rfl (yv_get hA tA (i := i) (by omega)) rfl rfl (hb hbytes d17) ?_
          refine XS.aloadN X0.here hexec rfl (hb hbytes d18) rfl rfl ?_
          refine XS.iloadN X0.here hexec rfl (hb hbytes d19) rfl ?_
          refine X0.aget hexec hB0 rfl (yv_get hB tB (i := i) (by omega)) rfl rfl (hb hbytes d20) ?_
          exact Steps.refl _)
        by_cases hv : yv A i = yv B i
        · have c5 : Steps p.tables e below (s₁.setTop (entryFrame m #[.ref a, .ref b] 3)) (s₁.setTop (mkF m 9 #[.val (.ref a), .val (.ref b), .val (.int (Int32.ofNat i + 1))] [])) := c4.trans (by
            refine XS.icmpYes X0.here hexec rfl (pc0 := 21) rfl (hb hbytes d21) rfl (ii_eq_t hv) (by decide) rfl ?_
            refine iincV X0.here hexec rfl 1 (hb hbytes d26) (by decide) rfl rfl ?_
            refine XS.goto X0.here hexec rfl (pc0 := 29) rfl (hb hbytes d29) (by decide) rfl ?_
            exact Steps.refl _)
          rw [succ32] at c5
          exact ih (i + 1) (by omega) (fun j hj => by
            by_cases e : j = i
            · rw [e]; exact hv
            · exact he j (by omega)) c5
        · exact ⟨25, _, 0, Or.inl rfl, Or.inr ⟨rfl, fun q => hv (q.2 i (by omega))⟩, c4.trans (by
            refine XS.icmpNo X0.here hexec rfl (hb hbytes d21) rfl (ii_eq_f hv) ?_
            refine iconstV X0.here hexec rfl 0 (hb hbytes d24) (by decide) ?_
            exact Steps.refl _)⟩
    obtain ⟨pc, Ls, v, hpc, hv, cz⟩ := loop A.slots.size 0 (by omega) (fun j hj => absurd hj (Nat.not_lt_zero j)) c3
    have nv : narrow .boolean (.int v) = .int v := by rcases hv with ⟨rfl, -⟩ | ⟨rfl, -⟩ <;> rfl
    rcases hpc with rfl | rfl
    · exact ⟨s₁, some (.int v), _, _, _, X0, rfl, rfl, rfl, (fun h => by cases h), ⟨v, rfl, hh0, hv⟩, fun fs hl => cz.trans (X0.ireturnOut hexec hret nv (Or.inr (Or.inl rfl)) (hb hbytes d25) hl)⟩
    · exact ⟨s₁, some (.int v), _, _, _, X0, rfl, rfl, rfl, (fun h => by cases h), ⟨v, rfl, hh0, hv⟩, fun fs hl => cz.trans (X0.ireturnOut hexec hret nv (Or.inr (Or.inl rfl)) (hb hbytes d33) hl)⟩
  · have c3 : Steps p.tables e below (s₁.setTop (entryFrame m #[.ref a, .ref b] 3)) (s₁.setTop (mkF m 35 #[.val (.ref a), .val (.ref b), .unset] [.int 0])) := c2.trans (by
      refine XS.icmpYes X0.here hexec rfl (pc0 := 4) rfl (hb hbytes d4) rfl (ii_ne_t (ne32 a31 b31 hs)) (by decide) rfl ?_
      refine iconstV X0.here hexec rfl 0 (hb hbytes d34) (by decide) ?_
      exact Steps.refl _)
    exact ⟨s₁, some (.int 0), _, _, _, X0, rfl, rfl, rfl, (fun h => by cases h), ⟨0, rfl, hh0, Or.inr ⟨rfl, fun q => hs q.1⟩⟩, fun fs hl => c3.trans (X0.ireturnOut hexec hret rfl (Or.inr (Or.inl rfl)) (hb hbytes d35) hl)⟩
end LEq
theorem Cod.ty {cd : Int32} {n : Nat} {f : Nat → Int32} {V : Cell} (h : Cod cd n f V) : Typed .byte V := fun i v hv => by
  have hi : i < V.slots.size := (Array.getElem?_eq_some_iff.mp hv).1
  rcases h with ⟨-, k1, k2⟩ | ⟨-, k1, k2, -⟩
  · rw [(k2 i (by omega)).1] at hv; cases hv; exact fits_lo8 _
  · rcases Nat.mod_two_eq_zero_or_one i with e | e
    · obtain ⟨j, rfl⟩ : ∃ j, i = 2 * j := ⟨i / 2, by omega⟩
      rw [(k2 j (by omega)).1] at hv; cases hv; exact fits_lo8 _
    · obtain ⟨j, rfl⟩ : ∃ j, i = 2 * j + 1 := ⟨i / 2, by omega⟩
      rw [(k2 j (by omega)).2] at hv; cases hv; exact fits_lo8 _
/-- the same text -/
def SameT (n : Nat) (f : Nat → Int32) (k : Nat) (g : Nat → Int32) : Prop := n = k ∧ ∀ j, j < n → f j = g j
theorem lo8_inj {x y : Int32} (h0 : ¬ x < 0) (h1 : ¬ 255 < x) (k0 : ¬ y < 0) (k1 : ¬ 255 < y) (h : lo8 x = lo8 y) : x = y := by
  rw [← lo8_mask h0 h1, ← lo8_mask k0 k1, h]
/-- arrays coded by one coder are equal just where the texts are -/
theorem Cod.eqv {cd : Int32} {n k : Nat} {f g : Nat → Int32} {V V' : Cell} (h : Cod cd n f V) (h' : Cod cd k g V') (hf : ∀ j, j < n → ¬ f j < 0 ∧ ¬ 65535 < f j) (hg : ∀ j, j < k → ¬ g j < 0 ∧ ¬ 65535 < g j) : EqC V V' ↔ SameT n f k g := by
  have yvv : ∀ {W : Cell} {i : Nat} {x : Int32}, W.slots[i]? = some (.int x) → yv W i = x := fun q => by unfold yv; rw [q]
  rcases h with ⟨rfl, k1, k2⟩ | ⟨rfl, k1, k2, -⟩
  · rcases h' with ⟨-, m1, m2⟩ | ⟨e, -⟩
    · constructor
      · rintro ⟨e1, e2⟩
        refine ⟨by omega, fun j hj => ?_⟩
        have q := e2 j (by omega)
        rw [yvv (k2 j hj).1, yvv (m2 j (by omega)).1] at q
        exact lo8_inj (hf j hj).1 (k2 j hj).2 (hg j (by omega)).1 (m2 j (by omega)).2 q
      · rintro ⟨rfl, e2⟩
        refine ⟨by omega, fun j hj => ?_⟩
        rw [yvv (k2 j (by omega)).1, yvv (m2 j (by omega)).1, e2 j (by omega)]
    · exact absurd e (by decide)
  · rcases h' with ⟨e, -⟩ | ⟨-, m1, m2, -⟩
    · exact absurd e (by decide)
    · constructor
      · rintro ⟨e1, e2⟩
        refine ⟨by omega, fun j hj => ?_⟩
        have q1 := e2 (2 * j) (by omega)
        have q2 := e2 (2 * j + 1) (by omega)
        rw [yvv (k2 j hj).1, yvv (m2 j (by omega)).1] at q1
        rw [yvv (k2 j hj).2, yvv (m2 j (by omega)).2] at q2
        rw [← pair_says (hf j hj).1 (hf j hj).2, ← pair_says (hg j (by omega)).1 (hg j (by omega)).2, q1, q2]
      · rintro ⟨rfl, e2⟩
        refine ⟨by omega, fun i hi => ?_⟩
        rcases Nat.mod_two_eq_zero_or_one i with e | e
        · obtain ⟨j, rfl⟩ : ∃ j, i = 2 * j := ⟨i / 2, by omega⟩
          rw [yvv (k2 j (by omega)).1, yvv (m2 j (by omega)).1, e2 j (by omega)]
        · obtain ⟨j, rfl⟩ : ∃ j, i = 2 * j + 1 := ⟨i / 2, by omega⟩
          rw [yvv (k2 j (by omega)).2, yvv (m2 j (by omega)).2, e2 j (by omega)]
/-- two codings differ: so do the texts -/
theorem Cod.dif {cd cd' : Int32} {n k : Nat} {f g : Nat → Int32} {V V' : Cell} (h : Cod cd n f V) (h' : Cod cd' k g V') (hne : ¬ cd = cd') : ¬ SameT n f k g := by
  rintro ⟨rfl, e⟩
  rcases h with ⟨rfl, -, k2⟩ | ⟨rfl, -, -, j, hj, hw⟩
  · rcases h' with ⟨rfl, -⟩ | ⟨-, -, -, j, hj, hw⟩
    · exact hne rfl
    · exact (k2 j hj).2 (by rw [e j hj]; exact hw)
  · rcases h' with ⟨-, -, m2⟩ | ⟨rfl, -⟩
    · exact (m2 j hj).2 (by rw [← e j hj]; exact hw)
    · exact hne rfl
/-- an object of exactly C is an instance of C -/
theorem cinst {p : Program} {l : Launch} {e : Env} {R : Room} {s : State} {m : MethodId} {args : Array Value} {below : List Frame} {meth : Method} {c : Code} {T : State} {locs : List Loc} {cells slots : Nat} (X : Stand p l e R s m args below meth c T locs cells slots) (hexec : p.tables.exec = Jvm.exec) {own C : String} {index : Nat} (hown : s.vm.findClass own = some m.cls) (hlink : (Cond.classLink own index C).before args s = true) {a : Addr} (hE : Exact C a T)
    {g : JFrame} (hg : g.method = m) {rest : List Value} (hstack : g.stack = .ref a :: rest) (hdg : decode c.code g.pc = .ok (.instanceof index, 3)) :
    ∃ T', Stand p l e R s m args below meth c T' locs cells slots ∧ T'.heap = T.heap ∧ ∀ target, Steps p.tables e below (T'.setTop { g with pc := g.pc + 3, stack := .int 1 :: rest }) target → Steps p.tables e below (T.setTop g) target := by
  obtain ⟨cB, h1, D, h2, h3, h4⟩ := hE
  have h1' : s.vm.findClass C = some cB := by rw [← X.warmed.alike.findClass]; exact h1
  obtain ⟨vm', X', st⟩ := X.instanceofYes hexec hown hlink h2 h4 h1' (by rw [h3]; exact Jvm.Free.SB.assignable_self _ _) hg hstack hdg
  exact ⟨_, X', rfl, st⟩
theorem cself {p : Program} {l : Launch} {e : Env} {R : Room} {s : State} {m : MethodId} {args : Array Value} {below : List Frame} {meth : Method} {c : Code} {T : State} {locs : List Loc} {cells slots : Nat} (X : Stand p l e R s m args below meth c T locs cells slots) (hexec : p.tables.exec = Jvm.exec) {own C : String} {index : Nat} (hown : s.vm.findClass own = some m.cls) (hlink : (Cond.classLink own index C).before args s = true) {a : Addr} (hE : Exact C a T)
    {g : JFrame} (hg : g.method = m) {rest : List Value} (hstack : g.stack = .ref a :: rest) (hdg : decode c.code g.pc = .ok (.checkcast index, 3)) :
    ∃ T', Stand p l e R s m args below meth c T' locs cells slots ∧ T'.heap = T.heap ∧ ∀ target, Steps p.tables e below (T'.setTop { g with pc := g.pc + 3, stack := .ref a :: rest }) target → Steps p.tables e below (T.setTop g) target := by
  obtain ⟨cB, h1, D, h2, h3, h4⟩ := hE
  have h1' : s.vm.findClass C = some cB := by rw [← X.warmed.alike.findClass]; exact h1
  obtain ⟨vm', X', st⟩ := X.checkcastYes hexec hown hlink h2 h4 h1' (by rw [h3]; exact Jvm.Free.SB.assignable_self _ _) hg hstack hdg
  exact ⟨_, X', rfl, fun t h => st t (by rw [← hstack] at h; exact h)⟩
namespace SEq
def yN : MethodName := ⟨"java/lang/String", "equals", "(Ljava/lang/Object;)Z"⟩
abbrev yB : ByteArray := jdk_42_method_66_code
theorem d0 : decode yB 0 = .ok (.aload_n 0, 1) := by decide +kernel
theorem d1 : decode yB 1 = .ok (.aload_n 1, 1) := by decide +kernel
theorem d2 : decode yB 2 = .ok (.if_acmp (.ne) 5, 3) := by decide +kernel
theorem d5 : decode yB 5 = .ok (.iconst 1, 1) := by decide +kernel
theorem d6 : decode yB 6 = .ok (.ireturn, 1) := by decide +kernel
theorem d7 : decode yB 7 = .ok (.aload_n 1, 1) := by decide +kernel
theorem d8 : decode yB 8 = .ok (.instanceof 10, 3) := by decide +kernel
theorem d11 : decode yB 11 = .ok (.ifCond (.eq) 43, 3) := by decide +kernel
theorem d14 : decode yB 14 = .ok (.aload_n 1, 1) := by decide +kernel
theorem d15 : decode yB 15 = .ok (.checkcast 10, 3) := by decide +kernel
theorem d18 : decode yB 18 = .ok (.astore_n 2, 1) := by decide +kernel
theorem d19 : decode yB 19 = .ok (.getstatic 38, 3) := by decide +kernel
theorem d22 : decode yB 22 = .ok (.ifCond (.eq) 14, 3) := by decide +kernel
theorem d25 : decode yB 25 = .ok (.aload_n 0, 1) := by decide +kernel
theorem d26 : decode yB 26 = .ok (.getfield 15, 3) := by decide +kernel
theorem d29 : decode yB 29 = .ok (.aload_n 2, 1) := by decide +kernel
theorem d30 : decode yB 30 = .ok (.getfield 15, 3) := by decide +kernel
theorem d33 : decode yB 33 = .ok (.if_icmp (.ne) 21, 3) := by decide +kernel
theorem d36 : decode yB 36 = .ok (.aload_n 0, 1) := by decide +kernel
theorem d37 : decode yB 37 = .ok (.getfield 9, 3) := by decide +kernel
theorem d40 : decode yB 40 = .ok (.aload_n 2, 1) := by decide +kernel
theorem d41 : decode yB 41 = .ok (.getfield 9, 3) := by decide +kernel
theorem d44 : decode yB 44 = .ok (.invokestatic 541, 3) := by decide +kernel
theorem d47 : decode yB 47 = .ok (.ifCond (.eq) 7, 3) := by decide +kernel
theorem d50 : decode yB 50 = .ok (.iconst 1, 1) := by decide +kernel
theorem d51 : decode yB 51 = .ok (.goto 4, 3) := by decide +kernel
theorem d54 : decode yB 54 = .ok (.iconst 0, 1) := by decide +kernel
theorem d55 : decode yB 55 = .ok (.ireturn, 1) := by decide +kernel
def site : List Cond := [.classLink "java/lang/String" 10 "java/lang/String", .fieldLink "java/lang/String" 38 "java/lang/String" "COMPACT_STRINGS" "Z", .fieldLink "java/lang/String" 15 "java/lang/String" "coder" "B", .fieldLink "java/lang/String" 9 "java/lang/String" "value" "[B", LEq.tab] ++ staticW "java/lang/String" 541 LEq.yN
def tab : Cond := tabOf yN yB 3 (some .boolean) site
def P (x t : Addr) (V : Cell) (cd : Int32) (n : Nat) (f : Nat → Int32) (y t' : Addr) (V' : Cell) (cd' : Int32) (k : Nat) (g : Nat → Int32) (z : Int32) (args : Array Value) (s : State) : Prop := args = #[.ref x, .ref y] ∧ Txt x t V cd n f s ∧ Txt y t' V' cd' k g s ∧ StaticIs s "java/lang/String" "COMPACT_STRINGS" "Z" (.int z) ∧ ¬ z = 0
/-- equals(Object) of two Strings: whether the texts are the same -/
theorem law (l : Launch) (x t : Addr) (V : Cell) (cd : Int32) (n : Nat) (f : Nat → Int32) (y t' : Addr) (V' : Cell) (cd' : Int32) (k : Nat) (g : Nat → Int32) (z : Int32) : Law l yN 2 1 1 14 yB 3 (some .boolean) site (P x t V cd n f y t' V' cd' k g z) (Says01 (SameT n f k g)) [] 0 0 := by
  refine Law.of_walk (plainFor_of_name (by decide +kernel)) (by decide +kernel) (by decide +kernel) (by decide) (fun _ _ h => by rw [h.1]; rfl) (fun _ U U' hal hh h => ⟨h.1, h.2.1.mv hal hh, h.2.2.1.mv hal hh, h.2.2.2.1.there hal hh, h.2.2.2.2⟩) (fun r U U' V V' h1 hal h2 h => Says01.mv r U U' V V' h1 hal h2 h) ?_
  intro p e s m args below meth c s₁ X0 hexec hbytes hml hret hlk hnm hown hh0 W hP
  obtain ⟨rfl, hx, hy, s1, hz⟩ := hP
  have c1 : Steps p.tables e below (s₁.setTop (entryFrame m #[.ref x, .ref y] 3)) (s₁.setTop (mkF m 2 #[.val (.ref x), .val (.ref y), .unset] [.ref y, .ref x])) := Steps.trans (entry rfl) (by
    show Steps p.tables e below (s₁.setTop (mkF m 0 #[.val (.ref x), .val (.ref y), .unset] [])) _
    refine XS.aloadN X0.here hexec rfl (hb hbytes d0) rfl rfl ?_
    refine XS.aloadN X0.here hexec rfl (hb hbytes d1) rfl rfl ?_
    exact Steps.refl _)
  by_cases hxy : x = y
  · have c2 : Steps p.tables e below (s₁.setTop (entryFrame m #[.ref x, .ref y] 3)) (s₁.setTop (mkF m 6 #[.val (.ref x), .val (.ref y), .unset] [.int 1])) := c1.trans (by
      refine acmpNo X0.here hexec rfl (hb hbytes d2) rfl rfl rfl (by simp [acmp, hxy]) ?_
      refine iconstV X0.here hexec rfl 1 (hb hbytes d5) (by decide) ?_
      exact Steps.refl _)
    subst hxy
    have ec : cd = cd' := by
      obtain ⟨D, fd, a1, a2, a3⟩ := hx.2.2.1
      obtain ⟨D', fd', b1, b2, b3⟩ := hy.2.2.1
      cases a1.symm.trans b1
      obtain ⟨q1, q2, q3, q4⟩ := a2.1
      obtain ⟨r1, r2, r3, r4⟩ := b2.1
      cases q4.symm.trans r4
      cases a3.symm.trans b3; rfl
    have et : t = t' := by
      obtain ⟨D, fd, a1, a2, a3⟩ := hx.2.1
      obtain ⟨D', fd', b1, b2, b3⟩ := hy.2.1
      cases a1.symm.trans b1
      obtain ⟨q1, q2, q3, q4⟩ := a2.1
      obtain ⟨r1, r2, r3, r4⟩ := b2.1
      cases q4.symm.trans r4
      cases a3.symm.trans b3; rfl
    subst ec et
    have ev : V = V' := by cases hx.2.2.2.1.1.symm.trans hy.2.2.2.1.1; rfl
    subst ev
    have hs : SameT n f k g := (Cod.eqv hx.2.2.2.2.1 hy.2.2.2.2.1 hx.2.2.2.2.2 hy.2.2.2.2.2).mp ⟨rfl, fun _ _ => rfl⟩
    exact ⟨s₁, some (.int 1), _, _, _, X0, rfl, rfl, rfl, (fun h => by cases h), ⟨1, rfl, hh0, Or.inl ⟨rfl, hs⟩⟩, fun fs hl => c2.trans (X0.ireturnOut hexec hret rfl (Or.inr (Or.inl rfl)) (hb hbytes d6) hl)⟩
  · have c2 : Steps p.tables e below (s₁.setTop (entryFrame m #[.ref x, .ref y] 3)) (s₁.setTop (mkF m 8 #[.val (.ref x), .val (.ref y), .unset] [.ref y])) := c1.trans (by
      refine acmpYes X0.here hexec rfl (pc0 := 2) rfl (hb hbytes d2) rfl rfl rfl (by simp [acmp, hxy]) (by decide) rfl ?_
      refine XS.aloadN X0.here hexec rfl (hb hbytes d7) rfl rfl ?_
      exact Steps.refl _)
    obtain ⟨T3, X3, q3, st3⟩ := cinst X0 hexec hown (wk W (.classLink "java/lang/String" 10 "java/lang/String")) (hy.mv X0.warmed.alike hh0).1 (g := (mkF m 8 #[.val (.ref x), .val (.ref y), .unset] [.ref y])) rfl (rest := []) rfl (hb hbytes d8)
    have hh3 := q3.trans hh0
    have c4 : Steps p.tables e below (s₁.setTop (entryFrame m #[.ref x, .ref y] 3)) (T3.setTop (mkF m 15 #[.val (.ref x), .val (.ref y), .unset] [.ref y])) := (c2.trans (st3 _ (Steps.refl _))).trans (by
      refine XS.ifNo X3.here hexec rfl (hb hbytes d11) rfl (i0_eq_f (by decide)) ?_
      refine XS.aloadN X3.here hexec rfl (hb hbytes d14) rfl rfl ?_
      exact Steps.refl _)
    obtain ⟨T5, X5, q5, st5⟩ := cself X3 hexec hown (wk W (.classLink "java/lang/String" 10 "java/lang/String")) (hy.mv X3.warmed.alike hh3).1 (g := (mkF m 15 #[.val (.ref x), .val (.ref y), .unset] [.ref y])) rfl (rest := []) rfl (hb hbytes d15)
    have hh5 := q5.trans hh3
    have c6 : Steps p.tables e below (s₁.setTop (entryFrame m #[.ref x, .ref y] 3)) (T5.setTop (mkF m 19 #[.val (.ref x), .val (.ref y), .val (.ref y)] [])) := (c4.trans (st5 _ (Steps.refl _))).trans (by
      refine XS.astoreN X5.here hexec rfl (hb hbytes d18) rfl rfl rfl ?_
      exact Steps.refl _)
    obtain ⟨T7, X7, q7, st7⟩ := X5.sget hexec hown (wk W (.fieldLink "java/lang/String" 38 "java/lang/String" "COMPACT_STRINGS" "Z")) s1 (fun _ _ h => by rw [hh5]; exact h) (g := (mkF m 19 #[.val (.ref x), .val (.ref y), .val (.ref y)] [])) rfl (hb hbytes d19)
    have hh7 := q7.trans hh5
    have c8 : Steps p.tables e below (s₁.setTop (entryFrame m #[.ref x, .ref y] 3)) (T7.setTop (mkF m 26 #[.val (.ref x), .val (.ref y), .val (.ref y)] [.ref x])) := (c6.trans (st7 _ (Steps.refl _))).trans (by
      refine XS.ifNo X7.here hexec rfl (hb hbytes d22) rfl (i0_eq_f hz) ?_
      refine XS.aloadN X7.here hexec rfl (hb hbytes d25) rfl rfl ?_
      exact Steps.refl _)
    obtain ⟨T9, X9, q9, st9⟩ := X7.hget hexec hown (wk W (.fieldLink "java/lang/String" 15 "java/lang/String" "coder" "B")) (hx.mv X7.warmed.alike hh7).2.2.1 (g := (mkF m 26 #[.val (.ref x), .val (.ref y), .val (.ref y)] [.ref x])) rfl (rest := []) rfl (hb hbytes d26)
    have hh9 := q9.trans hh7
    have c10 : Steps p.tables e below (s₁.setTop (entryFrame m #[.ref x, .ref y] 3)) (T9.setTop (mkF m 30 #[.val (.ref x), .val (.ref y), .val (.ref y)] [.ref y, .int cd])) := (c8.trans (st9 _ (Steps.refl _))).trans (by
      refine XS.aloadN X9.here hexec rfl (hb hbytes d29) rfl rfl ?_
      exact Steps.refl _)
    obtain ⟨T11, X11, q11, st11⟩ := X9.hget hexec hown (wk W (.fieldLink "java/lang/String" 15 "java/lang/String" "coder" "B")) (hy.mv X9.warmed.alike hh9).2.2.1 (g := (mkF m 30 #[.val (.ref x), .val (.ref y), .val (.ref y)] [.ref y, .int cd])) rfl (rest := [.int cd]) rfl (hb hbytes d30)
    have hh11 := q11.trans hh9
    have c12 : Steps p.tables e below (s₁.setTop (entryFrame m #[.ref x, .ref y] 3)) (T11.setTop (mkF m 33 #[.val (.ref x), .val (.ref y), .val (.ref y)] [.int cd', .int cd])) := c10.trans (st11 _ (Steps.refl _))
    by_cases hcd : cd = cd'
    · subst hcd
      have c13 : Steps p.tables e below (s₁.setTop (entryFrame m #[.ref x, .ref y] 3)) (T11.setTop (mkF m 37 #[.val (.ref x), .val (.ref y), .val (.ref y)] [.ref x])) := c12.trans (by
        refine XS.icmpNo X11.here hexec rfl (hb hbytes d33) rfl (ii_ne_f rfl) ?_
        refine XS.aloadN X11.here hexec rfl (hb hbytes d36) rfl rfl ?_
        exact Steps.refl _)
      obtain ⟨T14, X14, q14, st14⟩ := X11.hget hexec hown (wk W (.fieldLink "java/lang/String" 9 "java/lang/String" "value" "[B")) (hx.mv X11.warmed.alike hh11).2.1 (g := (mkF m 37 #[.val (.ref x), .val (.ref y), .val (.ref y)] [.ref x])) rfl (rest := []) rfl (hb hbytes d37)
      have hh14 := q14.trans hh11
      have c15 : Steps p.tables e below (s₁.setTop (entryFrame m #[.ref x, .ref y] 3)) (T14.setTop (mkF m 41 #[.val (.ref x), .val (.ref y), .val (.ref y)] [.ref y, .ref t])) := (c13.trans (st14 _ (Steps.refl _))).trans (by
        refine XS.aloadN X14.here hexec rfl (hb hbytes d40) rfl rfl ?_
        exact Steps.refl _)
      obtain ⟨T16, X16, q16, st16⟩ := X14.hget hexec hown (wk W (.fieldLink "java/lang/String" 9 "java/lang/String" "value" "[B")) (hy.mv X14.warmed.alike hh14).2.1 (g := (mkF m 41 #[.val (.ref x), .val (.ref y), .val (.ref y)] [.ref y, .ref t])) rfl (rest := [.ref t]) rfl (hb hbytes d41)
      have hh16 := q16.trans hh14
      have c17 : Steps p.tables e below (s₁.setTop (entryFrame m #[.ref x, .ref y] 3)) (T16.setTop (mkF m 44 #[.val (.ref x), .val (.ref y), .val (.ref y)] [.ref t', .ref t])) := c15.trans (st16 _ (Steps.refl _))
      obtain ⟨v18, T18, X18, E18, g18⟩ := X16.callS hexec (LEq.law l t V t' V') hown (wks W (staticW "java/lang/String" 541 LEq.yN)) (wk W LEq.tab) (W := 0) (Nat.le_of_ble_eq_true rfl) (Nat.le_of_ble_eq_true rfl) (Nat.le_refl _) (Nat.le_refl _) (g := (mkF m 44 #[.val (.ref x), .val (.ref y), .val (.ref y)] [.ref t', .ref t])) rfl (by rw [hml]; rfl) c17 (argsL := [.ref t, .ref t']) (rest := []) rfl rfl (by show 2 * 0 + 0 ≤ _; decide) (hb hbytes d44) (⟨rfl, hx.2.2.2.1.mv X16.warmed.alike hh16, hx.2.2.2.2.1.ty, hy.2.2.2.1.mv X16.warmed.alike hh16, hy.2.2.2.2.1.ty⟩)
      obtain ⟨v, rfl, q18, hv⟩ := E18
      have iff := Cod.eqv hx.2.2.2.2.1 hy.2.2.2.2.1 hx.2.2.2.2.2 hy.2.2.2.2.2
      rcases hv with ⟨rfl, he⟩ | ⟨rfl, he⟩
      · have c19 : Steps p.tables e below (s₁.setTop (entryFrame m #[.ref x, .ref y] 3)) (T18.setTop (mkF m 55 #[.val (.ref x), .val (.ref y), .val (.ref y)] [.int 1])) := Steps.trans g18 (by
          refine XS.ifNo X18.here hexec rfl (hb hbytes d47) rfl (i0_eq_f (by decide)) ?_
          refine iconstV X18.here hexec rfl 1 (hb hbytes d50) (by decide) ?_
          refine XS.goto X18.here hexec rfl (pc0 := 51) rfl (hb hbytes d51) (by decide) rfl ?_
          exact Steps.refl _)
        exact ⟨T18, some (.int 1), _, _, _, X18, rfl, rfl, rfl, (fun h => by cases h), ⟨1, rfl, q18.trans hh16, Or.inl ⟨rfl, iff.mp he⟩⟩, fun fs hl => c19.trans (X18.ireturnOut hexec hret rfl (Or.inr (Or.inl rfl)) (hb hbytes d55) hl)⟩
      · have c19 : Steps p.tables e below (s₁.setTop (entryFrame m #[.ref x, .ref y] 3)) (T18.setTop (mkF m 55 #[.val (.ref x), .val (.ref y), .val (.ref y)] [.int 0])) := Steps.trans g18 (by
          refine XS.ifYes X18.here hexec rfl (pc0 := 47) rfl (hb hbytes d47) rfl (i0_eq_t rfl) (by decide) rfl ?_
          refine iconstV X18.here hexec rfl 0 (hb hbytes d54) (by decide) ?_
          exact Steps.refl _)
        exact ⟨T18, some (.int 0), _, _, _, X18, rfl, rfl, rfl, (fun h => by cases h), ⟨0, rfl, q18.trans hh16, Or.inr ⟨rfl, fun q => he (iff.mpr q)⟩⟩, fun fs hl => c19.trans (X18.ireturnOut hexec hret rfl (Or.inr (Or.inl rfl)) (hb hbytes d55) hl)⟩
    · have c13 : Steps p.tables e below (s₁.setTop (entryFrame m #[.ref x, .ref y] 3)) (T11.setTop (mkF m 55 #[.val (.ref x), .val (.ref y), .val (.ref y)] [.int 0])) := c12.trans (by
        refine XS.icmpYes X11.here hexec rfl (pc0 := 33) rfl (hb hbytes d33) rfl (ii_ne_t hcd) (by decide) rfl ?_
        refine iconstV X11.here hexec rfl 0 (hb hbytes d54) (by decide) ?_
        exact Steps.refl _)
      exact ⟨T11, some (.int 0), _, _, _, X11, rfl, rfl, rfl, (fun h => by cases h), ⟨0, rfl, hh11, Or.inr ⟨rfl, Cod.dif hx.2.2.2.2.1 hy.2.2.2.2.1 hcd⟩⟩, fun fs hl => c13.trans (X11.ireturnOut hexec hret rfl (Or.inr (Or.inl rfl)) (hb hbytes d55) hl)⟩
theorem pays {l : Launch} {R : Room} {p : Program} {e : Env} {below : List Frame} {s : State} {sargs : Array Value} {len W : Nat} (x t : Addr) (V : Cell) (cd : Int32) (n : Nat) (f : Nat → Int32) (y t' : Addr) (V' : Cell) (cd' : Int32) (k : Nat) (g : Nat → Int32) (z : Int32) (htab : tab.before sargs s = true) (hfr : 2 ≤ R.frames) (hlo : W + 28 ≤ R.locals) :
    Back l R p e below s sargs yN len W (fun A₁ a₁ => A₁.cells + 0 ≤ R.cells ∧ A₁.slots + 0 ≤ R.slots ∧ P x t V cd n f y t' V' cd' k g z a₁ A₁.U) (fun A₁ _ v₁ B₁ => Says01 (SameT n f k g) v₁ A₁.U B₁.U ∧ B₁.locs = A₁.locs ++ [] ∧ B₁.cells = A₁.cells + 0 ∧ B₁.slots = A₁.slots + 0) :=
  (law l x t V cd n f y t' V' cd' k g z).pays htab hfr (by omega)
end SEq
end StrChars
namespace StrChars.Road
open Jvm Sem ClassFile Op Lib Jvm.Stand Jvm.Free Jvm.Free.XT
open Jvm.Lib.Cold (StaticIs)
/-- the words of String.equals(Object) -/
abbrev wordsEq : List Jvm.Cond := [.code SEq.yN SEq.yB 3 (some .boolean), .initialized ST, .classLink ST 10 ST, .fieldLink ST 38 ST "COMPACT_STRINGS" "Z", .fieldLink ST 15 ST "coder" "B", .fieldLink ST 9 ST "value" "[B", .methodLink ST 541 LEq.yN, .static LEq.yN, .code LEq.yN LEq.yB 3 (some .boolean), .initialized "java/lang/StringLatin1"]
theorem tabEq_of {a : Array Value} {s : State} (h : ∀ w ∈ wordsEq, w.before a s = true) : SEq.tab.before a s = true := by
  have hl : LEq.tab.before a s = true := unparts (wk h (.code LEq.yN LEq.yB 3 (some .boolean))) (wks h (.initialized LEq.yN.cls :: LEq.site))
  have q := consq hl h
  exact unparts (wk q (.code SEq.yN SEq.yB 3 (some .boolean))) (wks q (.initialized SEq.yN.cls :: SEq.site))
theorem movedEq {Z s : State} {a0 args : Array Value} (hZ : Z.Warmed39 s.vm) (hw : ∀ d ∈ wordsEq, d.before a0 Z = true) : ∀ d ∈ wordsEq, d.before args s = true := fun d hd => by
  have t : ∀ d ∈ wordsEq, (d.onTables && d.keepsFace) = true := by decide +kernel
  exact RoadKit.mv hZ (hw d hd) (t d hd)
/-- the road's facts of a String, as the laws ask it -/
theorem txt_of {Z U : State} {a0 : Array Value} {kI : Nat} (wi : (Jvm.Cond.instantiable ST kI).before a0 Z = true) (al : Z.vm.Alike U.vm) {x t : Addr} {kb : ClassId} {cs : List Int32} {cd N2 : Int32} {vs : List Value} (E : RoadKit.Exa Z U.heap x ST) (V : RoadKit.Fld Z U.heap x ST "value" "[B" (.ref t)) (C : RoadKit.Fld Z U.heap x ST "coder" "B" (.int cd)) (K : RoadKit.Arv Z U.heap t kb .byte N2 vs (.int 0)) (hc : CodA cs cd N2 vs) (hb : ∀ c ∈ cs, ¬ c < 0 ∧ ¬ (65535 : Int32) < c) (l2 : cs.length ≤ 4000) :
    ∃ A, Txt x t A cd cs.length (fun j => cs.getD j 0) U := by
  obtain ⟨A, K1, K2, K3, K4, K5, K6⟩ := K
  have hcod := hc.cod (by omega) K3 K5
  obtain ⟨D, fV, fC, hB, F1, F2, g1, g2, -, -⟩ := strObj wi al E V C
  exact ⟨A, ⟨_, hB.2.2.1, D, hB.1, rfl, by cases q : D.vm <;> first | rfl | exact absurd q (hB.2.1.2 _)⟩, Has.of hB F1 g1, Has.of hB F2 g2, ⟨K1.1, State.isArrayOf_alike al K1.2.1, K1.2.2, by rcases hcod with ⟨-, q, -⟩ | ⟨-, q, -⟩ <;> omega⟩, hcod, fun j hj => by
    have e : cs.getD j 0 = cs[j] := by simp [List.getD_eq_getElem?_getD, hj]
    show ¬ cs.getD j 0 < 0 ∧ ¬ 65535 < cs.getD j 0
    rw [e]; exact hb _ (List.getElem_mem _)⟩
theorem same_list (cs ds : List Int32) : SameT cs.length (fun j => cs.getD j 0) ds.length (fun j => ds.getD j 0) ↔ cs = ds := by
  constructor
  · rintro ⟨e, q⟩
    refine List.ext_getElem e fun j h1 h2 => ?_
    have := q j h1
    simpa [List.getD_eq_getElem?_getD, h1, h2] using this
  · rintro rfl
    exact ⟨rfl, fun _ _ => rfl⟩
/-- **equals(Object) OF TWO SUCH STRINGS**: 1 just where the chars are the same -/
theorem eqW {p : Program} {l : Launch} {e : Env} {R : Room} {s : State} {args : Array Value} {below : List Frame} {len W : Nat} {Z : State} {a0 : Array Value} {h : Heap} (hZ : Z.Warmed39 s.vm) (hw : ∀ d ∈ wordsEq, d.before a0 Z = true) {kI : Nat} (wi : (Jvm.Cond.instantiable ST kI).before a0 Z = true)
    {x t : Addr} {kb : ClassId} {cs : List Int32} {cd N2 : Int32} {vs : List Value} (E : RoadKit.Exa Z h x ST) (V : RoadKit.Fld Z h x ST "value" "[B" (.ref t)) (C : RoadKit.Fld Z h x ST "coder" "B" (.int cd)) (K : RoadKit.Arv Z h t kb .byte N2 vs (.int 0)) (hc : CodA cs cd N2 vs) (hb : ∀ c ∈ cs, ¬ c < 0 ∧ ¬ (65535 : Int32) < c) (l2 : cs.length ≤ 4000)
    {y t' : Addr} {kb' : ClassId} {ds : List Int32} {cd' N2' : Int32} {vs' : List Value} (E' : RoadKit.Exa Z h y ST) (V' : RoadKit.Fld Z h y ST "value" "[B" (.ref t')) (C' : RoadKit.Fld Z h y ST "coder" "B" (.int cd')) (K' : RoadKit.Arv Z h t' kb' .byte N2' vs' (.int 0)) (hc' : CodA ds cd' N2' vs') (hb' : ∀ c ∈ ds, ¬ c < 0 ∧ ¬ (65535 : Int32) < c) (l2' : ds.length ≤ 4000)
    {z : Int32} (S : RoadKit.Sta Z h ST "COMPACT_STRINGS" "Z" (.int z)) (hz : ¬ z = 0) (hfr : 2 ≤ R.frames) (hlo : W + 28 ≤ R.locals) :
    Back l R p e below s args (⟨"java/lang/String", "equals", "(Ljava/lang/Object;)Z"⟩ : MethodName) len W (fun P a => a = #[.ref x, .ref y] ∧ P.U.heap = h ∧ P.cells + 0 ≤ R.cells ∧ P.slots + 0 ≤ R.slots)
      (fun P _ v B => ∃ L, (((v = some (.int 1) ∧ cs = ds) ∨ (v = some (.int 0) ∧ ¬ cs = ds)) ∧ L = [] ∧ B.U.heap = h) ∧ B.locs = P.locs ++ L ∧ B.cells = P.cells + 0 ∧ B.slots = P.slots + 0) := by
  intro m meth c P g ig mk a X hg hsize hdg hW hn hp'
  obtain ⟨rfl, rfl, r1, r2⟩ := hp'
  have al : Z.vm.Alike P.U.vm := hZ.alike.trans X.warmed.alike
  obtain ⟨A, hx⟩ := txt_of wi al E V C K hc hb l2
  obtain ⟨A', hy⟩ := txt_of wi al E' V' C' K' hc' hb' l2'
  obtain ⟨v, B, X', ⟨⟨w, hv, hh, hq⟩, hl, hk, hs⟩, st⟩ := SEq.pays x t A cd cs.length (fun j => cs.getD j 0) y t' A' cd' ds.length (fun j => ds.getD j 0) z (tabEq_of (movedEq hZ hw)) hfr hlo m meth c P g ig mk _ X hg hsize hdg hW hn ⟨r1, r2, rfl, hx, hy, sta_is al S, hz⟩
  refine ⟨v, B, X', ⟨[], ⟨?_, rfl, hh⟩, hl, hk, hs⟩, st⟩
  rcases hq with ⟨rfl, q⟩ | ⟨rfl, q⟩
  · exact Or.inl ⟨hv, (same_list cs ds).mp q⟩
  · exact Or.inr ⟨hv, fun e => q ((same_list cs ds).mpr e)⟩
end StrChars.Road
namespace StrChars.Road
open Jvm Sem ClassFile Op Lib Jvm.Stand Jvm.Free Jvm.Free.XT
open Jvm.Lib.Cold (StaticIs)
/-- what backV says of its String, as the contracts of this text ask it: cs's low bytes, coder 0 -/
theorem codOf {cs : List Int32} {n : Nat} (hn : cs.length = n) (hb : ∀ c ∈ cs, ¬ 255 < c) : CodA cs 0 (Int32.ofNat n) ((cs.map lo8).map Value.int) := Or.inl ⟨rfl, by rw [hn], by simp [List.map_map, Function.comp_def], hb⟩
end StrChars.Road
end Jvm.Pilot.@@N@@
namespace Jvm.Pilot.@@N@@
open Jvm Jvm.ClassFile Sem Op Lib Jvm.Free Jvm.Stand Jvm.LawKit Jvm.RoadKit Bundle Jvm.Pilot.@@N@@.Jvm.D
/-! OWN KIT, core: where a walk stands (own_S), what is left to run (own_Go), a body's contract (own_Met), and the rules that join them. -/
section OwnCore
variable {p : Program} {l : Launch} {e : Env} {R : Room} {s : State} {m : MethodId} {args : Array Value} {below : List Frame} {meth : Method} {c : Code} {T T' : State} {cells slots : Nat} {Z : State} {a0 : Array Value} {h h' h0 : Heap} {w kf : Bool} {EL : List (String × Nat)} {own : String} {ws ws' fs : List Addr} {Q : Option Value → Heap → Prop} {vm0 vm1 : Vm} {locs L : List Loc} {k0 : Nat} {tb : Tables} {P : Outcome → State → Prop}

/-- from T, with the frame f on top, the run comes to its end and P says how -/
def own_Go (tb : Tables) (e : Env) (below : List Frame) (P : Outcome → State → Prop) (T : State) (f : JFrame) : Prop :=
  ∃ s₂ o, Steps tb e below (T.setTop f) s₂ ∧ s₂.status = .running ∧ Ended s₂ below o ∧ P o s₂
theorem own_by {f f' : JFrame} (k : ∀ t, Steps tb e below (T'.setTop f') t → Steps tb e below (T.setTop f) t) (g : own_Go tb e below P T' f') : own_Go tb e below P T f := by
  obtain ⟨s₂, o, h1, r⟩ := g
  exact ⟨s₂, o, k _ h1, r⟩
theorem own_on {f f' : JFrame} (k : Steps tb e below (T.setTop f) (T'.setTop f')) (g : own_Go tb e below P T' f') : own_Go tb e below P T f := own_by (fun _ q => k.trans q) g

def own_End (w : Bool) (s : State) (o : Outcome) (t : State) (L : List Loc) (k n : Nat) : Prop := (w = true → ReturnedEndW s o t L k n) ∧ (w = false → FrameEnd s o t L k n)
/-- what every contract says besides its own Q -/
def own_Post (w : Bool) (EL : List (String × Nat)) (Z : State) (rm : Room) (h0 : Heap) (ws : List Addr) (Q : Option Value → Heap → Prop) (U : State) (o : Outcome) (U' : State) : Prop :=
  ∃ v L, o = .returned v ∧ Q v U'.heap ∧ Keep h0 U'.heap ws ∧ Fr Z.heap.size L ∧ CHr Z EL U.vm h0 U'.vm U'.heap ∧ own_End w U o U' L rm.cells rm.slots
/-- what every contract asks -/
def own_Pre (EL : List (String × Nat)) (Z : State) (a0 : Array Value) (as' : Array Value) (h0 : Heap) (ws : List Addr) (a : Array Value) (U : State) : Prop :=
  a = as' ∧ Z.Warmed39 U.vm ∧ U.heap = h0 ∧ Ext Z.heap h0 ∧ EW Z a0 EL ∧ CHv Z EL U.vm h0 ∧ ∀ x ∈ ws, Z.heap.size ≤ x ∧ x < h0.size ∧ Safe Z EL U.vm h0 x
def own_K (kf : Bool) : Program → Env → List Frame → State → Array Value → Prop := fun _ _ bl s _ => kf = true → s.vm.MethodsKnown ∧ s.vm.FramesKnown bl
/-- the contract of a body -/
def own_Met (w kf : Bool) (EL : List (String × Nat)) (l : Launch) (Z : State) (a0 : Array Value) (y : MethodName) (bytes : ByteArray) (maxL : Nat) (ret : Option FieldType) (more : List Cond) (rm : Room) (as' : Array Value) (h0 : Heap) (ws : List Addr) (Q : Option Value → Heap → Prop) : Prop :=
  MetFree l y (head1 (Cond.code y bytes maxL ret :: more) rm) (own_Pre EL Z a0 as' h0 ws) (own_K kf) (fun _ U o U' => own_Post w EL Z rm h0 ws Q U o U')
/-- what a walk bears besides its Stand -/
def own_I (w kf : Bool) (EL : List (String × Nat)) (s : State) (m : MethodId) (below : List Frame) (Z : State) (a0 : Array Value) (own : String) (h0 : Heap) (ws : List Addr) (h : Heap) (fs : List Addr) (vm0 : Vm) (locs : List Loc) (k0 : Nat) : Prop :=
  Z.Warmed39 vm0 ∧ vm0.findClass own = some m.cls ∧ Fr Z.heap.size locs ∧ Ext Z.heap h ∧ Keep h0 h ws ∧ s.Since vm0 k0 ∧ k0 ≤ h.size ∧ EW Z a0 EL ∧ CHr Z EL s.vm h0 vm0 h ∧ (w = false → vm0 = s.vm) ∧ (kf = true → vm0.MethodsKnown ∧ vm0.FramesKnown below) ∧ (s.heap = h0 ∧ Ext Z.heap h0) ∧
    ∀ x ∈ fs, (x ∈ ws ∨ h0.size ≤ x) ∧ Z.heap.size ≤ x ∧ x < h.size ∧ Safe Z EL vm0 h x
/-- where the walk stands: the state T, its heap h, the cells fs that it may write -/
def own_S (w kf : Bool) (EL : List (String × Nat)) (p : Program) (l : Launch) (e : Env) (R : Room) (s : State) (m : MethodId) (args : Array Value) (below : List Frame) (meth : Method) (c : Code) (Z : State) (a0 : Array Value) (own : String) (h0 : Heap) (ws : List Addr) (T : State) (h : Heap) (fs : List Addr) (cells slots : Nat) : Prop :=
  ∃ vm0 locs k0, Stand p l e R (s.setVm vm0) m args below meth c T locs cells slots ∧ T.heap = h ∧ own_I w kf EL s m below Z a0 own h0 ws h fs vm0 locs k0

theorem own_here (K : own_S w kf EL p l e R s m args below meth c Z a0 own h0 ws T h fs cells slots) : At T m c below := by
  obtain ⟨vm0, locs, k0, X, -⟩ := K; exact X.here
theorem own_more (K : own_S w kf EL p l e R s m args below meth c Z a0 own h0 ws T h fs cells slots) {cells' slots' : Nat} (hc : cells ≤ cells') (hs : slots ≤ slots') : own_S w kf EL p l e R s m args below meth c Z a0 own h0 ws T h fs cells' slots' := by
  obtain ⟨vm0, locs, k0, X, r⟩ := K; exact ⟨vm0, locs, k0, X.more hc hs, r⟩
theorem own_sub (K : own_S w kf EL p l e R s m args below meth c Z a0 own h0 ws T h fs cells slots) {fs' : List Addr} (q : ∀ x ∈ fs', x ∈ fs) : own_S w kf EL p l e R s m args below meth c Z a0 own h0 ws T h fs' cells slots := by
  obtain ⟨vm0, locs, k0, X, eT, h1, h2, h3, h4, h5, h6, h7, h8, h9, h10, h11, hst, h12⟩ := K
  exact ⟨vm0, locs, k0, X, eT, h1, h2, h3, h4, h5, h6, h7, h8, h9, h10, h11, hst, fun x hx => h12 x (q x hx)⟩
theorem own_ext0 (K : own_S w kf EL p l e R s m args below meth c Z a0 own h0 ws T h fs cells slots) : Ext Z.heap h := by
  obtain ⟨vm0, locs, k0, X, eT, h1, h2, h3, h4, -⟩ := K; exact h4
theorem own_alike (K : own_S w kf EL p l e R s m args below meth c Z a0 own h0 ws T h fs cells slots) : ∃ vm0, Z.vm.Alike vm0 := by
  obtain ⟨vm0, locs, k0, X, eT, h1, -⟩ := K; exact ⟨vm0, h1.alike⟩
theorem own_fresh (K : own_S w kf EL p l e R s m args below meth c Z a0 own h0 ws T h fs cells slots) {x : Addr} (hx : x ∈ fs) : Z.heap.size ≤ x ∧ x < h.size := by
  obtain ⟨vm0, locs, k0, X, eT, h1, h2, h3, h4, h5, h6, h7, h8, h9, h10, h11, hst, h12⟩ := K; exact ⟨(h12 x hx).2.1, (h12 x hx).2.2.1⟩
theorem own_cat {v : Value} (q : v.isRef = true) : v.category = 1 := by rcases ref_cases q with rfl | ⟨_, rfl⟩ <;> rfl
theorem own_fits {v : Value} {C : String} (q : v.isRef = true) : fits (.object C) v = true := by rcases ref_cases q with rfl | ⟨_, rfl⟩ <;> rfl
theorem own_mem1 {x : Addr} (q : x ∈ fs) : ∀ y ∈ [x], y ∈ fs := fun y hy => by cases List.mem_singleton.mp hy; exact q
theorem own_mem2 {x y : Addr} (q : x ∈ fs) (r : y ∈ fs) : ∀ z ∈ [x, y], z ∈ fs := fun z hz => by
  rcases List.mem_cons.mp hz with rfl | hz
  · exact q
  · cases List.mem_singleton.mp hz; exact r
theorem own_sta (K : own_S w kf EL p l e R s m args below meth c Z a0 own h0 ws T h fs cells slots) {C n d : String} {v : Value} (F : Sta Z Z.heap C n d v) : Sta Z h C n d v := F.ext (own_ext0 K)

/-- the heap moves on, the tables stay -/
theorem own_I.keep (I : own_I w kf EL s m below Z a0 own h0 ws h fs vm0 locs k0) (Kp : Keep h h' ws') (hw : ∀ x ∈ ws', x ∈ fs) (hL : Fr Z.heap.size L) : own_I w kf EL s m below Z a0 own h0 ws h' fs vm0 (locs ++ L) k0 := by
  obtain ⟨h1, h2, h3, h4, h5, h6, h7, h8, h9, h10, h11, hst, h12⟩ := I
  have C : CHr Z EL vm0 h vm0 h' := CHr.keep Kp (fun x hx => (h12 x (hw x hx)).2.2.2) h9.1
  refine ⟨h1, h2, h3.app hL, ?_, h5.trans Kp (fun x hx => (h12 x (hw x hx)).1), h6, Nat.le_trans h7 Kp.1, h8, h9.trans C, h10, h11, hst, fun x hx => ?_⟩
  · exact (Old.keep (show Old Z Z.heap.size h from ⟨rfl, h4⟩) Kp fun x hx => (h12 x (hw x hx)).2.1).2
  · obtain ⟨q1, q2, q3, q4⟩ := h12 x hx
    exact ⟨q1, q2, Nat.lt_of_lt_of_le q3 Kp.1, C.safe q3 q4⟩
/-- a new cell at the heap's end -/
theorem own_I.grow (I : own_I w kf EL s m below Z a0 own h0 ws h fs vm0 locs k0) (E : Ext h h') (hlt : h.size < h'.size) : own_I w kf EL s m below Z a0 own h0 ws h' (h.size :: fs) vm0 locs k0 := by
  have I' := I.keep (L := []) ((Keep.refl h []).ext E) (fun _ q => nomatch q) (Fr.nil _)
  rw [List.append_nil] at I'
  obtain ⟨h1, h2, h3, h4, h5, h6, h7, h8, h9, h10, h11, hst, h12⟩ := I'
  refine ⟨h1, h2, h3, h4, h5, h6, h7, h8, h9, h10, h11, hst, fun x hx => ?_⟩
  rcases List.mem_cons.mp hx with rfl | hx
  · obtain ⟨-, -, -, g4, g5, -, -, -, g9, -⟩ := I
    exact ⟨Or.inr g5.1, g4.1, hlt, Safe.ext E g9.1 (Safe.new (Nat.le_refl _))⟩
  · exact h12 x hx
/-- the tables move on (literals were interned) -/
theorem own_I.wide (I : own_I w kf EL s m below Z a0 own h0 ws h fs vm0 locs k0) (hw1 : w = true) (C : CHr Z EL vm0 h vm1 h') {k1 : Nat} (S : (s.setVm vm0).Since vm1 k1) (hk : h.size ≤ k1) (hk1 : k1 ≤ h'.size) (Kp : Keep h h' ws') (hw : ∀ x ∈ ws', x ∈ fs) (hL : Fr Z.heap.size L) : own_I w kf EL s m below Z a0 own h0 ws h' fs vm1 (locs ++ L) k1 := by
  obtain ⟨h1, h2, h3, h4, h5, h6, h7, h8, h9, h10, h11, hst, h12⟩ := I
  have al : vm0.Alike vm1 := S.1.alike
  refine ⟨State.Warmed39.trans (t := s.setVm vm0) h1 S.1, (al.findClass _ _).trans h2, h3.app hL, ?_, h5.trans Kp (fun x hx => (h12 x (hw x hx)).1), h6.trans S (Nat.le_trans h7 hk), hk1, h8, h9.trans C, (fun q => by rw [hw1] at q; cases q), fun q => ?_, hst, fun x hx => ?_⟩
  · exact (Old.keep (show Old Z Z.heap.size h from ⟨rfl, h4⟩) Kp fun x hx => (h12 x (hw x hx)).2.1).2
  · obtain ⟨g1, g2⟩ := h11 q
    exact ⟨Vm.MethodsKnown.alikeC al g1, Vm.FramesKnown.alikeC al g2⟩
  · obtain ⟨q1, q2, q3, q4⟩ := h12 x hx
    exact ⟨q1, q2, Nat.lt_of_lt_of_le q3 Kp.1, C.safe q3 q4⟩

/-- entering a body -/
theorem own_enter {y : MethodName} {bytes : ByteArray} {maxL : Nat} {ret : Option FieldType} {more : List Cond} {rm : Room} {as' : Array Value} (ho : y.cls = own) (hpl : plainFor y = true)
    (body : ∀ (p : Program) (e : Env) (s : State) (m : MethodId) (below : List Frame) (meth : Method) (c : Code) (T : State), p.tables.exec = Jvm.exec → c.code = bytes → c.maxLocals = maxL → meth.sig.returnType = ret → meth.locks = false → meth.name = y.name →
      own_S w kf EL p l e rm s m as' below meth c Z a0 own h0 ws T h0 ws 0 0 → own_Go p.tables e below (own_Post w EL Z rm h0 ws Q s) T (entryFrame m as' maxL)) :
    own_Met w kf EL l Z a0 y bytes maxL ret more rm as' h0 ws Q := by
  subst ho
  refine MetFree.of_bodySF hpl hisR ?_
  intro p e s m args below meth c s₁ Bd hml hP hK
  obtain ⟨rfl, hZ, hh, hE, hEL, hC, hws⟩ := hP
  have X0 : Stand p l e rm s m args below meth c s₁ [] 0 0 := Stand.of_body Bd
  have e0 : s₁.heap = h0 := by rw [← hh, Bd.state]; rfl
  exact body p e s m below meth c s₁ Bd.exec Bd.bytes hml Bd.returns Bd.notSynchronized (name_of_methodNamed Bd.named Bd.method).1
    ⟨s.vm, [], h0.size, X0, e0, hZ, findClass_of_methodNamed Bd.named, Fr.nil _, hE, Keep.refl _ _, (State.WarmedH.refl s).since _, Nat.le_refl _, hEL, CHr.refl hC, fun _ => rfl, hK, ⟨hh, hE⟩, fun x hx => ⟨Or.inl hx, hws x hx⟩⟩

/-- leaving it -/
theorem own_leave (K : own_S w kf EL p l e R s m args below meth c Z a0 own h0 ws T h fs cells slots) (hlk : meth.locks = false) {v : Option Value} (hv : meth.sig.returnType = none → v = none) (hc : cells ≤ R.cells) (hs : slots ≤ R.slots) (hQ : Q v h) {f : JFrame}
    (st : ∀ (locs : List Loc) (vm0 : Vm), Stand p l e R (s.setVm vm0) m args below meth c T locs cells slots → ∀ frs : List Frame, (∀ (f : JFrame) (acts : List Action), f.method = m → f.locked = none → f.entered = [] → (doReturn e (T.setTop f) acts v).1 = T.setFrames frs) → Steps p.tables e below (T.setTop f) (T.setFrames frs)) :
    own_Go p.tables e below (own_Post w EL Z R h0 ws Q s) T f := by
  obtain ⟨vm0, locs, k0, X, eT, h1, h2, h3, h4, h5, h6, h7, h8, h9, h10, h11, hst, h12⟩ := K
  have C : CHr Z EL vm0 h T.vm h := CHv.at X h1 h8 h9.1
  cases w with
  | true =>
    obtain ⟨frs, hr, hrun, hended, e1, e2, e3, e4⟩ := X.leaveW h6 (by rw [eT]; exact h7) hv hlk
    refine ⟨_, _, st locs vm0 X frs hr, hrun, hended, v, locs, rfl, by show Q v T.heap; rw [eT]; exact hQ, by show Keep h0 T.heap ws; rw [eT]; exact h5, h3, ?_, And.intro (fun _ => ⟨e1, e2, e3, e4.mono hc hs⟩) (fun q => by cases q)⟩
    show CHr Z EL s.vm h0 T.vm T.heap
    rw [eT]; exact h9.trans C
  | false =>
    obtain rfl := h10 rfl
    obtain ⟨frs, hr, hrun, hended, hW, hsame⟩ := X.leave hv hlk
    refine ⟨_, _, st locs _ X frs hr, hrun, hended, v, locs, rfl, by show Q v T.heap; rw [eT]; exact hQ, by show Keep h0 T.heap ws; rw [eT]; exact h5, h3, ?_, And.intro (fun q => by cases q) (fun _ => ⟨⟨_, rfl⟩, hW, hsame.mono hc hs⟩)⟩
    show CHr Z EL s.vm h0 T.vm T.heap
    rw [eT]; exact h9.trans C
variable {pc : Nat} {Ls : Array Slot} {St : List Value}
theorem own_retV (K : own_S w kf EL p l e R s m args below meth c Z a0 own h0 ws T h fs cells slots) (hx : p.tables.exec = Jvm.exec) (hlk : meth.locks = false) (hret : meth.sig.returnType = none) (hd : decode c.code pc = .ok (.return_, 1)) (hc : cells ≤ R.cells) (hs : slots ≤ R.slots) (hQ : Q none h) :
    own_Go p.tables e below (own_Post w EL Z R h0 ws Q s) T (mkF m pc Ls []) :=
  own_leave K hlk (fun _ => rfl) hc hs hQ fun locs vm0 X frs hr => X.returnOut hx hret hd hr
theorem own_ret (K : own_S w kf EL p l e R s m args below meth c Z a0 own h0 ws T h fs cells slots) (hx : p.tables.exec = Jvm.exec) (hlk : meth.locks = false) {t : FieldType} {i : Instr} {v : Value} (hret : meth.sig.returnType = some t) (hn : narrow t v = v)
    (hi : (i = .ireturn ∧ (t = .int ∨ t = .boolean ∨ t = .byte ∨ t = .char ∨ t = .short) ∧ ∃ z, v = .int z) ∨ (i = .lreturn ∧ t = .long ∧ ∃ z, v = .long z) ∨ (i = .dreturn ∧ t = .double ∧ ∃ z, v = .double z) ∨ (i = .freturn ∧ t = .float ∧ ∃ z, v = .float z) ∨ (i = .areturn ∧ t.isReference = true ∧ v.isRef = true))
    (hd : decode c.code pc = .ok (i, 1)) (hc : cells ≤ R.cells) (hs : slots ≤ R.slots) (hQ : Q (some v) h) :
    own_Go p.tables e below (own_Post w EL Z R h0 ws Q s) T (mkF m pc Ls (v :: St)) :=
  own_leave K hlk (fun q => by rw [hret] at q; cases q) hc hs hQ fun locs vm0 X frs hr => retOut X hx hret hn hi hd hr
/-- ireturn of an int -/
theorem own_retI (K : own_S w kf EL p l e R s m args below meth c Z a0 own h0 ws T h fs cells slots) (hx : p.tables.exec = Jvm.exec) (hlk : meth.locks = false) {z : Int32} (hret : meth.sig.returnType = some .int) (hd : decode c.code pc = .ok (.ireturn, 1)) (hc : cells ≤ R.cells) (hs : slots ≤ R.slots) (hQ : Q (some (.int z)) h) :
    own_Go p.tables e below (own_Post w EL Z R h0 ws Q s) T (mkF m pc Ls (.int z :: St)) :=
  own_ret K hx hlk hret rfl (Or.inl ⟨rfl, Or.inl rfl, z, rfl⟩) hd hc hs hQ
/-- ireturn of a boolean, byte, char or short: narrowed -/
theorem own_retN (K : own_S w kf EL p l e R s m args below meth c Z a0 own h0 ws T h fs cells slots) (hx : p.tables.exec = Jvm.exec) (hlk : meth.locks = false) {t : FieldType} {z : Int32} (hret : meth.sig.returnType = some t) (ht : t = .boolean ∨ t = .byte ∨ t = .char ∨ t = .short) (hd : decode c.code pc = .ok (.ireturn, 1)) (hc : cells ≤ R.cells) (hs : slots ≤ R.slots) (hQ : Q (some (.int (nar t z))) h) :
    own_Go p.tables e below (own_Post w EL Z R h0 ws Q s) T (mkF m pc Ls (.int z :: St)) :=
  own_leave K hlk (fun q => by rw [hret] at q; cases q) hc hs hQ fun locs vm0 X frs hr => retN X hx hret ht hd hr
/-- areturn -/
theorem own_retR (K : own_S w kf EL p l e R s m args below meth c Z a0 own h0 ws T h fs cells slots) (hx : p.tables.exec = Jvm.exec) (hlk : meth.locks = false) {t : FieldType} {v : Value} (hret : meth.sig.returnType = some t) (ht : t.isReference = true) (hv : v.isRef = true) (hd : decode c.code pc = .ok (.areturn, 1)) (hc : cells ≤ R.cells) (hs : slots ≤ R.slots) (hQ : Q (some v) h) :
    own_Go p.tables e below (own_Post w EL Z R h0 ws Q s) T (mkF m pc Ls (v :: St)) :=
  own_ret K hx hlk hret (by cases t <;> cases v <;> first | rfl | (simp [FieldType.isReference] at ht) | (simp [Value.isRef] at hv)) (Or.inr (Or.inr (Or.inr (Or.inr ⟨rfl, ht, hv⟩)))) hd hc hs hQ
end OwnCore
section OwnWords
variable {args : Array Value} {first s : State} {o : Option Outcome} {idx : List Nat}
/-- one object, one ordinal -/
theorem own_ord {t u : Term} {x y : Addr} {C n d : String} {a b : Int32} (ht : t.eval args first o idx s = some (.ref x)) (hu : u.eval args first o idx s = some (.ref y)) (h1 : (Cond.eq (Term.field t C n d) (Term.int a)).value args first o s idx = some true) (h2 : (Cond.eq (Term.field u C n d) (Term.int b)).value args first o s idx = some true) (hne : a ≠ b) : x ≠ y := fun q => by
  subst q
  obtain ⟨v1, w1, a1, b1, -, k1⟩ := cmp_v (Or.inl h1)
  obtain ⟨v2, w2, a2, b2, -, k2⟩ := cmp_v (Or.inl h2)
  cases (Term.int_eval a).symm.trans b1
  cases (Term.int_eval b).symm.trans b2
  obtain ⟨z1, rfl⟩ := k1
  obtain ⟨z2, rfl⟩ := k2
  have e1 := gotT (Cond.eq_ints a1 (Term.int_eval a)) h1
  have e2 := gotT (Cond.eq_ints a2 (Term.int_eval b)) h2
  rw [fld_at ht] at a1
  rw [fld_at hu] at a2
  have e3 := a1.symm.trans a2
  simp only [Option.some.injEq, Value.int.injEq] at e3
  exact hne (e1.symm.trans (e3.trans e2))
end OwnWords
theorem own_if0 {Q : Prop} [Decidable Q] (h : (if Q then (1 : Int32) else 0) = 0) : ¬ Q := fun q => by rw [if_pos q] at h; exact absurd h (by decide)
theorem own_if1 {Q : Prop} [Decidable Q] (h : ¬ (if Q then (1 : Int32) else 0) = 0) : Q := Classical.not_not.mp fun q => h (by rw [if_neg q])
/-! OWN KIT, single steps (printed by mkrules.py) -/
section OwnSteps
variable {p : Program} {e : Env} {m : MethodId} {below : List Frame} {c : Code} {T : State} {P : Outcome → State → Prop} {pc : Nat} {Ls : Array Slot} {St : List Value}
theorem own_iload (A : At T m c below) (hx : p.tables.exec = Jvm.exec) {pc' : Nat} {k : Nat} {v : Int32} (hd : decode c.code pc = .ok (.iload k, 2)) (hl : Ls[k]? = some (.val (.int v))) (hp : pc + 2 = pc') (G : own_Go p.tables e below P T (mkF m pc' Ls (.int v :: St))) : own_Go p.tables e below P T (mkF m pc Ls (St)) := by
  subst hp
  exact own_by (fun t q => XS.iload A hx rfl hd hl q) G
theorem own_iloadN (A : At T m c below) (hx : p.tables.exec = Jvm.exec) {pc' : Nat} {k : Fin 4} {v : Int32} (hd : decode c.code pc = .ok (.iload_n k, 1)) (hl : Ls[k.val]? = some (.val (.int v))) (hp : pc + 1 = pc') (G : own_Go p.tables e below P T (mkF m pc' Ls (.int v :: St))) : own_Go p.tables e below P T (mkF m pc Ls (St)) := by
  subst hp
  exact own_by (fun t q => XS.iloadN A hx rfl hd hl q) G
theorem own_lload (A : At T m c below) (hx : p.tables.exec = Jvm.exec) {pc' : Nat} {k : Nat} {v : Int64} (hd : decode c.code pc = .ok (.lload k, 2)) (hl : Ls[k]? = some (.val (.long v))) (hp : pc + 2 = pc') (G : own_Go p.tables e below P T (mkF m pc' Ls (.long v :: St))) : own_Go p.tables e below P T (mkF m pc Ls (St)) := by
  subst hp
  exact own_by (fun t q => XS.lload A hx rfl hd hl q) G
theorem own_lloadN (A : At T m c below) (hx : p.tables.exec = Jvm.exec) {pc' : Nat} {k : Fin 4} {v : Int64} (hd : decode c.code pc = .ok (.lload_n k, 1)) (hl : Ls[k.val]? = some (.val (.long v))) (hp : pc + 1 = pc') (G : own_Go p.tables e below P T (mkF m pc' Ls (.long v :: St))) : own_Go p.tables e below P T (mkF m pc Ls (St)) := by
  subst hp
  exact own_by (fun t q => XS.lloadN A hx rfl hd hl q) G
theorem own_aload (A : At T m c below) (hx : p.tables.exec = Jvm.exec) {pc' : Nat} {k : Nat} {v : Value} (hd : decode c.code pc = .ok (.aload k, 2)) (hl : Ls[k]? = some (.val v)) (hv : v.isRef = true) (hp : pc + 2 = pc') (G : own_Go p.tables e below P T (mkF m pc' Ls (v :: St))) : own_Go p.tables e below P T (mkF m pc Ls (St)) := by
  subst hp
  exact own_by (fun t q => XS.aload A hx rfl hd hl hv q) G
theorem own_aloadN (A : At T m c below) (hx : p.tables.exec = Jvm.exec) {pc' : Nat} {k : Fin 4} {v : Value} (hd : decode c.code pc = .ok (.aload_n k, 1)) (hl : Ls[k.val]? = some (.val v)) (hv : v.isRef = true) (hp : pc + 1 = pc') (G : own_Go p.tables e below P T (mkF m pc' Ls (v :: St))) : own_Go p.tables e below P T (mkF m pc Ls (St)) := by
  subst hp
  exact own_by (fun t q => XS.aloadN A hx rfl hd hl hv q) G
theorem own_istore (A : At T m c below) (hx : p.tables.exec = Jvm.exec) {pc' : Nat} {k : Nat} {v : Int32} (l' : Array Slot) (hd : decode c.code pc = .ok (.istore k, 2)) (hl : storeLocals Ls k (.int v) = some l') (hp : pc + 2 = pc') (G : own_Go p.tables e below P T (mkF m pc' l' (St))) : own_Go p.tables e below P T (mkF m pc Ls (.int v :: St)) := by
  subst hp
  exact own_by (fun t q => XS.istore A hx rfl hd rfl hl q) G
theorem own_istoreN (A : At T m c below) (hx : p.tables.exec = Jvm.exec) {pc' : Nat} {k : Fin 4} {v : Int32} (l' : Array Slot) (hd : decode c.code pc = .ok (.istore_n k, 1)) (hl : storeLocals Ls k.val (.int v) = some l') (hp : pc + 1 = pc') (G : own_Go p.tables e below P T (mkF m pc' l' (St))) : own_Go p.tables e below P T (mkF m pc Ls (.int v :: St)) := by
  subst hp
  exact own_by (fun t q => XS.istoreN A hx rfl hd rfl hl q) G
theorem own_lstore (A : At T m c below) (hx : p.tables.exec = Jvm.exec) {pc' : Nat} {k : Nat} {v : Int64} (l' : Array Slot) (hd : decode c.code pc = .ok (.lstore k, 2)) (hl : storeLocals Ls k (.long v) = some l') (hp : pc + 2 = pc') (G : own_Go p.tables e below P T (mkF m pc' l' (St))) : own_Go p.tables e below P T (mkF m pc Ls (.long v :: St)) := by
  subst hp
  exact own_by (fun t q => XS.lstore A hx rfl hd rfl hl q) G
theorem own_lstoreN (A : At T m c below) (hx : p.tables.exec = Jvm.exec) {pc' : Nat} {k : Fin 4} {v : Int64} (l' : Array Slot) (hd : decode c.code pc = .ok (.lstore_n k, 1)) (hl : storeLocals Ls k.val (.long v) = some l') (hp : pc + 1 = pc') (G : own_Go p.tables e below P T (mkF m pc' l' (St))) : own_Go p.tables e below P T (mkF m pc Ls (.long v :: St)) := by
  subst hp
  exact own_by (fun t q => XS.lstoreN A hx rfl hd rfl hl q) G
theorem own_astore (A : At T m c below) (hx : p.tables.exec = Jvm.exec) {pc' : Nat} {k : Nat} {v : Value} (l' : Array Slot) (hd : decode c.code pc = .ok (.astore k, 2)) (hv : v.isRef = true) (hl : storeLocals Ls k v = some l') (hp : pc + 2 = pc') (G : own_Go p.tables e below P T (mkF m pc' l' (St))) : own_Go p.tables e below P T (mkF m pc Ls (v :: St)) := by
  subst hp
  exact own_by (fun t q => XS.astore A hx rfl hd rfl hv hl q) G
theorem own_astoreN (A : At T m c below) (hx : p.tables.exec = Jvm.exec) {pc' : Nat} {k : Fin 4} {v : Value} (l' : Array Slot) (hd : decode c.code pc = .ok (.astore_n k, 1)) (hv : v.isRef = true) (hl : storeLocals Ls k.val v = some l') (hp : pc + 1 = pc') (G : own_Go p.tables e below P T (mkF m pc' l' (St))) : own_Go p.tables e below P T (mkF m pc Ls (v :: St)) := by
  subst hp
  exact own_by (fun t q => XS.astoreN A hx rfl hd rfl hv hl q) G
theorem own_iconst (A : At T m c below) (hx : p.tables.exec = Jvm.exec) {pc' : Nat} {i : Int} {z : Int32} (hd : decode c.code pc = .ok (.iconst i, 1))  (hz : Int32.ofInt i = z) (hp : pc + 1 = pc') (G : own_Go p.tables e below P T (mkF m pc' Ls (.int z :: St))) : own_Go p.tables e below P T (mkF m pc Ls (St)) := by
  subst hz hp
  exact own_by (fun t q => XS.iconst A hx rfl hd  q) G
theorem own_bipush (A : At T m c below) (hx : p.tables.exec = Jvm.exec) {pc' : Nat} {i : Int} {z : Int32} (hd : decode c.code pc = .ok (.bipush i, 2))  (hz : (Int8.ofInt i).toInt32 = z) (hp : pc + 2 = pc') (G : own_Go p.tables e below P T (mkF m pc' Ls (.int z :: St))) : own_Go p.tables e below P T (mkF m pc Ls (St)) := by
  subst hz hp
  exact own_by (fun t q => XS.bipush A hx rfl hd  q) G
theorem own_sipush (A : At T m c below) (hx : p.tables.exec = Jvm.exec) {pc' : Nat} {i : Int} {z : Int32} (hd : decode c.code pc = .ok (.sipush i, 3))  (hz : (Int16.ofInt i).toInt32 = z) (hp : pc + 3 = pc') (G : own_Go p.tables e below P T (mkF m pc' Ls (.int z :: St))) : own_Go p.tables e below P T (mkF m pc Ls (St)) := by
  subst hz hp
  exact own_by (fun t q => XS.sipush A hx rfl hd  q) G
theorem own_lconst (A : At T m c below) (hx : p.tables.exec = Jvm.exec) {pc' : Nat} {k : Fin 2} {z : Int64} (hd : decode c.code pc = .ok (.lconst k, 1))  (hz : Int64.ofNat k = z) (hp : pc + 1 = pc') (G : own_Go p.tables e below P T (mkF m pc' Ls (.long z :: St))) : own_Go p.tables e below P T (mkF m pc Ls (St)) := by
  subst hz hp
  exact own_by (fun t q => XS.lconst A hx rfl hd  q) G
theorem own_null (A : At T m c below) (hx : p.tables.exec = Jvm.exec) {pc' : Nat}  (hd : decode c.code pc = .ok (.aconst_null, 1))  (hp : pc + 1 = pc') (G : own_Go p.tables e below P T (mkF m pc' Ls (.null :: St))) : own_Go p.tables e below P T (mkF m pc Ls (St)) := by
  subst hp
  exact own_by (fun t q => XS.aconstNull A hx rfl hd  q) G
theorem own_iadd (A : At T m c below) (hx : p.tables.exec = Jvm.exec) {pc' : Nat} {x y : Int32} {z : Int32} (hd : decode c.code pc = .ok (.iadd, 1))  (hz : x + y = z) (hp : pc + 1 = pc') (G : own_Go p.tables e below P T (mkF m pc' Ls (.int z :: St))) : own_Go p.tables e below P T (mkF m pc Ls (.int y :: .int x :: St)) := by
  subst hz hp
  exact own_by (fun t q => XS.iadd A hx rfl hd rfl q) G
theorem own_isub (A : At T m c below) (hx : p.tables.exec = Jvm.exec) {pc' : Nat} {x y : Int32} {z : Int32} (hd : decode c.code pc = .ok (.isub, 1))  (hz : x - y = z) (hp : pc + 1 = pc') (G : own_Go p.tables e below P T (mkF m pc' Ls (.int z :: St))) : own_Go p.tables e below P T (mkF m pc Ls (.int y :: .int x :: St)) := by
  subst hz hp
  exact own_by (fun t q => XS.isub A hx rfl hd rfl q) G
theorem own_imul (A : At T m c below) (hx : p.tables.exec = Jvm.exec) {pc' : Nat} {x y : Int32} {z : Int32} (hd : decode c.code pc = .ok (.imul, 1))  (hz : x * y = z) (hp : pc + 1 = pc') (G : own_Go p.tables e below P T (mkF m pc' Ls (.int z :: St))) : own_Go p.tables e below P T (mkF m pc Ls (.int y :: .int x :: St)) := by
  subst hz hp
  exact own_by (fun t q => XS.imul A hx rfl hd rfl q) G
theorem own_iand (A : At T m c below) (hx : p.tables.exec = Jvm.exec) {pc' : Nat} {x y : Int32} {z : Int32} (hd : decode c.code pc = .ok (.iand, 1))  (hz : x &&& y = z) (hp : pc + 1 = pc') (G : own_Go p.tables e below P T (mkF m pc' Ls (.int z :: St))) : own_Go p.tables e below P T (mkF m pc Ls (.int y :: .int x :: St)) := by
  subst hz hp
  exact own_by (fun t q => XS.iand A hx rfl hd rfl q) G
theorem own_ior (A : At T m c below) (hx : p.tables.exec = Jvm.exec) {pc' : Nat} {x y : Int32} {z : Int32} (hd : decode c.code pc = .ok (.ior, 1))  (hz : x ||| y = z) (hp : pc + 1 = pc') (G : own_Go p.tables e below P T (mkF m pc' Ls (.int z :: St))) : own_Go p.tables e below P T (mkF m pc Ls (.int y :: .int x :: St)) := by
  subst hz hp
  exact own_by (fun t q => XS.ior A hx rfl hd rfl q) G
theorem own_ixor (A : At T m c below) (hx : p.tables.exec = Jvm.exec) {pc' : Nat} {x y : Int32} {z : Int32} (hd : decode c.code pc = .ok (.ixor, 1))  (hz : x ^^^ y = z) (hp : pc + 1 = pc') (G : own_Go p.tables e below P T (mkF m pc' Ls (.int z :: St))) : own_Go p.tables e below P T (mkF m pc Ls (.int y :: .int x :: St)) := by
  subst hz hp
  exact own_by (fun t q => XS.ixor A hx rfl hd rfl q) G
theorem own_ishl (A : At T m c below) (hx : p.tables.exec = Jvm.exec) {pc' : Nat} {x y : Int32} {z : Int32} (hd : decode c.code pc = .ok (.ishl, 1))  (hz : x <<< (y &&& 31) = z) (hp : pc + 1 = pc') (G : own_Go p.tables e below P T (mkF m pc' Ls (.int z :: St))) : own_Go p.tables e below P T (mkF m pc Ls (.int y :: .int x :: St)) := by
  subst hz hp
  exact own_by (fun t q => XS.ishl A hx rfl hd rfl q) G
theorem own_ishr (A : At T m c below) (hx : p.tables.exec = Jvm.exec) {pc' : Nat} {x y : Int32} {z : Int32} (hd : decode c.code pc = .ok (.ishr, 1))  (hz : x >>> (y &&& 31) = z) (hp : pc + 1 = pc') (G : own_Go p.tables e below P T (mkF m pc' Ls (.int z :: St))) : own_Go p.tables e below P T (mkF m pc Ls (.int y :: .int x :: St)) := by
  subst hz hp
  exact own_by (fun t q => XS.ishr A hx rfl hd rfl q) G
theorem own_iushr (A : At T m c below) (hx : p.tables.exec = Jvm.exec) {pc' : Nat} {x y : Int32} {z : Int32} (hd : decode c.code pc = .ok (.iushr, 1))  (hz : (x.toUInt32 >>> (y &&& 31).toUInt32).toInt32 = z) (hp : pc + 1 = pc') (G : own_Go p.tables e below P T (mkF m pc' Ls (.int z :: St))) : own_Go p.tables e below P T (mkF m pc Ls (.int y :: .int x :: St)) := by
  subst hz hp
  exact own_by (fun t q => XS.iushr A hx rfl hd rfl q) G
theorem own_idiv (A : At T m c below) (hx : p.tables.exec = Jvm.exec) {pc' : Nat} {x y : Int32} {z : Int32} (hd : decode c.code pc = .ok (.idiv, 1)) (hy : y ≠ 0) (hz : x / y = z) (hp : pc + 1 = pc') (G : own_Go p.tables e below P T (mkF m pc' Ls (.int z :: St))) : own_Go p.tables e below P T (mkF m pc Ls (.int y :: .int x :: St)) := by
  subst hz hp
  exact own_by (fun t q => XS.idiv A hx rfl hd rfl hy q) G
theorem own_ineg (A : At T m c below) (hx : p.tables.exec = Jvm.exec) {pc' : Nat} {x : Int32} {z : Int32} (hd : decode c.code pc = .ok (.ineg, 1))  (hz : -x = z) (hp : pc + 1 = pc') (G : own_Go p.tables e below P T (mkF m pc' Ls (.int z :: St))) : own_Go p.tables e below P T (mkF m pc Ls (.int x :: St)) := by
  subst hz hp
  exact own_by (fun t q => XS.ineg A hx rfl hd rfl q) G
theorem own_i2b (A : At T m c below) (hx : p.tables.exec = Jvm.exec) {pc' : Nat} {x : Int32} {z : Int32} (hd : decode c.code pc = .ok (.i2b, 1))  (hz : x.toInt8.toInt32 = z) (hp : pc + 1 = pc') (G : own_Go p.tables e below P T (mkF m pc' Ls (.int z :: St))) : own_Go p.tables e below P T (mkF m pc Ls (.int x :: St)) := by
  subst hz hp
  exact own_by (fun t q => XS.i2b A hx rfl hd rfl q) G
theorem own_i2c (A : At T m c below) (hx : p.tables.exec = Jvm.exec) {pc' : Nat} {x : Int32} {z : Int32} (hd : decode c.code pc = .ok (.i2c, 1))  (hz : x.toUInt32.toUInt16.toUInt32.toInt32 = z) (hp : pc + 1 = pc') (G : own_Go p.tables e below P T (mkF m pc' Ls (.int z :: St))) : own_Go p.tables e below P T (mkF m pc Ls (.int x :: St)) := by
  subst hz hp
  exact own_by (fun t q => XS.i2c A hx rfl hd rfl q) G
theorem own_i2s (A : At T m c below) (hx : p.tables.exec = Jvm.exec) {pc' : Nat} {x : Int32} {z : Int32} (hd : decode c.code pc = .ok (.i2s, 1))  (hz : x.toInt16.toInt32 = z) (hp : pc + 1 = pc') (G : own_Go p.tables e below P T (mkF m pc' Ls (.int z :: St))) : own_Go p.tables e below P T (mkF m pc Ls (.int x :: St)) := by
  subst hz hp
  exact own_by (fun t q => XS.i2s A hx rfl hd rfl q) G
theorem own_i2l (A : At T m c below) (hx : p.tables.exec = Jvm.exec) {pc' : Nat} {x : Int32} {z : Int64} (hd : decode c.code pc = .ok (.i2l, 1))  (hz : x.toInt64 = z) (hp : pc + 1 = pc') (G : own_Go p.tables e below P T (mkF m pc' Ls (.long z :: St))) : own_Go p.tables e below P T (mkF m pc Ls (.int x :: St)) := by
  subst hz hp
  exact own_by (fun t q => XS.i2l A hx rfl hd rfl q) G
theorem own_l2i (A : At T m c below) (hx : p.tables.exec = Jvm.exec) {pc' : Nat} {x : Int64} {z : Int32} (hd : decode c.code pc = .ok (.l2i, 1))  (hz : x.toInt32 = z) (hp : pc + 1 = pc') (G : own_Go p.tables e below P T (mkF m pc' Ls (.int z :: St))) : own_Go p.tables e below P T (mkF m pc Ls (.long x :: St)) := by
  subst hz hp
  exact own_by (fun t q => XS.l2i A hx rfl hd rfl q) G
theorem own_ladd (A : At T m c below) (hx : p.tables.exec = Jvm.exec) {pc' : Nat} {x y : Int64} {z : Int64} (hd : decode c.code pc = .ok (.ladd, 1))  (hz : x + y = z) (hp : pc + 1 = pc') (G : own_Go p.tables e below P T (mkF m pc' Ls (.long z :: St))) : own_Go p.tables e below P T (mkF m pc Ls (.long y :: .long x :: St)) := by
  subst hz hp
  exact own_by (fun t q => XS.ladd A hx rfl hd rfl q) G
theorem own_lsub (A : At T m c below) (hx : p.tables.exec = Jvm.exec) {pc' : Nat} {x y : Int64} {z : Int64} (hd : decode c.code pc = .ok (.lsub, 1))  (hz : x - y = z) (hp : pc + 1 = pc') (G : own_Go p.tables e below P T (mkF m pc' Ls (.long z :: St))) : own_Go p.tables e below P T (mkF m pc Ls (.long y :: .long x :: St)) := by
  subst hz hp
  exact own_by (fun t q => XS.lsub A hx rfl hd rfl q) G
theorem own_lmul (A : At T m c below) (hx : p.tables.exec = Jvm.exec) {pc' : Nat} {x y : Int64} {z : Int64} (hd : decode c.code pc = .ok (.lmul, 1))  (hz : x * y = z) (hp : pc + 1 = pc') (G : own_Go p.tables e below P T (mkF m pc' Ls (.long z :: St))) : own_Go p.tables e below P T (mkF m pc Ls (.long y :: .long x :: St)) := by
  subst hz hp
  exact own_by (fun t q => XS.lmul A hx rfl hd rfl q) G
theorem own_land (A : At T m c below) (hx : p.tables.exec = Jvm.exec) {pc' : Nat} {x y : Int64} {z : Int64} (hd : decode c.code pc = .ok (.land, 1))  (hz : x &&& y = z) (hp : pc + 1 = pc') (G : own_Go p.tables e below P T (mkF m pc' Ls (.long z :: St))) : own_Go p.tables e below P T (mkF m pc Ls (.long y :: .long x :: St)) := by
  subst hz hp
  exact own_by (fun t q => XS.land A hx rfl hd rfl q) G
theorem own_lor (A : At T m c below) (hx : p.tables.exec = Jvm.exec) {pc' : Nat} {x y : Int64} {z : Int64} (hd : decode c.code pc = .ok (.lor, 1))  (hz : x ||| y = z) (hp : pc + 1 = pc') (G : own_Go p.tables e below P T (mkF m pc' Ls (.long z :: St))) : own_Go p.tables e below P T (mkF m pc Ls (.long y :: .long x :: St)) := by
  subst hz hp
  exact own_by (fun t q => XS.lor A hx rfl hd rfl q) G
theorem own_lxor (A : At T m c below) (hx : p.tables.exec = Jvm.exec) {pc' : Nat} {x y : Int64} {z : Int64} (hd : decode c.code pc = .ok (.lxor, 1))  (hz : x ^^^ y = z) (hp : pc + 1 = pc') (G : own_Go p.tables e below P T (mkF m pc' Ls (.long z :: St))) : own_Go p.tables e below P T (mkF m pc Ls (.long y :: .long x :: St)) := by
  subst hz hp
  exact own_by (fun t q => XS.lxor A hx rfl hd rfl q) G
theorem own_lshl (A : At T m c below) (hx : p.tables.exec = Jvm.exec) {pc' : Nat} {x : Int64} {y : Int32} {z : Int64} (hd : decode c.code pc = .ok (.lshl, 1))  (hz : x <<< (y &&& 0x3f).toInt64 = z) (hp : pc + 1 = pc') (G : own_Go p.tables e below P T (mkF m pc' Ls (.long z :: St))) : own_Go p.tables e below P T (mkF m pc Ls (.int y :: .long x :: St)) := by
  subst hz hp
  exact own_by (fun t q => XS.lshl A hx rfl hd rfl q) G
theorem own_lshr (A : At T m c below) (hx : p.tables.exec = Jvm.exec) {pc' : Nat} {x : Int64} {y : Int32} {z : Int64} (hd : decode c.code pc = .ok (.lshr, 1))  (hz : x >>> (y &&& 0x3f).toInt64 = z) (hp : pc + 1 = pc') (G : own_Go p.tables e below P T (mkF m pc' Ls (.long z :: St))) : own_Go p.tables e below P T (mkF m pc Ls (.int y :: .long x :: St)) := by
  subst hz hp
  exact own_by (fun t q => XS.lshr A hx rfl hd rfl q) G
theorem own_lushr (A : At T m c below) (hx : p.tables.exec = Jvm.exec) {pc' : Nat} {x : Int64} {y : Int32} {z : Int64} (hd : decode c.code pc = .ok (.lushr, 1))  (hz : (x.toUInt64 >>> (y &&& 0x3f).toInt64.toUInt64).toInt64 = z) (hp : pc + 1 = pc') (G : own_Go p.tables e below P T (mkF m pc' Ls (.long z :: St))) : own_Go p.tables e below P T (mkF m pc Ls (.int y :: .long x :: St)) := by
  subst hz hp
  exact own_by (fun t q => XS.lushr A hx rfl hd rfl q) G
theorem own_lcmp (A : At T m c below) (hx : p.tables.exec = Jvm.exec) {pc' : Nat} {x y : Int64} {z : Int32} (hd : decode c.code pc = .ok (.lcmp, 1))  (hz : lcmpW x y = z) (hp : pc + 1 = pc') (G : own_Go p.tables e below P T (mkF m pc' Ls (.int z :: St))) : own_Go p.tables e below P T (mkF m pc Ls (.long y :: .long x :: St)) := by
  subst hz hp
  exact own_by (fun t q => XS.lcmp A hx rfl hd rfl q) G
theorem own_iinc (A : At T m c below) (hx : p.tables.exec = Jvm.exec) {pc' : Nat} {k : Nat} {cst : Int} {x : Int32} (l' : Array Slot) (hd : decode c.code pc = .ok (.iinc k cst, 3)) (hl : Ls[k]? = some (.val (.int x))) (hl' : storeLocals Ls k (.int (x + Int32.ofInt cst)) = some l') (hp : pc + 3 = pc') (G : own_Go p.tables e below P T (mkF m pc' l' (St))) : own_Go p.tables e below P T (mkF m pc Ls (St)) := by
  subst hp
  exact own_by (fun t q => XS.iinc A hx rfl hd hl hl' q) G
theorem own_dup (A : At T m c below) (hx : p.tables.exec = Jvm.exec) {pc' : Nat} {v : Value} (hd : decode c.code pc = .ok (.dup, 1)) (hv : v.category = 1) (hp : pc + 1 = pc') (G : own_Go p.tables e below P T (mkF m pc' Ls (v :: v :: St))) : own_Go p.tables e below P T (mkF m pc Ls (v :: St)) := by
  subst hp
  exact own_by (fun t q => XS.dup A hx rfl hd rfl hv q) G
theorem own_pop (A : At T m c below) (hx : p.tables.exec = Jvm.exec) {pc' : Nat} {v : Value} (hd : decode c.code pc = .ok (.pop, 1)) (hv : v.category = 1) (hp : pc + 1 = pc') (G : own_Go p.tables e below P T (mkF m pc' Ls (St))) : own_Go p.tables e below P T (mkF m pc Ls (v :: St)) := by
  subst hp
  exact own_by (fun t q => XS.pop A hx rfl hd rfl hv q) G
theorem own_dupX1 (A : At T m c below) (hx : p.tables.exec = Jvm.exec) {pc' : Nat} {v u : Value} (hd : decode c.code pc = .ok (.dup_x1, 1)) (hv : v.category = 1) (hu : u.category = 1) (hp : pc + 1 = pc') (G : own_Go p.tables e below P T (mkF m pc' Ls (v :: u :: v :: St))) : own_Go p.tables e below P T (mkF m pc Ls (v :: u :: St)) := by
  subst hp
  exact own_by (fun t q => XS.dupX1 A hx rfl hd rfl hv hu q) G
theorem own_goto (A : At T m c below) (hx : p.tables.exec = Jvm.exec) {o : Int} (pc' : Nat) (hd : decode c.code pc = .ok (.goto o, 3)) (ho : 0 ≤ (pc : Int) + o) (hp : ((pc : Int) + o).toNat = pc') (G : own_Go p.tables e below P T (mkF m pc' Ls St)) : own_Go p.tables e below P T (mkF m pc Ls St) :=
  own_by (fun t q => XS.goto A hx rfl rfl hd ho hp q) G
theorem own_icmp_eq (A : At T m c below) (hx : p.tables.exec = Jvm.exec) {o : Int} {x y : Int32} (pcY pcN : Nat) (hd : decode c.code pc = .ok (.if_icmp .eq o, 3)) (ho : 0 ≤ (pc : Int) + o) (hY : ((pc : Int) + o).toNat = pcY) (hN : pc + 3 = pcN) (GY : x = y → own_Go p.tables e below P T (mkF m pcY Ls St)) (GN : ¬ x = y → own_Go p.tables e below P T (mkF m pcN Ls St)) : own_Go p.tables e below P T (mkF m pc Ls (.int y :: .int x :: St)) := by
  by_cases q : x = y
  · exact own_by (fun t k => XS.icmpYes A hx rfl rfl hd rfl (teq q).1 ho hY k) (GY q)
  · have q : ¬ x = y := q
    subst hN
    exact own_by (fun t k => XS.icmpNo A hx rfl hd rfl (feq q).1 k) (GN q)
theorem own_if_eq (A : At T m c below) (hx : p.tables.exec = Jvm.exec) {o : Int} {x : Int32} (pcY pcN : Nat) (hd : decode c.code pc = .ok (.ifCond .eq o, 3)) (ho : 0 ≤ (pc : Int) + o) (hY : ((pc : Int) + o).toNat = pcY) (hN : pc + 3 = pcN) (GY : x = 0 → own_Go p.tables e below P T (mkF m pcY Ls St)) (GN : ¬ x = 0 → own_Go p.tables e below P T (mkF m pcN Ls St)) : own_Go p.tables e below P T (mkF m pc Ls (.int x :: St)) := by
  by_cases q : x = 0
  · exact own_by (fun t k => XS.ifYes A hx rfl rfl hd rfl ((if0 _ _).trans (teq q).1) ho hY k) (GY q)
  · have q : ¬ x = 0 := q
    subst hN
    exact own_by (fun t k => XS.ifNo A hx rfl hd rfl ((if0 _ _).trans (feq q).1) k) (GN q)
theorem own_icmp_ne (A : At T m c below) (hx : p.tables.exec = Jvm.exec) {o : Int} {x y : Int32} (pcY pcN : Nat) (hd : decode c.code pc = .ok (.if_icmp .ne o, 3)) (ho : 0 ≤ (pc : Int) + o) (hY : ((pc : Int) + o).toNat = pcY) (hN : pc + 3 = pcN) (GY : ¬ x = y → own_Go p.tables e below P T (mkF m pcY Ls St)) (GN : x = y → own_Go p.tables e below P T (mkF m pcN Ls St)) : own_Go p.tables e below P T (mkF m pc Ls (.int y :: .int x :: St)) := by
  by_cases q : ¬ x = y
  · exact own_by (fun t k => XS.icmpYes A hx rfl rfl hd rfl (feq q).2 ho hY k) (GY q)
  · have q : x = y := Classical.not_not.mp q
    subst hN
    exact own_by (fun t k => XS.icmpNo A hx rfl hd rfl (teq q).2 k) (GN q)
theorem own_if_ne (A : At T m c below) (hx : p.tables.exec = Jvm.exec) {o : Int} {x : Int32} (pcY pcN : Nat) (hd : decode c.code pc = .ok (.ifCond .ne o, 3)) (ho : 0 ≤ (pc : Int) + o) (hY : ((pc : Int) + o).toNat = pcY) (hN : pc + 3 = pcN) (GY : ¬ x = 0 → own_Go p.tables e below P T (mkF m pcY Ls St)) (GN : x = 0 → own_Go p.tables e below P T (mkF m pcN Ls St)) : own_Go p.tables e below P T (mkF m pc Ls (.int x :: St)) := by
  by_cases q : ¬ x = 0
  · exact own_by (fun t k => XS.ifYes A hx rfl rfl hd rfl ((if0 _ _).trans (feq q).2) ho hY k) (GY q)
  · have q : x = 0 := Classical.not_not.mp q
    subst hN
    exact own_by (fun t k => XS.ifNo A hx rfl hd rfl ((if0 _ _).trans (teq q).2) k) (GN q)
theorem own_icmp_lt (A : At T m c below) (hx : p.tables.exec = Jvm.exec) {o : Int} {x y : Int32} (pcY pcN : Nat) (hd : decode c.code pc = .ok (.if_icmp .lt o, 3)) (ho : 0 ≤ (pc : Int) + o) (hY : ((pc : Int) + o).toNat = pcY) (hN : pc + 3 = pcN) (GY : x < y → own_Go p.tables e below P T (mkF m pcY Ls St)) (GN : ¬ x < y → own_Go p.tables e below P T (mkF m pcN Ls St)) : own_Go p.tables e below P T (mkF m pc Ls (.int y :: .int x :: St)) := by
  by_cases q : x < y
  · exact own_by (fun t k => XS.icmpYes A hx rfl rfl hd rfl (tlt q).1 ho hY k) (GY q)
  · have q : ¬ x < y := q
    subst hN
    exact own_by (fun t k => XS.icmpNo A hx rfl hd rfl (flt q).1 k) (GN q)
theorem own_if_lt (A : At T m c below) (hx : p.tables.exec = Jvm.exec) {o : Int} {x : Int32} (pcY pcN : Nat) (hd : decode c.code pc = .ok (.ifCond .lt o, 3)) (ho : 0 ≤ (pc : Int) + o) (hY : ((pc : Int) + o).toNat = pcY) (hN : pc + 3 = pcN) (GY : x < 0 → own_Go p.tables e below P T (mkF m pcY Ls St)) (GN : ¬ x < 0 → own_Go p.tables e below P T (mkF m pcN Ls St)) : own_Go p.tables e below P T (mkF m pc Ls (.int x :: St)) := by
  by_cases q : x < 0
  · exact own_by (fun t k => XS.ifYes A hx rfl rfl hd rfl ((if0 _ _).trans (tlt q).1) ho hY k) (GY q)
  · have q : ¬ x < 0 := q
    subst hN
    exact own_by (fun t k => XS.ifNo A hx rfl hd rfl ((if0 _ _).trans (flt q).1) k) (GN q)
theorem own_icmp_ge (A : At T m c below) (hx : p.tables.exec = Jvm.exec) {o : Int} {x y : Int32} (pcY pcN : Nat) (hd : decode c.code pc = .ok (.if_icmp .ge o, 3)) (ho : 0 ≤ (pc : Int) + o) (hY : ((pc : Int) + o).toNat = pcY) (hN : pc + 3 = pcN) (GY : ¬ x < y → own_Go p.tables e below P T (mkF m pcY Ls St)) (GN : x < y → own_Go p.tables e below P T (mkF m pcN Ls St)) : own_Go p.tables e below P T (mkF m pc Ls (.int y :: .int x :: St)) := by
  by_cases q : ¬ x < y
  · exact own_by (fun t k => XS.icmpYes A hx rfl rfl hd rfl (flt q).2.1 ho hY k) (GY q)
  · have q : x < y := Classical.not_not.mp q
    subst hN
    exact own_by (fun t k => XS.icmpNo A hx rfl hd rfl (tlt q).2.1 k) (GN q)
theorem own_if_ge (A : At T m c below) (hx : p.tables.exec = Jvm.exec) {o : Int} {x : Int32} (pcY pcN : Nat) (hd : decode c.code pc = .ok (.ifCond .ge o, 3)) (ho : 0 ≤ (pc : Int) + o) (hY : ((pc : Int) + o).toNat = pcY) (hN : pc + 3 = pcN) (GY : ¬ x < 0 → own_Go p.tables e below P T (mkF m pcY Ls St)) (GN : x < 0 → own_Go p.tables e below P T (mkF m pcN Ls St)) : own_Go p.tables e below P T (mkF m pc Ls (.int x :: St)) := by
  by_cases q : ¬ x < 0
  · exact own_by (fun t k => XS.ifYes A hx rfl rfl hd rfl ((if0 _ _).trans (flt q).2.1) ho hY k) (GY q)
  · have q : x < 0 := Classical.not_not.mp q
    subst hN
    exact own_by (fun t k => XS.ifNo A hx rfl hd rfl ((if0 _ _).trans (tlt q).2.1) k) (GN q)
theorem own_icmp_gt (A : At T m c below) (hx : p.tables.exec = Jvm.exec) {o : Int} {x y : Int32} (pcY pcN : Nat) (hd : decode c.code pc = .ok (.if_icmp .gt o, 3)) (ho : 0 ≤ (pc : Int) + o) (hY : ((pc : Int) + o).toNat = pcY) (hN : pc + 3 = pcN) (GY : y < x → own_Go p.tables e below P T (mkF m pcY Ls St)) (GN : ¬ y < x → own_Go p.tables e below P T (mkF m pcN Ls St)) : own_Go p.tables e below P T (mkF m pc Ls (.int y :: .int x :: St)) := by
  by_cases q : y < x
  · exact own_by (fun t k => XS.icmpYes A hx rfl rfl hd rfl (tlt q).2.2.1 ho hY k) (GY q)
  · have q : ¬ y < x := q
    subst hN
    exact own_by (fun t k => XS.icmpNo A hx rfl hd rfl (flt q).2.2.1 k) (GN q)
theorem own_if_gt (A : At T m c below) (hx : p.tables.exec = Jvm.exec) {o : Int} {x : Int32} (pcY pcN : Nat) (hd : decode c.code pc = .ok (.ifCond .gt o, 3)) (ho : 0 ≤ (pc : Int) + o) (hY : ((pc : Int) + o).toNat = pcY) (hN : pc + 3 = pcN) (GY : 0 < x → own_Go p.tables e below P T (mkF m pcY Ls St)) (GN : ¬ 0 < x → own_Go p.tables e below P T (mkF m pcN Ls St)) : own_Go p.tables e below P T (mkF m pc Ls (.int x :: St)) := by
  by_cases q : 0 < x
  · exact own_by (fun t k => XS.ifYes A hx rfl rfl hd rfl ((if0 _ _).trans (tlt q).2.2.1) ho hY k) (GY q)
  · have q : ¬ 0 < x := q
    subst hN
    exact own_by (fun t k => XS.ifNo A hx rfl hd rfl ((if0 _ _).trans (flt q).2.2.1) k) (GN q)
theorem own_icmp_le (A : At T m c below) (hx : p.tables.exec = Jvm.exec) {o : Int} {x y : Int32} (pcY pcN : Nat) (hd : decode c.code pc = .ok (.if_icmp .le o, 3)) (ho : 0 ≤ (pc : Int) + o) (hY : ((pc : Int) + o).toNat = pcY) (hN : pc + 3 = pcN) (GY : ¬ y < x → own_Go p.tables e below P T (mkF m pcY Ls St)) (GN : y < x → own_Go p.tables e below P T (mkF m pcN Ls St)) : own_Go p.tables e below P T (mkF m pc Ls (.int y :: .int x :: St)) := by
  by_cases q : ¬ y < x
  · exact own_by (fun t k => XS.icmpYes A hx rfl rfl hd rfl (flt q).2.2.2 ho hY k) (GY q)
  · have q : y < x := Classical.not_not.mp q
    subst hN
    exact own_by (fun t k => XS.icmpNo A hx rfl hd rfl (tlt q).2.2.2 k) (GN q)
theorem own_if_le (A : At T m c below) (hx : p.tables.exec = Jvm.exec) {o : Int} {x : Int32} (pcY pcN : Nat) (hd : decode c.code pc = .ok (.ifCond .le o, 3)) (ho : 0 ≤ (pc : Int) + o) (hY : ((pc : Int) + o).toNat = pcY) (hN : pc + 3 = pcN) (GY : ¬ 0 < x → own_Go p.tables e below P T (mkF m pcY Ls St)) (GN : 0 < x → own_Go p.tables e below P T (mkF m pcN Ls St)) : own_Go p.tables e below P T (mkF m pc Ls (.int x :: St)) := by
  by_cases q : ¬ 0 < x
  · exact own_by (fun t k => XS.ifYes A hx rfl rfl hd rfl ((if0 _ _).trans (flt q).2.2.2) ho hY k) (GY q)
  · have q : 0 < x := Classical.not_not.mp q
    subst hN
    exact own_by (fun t k => XS.ifNo A hx rfl hd rfl ((if0 _ _).trans (tlt q).2.2.2) k) (GN q)
theorem own_ifnull_t (A : At T m c below) (hx : p.tables.exec = Jvm.exec) {o : Int} (pcY : Nat) (hd : decode c.code pc = .ok (.ifnull o, 3)) (ho : 0 ≤ (pc : Int) + o) (hY : ((pc : Int) + o).toNat = pcY) (G : own_Go p.tables e below P T (mkF m pcY Ls St)) : own_Go p.tables e below P T (mkF m pc Ls (.null :: St)) := own_by (fun t k => XS.ifnullYes A hx rfl rfl hd rfl ho hY k) G
theorem own_ifnull_f (A : At T m c below) (hx : p.tables.exec = Jvm.exec) {o : Int} {b : Addr} (pcN : Nat) (hd : decode c.code pc = .ok (.ifnull o, 3)) (hN : pc + 3 = pcN) (G : own_Go p.tables e below P T (mkF m pcN Ls St)) : own_Go p.tables e below P T (mkF m pc Ls (.ref b :: St)) := by subst hN; exact own_by (fun t k => XS.ifnullNo A hx rfl hd rfl k) G
theorem own_ifnonnull_t (A : At T m c below) (hx : p.tables.exec = Jvm.exec) {o : Int} {b : Addr} (pcY : Nat) (hd : decode c.code pc = .ok (.ifnonnull o, 3)) (ho : 0 ≤ (pc : Int) + o) (hY : ((pc : Int) + o).toNat = pcY) (G : own_Go p.tables e below P T (mkF m pcY Ls St)) : own_Go p.tables e below P T (mkF m pc Ls (.ref b :: St)) := own_by (fun t k => XS.ifnonnullYes A hx rfl rfl hd rfl ho hY k) G
theorem own_ifnonnull_f (A : At T m c below) (hx : p.tables.exec = Jvm.exec) {o : Int} (pcN : Nat) (hd : decode c.code pc = .ok (.ifnonnull o, 3)) (hN : pc + 3 = pcN) (G : own_Go p.tables e below P T (mkF m pcN Ls St)) : own_Go p.tables e below P T (mkF m pc Ls (.null :: St)) := by subst hN; exact own_by (fun t k => XS.ifnonnullNo A hx rfl hd rfl k) G
end OwnSteps
/-! OWN KIT, steps on the heap -/
section OwnHeap
variable {p : Program} {l : Launch} {e : Env} {R : Room} {s : State} {m : MethodId} {args : Array Value} {below : List Frame} {meth : Method} {c : Code} {T : State} {cells slots : Nat} {Z : State} {a0 : Array Value} {h h0 : Heap} {w kf : Bool} {EL : List (String × Nat)} {own : String} {ws fs : List Addr} {P : Outcome → State → Prop} {pc pc' : Nat} {Ls : Array Slot} {St : List Value} {index : Nat}
theorem own_new {C : String} {n : Nat} (K : own_S w kf EL p l e R s m args below meth c Z a0 own h0 ws T h fs cells slots) (hx : p.tables.exec = Jvm.exec) (w1 : (Cond.classLink own index C).before a0 Z = true) (wi : (Cond.instantiable C n).before a0 Z = true) (wz : (Cond.initialized C).before a0 Z = true)
    (hd : decode c.code pc = .ok (.new index, 3)) (hp : pc + 3 = pc') (hc : cells + 1 ≤ R.cells) (hl : slots + n ≤ R.slots)
    (G : ∀ (T' : State) (h' : Heap) (a : Addr), a = h.size → own_S w kf EL p l e R s m args below meth c Z a0 own h0 ws T' h' (a :: fs) (cells + 1) (slots + n) → Ext h h' → Exa Z h' a C → (∀ {O nm d : String} {ty : FieldType}, Laid Z a0 C O nm d → parseFieldDescriptor d = some ty → Fld Z h' a O nm d (defaultValue ty)) → Unt h' a →
      own_Go p.tables e below P T' (mkF m pc' Ls (.ref a :: St))) : own_Go p.tables e below P T (mkF m pc Ls St) := by
  subst hp
  obtain ⟨vm0, locs, k0, X, eT, I⟩ := K
  obtain ⟨T', h', X', e', E, F, D, N, st⟩ := newO X hx I.1 I.2.1 w1 wi wz eT (g := mkF m pc Ls St) rfl hd hc hl
  exact own_by st (G T' h' _ rfl ⟨vm0, locs, k0, X', e', I.grow E F.lt⟩ E F D N)
theorem own_newarr {aty : ArrayType} {n : Int32} (K : own_S w kf EL p l e R s m args below meth c Z a0 own h0 ws T h fs cells slots) (hx : p.tables.exec = Jvm.exec) (w1 : (Cond.arrayClass (newarray.typeOf aty)).before a0 Z = true)
    (hd : decode c.code pc = .ok (.newarray aty, 2)) (hp : pc + 2 = pc') (hn : ¬ n < 0) (cap : Nat) (hcap : n.toNatClampNeg ≤ cap) (hb : cap * 8 ≤ 536870912) (hc : cells + 1 ≤ R.cells) (hl : slots + cap ≤ R.slots)
    (G : ∀ (T' : State) (h' : Heap) (a : Addr) (k : ClassId), a = h.size → own_S w kf EL p l e R s m args below meth c Z a0 own h0 ws T' h' (a :: fs) (cells + 1) (slots + cap) → Ext h h' → Arv Z h' a k (newarray.typeOf aty) n [] (defaultValue (newarray.typeOf aty)) →
      own_Go p.tables e below P T' (mkF m pc' Ls (.ref a :: St))) : own_Go p.tables e below P T (mkF m pc Ls (.int n :: St)) := by
  subst hp
  obtain ⟨vm0, locs, k0, X, eT, I⟩ := K
  obtain ⟨T', h', k, X', e', E, F, st⟩ := newP X hx I.1 w1 eT (g := mkF m pc Ls (.int n :: St)) rfl hd rfl hn hcap hb hc hl
  exact own_by st (G T' h' _ k rfl ⟨vm0, locs, k0, X', e', I.grow E F.lt⟩ E (Arv.new F hn))
theorem own_newref {C : String} {n : Int32} (K : own_S w kf EL p l e R s m args below meth c Z a0 own h0 ws T h fs cells slots) (hx : p.tables.exec = Jvm.exec) (w1 : (Cond.classLink own index C).before a0 Z = true) (w2 : (Cond.arrayOver (.object C)).before a0 Z = true)
    (hd : decode c.code pc = .ok (.anewarray index, 3)) (hp : pc + 3 = pc') (hn : ¬ n < 0) (cap : Nat) (hcap : n.toNatClampNeg ≤ cap) (hb : cap * 8 ≤ 536870912) (hc : cells + 1 ≤ R.cells) (hl : slots + cap ≤ R.slots)
    (G : ∀ (T' : State) (h' : Heap) (a : Addr) (k : ClassId), a = h.size → own_S w kf EL p l e R s m args below meth c Z a0 own h0 ws T' h' (a :: fs) (cells + 1) (slots + cap) → Ext h h' → Arv Z h' a k (.object C) n [] .null → Ovr Z k C →
      own_Go p.tables e below P T' (mkF m pc' Ls (.ref a :: St))) : own_Go p.tables e below P T (mkF m pc Ls (.int n :: St)) := by
  subst hp
  obtain ⟨vm0, locs, k0, X, eT, I⟩ := K
  obtain ⟨T', h', k, X', e', E, F, O, st⟩ := newR X hx I.1 I.2.1 w1 w2 eT (g := mkF m pc Ls (.int n :: St)) rfl hd rfl hn hcap hb hc hl
  exact own_by st (G T' h' _ k rfl ⟨vm0, locs, k0, X', e', I.grow E F.lt⟩ E (Arv.new F hn) O)
/-- a place of a cell that the walk may write is written -/
theorem own_wrote {vm0 : Vm} {locs : List Loc} {k0 : Nat} {T' : State} {h' : Heap} {a : Addr} {sl : Nat} {v : Value} (I : own_I w kf EL s m below Z a0 own h0 ws h fs vm0 locs k0) (X' : Stand p l e R (s.setVm vm0) m args below meth c T' (locs ++ [⟨a, sl⟩]) cells slots) (e' : T'.heap = h') (W : Wr h h' a sl v) (ha : a ∈ fs) :
    own_S w kf EL p l e R s m args below meth c Z a0 own h0 ws T' h' fs cells slots :=
  ⟨vm0, _, k0, X', e', I.keep (Keep.of_wr W) (fun x hx => by cases List.mem_singleton.mp hx; exact ha) (fun y hy => by cases List.mem_singleton.mp hy; obtain ⟨-, -, -, -, -, -, -, -, -, -, -, -, h12⟩ := I; exact (h12 a ha).2.1)⟩
theorem own_putF {R0 O n d C host : String} {kk : Nat} {ty : FieldType} {a : Addr} {v old : Value} (K : own_S w kf EL p l e R s m args below meth c Z a0 own h0 ws T h fs cells slots) (hx : p.tables.exec = Jvm.exec)
    (w1 : (Cond.fieldLink own index R0 n d).before a0 Z = true ∨ (Cond.fieldLinkNest own index R0 n d host).before a0 Z = true) (via : Via Z R0 O n d) (F : Fld Z h a O n d old) (E : Exa Z h a C) (L : (Cond.lays C O n d).before a0 Z = true ∨ ((Cond.laysFinal C O n d).before a0 Z = true ∧ own = O ∧ meth.name = "<init>")) (wi : (Cond.instantiable C kk).before a0 Z = true)
    (hty : parseFieldDescriptor d = some ty) (hn : narrow ty v = v) (hf : fits ty v = true) (ha : a ∈ fs) (hd : decode c.code pc = .ok (.putfield index, 3)) (hp : pc + 3 = pc')
    (G : ∀ (T' : State) (h' : Heap), own_S w kf EL p l e R s m args below meth c Z a0 own h0 ws T' h' fs cells slots → Wr h h' a (Jvm.RoadKit.slotOf Z O n d) v → own_Go p.tables e below P T' (mkF m pc' Ls St)) : own_Go p.tables e below P T (mkF m pc Ls (v :: .ref a :: St)) := by
  subst hp
  obtain ⟨vm0, locs, k0, X, eT, I⟩ := K
  obtain ⟨T', h', X', e', W, st⟩ := putF X hx I.1 I.2.1 w1 via eT F E L wi hty hn hf (g := mkF m pc Ls (v :: .ref a :: St)) rfl rfl hd
  exact own_by st (G T' h' (own_wrote I X' e' W ha) W)
theorem own_getF {R0 O n d host : String} {a : Addr} {v : Value} (K : own_S w kf EL p l e R s m args below meth c Z a0 own h0 ws T h fs cells slots) (hx : p.tables.exec = Jvm.exec)
    (w1 : (Cond.fieldLink own index R0 n d).before a0 Z = true ∨ (Cond.fieldLinkNest own index R0 n d host).before a0 Z = true) (via : Via Z R0 O n d) (F : Fld Z h a O n d v) (hd : decode c.code pc = .ok (.getfield index, 3)) (hp : pc + 3 = pc')
    (G : ∀ T' : State, own_S w kf EL p l e R s m args below meth c Z a0 own h0 ws T' h fs cells slots → own_Go p.tables e below P T' (mkF m pc' Ls (v :: St))) : own_Go p.tables e below P T (mkF m pc Ls (.ref a :: St)) := by
  subst hp
  obtain ⟨vm0, locs, k0, X, eT, I⟩ := K
  obtain ⟨T', X', e', st⟩ := getF X hx I.1 I.2.1 w1 via eT F (g := mkF m pc Ls (.ref a :: St)) rfl rfl hd
  exact own_by st (G T' ⟨vm0, locs, k0, X', e', I⟩)
theorem own_getS {R0 O n d host : String} {v : Value} (K : own_S w kf EL p l e R s m args below meth c Z a0 own h0 ws T h fs cells slots) (hx : p.tables.exec = Jvm.exec)
    (w1 : (Cond.fieldLink own index R0 n d).before a0 Z = true ∨ (Cond.fieldLinkNest own index R0 n d host).before a0 Z = true) (via : Via Z R0 O n d) (F : Sta Z Z.heap O n d v) (hd : decode c.code pc = .ok (.getstatic index, 3)) (hp : pc + 3 = pc')
    (G : ∀ T' : State, own_S w kf EL p l e R s m args below meth c Z a0 own h0 ws T' h fs cells slots → own_Go p.tables e below P T' (mkF m pc' Ls (v :: St))) : own_Go p.tables e below P T (mkF m pc Ls St) := by
  subst hp
  have F' := own_sta K F
  obtain ⟨vm0, locs, k0, X, eT, I⟩ := K
  obtain ⟨T', X', e', st⟩ := getS2 X hx I.1 I.2.1 w1 via eT F' (g := mkF m pc Ls St) rfl hd
  exact own_by st (G T' ⟨vm0, locs, k0, X', e', I⟩)
theorem own_cast {C : String} {a : Addr} (K : own_S w kf EL p l e R s m args below meth c Z a0 own h0 ws T h fs cells slots) (hx : p.tables.exec = Jvm.exec) (w1 : (Cond.classLink own index C).before a0 Z = true) (F : Ins Z h a C true) (hd : decode c.code pc = .ok (.checkcast index, 3)) (hp : pc + 3 = pc')
    (G : ∀ T' : State, own_S w kf EL p l e R s m args below meth c Z a0 own h0 ws T' h fs cells slots → own_Go p.tables e below P T' (mkF m pc' Ls (.ref a :: St))) : own_Go p.tables e below P T (mkF m pc Ls (.ref a :: St)) := by
  subst hp
  obtain ⟨vm0, locs, k0, X, eT, I⟩ := K
  obtain ⟨T', X', e', st⟩ := castY X hx I.1 I.2.1 w1 eT F (g := mkF m pc Ls (.ref a :: St)) rfl rfl hd
  exact own_by st (G T' ⟨vm0, locs, k0, X', e', I⟩)
theorem own_instY {C : String} {a : Addr} (K : own_S w kf EL p l e R s m args below meth c Z a0 own h0 ws T h fs cells slots) (hx : p.tables.exec = Jvm.exec) (w1 : (Cond.classLink own index C).before a0 Z = true) (F : Ins Z h a C true) (hd : decode c.code pc = .ok (.instanceof index, 3)) (hp : pc + 3 = pc')
    (G : ∀ T' : State, own_S w kf EL p l e R s m args below meth c Z a0 own h0 ws T' h fs cells slots → own_Go p.tables e below P T' (mkF m pc' Ls (.int 1 :: St))) : own_Go p.tables e below P T (mkF m pc Ls (.ref a :: St)) := by
  subst hp
  obtain ⟨vm0, locs, k0, X, eT, I⟩ := K
  obtain ⟨T', X', e', st⟩ := instY X hx I.1 I.2.1 w1 eT F (g := mkF m pc Ls (.ref a :: St)) rfl rfl hd
  exact own_by st (G T' ⟨vm0, locs, k0, X', e', I⟩)
/-- Object.<init> -/
theorem own_initO {a : Addr} (K : own_S w kf EL p l e R s m args below meth c Z a0 own h0 ws T h fs cells slots) (hx : p.tables.exec = Jvm.exec) (w1 : (Cond.methodLink own index Lib.objectInit).before a0 Z = true) (w2 : (Cond.instanceMethod Lib.objectInit).before a0 Z = true) (w3 : (Cond.code Lib.objectInit ⟨#[0xb1]⟩ 1 none).before a0 Z = true)
    (hsz : Ls.size = c.maxLocals) (W : Nat) (hW : (St.map fun v => v.category).sum ≤ W) (hf : 1 ≤ R.frames) (hl : W + 12 ≤ R.locals) (hd : decode c.code pc = .ok (.invokespecial index, 3)) (hp : pc + 3 = pc')
    (G : ∀ T' : State, own_S w kf EL p l e R s m args below meth c Z a0 own h0 ws T' h fs cells slots → own_Go p.tables e below P T' (mkF m pc' Ls St)) : own_Go p.tables e below P T (mkF m pc Ls (.ref a :: St)) := by
  subst hp
  obtain ⟨vm0, locs, k0, X, eT, I⟩ := K
  obtain ⟨T', X', e', st⟩ := initO X hx I.1 I.2.1 w1 w2 w3 eT (g := mkF m pc Ls (.ref a :: St)) rfl hsz rfl hd hf (W := W) (by show 2 * 0 + _ ≤ _; omega) hl
  exact own_by st (G T' ⟨vm0, locs, k0, X', e', I⟩)
section OwnArr
variable {a : Addr} {k : ClassId} {n j : Int32} {vs : List Value} {dv : Value}
/-- castore into an array whose first components are said -/
theorem own_stC {x : Int32} (K : own_S w kf EL p l e R s m args below meth c Z a0 own h0 ws T h fs cells slots) (hx : p.tables.exec = Jvm.exec) (F : Arv Z h a k .char n vs dv) (ha : a ∈ fs) (hj : ¬ j < 0 ∧ j < n) (i : Nat) (hi : j.toNatClampNeg = i) (hl : i < vs.length) (hd : decode c.code pc = .ok (.castore, 1)) (hp : pc + 1 = pc')
    (G : ∀ (T' : State) (h' : Heap), own_S w kf EL p l e R s m args below meth c Z a0 own h0 ws T' h' fs cells slots → Wr h h' a j.toNatClampNeg (.int (nar .char x)) → Arv Z h' a k .char n (vs.set i (.int (nar .char x))) dv → own_Go p.tables e below P T' (mkF m pc' Ls St)) : own_Go p.tables e below P T (mkF m pc Ls (.int x :: .int j :: .ref a :: St)) := by
  subst hp
  obtain ⟨vm0, locs, k0, X, eT, I⟩ := K
  obtain ⟨cl, A, q1, q2, q3, q4, q5⟩ := F
  obtain ⟨T', h', X', e', W, st⟩ := stC X hx I.1 eT A (j := j) (x := x) (inb_of q2 hj) (g := mkF m pc Ls (.int x :: .int j :: .ref a :: St)) rfl rfl hd
  exact own_by st (G T' h' (own_wrote I X' e' W ha) W (Arv.set A q1 q2 q3 q4 q5 (fits_nar_char _) W i hi hl))
theorem own_stB {x : Int32} (K : own_S w kf EL p l e R s m args below meth c Z a0 own h0 ws T h fs cells slots) (hx : p.tables.exec = Jvm.exec) (F : Arv Z h a k .byte n vs dv) (ha : a ∈ fs) (hj : ¬ j < 0 ∧ j < n) (i : Nat) (hi : j.toNatClampNeg = i) (hl : i < vs.length) (hd : decode c.code pc = .ok (.bastore, 1)) (hp : pc + 1 = pc')
    (G : ∀ (T' : State) (h' : Heap), own_S w kf EL p l e R s m args below meth c Z a0 own h0 ws T' h' fs cells slots → Wr h h' a j.toNatClampNeg (.int x.toInt8.toInt32) → Arv Z h' a k .byte n (vs.set i (.int x.toInt8.toInt32)) dv → own_Go p.tables e below P T' (mkF m pc' Ls St)) : own_Go p.tables e below P T (mkF m pc Ls (.int x :: .int j :: .ref a :: St)) := by
  subst hp
  obtain ⟨vm0, locs, k0, X, eT, I⟩ := K
  obtain ⟨cl, A, q1, q2, q3, q4, q5⟩ := F
  obtain ⟨T', h', X', e', W, st⟩ := stB X hx I.1 eT A (j := j) (x := x) (inb_of q2 hj) (g := mkF m pc Ls (.int x :: .int j :: .ref a :: St)) rfl rfl hd
  exact own_by st (G T' h' (own_wrote I X' e' W ha) W (Arv.set A q1 q2 q3 q4 q5 (fits_nar_byte _) W i hi hl))
theorem own_stR {C : String} {v : Value} (K : own_S w kf EL p l e R s m args below meth c Z a0 own h0 ws T h fs cells slots) (hx : p.tables.exec = Jvm.exec) (F : Arv Z h a k (.object C) n vs dv) (hS : Sto Z h a v) (hv : v.isRef = true) (ha : a ∈ fs) (hj : ¬ j < 0 ∧ j < n) (i : Nat) (hi : j.toNatClampNeg = i) (hl : i < vs.length) (hd : decode c.code pc = .ok (.aastore, 1)) (hp : pc + 1 = pc')
    (G : ∀ (T' : State) (h' : Heap), own_S w kf EL p l e R s m args below meth c Z a0 own h0 ws T' h' fs cells slots → Wr h h' a j.toNatClampNeg v → Arv Z h' a k (.object C) n (vs.set i v) dv → own_Go p.tables e below P T' (mkF m pc' Ls St)) : own_Go p.tables e below P T (mkF m pc Ls (v :: .int j :: .ref a :: St)) := by
  subst hp
  obtain ⟨vm0, locs, k0, X, eT, I⟩ := K
  obtain ⟨cl, A, q1, q2, q3, q4, q5⟩ := F
  obtain ⟨T', h', X', e', W, st⟩ := stR X hx I.1 eT A (j := j) (v := v) (inb_of q2 hj) rfl hS (g := mkF m pc Ls (v :: .int j :: .ref a :: St)) rfl rfl hd
  exact own_by st (G T' h' (own_wrote I X' e' W ha) W (Arv.set A q1 q2 q3 q4 q5 (by rcases ref_cases hv with rfl | ⟨_, rfl⟩ <;> rfl) W i hi hl))
theorem own_ldC {x : Int32} (K : own_S w kf EL p l e R s m args below meth c Z a0 own h0 ws T h fs cells slots) (hx : p.tables.exec = Jvm.exec) (F : Arv Z h a k .char n vs dv) (hj : ¬ j < 0 ∧ j < n) (hv : vs.getD j.toNatClampNeg dv = .int x) (hd : decode c.code pc = .ok (.caload, 1)) (hp : pc + 1 = pc')
    (G : own_Go p.tables e below P T (mkF m pc' Ls (.int x :: St))) : own_Go p.tables e below P T (mkF m pc Ls (.int j :: .ref a :: St)) := by
  subst hp
  obtain ⟨vm0, locs, k0, X, eT, I⟩ := K
  obtain ⟨cl, A, q1, q2, q3, q4, q5⟩ := F
  exact own_by (fun t q => X.caload hx (j := j) (v := .int x) (by rw [eT]; exact A.1) (State.isArrayOf_alike I.1.alike A.2.1) A.2.2 (inb_of q2 hj) (q4.at (inb_of q2 hj) hv) (g := mkF m pc Ls (.int j :: .ref a :: St)) rfl rfl hd _ q) G
theorem own_ldB {x : Int32} (K : own_S w kf EL p l e R s m args below meth c Z a0 own h0 ws T h fs cells slots) (hx : p.tables.exec = Jvm.exec) (F : Arv Z h a k .byte n vs dv) (hj : ¬ j < 0 ∧ j < n) (hv : vs.getD j.toNatClampNeg dv = .int x) (hd : decode c.code pc = .ok (.baload, 1)) (hp : pc + 1 = pc')
    (G : own_Go p.tables e below P T (mkF m pc' Ls (.int x :: St))) : own_Go p.tables e below P T (mkF m pc Ls (.int j :: .ref a :: St)) := by
  subst hp
  obtain ⟨vm0, locs, k0, X, eT, I⟩ := K
  obtain ⟨cl, A, q1, q2, q3, q4, q5⟩ := F
  exact own_by (fun t q => X.baloadBytes hx (j := j) (v := .int x) (by rw [eT]; exact A.1) (State.isArrayOf_alike I.1.alike A.2.1) A.2.2 (inb_of q2 hj) (q4.at (inb_of q2 hj) hv) (g := mkF m pc Ls (.int j :: .ref a :: St)) rfl rfl hd _ q) G
theorem own_ldR {C : String} {v : Value} (K : own_S w kf EL p l e R s m args below meth c Z a0 own h0 ws T h fs cells slots) (hx : p.tables.exec = Jvm.exec) (F : Arv Z h a k (.object C) n vs dv) (hj : ¬ j < 0 ∧ j < n) (hv : vs.getD j.toNatClampNeg dv = v) (hd : decode c.code pc = .ok (.aaload, 1)) (hp : pc + 1 = pc')
    (G : own_Go p.tables e below P T (mkF m pc' Ls (v :: St))) : own_Go p.tables e below P T (mkF m pc Ls (.int j :: .ref a :: St)) := by
  subst hp
  obtain ⟨vm0, locs, k0, X, eT, I⟩ := K
  obtain ⟨cl, A, q1, q2, q3, q4, q5⟩ := F
  exact own_by (fun t q => X.aaload hx (j := j) (v := v) (by rw [eT]; exact A.1) (State.isArrayOf_alike I.1.alike A.2.1) rfl A.2.2 (inb_of q2 hj) (q4.at (inb_of q2 hj) hv) (g := mkF m pc Ls (.int j :: .ref a :: St)) rfl rfl hd _ q) G
theorem own_len {ty : FieldType} (K : own_S w kf EL p l e R s m args below meth c Z a0 own h0 ws T h fs cells slots) (hx : p.tables.exec = Jvm.exec) (F : Arv Z h a k ty n vs dv) (hd : decode c.code pc = .ok (.arraylength, 1)) (hp : pc + 1 = pc')
    (G : own_Go p.tables e below P T (mkF m pc' Ls (.int n :: St))) : own_Go p.tables e below P T (mkF m pc Ls (.ref a :: St)) := by
  subst hp
  obtain ⟨vm0, locs, k0, X, eT, I⟩ := K
  obtain ⟨cl, A, q1, q2, q3, q4, q5⟩ := F
  refine own_by (fun t q => X.arraylength hx (by rw [eT]; exact A.1) (State.isArrayOf_alike I.1.alike A.2.1) (g := mkF m pc Ls (.ref a :: St)) rfl rfl hd _ ?_) G
  rw [len_of q2 q3]; exact q
end OwnArr
theorem own_acmp {x y : Value} {cd : ACond} {o : Int} (K : own_S w kf EL p l e R s m args below meth c Z a0 own h0 ws T h fs cells slots) (hx : p.tables.exec = Jvm.exec) (h1 : x.isRef = true) (h2 : y.isRef = true) (same : Bool) (hq : decide (x = y) = same) (hd : decode c.code pc = .ok (.if_acmp cd o, 3)) (ho : 0 ≤ (pc : Int) + o) (hp : pc' = if acV cd same = true then ((pc : Int) + o).toNat else pc + 3)
    (G : own_Go p.tables e below P T (mkF m pc' Ls St)) : own_Go p.tables e below P T (mkF m pc Ls (y :: x :: St)) := by
  obtain ⟨vm0, locs, k0, X, eT, I⟩ := K
  exact own_by (fun t q => acmp X hx (g := mkF m pc Ls (y :: x :: St)) rfl h1 h2 rfl hd rfl hq ho hp q) G
theorem own_irem {x y z : Int32} (K : own_S w kf EL p l e R s m args below meth c Z a0 own h0 ws T h fs cells slots) (hx : p.tables.exec = Jvm.exec) (hy : y ≠ 0) (hz : x % y = z) (hd : decode c.code pc = .ok (.irem, 1)) (hp : pc + 1 = pc')
    (G : own_Go p.tables e below P T (mkF m pc' Ls (.int z :: St))) : own_Go p.tables e below P T (mkF m pc Ls (.int y :: .int x :: St)) := by
  subst hp hz
  obtain ⟨vm0, locs, k0, X, eT, I⟩ := K
  exact own_by (fun t q => iremM X hx (g := mkF m pc Ls (.int y :: .int x :: St)) rfl hd rfl hy q) G
end OwnHeap
section OwnInst
variable {p : Program} {l : Launch} {e : Env} {R : Room} {s : State} {m : MethodId} {args : Array Value} {below : List Frame} {meth : Method} {c : Code} {T : State} {cells slots : Nat} {Z : State} {a0 : Array Value} {h h0 : Heap} {w kf : Bool} {EL : List (String × Nat)} {own : String} {ws fs : List Addr} {P : Outcome → State → Prop} {pc pc' : Nat} {Ls : Array Slot} {St : List Value} {index : Nat}
/-- C, right beneath O, which has no superclass, is no K -/
theorem own_notSub {C O K : String} {n : Nat} (w1 : (Cond.superclass C O).before a0 Z = true) (w2 : (Cond.noSuperclass O).before a0 Z = true) (wi : (Cond.instantiable K n).before a0 Z = true) (hC : C ≠ K) (hO : O ≠ K) : ∃ cc t, Z.vm.findClass C = some cc ∧ Z.vm.findClass K = some t ∧ Z.vm.assignable cc t = false := by
  obtain ⟨t, kt, g1, g2, g3, g4, -⟩ := Cond.instantiable_spec wi
  obtain ⟨o, ko, o1, o2, o3, -, -⟩ := Cond.noSuperclass_spec w2
  obtain ⟨cc, h0⟩ := found_sup w1
  obtain ⟨p, k, kp, h1, h2, h3, h4, h5, -, h7⟩ := Cond.superclass_spec h0 w1
  cases o1.symm.trans h1
  have ne := ids_ne h0 g1 hC
  have ne' := ids_ne o1 g1 hO
  have gi : kt.isInterface = false := by
    cases hi : kt.isInterface
    · rfl
    · rw [hi] at g4; cases g4
  have sub : ∀ fuel, Z.vm.isSubclassAux fuel cc t = false := fun fuel => by
    cases fuel with
    | zero => rfl
    | succ f =>
      cases f with
      | zero => simp [Vm.isSubclassAux, ne, h2, h4]
      | succ f => simp [Vm.isSubclassAux, ne, ne', h2, h4, o2, o3]
  refine ⟨cc, t, h0, g1, ?_⟩
  show Z.vm.assignableAux (255 + 1) cc t = false
  simp [Vm.assignableAux, ne, h2, g2, h5, g3, gi, Vm.isSubclass, sub]
theorem own_instN {C K : String} {a : Addr} (Kk : own_S w kf EL p l e R s m args below meth c Z a0 own h0 ws T h fs cells slots) (hx : p.tables.exec = Jvm.exec) (w1 : (Cond.classLink own index K).before a0 Z = true) (E : Exa Z h a C) (F : ∃ cc t, Z.vm.findClass C = some cc ∧ Z.vm.findClass K = some t ∧ Z.vm.assignable cc t = false) (hd : decode c.code pc = .ok (.instanceof index, 3)) (hp : pc + 3 = pc')
    (G : ∀ T' : State, own_S w kf EL p l e R s m args below meth c Z a0 own h0 ws T' h fs cells slots → own_Go p.tables e below P T' (mkF m pc' Ls (.int 0 :: St))) : own_Go p.tables e below P T (mkF m pc Ls (.ref a :: St)) := by
  subst hp
  obtain ⟨vm0, locs, k0, X, eT, I⟩ := Kk
  obtain ⟨T', X', e', st⟩ := instNo X hx I.1 I.2.1 w1 eT E F (g := mkF m pc Ls (.ref a :: St)) rfl rfl hd
  exact own_by st (G T' ⟨vm0, locs, k0, X', e', I⟩)
theorem own_instNull (Kk : own_S w kf EL p l e R s m args below meth c Z a0 own h0 ws T h fs cells slots) (hx : p.tables.exec = Jvm.exec) (hd : decode c.code pc = .ok (.instanceof index, 3)) (hp : pc + 3 = pc')
    (G : own_Go p.tables e below P T (mkF m pc' Ls (.int 0 :: St))) : own_Go p.tables e below P T (mkF m pc Ls (.null :: St)) := by
  subst hp
  obtain ⟨vm0, locs, k0, X, eT, I⟩ := Kk
  exact own_by (fun t q => X.instanceofNull hx (g := mkF m pc Ls (.null :: St)) rfl rfl hd t q) G
theorem own_castNull (Kk : own_S w kf EL p l e R s m args below meth c Z a0 own h0 ws T h fs cells slots) (hx : p.tables.exec = Jvm.exec) (hd : decode c.code pc = .ok (.checkcast index, 3)) (hp : pc + 3 = pc')
    (G : own_Go p.tables e below P T (mkF m pc' Ls (.null :: St))) : own_Go p.tables e below P T (mkF m pc Ls (.null :: St)) := by
  subst hp
  obtain ⟨vm0, locs, k0, X, eT, I⟩ := Kk
  exact own_by (fun t q => X.checkcastNull hx (g := mkF m pc Ls (.null :: St)) rfl rfl hd t q) G
end OwnInst
/-! OWN KIT, calls -/
section OwnCalls
variable {p : Program} {l : Launch} {e : Env} {R : Room} {s : State} {m : MethodId} {args : Array Value} {below : List Frame} {meth : Method} {c : Code} {T : State} {cells slots : Nat} {Z : State} {a0 : Array Value} {h h0 : Heap} {w kf : Bool} {EL : List (String × Nat)} {own : String} {ws ws' fs : List Addr} {P : Outcome → State → Prop} {pc pc' : Nat} {Ls : Array Slot} {St : List Value} {index : Nat}
variable {y z : MethodName} {bytes : ByteArray} {maxL len W : Nat} {ret : Option FieldType} {rm : Room} {as' : Array Value} {Q' : Option Value → Heap → Prop} {vm0 : Vm} {locs : List Loc} {k0 : Nat} {argsL rest : List Value}
abbrev own_BackF (l : Launch) (R : Room) (p : Program) (e : Env) (below : List Frame) (s : State) (args : Array Value) (y : MethodName) (len W : Nat) (as' : Array Value) (h : Heap) (kc ks : Nat) (Q : Option Value → Heap → List Loc → Prop) : Prop :=
  Back l R p e below s args y len W (fun A a => a = as' ∧ A.U.heap = h ∧ A.cells + kc ≤ R.cells ∧ A.slots + ks ≤ R.slots) (fun A _ v B => ∃ L, Q v B.U.heap L ∧ B.locs = A.locs ++ L ∧ B.cells = A.cells + kc ∧ B.slots = A.slots + ks)
/-- a callee's contract, where the tables stay -/
theorem own_backN (hM : own_Met false kf EL l Z a0 y bytes maxL ret [] rm as' h ws' Q') (I : own_I false kf EL s m below Z a0 own h0 ws h fs vm0 locs k0) (hw : ∀ x ∈ ws', x ∈ fs) (wc : (Cond.code y bytes maxL ret).before a0 Z = true) (wz : (Cond.initialized y.cls).before a0 Z = true) (hf : rm.frames + 1 ≤ R.frames) (hl : W + (maxL + 11) + rm.locals ≤ R.locals) :
    own_BackF l R p e below (s.setVm vm0) args y len W as' h rm.cells rm.slots (fun v h' L => Q' v h' ∧ Keep h h' ws' ∧ Fr Z.heap.size L) := by
  obtain ⟨h1, h2, h3, h4, h5, h6, h7, h8, h9, h10, h11, hst0, h12⟩ := I
  exact Back.of_freeG (bytes := bytes) (maxL := maxL) (ret := ret) (E := fun _ _ o t L k n => k = rm.cells ∧ n = rm.slots ∧ ∃ v, o = .returned v ∧ Q' v t.heap ∧ Keep h t.heap ws' ∧ Fr Z.heap.size L) hM hf hl
    (fun m meth c A a Y hp => have hU : Z.Warmed39 A.U.vm := wtrans (s := s.setVm vm0) h1 Y.warmed
      ⟨by show (Cond.and _ .tt).before a A.U = true; rw [Cond.before_and, mv hU wc]; rfl, mv hU wc, mv hU wz, hp.2.2.1, hp.2.2.2⟩)
    (fun m meth c A a g mk Y hp => have C : CHr Z EL vm0 h A.U.vm h := CHv.at Y h1 h8 h9.1
      ⟨hp.1, wtrans (s := s.setVm vm0) h1 Y.warmed, hp.2.1, h4, h8, C.1, fun x hx => have q := h12 x (hw x hx); ⟨q.2.1, q.2.2.1, C.safe q.2.2.1 q.2.2.2⟩⟩)
    (fun m meth c A a g mk Y _ hg q => known_frames Y hg (h11 q).1 (h11 q).2)
    (fun _ _ _ _ ⟨v, L, g1, g2, g3, g4, g5, g6⟩ => ⟨L, _, _, g6.2 rfl, rfl, rfl, v, g1, g2, g3, g4⟩)
    (fun m meth c A a g mk v t L k n Y hp _ _ ⟨e1, e2, v', e3, e4⟩ => by cases e3; subst e1 e2; exact ⟨L, e4, rfl, rfl, rfl⟩)
/-- a callee's contract, where it may intern -/
theorem own_backW (hM : own_Met true kf EL l Z a0 y bytes maxL ret [] rm as' h ws' Q') (I : own_I true kf EL s m below Z a0 own h0 ws h fs vm0 locs k0) (hw : ∀ x ∈ ws', x ∈ fs) (wc : (Cond.code y bytes maxL ret).before a0 Z = true) (wz : (Cond.initialized y.cls).before a0 Z = true) (hf : rm.frames + 1 ≤ R.frames) (hl : W + (maxL + 11) + rm.locals ≤ R.locals) :
    BackS l R p e below (s.setVm vm0) args y len W (fun A a => a = as' ∧ A.U.heap = h ∧ A.cells + rm.cells ≤ R.cells ∧ A.slots + rm.slots ≤ R.slots)
      (fun A _ v B => ∃ L, (Q' v B.U.heap ∧ Keep h B.U.heap ws' ∧ Fr Z.heap.size L ∧ CHr Z EL vm0 h B.U.vm B.U.heap) ∧ B.locs = A.locs ++ L ∧ B.cells = A.cells + rm.cells ∧ B.slots = A.slots + rm.slots) := by
  obtain ⟨h1, h2, h3, h4, h5, h6, h7, h8, h9, h10, h11, hst0, h12⟩ := I
  exact BackS.of_freeWG (bytes := bytes) (maxL := maxL) (ret := ret) (E := fun _ first o t L k n => k = rm.cells ∧ n = rm.slots ∧ (∃ v, o = .returned v ∧ Q' v t.heap ∧ Keep h t.heap ws' ∧ Fr Z.heap.size L) ∧ CHr Z EL first.vm h t.vm t.heap) hM hf hl
    (fun m meth c A a Y hp => have hU : Z.Warmed39 A.U.vm := wtrans (s := s.setVm vm0) h1 Y.warmed
      ⟨by show (Cond.and _ .tt).before a A.U = true; rw [Cond.before_and, mv hU wc]; rfl, mv hU wc, mv hU wz, hp.2.2.1, hp.2.2.2⟩)
    (fun m meth c A a g mk Y hp => have C : CHr Z EL vm0 h A.U.vm h := CHv.at Y h1 h8 h9.1
      ⟨hp.1, wtrans (s := s.setVm vm0) h1 Y.warmed, hp.2.1, h4, h8, C.1, fun x hx => have q := h12 x (hw x hx); ⟨q.2.1, q.2.2.1, C.safe q.2.2.1 q.2.2.2⟩⟩)
    (fun m meth c A a g mk Y _ hg q => known_frames Y hg (h11 q).1 (h11 q).2)
    (fun _ _ _ _ ⟨v, L, g1, g2, g3, g4, g5, g6⟩ => ⟨L, _, _, g6.1 rfl, rfl, rfl, ⟨v, g1, g2, g3, g4⟩, g5⟩)
    (fun m meth c A a g mk v t L k n Y hp _ _ ⟨e1, e2, ⟨v', e3, e4, e5, e6⟩, e7⟩ => by
      cases e3; subst e1 e2
      exact ⟨L, ⟨e4, e5, e6, (CHv.at Y h1 h8 h9.1).trans e7⟩, rfl, rfl, rfl⟩)
/-- where the walk stands behind a callee that leaves the tables -/
theorem own_afterN {B : Pt} {kc ks : Nat} {L : List Loc} (I : own_I w kf EL s m below Z a0 own h0 ws h fs vm0 locs k0) (X' : Stand p l e R (s.setVm vm0) m args below meth c B.U B.locs B.cells B.slots) (Kp : Keep h B.U.heap ws') (hw : ∀ x ∈ ws', x ∈ fs) (hL : Fr Z.heap.size L) (e1 : B.locs = locs ++ L) (e2 : B.cells = cells + kc) (e3 : B.slots = slots + ks) :
    own_S w kf EL p l e R s m args below meth c Z a0 own h0 ws B.U B.U.heap fs (cells + kc) (slots + ks) := by
  rw [e1, e2, e3] at X'
  exact ⟨vm0, _, k0, X', rfl, I.keep Kp hw hL⟩
theorem own_afterW {B : Pt} {kc ks : Nat} {L : List Loc} (I : own_I true kf EL s m below Z a0 own h0 ws h fs vm0 locs k0) (X' : Stand p l e R ((s.setVm vm0).setVm B.U.vm) m args below meth c B.U B.locs B.cells B.slots) (S : (s.setVm vm0).Since B.U.vm B.U.heap.size) (C : CHr Z EL vm0 h B.U.vm B.U.heap) (Kp : Keep h B.U.heap ws') (hw : ∀ x ∈ ws', x ∈ fs) (hL : Fr Z.heap.size L) (e1 : B.locs = locs ++ L) (e2 : B.cells = cells + kc) (e3 : B.slots = slots + ks) :
    own_S true kf EL p l e R s m args below meth c Z a0 own h0 ws B.U B.U.heap fs (cells + kc) (slots + ks) := by
  rw [e1, e2, e3] at X'
  exact ⟨B.U.vm, _, _, X', rfl, I.wide rfl C S Kp.1 (Nat.le_refl _) Kp hw hL⟩

/-- invokestatic of a body by its contract -/
theorem own_callS (K : own_S w kf EL p l e R s m args below meth c Z a0 own h0 ws T h fs cells slots) (hx : p.tables.exec = Jvm.exec) (hsz : Ls.size = c.maxLocals)
    (w1 : (Cond.methodLink own index y).before a0 Z = true) (w2 : (Cond.static y).before a0 Z = true) (wz : (Cond.initialized y.cls).before a0 Z = true) (wc : (Cond.code y bytes maxL ret).before a0 Z = true) (hy : y.cls ≠ "java/lang/invoke/MethodHandle" ∧ y.cls ≠ "java/lang/invoke/VarHandle")
    (hM : own_Met w kf EL l Z a0 y bytes maxL ret [] rm argsL.toArray h ws' Q') (hw : ∀ x ∈ ws', x ∈ fs) (hlen : ∀ sig, parseMethodDescriptor y.desc = some sig → argsL.length = sig.parameters.length) (hst : St = argsL.reverse ++ rest) (W : Nat) (hW : (rest.map fun v => v.category).sum ≤ W)
    (hd : decode c.code pc = .ok (.invokestatic index, 3)) (hp : pc + 3 = pc') (hf : rm.frames + 1 ≤ R.frames) (hl : W + (maxL + 11) + rm.locals ≤ R.locals) (hc : cells + rm.cells ≤ R.cells) (hs : slots + rm.slots ≤ R.slots)
    (G : ∀ (v : Option Value) (T' : State) (h' : Heap), own_S w kf EL p l e R s m args below meth c Z a0 own h0 ws T' h' fs (cells + rm.cells) (slots + rm.slots) → Keep h h' ws' → Q' v h' → own_Go p.tables e below P T' (mkF m pc' Ls (v.toList ++ rest))) :
    own_Go p.tables e below P T (mkF m pc Ls St) := by
  subst hp
  obtain ⟨vm0, locs, k0, X, eT, I⟩ := K
  have hZ : Z.Warmed39 (s.setVm vm0).vm := I.1
  cases w with
  | false =>
    obtain ⟨v, vm₁, B, -, X', ⟨L, ⟨q1, q2, q3⟩, e1, e2, e3⟩, st⟩ := Jvm.LawKit.callS X hx (y := y) I.2.1 (mvT hZ w1) (mvT hZ w2) (mvT hZ wz) (mvT hZ wc) hy (own_backN (len := 3) (W := W) hM I hw wc wz hf hl) (g := mkF m pc Ls St) rfl hsz (argsL := argsL) (rest := rest) hlen hst (by show 2 * 0 + _ ≤ _; omega) hd (fun _ _ => ⟨rfl, eT, hc, hs⟩)
    exact own_by st (G v B.U _ (own_afterN I X' q2 hw q3 e1 e2 e3) q2 q1)
  | true =>
    obtain ⟨v, vm₁, B, -, X', hS, hgr, ⟨L, ⟨q1, q2, q3, q4⟩, e1, e2, e3⟩, st⟩ := callSS X hx (y := y) I.2.1 (mvT hZ w1) (mvT hZ w2) (mvT hZ wz) (mvT hZ wc) hy (own_backW (len := 3) (W := W) hM I hw wc wz hf hl) (g := mkF m pc Ls St) rfl hsz (argsL := argsL) (rest := rest) hlen hst (by show 2 * 0 + _ ≤ _; omega) hd (fun _ _ => ⟨rfl, eT, hc, hs⟩)
    exact own_on st (G v B.U _ (own_afterW I X' hS q4 q2 hw q3 e1 e2 e3) q2 q1)
/-- a constructor by its contract -/
theorem own_callSp {a : Addr} (K : own_S w kf EL p l e R s m args below meth c Z a0 own h0 ws T h fs cells slots) (hx : p.tables.exec = Jvm.exec) (hsz : Ls.size = c.maxLocals) (hy1 : y.name = "<init>")
    (w1 : (Cond.methodLink own index y).before a0 Z = true) (w2 : (Cond.instanceMethod y).before a0 Z = true) (wz : (Cond.initialized y.cls).before a0 Z = true) (wc : (Cond.code y bytes maxL none).before a0 Z = true) (hy : y.cls ≠ "java/lang/invoke/MethodHandle" ∧ y.cls ≠ "java/lang/invoke/VarHandle")
    (hM : own_Met w kf EL l Z a0 y bytes maxL none [] rm (.ref a :: argsL).toArray h ws' Q') (hw : ∀ x ∈ ws', x ∈ fs) (hlen : ∀ sig, parseMethodDescriptor y.desc = some sig → argsL.length = sig.parameters.length) (hst : St = argsL.reverse ++ .ref a :: rest) (W : Nat) (hW : (rest.map fun v => v.category).sum ≤ W)
    (hd : decode c.code pc = .ok (.invokespecial index, 3)) (hp : pc + 3 = pc') (hf : rm.frames + 1 ≤ R.frames) (hl : W + (maxL + 11) + rm.locals ≤ R.locals) (hc : cells + rm.cells ≤ R.cells) (hs : slots + rm.slots ≤ R.slots)
    (G : ∀ (v : Option Value) (T' : State) (h' : Heap), own_S w kf EL p l e R s m args below meth c Z a0 own h0 ws T' h' fs (cells + rm.cells) (slots + rm.slots) → Keep h h' ws' → Q' v h' → own_Go p.tables e below P T' (mkF m pc' Ls (v.toList ++ rest))) :
    own_Go p.tables e below P T (mkF m pc Ls St) := by
  subst hp
  obtain ⟨vm0, locs, k0, X, eT, I⟩ := K
  have hZ : Z.Warmed39 (s.setVm vm0).vm := I.1
  cases w with
  | false =>
    obtain ⟨v, vm₁, B, -, X', ⟨L, ⟨q1, q2, q3⟩, e1, e2, e3⟩, st⟩ := X.specialBack hx (y := y) hy1 I.2.1 (mvT hZ w1) (mvT hZ w2) (mvT hZ wc) hy (own_backN (len := 3) (W := W) hM I hw wc wz hf hl) (g := mkF m pc Ls St) rfl hsz (Steps.refl _) (a := a) (argsL := argsL) (rest := rest) hlen hst (by show 2 * 0 + _ ≤ _; omega) hd (fun _ _ => ⟨rfl, eT, hc, hs⟩)
    exact own_on st (G v B.U _ (own_afterN I X' q2 hw q3 e1 e2 e3) q2 q1)
  | true =>
    obtain ⟨v, vm₁, B, -, X', hS, hgr, ⟨L, ⟨q1, q2, q3, q4⟩, e1, e2, e3⟩, st⟩ := X.specialBackS hx (y := y) hy1 I.2.1 (mvT hZ w1) (mvT hZ w2) (mvT hZ wc) hy (own_backW (len := 3) (W := W) hM I hw wc wz hf hl) (g := mkF m pc Ls St) rfl hsz (Steps.refl _) (a := a) (argsL := argsL) (rest := rest) hlen hst (by show 2 * 0 + _ ≤ _; omega) hd (fun _ _ => ⟨rfl, eT, hc, hs⟩)
    exact own_on st (G v B.U _ (own_afterW I X' hS q4 q2 hw q3 e1 e2 e3) q2 q1)
/-- invokevirtual by the contract of the body that the receiver's class selects -/
theorem own_callV {C : String} {b : Addr} (K : own_S w kf EL p l e R s m args below meth c Z a0 own h0 ws T h fs cells slots) (hx : p.tables.exec = Jvm.exec) (hsz : Ls.size = c.maxLocals)
    (w1 : (Cond.methodLink own index y).before a0 Z = true) (w2 : (Cond.declares y).before a0 Z = true) (hnf : ∀ U : State, Z.Warmed39 U.vm → NotFace U y) (w3 : (Cond.selects C y z).before a0 Z = true) (w4 : (Cond.instanceMethod z).before a0 Z = true) (wz : (Cond.initialized z.cls).before a0 Z = true) (wc : (Cond.code z bytes maxL ret).before a0 Z = true) (hy : y.cls ≠ "java/lang/invoke/MethodHandle" ∧ y.cls ≠ "java/lang/invoke/VarHandle") (E : Exa Z h b C)
    (hM : own_Met w kf EL l Z a0 z bytes maxL ret [] rm (.ref b :: argsL).toArray h ws' Q') (hw : ∀ x ∈ ws', x ∈ fs) (hlen : ∀ sig, parseMethodDescriptor y.desc = some sig → argsL.length = sig.parameters.length) (hst : St = argsL.reverse ++ .ref b :: rest) (W : Nat) (hW : (rest.map fun v => v.category).sum ≤ W)
    (hd : decode c.code pc = .ok (.invokevirtual index, 3)) (hp : pc + 3 = pc') (hf : rm.frames + 1 ≤ R.frames) (hl : W + (maxL + 11) + rm.locals ≤ R.locals) (hc : cells + rm.cells ≤ R.cells) (hs : slots + rm.slots ≤ R.slots)
    (G : ∀ (v : Option Value) (T' : State) (h' : Heap), own_S w kf EL p l e R s m args below meth c Z a0 own h0 ws T' h' fs (cells + rm.cells) (slots + rm.slots) → Keep h h' ws' → Q' v h' → own_Go p.tables e below P T' (mkF m pc' Ls (v.toList ++ rest))) :
    own_Go p.tables e below P T (mkF m pc Ls St) := by
  subst hp
  obtain ⟨vm0, locs, k0, X, eT, I⟩ := K
  have hZ : Z.Warmed39 (s.setVm vm0).vm := I.1
  obtain ⟨cB, kB, b1, b2, b3⟩ := isOf hZ eT E
  cases w with
  | false =>
    obtain ⟨v, vm₁, B, -, X', ⟨L, ⟨q1, q2, q3⟩, e1, e2, e3⟩, st⟩ := X.virtualBack hx (y := y) (z := z) I.2.1 (mvT hZ w1) (mvT hZ w2) (hnf _ hZ) (mvT hZ w3) (mvT hZ w4) hy (own_backN (len := 3) (W := W) hM I hw wc wz hf hl) b1 b3 (g := mkF m pc Ls St) rfl hsz (Steps.refl _) (argsL := argsL) (rest := rest) hlen hst (by show 2 * 0 + _ ≤ _; omega) hd (fun _ _ => ⟨rfl, eT, hc, hs⟩)
    exact own_on st (G v B.U _ (own_afterN I X' q2 hw q3 e1 e2 e3) q2 q1)
  | true =>
    obtain ⟨v, vm₁, B, -, X', hS, hgr, ⟨L, ⟨q1, q2, q3, q4⟩, e1, e2, e3⟩, st⟩ := X.virtualBackS hx (y := y) (z := z) I.2.1 (mvT hZ w1) (mvT hZ w2) (hnf _ hZ) (mvT hZ w3) (mvT hZ w4) hy (own_backW (len := 3) (W := W) hM I hw wc wz hf hl) b1 b3 (g := mkF m pc Ls St) rfl hsz (Steps.refl _) (argsL := argsL) (rest := rest) hlen hst (by show 2 * 0 + _ ≤ _; omega) hd (fun _ _ => ⟨rfl, eT, hc, hs⟩)
    exact own_on st (G v B.U _ (own_afterW I X' hS q4 q2 hw q3 e1 e2 e3) q2 q1)
/-- invokevirtual where the entry names a class beneath the declaring one -/
theorem own_callVU {C owner : String} {b : Addr} (K : own_S w kf EL p l e R s m args below meth c Z a0 own h0 ws T h fs cells slots) (hx : p.tables.exec = Jvm.exec) (hsz : Ls.size = c.maxLocals)
    (w1 : (Cond.methodLink own index y).before a0 Z = true) (wsm : (Cond.sameMethod y.cls owner y.name y.desc).before a0 Z = true) (w2 : (Cond.declares ⟨owner, y.name, y.desc⟩).before a0 Z = true) (w3 : (Cond.selects C y z).before a0 Z = true) (w4 : (Cond.instanceMethod z).before a0 Z = true) (wz : (Cond.initialized z.cls).before a0 Z = true) (wc : (Cond.code z bytes maxL ret).before a0 Z = true) (hy : owner ≠ "java/lang/invoke/MethodHandle" ∧ owner ≠ "java/lang/invoke/VarHandle") (E : Exa Z h b C)
    (hM : own_Met w kf EL l Z a0 z bytes maxL ret [] rm (.ref b :: argsL).toArray h ws' Q') (hw : ∀ x ∈ ws', x ∈ fs) (hlen : ∀ sig, parseMethodDescriptor y.desc = some sig → argsL.length = sig.parameters.length) (hst : St = argsL.reverse ++ .ref b :: rest) (W : Nat) (hW : (rest.map fun v => v.category).sum ≤ W)
    (hd : decode c.code pc = .ok (.invokevirtual index, 3)) (hp : pc + 3 = pc') (hf : rm.frames + 1 ≤ R.frames) (hl : W + (maxL + 11) + rm.locals ≤ R.locals) (hc : cells + rm.cells ≤ R.cells) (hs : slots + rm.slots ≤ R.slots)
    (G : ∀ (v : Option Value) (T' : State) (h' : Heap), own_S w kf EL p l e R s m args below meth c Z a0 own h0 ws T' h' fs (cells + rm.cells) (slots + rm.slots) → Keep h h' ws' → Q' v h' → own_Go p.tables e below P T' (mkF m pc' Ls (v.toList ++ rest))) :
    own_Go p.tables e below P T (mkF m pc Ls St) := by
  subst hp
  obtain ⟨vm0, locs, k0, X, eT, I⟩ := K
  have hZ : Z.Warmed39 (s.setVm vm0).vm := I.1
  obtain ⟨cB, kB, b1, b2, b3⟩ := isOf hZ eT E
  cases w with
  | false =>
    obtain ⟨v, vm₁, B, -, X', ⟨L, ⟨q1, q2, q3⟩, e1, e2, e3⟩, st⟩ := X.virtualBackUp hx (x := y) (y := z) I.2.1 (mvT hZ w1) (mvT hZ wsm) (mvT hZ w2) hy (mvT hZ w3) (mvT hZ w4) (own_backN (len := 3) (W := W) hM I hw wc wz hf hl) b1 b3 (g := mkF m pc Ls St) rfl hsz (Steps.refl _) (argsL := argsL) (rest := rest) hlen hst (by show 2 * 0 + _ ≤ _; omega) hd (fun _ _ => ⟨rfl, eT, hc, hs⟩)
    exact own_on st (G v B.U _ (own_afterN I X' q2 hw q3 e1 e2 e3) q2 q1)
  | true =>
    obtain ⟨v, vm₁, B, -, X', hS, hgr, ⟨L, ⟨q1, q2, q3, q4⟩, e1, e2, e3⟩, st⟩ := virtualBackUpS X hx (x := y) (y := z) I.2.1 (mvT hZ w1) (mvT hZ wsm) (mvT hZ w2) hy (mvT hZ w3) (mvT hZ w4) (own_backW (len := 3) (W := W) hM I hw wc wz hf hl) b1 b3 (g := mkF m pc Ls St) rfl hsz (Steps.refl _) (argsL := argsL) (rest := rest) hlen hst (by show 2 * 0 + _ ≤ _; omega) hd (fun _ _ => ⟨rfl, eT, hc, hs⟩)
    exact own_on st (G v B.U _ (own_afterW I X' hS q4 q2 hw q3 e1 e2 e3) q2 q1)
/-- a static JDK member by a law of its own -/
theorem own_byS {kc ks : Nat} {QL : Option Value → Heap → List Loc → Prop} (K : own_S w kf EL p l e R s m args below meth c Z a0 own h0 ws T h fs cells slots) (hx : p.tables.exec = Jvm.exec) (hsz : Ls.size = c.maxLocals)
    (w1 : (Cond.methodLink own index y).before a0 Z = true) (w2 : (Cond.static y).before a0 Z = true) (wz : (Cond.initialized y.cls).before a0 Z = true) (wc : (Cond.code y bytes maxL ret).before a0 Z = true) (hy : y.cls ≠ "java/lang/invoke/MethodHandle" ∧ y.cls ≠ "java/lang/invoke/VarHandle")
    (hB : ∀ vm0 : Vm, Z.Warmed39 (s.setVm vm0).vm → own_BackF l R p e below (s.setVm vm0) args y 3 W argsL.toArray h kc ks QL) (hQ : ∀ v h' L, QL v h' L → Keep h h' ws' ∧ Fr Z.heap.size L) (hw : ∀ x ∈ ws', x ∈ fs) (hlen : ∀ sig, parseMethodDescriptor y.desc = some sig → argsL.length = sig.parameters.length) (hst : St = argsL.reverse ++ rest) (hW : (rest.map fun v => v.category).sum ≤ W)
    (hd : decode c.code pc = .ok (.invokestatic index, 3)) (hp : pc + 3 = pc') (hc : cells + kc ≤ R.cells) (hs : slots + ks ≤ R.slots)
    (G : ∀ (v : Option Value) (T' : State) (h' : Heap) (L : List Loc), own_S w kf EL p l e R s m args below meth c Z a0 own h0 ws T' h' fs (cells + kc) (slots + ks) → Keep h h' ws' → QL v h' L → own_Go p.tables e below P T' (mkF m pc' Ls (v.toList ++ rest))) :
    own_Go p.tables e below P T (mkF m pc Ls St) := by
  subst hp
  obtain ⟨vm0, locs, k0, X, eT, I⟩ := K
  have hZ : Z.Warmed39 (s.setVm vm0).vm := I.1
  obtain ⟨v, vm₁, B, -, X', ⟨L, q1, e1, e2, e3⟩, st⟩ := Jvm.LawKit.callS X hx (y := y) I.2.1 (mvT hZ w1) (mvT hZ w2) (mvT hZ wz) (mvT hZ wc) hy (hB vm0 hZ) (g := mkF m pc Ls St) rfl hsz (argsL := argsL) (rest := rest) hlen hst (by show 2 * 0 + _ ≤ _; omega) hd (fun _ _ => ⟨rfl, eT, hc, hs⟩)
  obtain ⟨q2, q3⟩ := hQ _ _ _ q1
  exact own_by st (G v B.U _ L (own_afterN I X' q2 hw q3 e1 e2 e3) q2 q1)
/-- a constructor of the JDK by a law of its own -/
theorem own_bySp {a : Addr} {kc ks : Nat} {QL : Option Value → Heap → List Loc → Prop} (K : own_S w kf EL p l e R s m args below meth c Z a0 own h0 ws T h fs cells slots) (hx : p.tables.exec = Jvm.exec) (hsz : Ls.size = c.maxLocals) (hy1 : y.name = "<init>")
    (w1 : (Cond.methodLink own index y).before a0 Z = true) (w2 : (Cond.instanceMethod y).before a0 Z = true) (wc : (Cond.code y bytes maxL none).before a0 Z = true) (hy : y.cls ≠ "java/lang/invoke/MethodHandle" ∧ y.cls ≠ "java/lang/invoke/VarHandle")
    (hB : ∀ vm0 : Vm, Z.Warmed39 (s.setVm vm0).vm → own_BackF l R p e below (s.setVm vm0) args y 3 W (.ref a :: argsL).toArray h kc ks QL) (hQ : ∀ v h' L, QL v h' L → Keep h h' ws' ∧ Fr Z.heap.size L) (hw : ∀ x ∈ ws', x ∈ fs) (hlen : ∀ sig, parseMethodDescriptor y.desc = some sig → argsL.length = sig.parameters.length) (hst : St = argsL.reverse ++ .ref a :: rest) (hW : (rest.map fun v => v.category).sum ≤ W)
    (hd : decode c.code pc = .ok (.invokespecial index, 3)) (hp : pc + 3 = pc') (hc : cells + kc ≤ R.cells) (hs : slots + ks ≤ R.slots)
    (G : ∀ (v : Option Value) (T' : State) (h' : Heap) (L : List Loc), own_S w kf EL p l e R s m args below meth c Z a0 own h0 ws T' h' fs (cells + kc) (slots + ks) → Keep h h' ws' → QL v h' L → own_Go p.tables e below P T' (mkF m pc' Ls (v.toList ++ rest))) :
    own_Go p.tables e below P T (mkF m pc Ls St) := by
  subst hp
  obtain ⟨vm0, locs, k0, X, eT, I⟩ := K
  have hZ : Z.Warmed39 (s.setVm vm0).vm := I.1
  obtain ⟨v, vm₁, B, -, X', ⟨L, q1, e1, e2, e3⟩, st⟩ := X.specialBack hx (y := y) hy1 I.2.1 (mvT hZ w1) (mvT hZ w2) (mvT hZ wc) hy (hB vm0 hZ) (g := mkF m pc Ls St) rfl hsz (Steps.refl _) (a := a) (argsL := argsL) (rest := rest) hlen hst (by show 2 * 0 + _ ≤ _; omega) hd (fun _ _ => ⟨rfl, eT, hc, hs⟩)
  obtain ⟨q2, q3⟩ := hQ _ _ _ q1
  exact own_on st (G v B.U _ L (own_afterN I X' q2 hw q3 e1 e2 e3) q2 q1)
/-- an instance method of the JDK by a law of its own -/
theorem own_byV {C : String} {b : Addr} {kc ks : Nat} {QL : Option Value → Heap → List Loc → Prop} (K : own_S w kf EL p l e R s m args below meth c Z a0 own h0 ws T h fs cells slots) (hx : p.tables.exec = Jvm.exec) (hsz : Ls.size = c.maxLocals)
    (w1 : (Cond.methodLink own index y).before a0 Z = true) (w2 : (Cond.declares y).before a0 Z = true) (hnf : ∀ U : State, Z.Warmed39 U.vm → NotFace U y) (w3 : (Cond.selects C y z).before a0 Z = true) (w4 : (Cond.instanceMethod z).before a0 Z = true) (hy : y.cls ≠ "java/lang/invoke/MethodHandle" ∧ y.cls ≠ "java/lang/invoke/VarHandle") (E : Exa Z h b C)
    (hB : ∀ vm0 : Vm, Z.Warmed39 (s.setVm vm0).vm → own_BackF l R p e below (s.setVm vm0) args z 3 W (.ref b :: argsL).toArray h kc ks QL) (hQ : ∀ v h' L, QL v h' L → Keep h h' ws' ∧ Fr Z.heap.size L) (hw : ∀ x ∈ ws', x ∈ fs) (hlen : ∀ sig, parseMethodDescriptor y.desc = some sig → argsL.length = sig.parameters.length) (hst : St = argsL.reverse ++ .ref b :: rest) (hW : (rest.map fun v => v.category).sum ≤ W)
    (hd : decode c.code pc = .ok (.invokevirtual index, 3)) (hp : pc + 3 = pc') (hc : cells + kc ≤ R.cells) (hs : slots + ks ≤ R.slots)
    (G : ∀ (v : Option Value) (T' : State) (h' : Heap) (L : List Loc), own_S w kf EL p l e R s m args below meth c Z a0 own h0 ws T' h' fs (cells + kc) (slots + ks) → Keep h h' ws' → QL v h' L → own_Go p.tables e below P T' (mkF m pc' Ls (v.toList ++ rest))) :
    own_Go p.tables e below P T (mkF m pc Ls St) := by
  subst hp
  obtain ⟨vm0, locs, k0, X, eT, I⟩ := K
  have hZ : Z.Warmed39 (s.setVm vm0).vm := I.1
  obtain ⟨cB, kB, b1, b2, b3⟩ := isOf hZ eT E
  obtain ⟨v, vm₁, B, -, X', ⟨L, q1, e1, e2, e3⟩, st⟩ := X.virtualBack hx (y := y) (z := z) I.2.1 (mvT hZ w1) (mvT hZ w2) (hnf _ hZ) (mvT hZ w3) (mvT hZ w4) hy (hB vm0 hZ) b1 b3 (g := mkF m pc Ls St) rfl hsz (Steps.refl _) (argsL := argsL) (rest := rest) hlen hst (by show 2 * 0 + _ ≤ _; omega) hd (fun _ _ => ⟨rfl, eT, hc, hs⟩)
  obtain ⟨q2, q3⟩ := hQ _ _ _ q1
  exact own_on st (G v B.U _ L (own_afterN I X' q2 hw q3 e1 e2 e3) q2 q1)
/-- ldc of a String constant, what it holds unsaid -/
theorem own_ldc {text : String} {n : Nat} (K : own_S true kf EL p l e R s m args below meth c Z a0 own h0 ws T h fs cells slots) (hx : p.tables.exec = Jvm.exec) (w1 : (Cond.stringLink own index text).before a0 Z = true) (wS : ∀ a ∈ Bundle.stringAtoms, a.before a0 Z = true)
    (hd : decode c.code pc = .ok (.ldc index, 2)) (hp : pc + 2 = pc') (hn : 4 * text.toList.length ≤ n) (hbig : n ≤ 536870912) (hc : cells + 2 ≤ R.cells) (hs : slots + (n + 4) ≤ R.slots)
    (G : ∀ (a : Addr) (T' : State) (h' : Heap), own_S true kf EL p l e R s m args below meth c Z a0 own h0 ws T' h' fs (cells + 2) (slots + (n + 4)) → Ext h h' → own_Go p.tables e below P T' (mkF m pc' Ls (.ref a :: St))) : own_Go p.tables e below P T (mkF m pc Ls St) := by
  subst hp
  obtain ⟨vm0, locs, k0, X, eT, I⟩ := K
  obtain ⟨h1, h2, h3, h4, h5, h6, h7, h8, h9, h10, h11, hst0, h12⟩ := id I
  obtain ⟨a, T', h', k1, X', e', E, hS, hk, hZ', ho', C, -, st⟩ := ldcOH X hx h1 h2 w1 wS eT (s := s.setVm vm0) (k0 := h.size) ((State.WarmedH.refl (s.setVm vm0)).since _) (Nat.le_refl _) h8 h9.1 (g := mkF m pc Ls St) rfl hd hn hbig hc hs
  have I' := I.wide (L := []) rfl C (k1 := h'.size) ⟨hS.1, fun j q hj hq => ⟨(hS.2 j q hj hq).1, Nat.lt_of_lt_of_le (hS.2 j q hj hq).2 hk⟩⟩ E.1 (Nat.le_refl _) ((Keep.refl h []).ext E) (fun _ q => nomatch q) (Fr.nil _)
  rw [List.append_nil] at I'
  exact own_by st (G a T' h' ⟨T'.vm, locs, _, X', e', I'⟩ E)
/-- ldc of a String constant of EL, read -/
theorem own_ldcR {text : String} {n : Nat} {vs : List Value} {zn : Int32} (K : own_S true kf EL p l e R s m args below meth c Z a0 own h0 ws T h fs cells slots) (hx : p.tables.exec = Jvm.exec) (w1 : (Cond.stringLink own index text).before a0 Z = true) (wS : ∀ a ∈ Bundle.stringAtoms, a.before a0 Z = true) (hmem : (own, index) ∈ EL)
    (ht : (∀ c ∈ text.toList, c.toNat < 256) ∧ text.toList.map (fun c => Value.int (Jvm.Lit.byteI c.toNat.toUInt16)) = vs) (hz : ¬ zn < 0) (hlz : zn.toNatClampNeg = vs.length)
    (hd : decode c.code pc = .ok (.ldc index, 2)) (hp : pc + 2 = pc') (hn : 4 * text.toList.length ≤ n) (hbig : n ≤ 536870912) (hc : cells + 2 ≤ R.cells) (hs : slots + (n + 4) ≤ R.slots)
    (G : ∀ (a : Addr) (T' : State) (h' : Heap) (b : Addr) (k : ClassId), own_S true kf EL p l e R s m args below meth c Z a0 own h0 ws T' h' fs (cells + 2) (slots + (n + 4)) → Ext h h' → Exa Z h' a "java/lang/String" → Fld Z h' a "java/lang/String" "coder" "B" (.int 0) → Fld Z h' a "java/lang/String" "value" "[B" (.ref b) → Arv Z h' b k .byte zn vs (.int 0) → (∀ x ∈ fs, x ≠ a ∧ x ≠ b) →
      own_Go p.tables e below P T' (mkF m pc' Ls (.ref a :: St))) : own_Go p.tables e below P T (mkF m pc Ls St) := by
  subst hp
  obtain ⟨vm0, locs, k0, X, eT, I⟩ := K
  obtain ⟨h1, h2, h3, h4, h5, h6, h7, h8, h9, h10, h11, hst0, h12⟩ := id I
  obtain ⟨a, T', h', k1, b, k, X', e', E, hS, hk, hZ', ho', Ex, Fc, Fv, Ar, -, -, C, -, hne, st⟩ := ldcCH X hx h1 h2 w1 wS eT (s := s.setVm vm0) (k0 := h.size) ((State.WarmedH.refl (s.setVm vm0)).since _) (Nat.le_refl _) h8 hmem h9.1 ht hz hlz (g := mkF m pc Ls St) rfl hd hn hbig hc hs
  have I' := I.wide (L := []) rfl C (k1 := h'.size) ⟨hS.1, fun j q hj hq => ⟨(hS.2 j q hj hq).1, Nat.lt_of_lt_of_le (hS.2 j q hj hq).2 hk⟩⟩ E.1 (Nat.le_refl _) ((Keep.refl h []).ext E) (fun _ q => nomatch q) (Fr.nil _)
  rw [List.append_nil] at I'
  have h12' : ∀ x ∈ fs, x ≠ a ∧ x ≠ b := fun x hx => hne x (C.safe (h12 x hx).2.2.1 (h12 x hx).2.2.2)
  exact own_by st (G a T' h' b k ⟨T'.vm, locs, _, X', e', I'⟩ E Ex Fc Fv Ar h12')
end OwnCalls
/-! OWN KIT, Strings: own_Str: the object at a is a String that spells cs -/
section OwnStr
variable {Z : State} {h h' : Heap} {a x : Addr} {cs ds : List Int32} {a0 : Array Value}
def own_Str (Z : State) (h : Heap) (a : Addr) (cs : List Int32) : Prop :=
  ∃ (t : Addr) (kb : ClassId) (cd N2 : Int32) (vs : List Value), Exa Z h a "java/lang/String" ∧ Fld Z h a "java/lang/String" "value" "[B" (.ref t) ∧ Fld Z h a "java/lang/String" "coder" "B" (.int cd) ∧ Arv Z h t kb .byte N2 vs (.int 0) ∧ StrChars.Road.CodA cs cd N2 vs ∧ (∀ c ∈ cs, ¬ c < 0 ∧ ¬ (65535 : Int32) < c) ∧ cs.length ≤ 4000
theorem own_Str.exa (F : own_Str Z h a cs) : Exa Z h a "java/lang/String" := by obtain ⟨t, kb, cd, N2, vs, E, -⟩ := F; exact E
theorem own_Str.lt (F : own_Str Z h a cs) : a < h.size := F.exa.lt
theorem own_Str.ext (F : own_Str Z h a cs) (E : Ext h h') : own_Str Z h' a cs := by
  obtain ⟨t, kb, cd, N2, vs, q1, q2, q3, q4, r⟩ := F; exact ⟨t, kb, cd, N2, vs, q1.ext E, q2.ext E, q3.ext E, q4.ext E, r⟩
/-- x is neither a String's cell nor a byte[]'s -/
def own_Off (Z : State) (h : Heap) (x : Addr) : Prop := ∀ cell : Cell, h[x]? = some cell → Z.vm.findClass "java/lang/String" ≠ some cell.cls ∧ ∀ ty, Z.isArrayOf cell ty → ty ≠ .byte
theorem own_Off.exa {C : String} {n : Nat} (E : Exa Z h x C) (wi : (Cond.instantiable C n).before a0 Z = true) (hC : C ≠ "java/lang/String") : own_Off Z h x := fun cell hc => by
  obtain ⟨cell', k, h1, h2, h3, -⟩ := E
  cases hc.symm.trans h1
  obtain ⟨c2, k2, i1, i2, i3, -⟩ := Cond.instantiable_spec wi
  cases h2.symm.trans i1
  refine ⟨fun q => ?_, fun ty ⟨_, kk, hk, comp, hkind⟩ => ?_⟩
  · obtain ⟨k1, a1, a2⟩ := Vm.findClass_spec h2
    obtain ⟨k2, b1, b2⟩ := Vm.findClass_spec q
    cases a1.symm.trans b1
    exact hC (a2.symm.trans b2)
  · rw [i2] at hk; cases hk; rw [i3] at hkind; cases hkind
theorem own_Off.arr {cl : Cell} {ty : FieldType} (A : Arr Z h x cl ty) {n : Nat} (wi : (Cond.instantiable "java/lang/String" n).before a0 Z = true) (ht : ty ≠ .byte) : own_Off Z h x := fun cell hc => by
  cases hc.symm.trans A.1
  obtain ⟨-, k0, hk0, comp0, hkind0⟩ := A.2.1
  refine ⟨fun q => ?_, fun ty' ⟨_, kk, hk, comp, hkind⟩ => ?_⟩
  · obtain ⟨c2, k2, i1, i2, i3, -⟩ := Cond.instantiable_spec wi
    cases q.symm.trans i1
    rw [i2] at hk0; cases hk0; rw [i3] at hkind0; cases hkind0
  · rw [hk0] at hk; cases hk; rw [hkind0] at hkind
    injection hkind with _ e
    exact fun q => ht (e.trans q)
theorem own_Off.arv {k : ClassId} {ty : FieldType} {z : Int32} {vs : List Value} {d : Value} (A : Arv Z h x k ty z vs d) {n : Nat} (wi : (Cond.instantiable "java/lang/String" n).before a0 Z = true) (ht : ty ≠ .byte) : own_Off Z h x := by
  obtain ⟨c, A, -⟩ := A; exact own_Off.arr A wi ht
theorem own_Str.keep {ws : List Addr} (F : own_Str Z h a cs) (K : Keep h h' ws) (hn : ∀ x ∈ ws, own_Off Z h x) : own_Str Z h' a cs := by
  obtain ⟨t, kb, cd, N2, vs, q1, q2, q3, q4, r⟩ := F
  have na : a ∉ ws := fun hm => by
    obtain ⟨cell, k, h1, h2, -⟩ := q1
    exact (hn a hm cell h1).1 h2
  have nt : t ∉ ws := fun hm => by
    obtain ⟨c, A, -⟩ := q4
    exact (hn t hm c A.1).2 _ A.2.1 rfl
  exact ⟨t, kb, cd, N2, vs, q1.keep K, q2.keep K na, q3.keep K na, q4.keep K nt, r⟩
theorem own_off0 : ∀ x ∈ ([] : List Addr), own_Off Z h x := fun _ q => nomatch q
theorem own_off1 (q : own_Off Z h x) : ∀ y ∈ [x], own_Off Z h y := fun y hy => by cases List.mem_singleton.mp hy; exact q
theorem own_Str.wr {sl : Nat} {v : Value} (F : own_Str Z h a cs) (W : Wr h h' x sl v) (hn : own_Off Z h x) : own_Str Z h' a cs := F.keep (Keep.of_wr W) (own_off1 hn)
theorem own_Str.of0 {t : Addr} {kb : ClassId} {N2 : Int32} {vs : List Value} (E : Exa Z h a "java/lang/String") (V : Fld Z h a "java/lang/String" "value" "[B" (.ref t)) (C : Fld Z h a "java/lang/String" "coder" "B" (.int 0)) (K : Arv Z h t kb .byte N2 vs (.int 0)) (hN : N2 = Int32.ofNat cs.length) (hv : vs = (cs.map (fun c => c.toInt8.toInt32)).map Value.int) (hp : ∀ c ∈ cs, ¬ c < 0 ∧ ¬ (255 : Int32) < c) (hl : cs.length ≤ 4000) : own_Str Z h a cs := by
  subst hN hv
  refine ⟨t, kb, 0, _, _, E, V, C, K, StrChars.Road.codOf rfl (fun c hc => (hp c hc).2), fun c hc => ⟨(hp c hc).1, fun q => (hp c hc).2 ?_⟩, hl⟩
  rw [Int32.lt_iff_toInt_lt] at q ⊢
  have e1 : (65535 : Int32).toInt = 65535 := rfl
  have e2 : (255 : Int32).toInt = 255 := rfl
  omega
end OwnStr
section OwnStrCalls
variable {p : Program} {l : Launch} {e : Env} {R : Room} {s : State} {m : MethodId} {args : Array Value} {below : List Frame} {meth : Method} {c : Code} {T : State} {cells slots : Nat} {Z : State} {a0 : Array Value} {h h0 : Heap} {w kf : Bool} {EL : List (String × Nat)} {own : String} {ws fs : List Addr} {P : Outcome → State → Prop} {pc pc' : Nat} {Ls : Array Slot} {index : Nat} {rest : List Value} {W : Nat} {z : Int32}
/-- new String(char[]) of 1 to 4000 chars, each 0 to 255 -/
theorem own_strNew {x b : Addr} {kC : ClassId} {cs : List Int32} {d v0 c0 : Value} {N : Int32} {n : Nat} {bytes : ByteArray} {maxL : Nat} (K : own_S w kf EL p l e R s m args below meth c Z a0 own h0 ws T h fs cells slots) (hx : p.tables.exec = Jvm.exec) (hsz : Ls.size = c.maxLocals)
    (w1 : (Cond.methodLink own index (⟨"java/lang/String", "<init>", "([C)V"⟩ : MethodName)).before a0 Z = true) (w2 : (Cond.instanceMethod (⟨"java/lang/String", "<init>", "([C)V"⟩ : MethodName)).before a0 Z = true) (wc : (Cond.code (⟨"java/lang/String", "<init>", "([C)V"⟩ : MethodName) bytes maxL none).before a0 Z = true)
    (hws : ∀ d ∈ StrChars.Road.words, d.before a0 Z = true) (wi : (Cond.instantiable "java/lang/String" 4).before a0 Z = true) (ha : x ∈ fs) (E : Exa Z h x "java/lang/String") (V : Fld Z h x "java/lang/String" "value" "[B" v0) (C : Fld Z h x "java/lang/String" "coder" "B" c0) (A : Arv Z h b kC .char N (cs.map Value.int) d)
    (O2 : Sta Z Z.heap "java/lang/String" "COMPACT_STRINGS" "Z" (.int z)) (P5 : ¬ z = 0) (hn : cs.length = n) (hN : N = Int32.ofNat n) (l0 : 0 < n) (l2 : n ≤ 4000) (hp : ∀ c ∈ cs, ¬ c < 0 ∧ ¬ (255 : Int32) < c) (hpd : ∀ sig, parseMethodDescriptor "([C)V" = some sig → [Value.ref b].length = sig.parameters.length)
    (W : Nat) (hW : (rest.map fun v => v.category).sum ≤ W) (hd : decode c.code pc = .ok (.invokespecial index, 3)) (hpc : pc + 3 = pc') (hfr : 4 ≤ R.frames) (hlo : W + 65 ≤ R.locals) (hc : cells + 1 ≤ R.cells) (hs : slots + n ≤ R.slots)
    (G : ∀ (T' : State) (h' : Heap), own_S w kf EL p l e R s m args below meth c Z a0 own h0 ws T' h' fs (cells + 1) (slots + n) → Keep h h' [x] → own_Str Z h' x cs → own_Go p.tables e below P T' (mkF m pc' Ls rest)) : own_Go p.tables e below P T (mkF m pc Ls (.ref b :: .ref x :: rest)) :=
  own_bySp (W := W) K hx hsz rfl w1 w2 wc (by decide) (argsL := [.ref b]) (rest := rest) (fun vm0 hZ => StrChars.Road.backV (W := W) hZ hws wi (n0 := Z.heap.size) (own_fresh K ha).1 (own_ext0 K).1 E V C A (own_sta K O2) P5 hn hN l0 l2 hp rfl hfr hlo) (fun v h' L q => ⟨q.2.2.1, q.2.1⟩) (own_mem1 ha) hpd rfl hW hd hpc hc hs
    fun v T' h' L K' Kp ⟨hv, _, _, E', C', t, kb, _, _, _, V', A'⟩ => by subst hv; exact G T' h' K' Kp (own_Str.of0 E' V' C' A' (by rw [hN, hn]) rfl hp (by omega))
theorem own_strLen {x : Addr} {cs : List Int32} (K : own_S w kf EL p l e R s m args below meth c Z a0 own h0 ws T h fs cells slots) (hx : p.tables.exec = Jvm.exec) (hsz : Ls.size = c.maxLocals)
    (w1 : (Cond.methodLink own index (⟨"java/lang/String", "length", "()I"⟩ : MethodName)).before a0 Z = true) (w2 : (Cond.declares (⟨"java/lang/String", "length", "()I"⟩ : MethodName)).before a0 Z = true) (w3 : (Cond.selects "java/lang/String" (⟨"java/lang/String", "length", "()I"⟩ : MethodName) (⟨"java/lang/String", "length", "()I"⟩ : MethodName)).before a0 Z = true) (w4 : (Cond.instanceMethod (⟨"java/lang/String", "length", "()I"⟩ : MethodName)).before a0 Z = true)
    (hwl : ∀ d ∈ StrChars.Road.wordsLen, d.before a0 Z = true) (wi : (Cond.instantiable "java/lang/String" 4).before a0 Z = true) (F : own_Str Z h x cs) (O2 : Sta Z Z.heap "java/lang/String" "COMPACT_STRINGS" "Z" (.int z)) (P5 : ¬ z = 0) (hpd : ∀ sig, parseMethodDescriptor "()I" = some sig → ([] : List Value).length = sig.parameters.length)
    (W : Nat) (hW : (rest.map fun v => v.category).sum ≤ W) (hd : decode c.code pc = .ok (.invokevirtual index, 3)) (hpc : pc + 3 = pc') (hfr : 2 ≤ R.frames) (hlo : W + 25 ≤ R.locals) (hc : cells ≤ R.cells) (hs : slots ≤ R.slots)
    (G : ∀ T' : State, own_S w kf EL p l e R s m args below meth c Z a0 own h0 ws T' h fs cells slots → own_Go p.tables e below P T' (mkF m pc' Ls (.int (Int32.ofNat cs.length) :: rest))) : own_Go p.tables e below P T (mkF m pc Ls (.ref x :: rest)) := by
  obtain ⟨t, kb, cd, N2, vs, q1, q2, q3, q4, q5, q6, q7⟩ := id F
  refine own_byV (W := W) (QL := fun v h' L => v = some (.int (Int32.ofNat cs.length)) ∧ L = [] ∧ h' = h) K hx hsz w1 w2 (fun U hU => notFace_of_selects (args := #[]) (mvT hU w3)) w3 w4 (by decide) q1 (argsL := []) (rest := rest) (ws' := []) (fun vm0 hZ => StrChars.Road.lenW (W := W) hZ hwl wi q1 q2 q3 q4 q5 q6 (own_sta K O2) P5 q7 hfr hlo) (fun v h' L q => ⟨by rw [q.2.2]; exact Keep.refl _ _, by rw [q.2.1]; exact Fr.nil _⟩) (fun _ q => nomatch q) hpd rfl hW hd hpc hc hs ?_
  rintro v T' h' L K' Kp ⟨rfl, rfl, rfl⟩
  exact G T' K'
theorem own_strEq {x y : Addr} {cs ds : List Int32} (K : own_S w kf EL p l e R s m args below meth c Z a0 own h0 ws T h fs cells slots) (hx : p.tables.exec = Jvm.exec) (hsz : Ls.size = c.maxLocals)
    (w1 : (Cond.methodLink own index (⟨"java/lang/String", "equals", "(Ljava/lang/Object;)Z"⟩ : MethodName)).before a0 Z = true) (w2 : (Cond.declares (⟨"java/lang/String", "equals", "(Ljava/lang/Object;)Z"⟩ : MethodName)).before a0 Z = true) (w3 : (Cond.selects "java/lang/String" (⟨"java/lang/String", "equals", "(Ljava/lang/Object;)Z"⟩ : MethodName) (⟨"java/lang/String", "equals", "(Ljava/lang/Object;)Z"⟩ : MethodName)).before a0 Z = true) (w4 : (Cond.instanceMethod (⟨"java/lang/String", "equals", "(Ljava/lang/Object;)Z"⟩ : MethodName)).before a0 Z = true)
    (hwl : ∀ d ∈ StrChars.Road.wordsEq, d.before a0 Z = true) (wi : (Cond.instantiable "java/lang/String" 4).before a0 Z = true) (F : own_Str Z h x cs) (F' : own_Str Z h y ds) (O2 : Sta Z Z.heap "java/lang/String" "COMPACT_STRINGS" "Z" (.int z)) (P5 : ¬ z = 0) (hpd : ∀ sig, parseMethodDescriptor "(Ljava/lang/Object;)Z" = some sig → [Value.ref y].length = sig.parameters.length)
    (W : Nat) (hW : (rest.map fun v => v.category).sum ≤ W) (hd : decode c.code pc = .ok (.invokevirtual index, 3)) (hpc : pc + 3 = pc') (hfr : 2 ≤ R.frames) (hlo : W + 28 ≤ R.locals) (hc : cells ≤ R.cells) (hs : slots ≤ R.slots)
    (G : ∀ T' : State, own_S w kf EL p l e R s m args below meth c Z a0 own h0 ws T' h fs cells slots → own_Go p.tables e below P T' (mkF m pc' Ls (.int (if cs = ds then 1 else 0) :: rest))) : own_Go p.tables e below P T (mkF m pc Ls (.ref y :: .ref x :: rest)) := by
  obtain ⟨t, kb, cd, N2, vs, q1, q2, q3, q4, q5, q6, q7⟩ := id F
  obtain ⟨t', kb', cd', N2', vs', r1, r2, r3, r4, r5, r6, r7⟩ := id F'
  refine own_byV (W := W) (QL := fun v h' L => ((v = some (.int 1) ∧ cs = ds) ∨ (v = some (.int 0) ∧ ¬ cs = ds)) ∧ L = [] ∧ h' = h) K hx hsz w1 w2 (fun U hU => notFace_of_selects (args := #[]) (mvT hU w3)) w3 w4 (by decide) q1 (argsL := [.ref y]) (rest := rest) (ws' := []) (fun vm0 hZ => StrChars.Road.eqW (W := W) hZ hwl wi q1 q2 q3 q4 q5 q6 q7 r1 r2 r3 r4 r5 r6 r7 (own_sta K O2) P5 hfr hlo) (fun v h' L q => ⟨by rw [q.2.2]; exact Keep.refl _ _, by rw [q.2.1]; exact Fr.nil _⟩) (fun _ q => nomatch q) hpd rfl hW hd hpc hc hs ?_
  rintro v T' h' L K' Kp ⟨⟨rfl, hq⟩ | ⟨rfl, hq⟩, rfl, rfl⟩
  · have := G T' K'; rw [if_pos hq] at this; exact this
  · have := G T' K'; rw [if_neg hq] at this; exact this
end OwnStrCalls
/-! OWN KIT, UTF-16: plain facts on bytes of wide Strings -/
section OwnUtf
open StrChars StrChars.Road
theorem own_nat0 {i : Nat} (h : i < 2 ^ 31) : ¬ Int32.ofNat i < 0 := by
  rw [Int32.lt_iff_toInt_lt, Int32.toInt_ofNat_small h]
  have e0 : (0 : Int32).toInt = 0 := rfl
  omega
theorem own_natlt {i n : Nat} (hn : n < 2 ^ 31) (h : i < n) : ¬ Int32.ofNat i < 0 ∧ Int32.ofNat i < Int32.ofNat n := by
  refine ⟨own_nat0 (by omega), ?_⟩
  rw [Int32.lt_iff_toInt_lt, Int32.toInt_ofNat_small (by omega), Int32.toInt_ofNat_small hn]; omega
theorem own_natcl {i : Nat} (h : i < 2 ^ 31) : (Int32.ofNat i).toNatClampNeg = i := by
  rw [Int32.toNatClampNeg, Int32.toInt_ofNat_small h]; simp
theorem own_natinc (k : Nat) : Int32.ofNat k + Int32.ofInt 1 = Int32.ofNat (k + 1) := by
  rw [show Int32.ofInt 1 = Int32.ofNat 1 from rfl, ← Int32.ofNat_add]
theorem own_natinc' (k : Nat) : Int32.ofNat k + (1 : Int32) = Int32.ofNat (k + 1) := own_natinc k
theorem own_natinj {i n : Nat} (hi : i < 2 ^ 31) (hn : n < 2 ^ 31) (h : Int32.ofNat i = Int32.ofNat n) : i = n := by
  have := congrArg Int32.toInt h
  rw [Int32.toInt_ofNat_small hi, Int32.toInt_ofNat_small hn] at this; omega
theorem own_shl1 {n : Nat} (h : n ≤ 4000) : Int32.ofNat n <<< ((1 : Int32) &&& 31) = Int32.ofNat (2 * n) := by
  have t : ∀ a b : Fin 64, Int32.ofNat (64 * a.val + b.val) <<< ((1 : Int32) &&& 31) = Int32.ofNat (2 * (64 * a.val + b.val)) := by decide +kernel
  have q := t ⟨n / 64, by omega⟩ ⟨n % 64, by omega⟩
  rwa [show 64 * (n / 64) + n % 64 = n by omega] at q
theorem own_cfa0 (n : Int32) : (((n - n).toUInt32 >>> ((31 : Int32) &&& 31).toUInt32).toInt32).toInt8.toInt32 = 0 := by rw [Int32.sub_self]; decide
theorem own_cfa1 {n : Nat} (h0 : 0 < n) (h : n ≤ 4000) : (((Int32.ofNat n - Int32.ofNat (2 * n)).toUInt32 >>> ((31 : Int32) &&& 31).toUInt32).toInt32).toInt8.toInt32 = 1 := by
  have t : ∀ a b : Fin 64, 0 < 64 * a.val + b.val → (((Int32.ofNat (64 * a.val + b.val) - Int32.ofNat (2 * (64 * a.val + b.val))).toUInt32 >>> ((31 : Int32) &&& 31).toUInt32).toInt32).toInt8.toInt32 = 1 := by decide +kernel
  have q := t ⟨n / 64, by omega⟩ ⟨n % 64, by omega⟩
  rw [show 64 * (n / 64) + n % 64 = n by omega] at q
  exact q h0
theorem own_wideApp : ∀ a b : List Int32, wideBytes (a ++ b) = wideBytes a ++ wideBytes b
  | [], b => rfl
  | c :: a, b => by show _ :: _ :: wideBytes (a ++ b) = _; rw [own_wideApp a b]; rfl
theorem own_wideLen : ∀ a : List Int32, (wideBytes a).length = 2 * a.length
  | [] => rfl
  | c :: a => by show (wideBytes a).length + 1 + 1 = 2 * (a.length + 1); rw [own_wideLen a]; omega
def own_wk (cs : List Int32) (k : Nat) : List Value := wideBytes (cs.take k) ++ List.replicate (2 * (cs.length - k)) (.int 0)
def own_lk (cs : List Int32) (k : Nat) : List Value := (cs.take k).map (fun c => Value.int (lo8 c)) ++ List.replicate (cs.length - k) (.int 0)
theorem own_wk_len {cs : List Int32} {k : Nat} (h : k ≤ cs.length) : (own_wk cs k).length = 2 * cs.length := by
  rw [own_wk, List.length_append, own_wideLen, List.length_replicate, List.length_take]; omega
theorem own_lk_len {cs : List Int32} {k : Nat} (h : k ≤ cs.length) : (own_lk cs k).length = cs.length := by
  rw [own_lk, List.length_append, List.length_map, List.length_replicate, List.length_take]; omega
theorem own_set1 (A B : List Value) (x u : Value) : ∀ n, A.length = n → (A ++ x :: B).set n u = A ++ u :: B := by
  rintro n rfl; simp
theorem own_takeS {cs : List Int32} {k : Nat} (h : k < cs.length) : cs.take (k + 1) = cs.take k ++ [cs.getD k 0] := by
  rw [List.take_add_one, List.getD_eq_getElem?_getD, List.getElem?_eq_getElem h]; rfl
theorem own_wk_step {cs : List Int32} {k : Nat} (h : k < cs.length) : ((own_wk cs k).set (2 * k) (.int (lo8 (cs.getD k 0)))).set (2 * k + 1) (.int (hi8 (cs.getD k 0))) = own_wk cs (k + 1) := by
  have lk : (wideBytes (cs.take k)).length = 2 * k := by rw [own_wideLen, List.length_take]; omega
  have e : 2 * (cs.length - k) = 2 * (cs.length - (k + 1)) + 1 + 1 := by omega
  unfold own_wk
  rw [e, List.replicate_succ, List.replicate_succ, own_set1 _ _ _ _ _ lk, own_takeS h, own_wideApp]
  rw [show wideBytes (cs.take k) ++ .int (lo8 (cs.getD k 0)) :: .int 0 :: List.replicate (2 * (cs.length - (k + 1))) (.int 0) = (wideBytes (cs.take k) ++ [.int (lo8 (cs.getD k 0))]) ++ .int 0 :: List.replicate (2 * (cs.length - (k + 1))) (.int 0) by simp]
  rw [own_set1 _ _ _ _ _ (by rw [List.length_append, lk]; rfl)]
  simp [wideBytes]
theorem own_lk_step {cs : List Int32} {k : Nat} (h : k < cs.length) : (own_lk cs k).set k (.int (lo8 (cs.getD k 0))) = own_lk cs (k + 1) := by
  have lk : ((cs.take k).map (fun c => Value.int (lo8 c))).length = k := by rw [List.length_map, List.length_take]; omega
  have e : cs.length - k = cs.length - (k + 1) + 1 := by omega
  unfold own_lk
  rw [e, List.replicate_succ, own_set1 _ _ _ _ _ lk, own_takeS h, List.map_append]
  simp
theorem own_wk_all (cs : List Int32) : own_wk cs cs.length = wideBytes cs := by simp [own_wk]
theorem own_lk_all (cs : List Int32) : own_lk cs cs.length = cs.map (fun c => Value.int (lo8 c)) := by simp [own_lk]
theorem own_wk_0 (cs : List Int32) : own_wk cs 0 = [] ++ List.replicate (2 * cs.length) (.int 0) := by simp [own_wk, wideBytes]
theorem own_lk_0 (cs : List Int32) : own_lk cs 0 = [] ++ List.replicate cs.length (.int 0) := by simp [own_lk]
theorem own_getD' {cs : List Int32} {k : Nat} (h : k < cs.length) : cs.getD k 0 ∈ cs := by rw [List.getD_eq_getElem?_getD, List.getElem?_eq_getElem h]; exact List.getElem_mem h
theorem own_mapAt {cs : List Int32} {k : Nat} (d : Value) (h : k < cs.length) : (cs.map Value.int).getD k d = .int (cs.getD k 0) := by
  simp [List.getD_eq_getElem?_getD, h]
theorem own_allP {cs : List Int32} {P : Int32 → Prop} (h : ∀ j, j < cs.length → P (cs.getD j 0)) : ∀ c ∈ cs, P c := fun c hc => by
  obtain ⟨j, hj, rfl⟩ := List.getElem_of_mem hc
  have q := h j hj
  rwa [List.getD_eq_getElem?_getD, List.getElem?_eq_getElem hj] at q
theorem own_b8 (x : Int32) : x.toInt8.toInt32.toInt8.toInt32 = lo8 x := by rw [Int8.toInt8_toInt32]; rfl
theorem own_pair {c : Int32} (h0 : ¬ c < 0) (h1 : ¬ (65535 : Int32) < c) : (((lo8 c &&& (255 : Int32)) <<< ((0 : Int32) &&& 31)) ||| ((hi8 c &&& (255 : Int32)) <<< ((8 : Int32) &&& 31))).toUInt32.toUInt16.toUInt32.toInt32 = c := pair_says h0 h1
theorem own_narC {c : Int32} (h0 : ¬ c < 0) (h1 : ¬ (65535 : Int32) < c) : nar .char c = c := by
  have q := narrow_ch h0 h1
  exact Value.int.inj ((show narrow .char (.int c) = .int (nar .char c) from rfl).symm.trans q)
end OwnUtf
section OwnLdcI
variable {p : Program} {l : Launch} {e : Env} {R : Room} {s : State} {m : MethodId} {args : Array Value} {below : List Frame} {meth : Method} {c : Code} {T : State} {cells slots : Nat} {Z : State} {a0 : Array Value} {h h0 : Heap} {w kf : Bool} {EL : List (String × Nat)} {own : String} {ws fs : List Addr} {P : Outcome → State → Prop} {pc pc' : Nat} {Ls : Array Slot} {St : List Value} {index : Nat}
/-- ldc of an int -/
theorem own_ldcI {v : Int32} (K : own_S w kf EL p l e R s m args below meth c Z a0 own h0 ws T h fs cells slots) (hx : p.tables.exec = Jvm.exec) (w1 : (Cond.constant own index v).before a0 Z = true) (hd : decode c.code pc = .ok (.ldc index, 2)) (hp : pc + 2 = pc')
    (G : own_Go p.tables e below P T (mkF m pc' Ls (.int v :: St))) : own_Go p.tables e below P T (mkF m pc Ls St) := by
  subst hp
  obtain ⟨vm0, locs, k0, X, eT, I⟩ := K
  exact own_by (fun t q => X.ldcInt hx (own := own) (index := index) (v := v) I.2.1 (mvT (s := s.setVm vm0) I.1 w1) (g := mkF m pc Ls St) rfl hd _ q) G
end OwnLdcI
/-! OWN KIT, System.arraycopy of bytes into a new array of just that length -/
section OwnCopy
open Jvm.Stand
variable {p : Program} {l : Launch} {e : Env} {R : Room} {s : State} {m : MethodId} {args : Array Value} {below : List Frame} {meth : Method} {c : Code} {T : State} {cells slots : Nat} {Z : State} {a0 : Array Value} {h h0 : Heap} {w kf : Bool} {EL : List (String × Nat)} {own : String} {ws fs : List Addr} {P : Outcome → State → Prop} {pc pc' : Nat} {Ls : Array Slot} {rest : List Value} {index : Nat}
theorem own_byteInt {v : Value} (q : fits .byte v = true) : ∃ x, v = .int x := by cases v <;> simp [fits] at q; exact ⟨_, rfl⟩
theorem own_copyN {i : Nat} (q : i < 2 ^ 31) : (Int32.ofNat i).toNatClampNeg = i := by show (Int32.ofNat i).toInt.toNat = i; rw [Int32.toInt_ofNat_small q]; rfl
theorem own_copyG {i : Nat} (q : i < 2 ^ 31) : ¬ Int32.ofNat i < 0 := by
  rw [Int32.lt_iff_toInt_lt, Int32.toInt_ofNat_small q]
  have e0 : (0 : Int32).toInt = 0 := rfl
  omega
set_option maxHeartbeats 4000000 in
theorem own_acopy {src dst : Addr} {ks kd : ClassId} {NS : Int32} {vs us : List Value} {dv dw : Value} {i n : Nat} (K : own_S w kf EL p l e R s m args below meth c Z a0 own h0 ws T h fs cells slots) (hx : p.tables.exec = Jvm.exec)
    (w1 : (Cond.methodLink own index (⟨"java/lang/System", "arraycopy", "(Ljava/lang/Object;ILjava/lang/Object;II)V"⟩ : MethodName)).before a0 Z = true) (w2 : (Cond.native (⟨"java/lang/System", "arraycopy", "(Ljava/lang/Object;ILjava/lang/Object;II)V"⟩ : MethodName)).before a0 Z = true) (w3 : (Cond.static (⟨"java/lang/System", "arraycopy", "(Ljava/lang/Object;ILjava/lang/Object;II)V"⟩ : MethodName)).before a0 Z = true) (w4 : (Cond.initialized "java/lang/System").before a0 Z = true)
    (F : Arv Z h src ks .byte NS vs dv) (D : Arv Z h dst kd .byte (Int32.ofNat n) us dw) (ha : dst ∈ fs) (hin : i + n ≤ vs.length) (hNS : NS = Int32.ofNat vs.length) (hb : vs.length < 2 ^ 31) (hsz : Ls.size = c.maxLocals) (hd : decode c.code pc = .ok (.invokestatic index, 3)) (hp : pc + 3 = pc') (hf : 1 ≤ R.frames) (hlo : (rest.map fun v => v.category).sum + 18 ≤ R.locals)
    (G : ∀ (T' : State) (h' : Heap), own_S w kf EL p l e R s m args below meth c Z a0 own h0 ws T' h' fs cells slots → Keep h h' [dst] → Arv Z h' dst kd .byte (Int32.ofNat n) ((vs.drop i).take n) dw → own_Go p.tables e below P T' (mkF m pc' Ls rest)) :
    own_Go p.tables e below P T (mkF m pc Ls (.int (Int32.ofNat n) :: .int 0 :: .ref dst :: .int (Int32.ofNat i) :: .ref src :: rest)) := by
  subst hp hNS
  obtain ⟨vm0, locs, k0, X, eT, I⟩ := K
  have hZ : Z.Warmed39 (s.setVm vm0).vm := I.1
  obtain ⟨cs, A, q1, q2, q3, q4, q5⟩ := F
  obtain ⟨cd, B, r1, r2, r3, r4, r5⟩ := D
  rw [own_copyN hb] at q2
  rw [own_copyN (by omega)] at r2
  obtain ⟨s1, kS, s2, sc, s3⟩ := State.isArrayOf_alike hZ.alike A.2.1
  obtain ⟨d1, kD, d2, dc, d3⟩ := State.isArrayOf_alike hZ.alike B.2.1
  have ei : (Int32.ofNat i).toNatClampNeg = i := own_copyN (by omega)
  have en : (Int32.ofNat n).toNatClampNeg = n := own_copyN (by omega)
  have ti : (Int32.ofNat i).toInt = i := Int32.toInt_ofNat_small (by omega)
  have tn : (Int32.ofNat n).toInt = n := Int32.toInt_ofNat_small (by omega)
  have t0 : (0 : Int32).toInt = 0 := rfl
  have at_ : ∀ j, j < n → cs.slots.getD (i + j) .null = vs.getD (i + j) dv ∧ fits .byte (vs.getD (i + j) dv) = true := fun j hj => by
    have hl : i + j < cs.slots.size := by omega
    have g := q4 (i + j) hl
    have g' : cs.slots.getD (i + j) .null = vs.getD (i + j) dv := by rw [Array.getD_eq_getD_getElem?, g]; rfl
    exact ⟨g', q5 (i + j) hl⟩
  obtain ⟨vm1, -, X1, st⟩ := X.arraycopyK hx (own := own) (index := index) I.2.1 (mvT hZ w1) (mvT hZ w2) (mvT hZ w3) (mvT hZ w4) (src := src) (dst := dst) (srcPos := Int32.ofNat i) (destPos := 0) (n := Int32.ofNat n) (cs := cs) (cd := cd) (ks := kS) (kd := kD) (sComp := sc) (dComp := dc) (sType := .byte) (dType := .byte)
    (by rw [eT]; exact A.1) (by rw [eT]; exact B.1) s1 d1 A.2.2 B.2.2 s2 d2 s3 d3 rfl (own_copyG (by omega)) (by decide) (own_copyG (by omega)) (by rw [ti, tn, q2]; omega) (by rw [t0, tn, r2]; omega)
    (fun vm₁ _ j hj => by
      rw [en] at hj
      obtain ⟨g1, g2⟩ := at_ j hj
      rw [ei, g1]
      obtain ⟨x, hx'⟩ := own_byteInt g2
      refine ⟨g2, ?_⟩
      rw [hx']; trivial)
    (g := mkF m pc Ls (.int (Int32.ofNat n) :: .int 0 :: .ref dst :: .int (Int32.ofNat i) :: .ref src :: rest)) rfl hsz (rest := rest) rfl hd hf (by show 2 * 0 + _ + (7 + 11) ≤ _; omega)
  have hlt : dst < h.size := (Array.getElem?_eq_some_iff.mp B.1).1
  obtain ⟨f1, f2, f3, -, -⟩ := Cell.storeRun_facts cd (0 : Int32).toNatClampNeg (cs.stretch (Int32.ofNat i).toNatClampNeg (Int32.ofNat n).toNatClampNeg)
  have hh : ((T.setVm vm1).setCell dst (copied cs cd (Int32.ofNat i) 0 (Int32.ofNat n))).heap = h.setIfInBounds dst (copied cs cd (Int32.ofNat i) 0 (Int32.ofNat n)) := by rw [← eT]; rfl
  have kp : Keep h (h.setIfInBounds dst (copied cs cd (Int32.ofNat i) 0 (Int32.ofNat n))) [dst] := by
    refine ⟨by simp, fun x cx hx hn => ?_, fun x cx hx => ?_⟩
    · rw [Array.getElem?_setIfInBounds_ne (fun q => hn (by rw [q]; exact List.mem_singleton.mpr rfl))]; exact hx
    · by_cases q : dst = x
      · subst q; cases B.1.symm.trans hx
        exact ⟨_, Array.getElem?_setIfInBounds_self_of_lt hlt, f1, f2, f3⟩
      · exact ⟨cx, by rw [Array.getElem?_setIfInBounds_ne q]; exact hx, rfl, rfl, rfl⟩
  have hD : Arv Z (h.setIfInBounds dst (copied cs cd (Int32.ofNat i) 0 (Int32.ofNat n))) dst kd .byte (Int32.ofNat n) ((vs.drop i).take n) dw := by
    have gets : ∀ j, j < n → (copied cs cd (Int32.ofNat i) 0 (Int32.ofNat n)).slots[j]? = some (((vs.drop i).take n).getD j dw) ∧ fits .byte (((vs.drop i).take n).getD j dw) = true := fun j hj => by
      have g := Cell.storeRun_get cd (0 : Int32).toNatClampNeg (cs.stretch (Int32.ofNat i).toNatClampNeg (Int32.ofNat n).toNatClampNeg) j (by rw [Cell.stretch_length, en, r2]; exact Nat.le_of_eq (Nat.zero_add n))
      rw [Cell.stretch_length, en, ei, show (0 : Int32).toNatClampNeg = 0 from rfl, if_pos ⟨Nat.zero_le _, by omega⟩] at g
      have g2 : (cs.stretch i n)[j - 0]? = some (cs.slots.getD (i + j) .null) := by simp [Cell.stretch, hj]
      obtain ⟨g3, g4⟩ := at_ j hj
      have g5 : ((vs.drop i).take n).getD j dw = vs.getD (i + j) dv := by
        rw [List.getD_eq_getElem?_getD, List.getD_eq_getElem?_getD, List.getElem?_take, if_pos hj, List.getElem?_drop, List.getElem?_eq_getElem (show i + j < vs.length by omega)]; rfl
      rw [g5]
      refine ⟨?_, g4⟩
      show (cd.storeRun _ _).slots[j]? = _
      rw [ei, en, show (0 : Int32).toNatClampNeg = 0 from rfl, g, g2, g3]
    have sz : (copied cs cd (Int32.ofNat i) 0 (Int32.ofNat n)).slots.size = n := f3.trans r2
    refine ⟨_, ⟨Array.getElem?_setIfInBounds_self_of_lt hlt, ?_, by rw [f2]; exact B.2.2⟩, f1.trans r1, by rw [en]; exact sz, r3, fun j hj => (gets j (by rw [← sz]; exact hj)).1, fun j hj => (gets j (by rw [← sz]; exact hj)).2⟩
    obtain ⟨b1, kb, b2, cb, b3⟩ := B.2.1
    exact ⟨fun q => by rw [f2]; exact b1 q, kb, by rw [f1]; exact b2, cb, b3⟩
  have hfr : Fr Z.heap.size (copyLocs dst (0 : Int32).toNatClampNeg (Int32.ofNat n).toNatClampNeg) := fun y hy => by
    obtain ⟨j, -, rfl⟩ := List.mem_map.mp hy
    exact (I.2.2.2.2.2.2.2.2.2.2.2.2 dst ha).2.1
  exact own_by st (G _ _ ⟨vm0, _, k0, X1, hh, I.keep kp (own_mem1 ha) hfr⟩ kp hD)
end OwnCopy
section OwnLdI
variable {p : Program} {l : Launch} {e : Env} {R : Room} {s : State} {m : MethodId} {args : Array Value} {below : List Frame} {meth : Method} {c : Code} {T : State} {cells slots : Nat} {Z : State} {a0 : Array Value} {h h0 : Heap} {w kf : Bool} {EL : List (String × Nat)} {own : String} {ws fs : List Addr} {P : Outcome → State → Prop} {pc pc' : Nat} {Ls : Array Slot} {St : List Value} {a : Addr} {k : ClassId} {n j : Int32} {vs : List Value} {dv : Value}
theorem own_ldI {x : Int32} (K : own_S w kf EL p l e R s m args below meth c Z a0 own h0 ws T h fs cells slots) (hx : p.tables.exec = Jvm.exec) (F : Arv Z h a k .int n vs dv) (hj : ¬ j < 0 ∧ j < n) (hv : vs.getD j.toNatClampNeg dv = .int x) (hd : decode c.code pc = .ok (.iaload, 1)) (hp : pc + 1 = pc')
    (G : own_Go p.tables e below P T (mkF m pc' Ls (.int x :: St))) : own_Go p.tables e below P T (mkF m pc Ls (.int j :: .ref a :: St)) := by
  subst hp
  obtain ⟨vm0, locs, k0, X, eT, I⟩ := K
  obtain ⟨cl, A, q1, q2, q3, q4, q5⟩ := F
  exact own_by (fun t q => X.iaload hx (j := j) (v := .int x) (by rw [eT]; exact A.1) (State.isArrayOf_alike I.1.alike A.2.1) A.2.2 (inb_of q2 hj) (q4.at (inb_of q2 hj) hv) (g := mkF m pc Ls (.int j :: .ref a :: St)) rfl rfl hd _ q) G
theorem own_lenV {a0 : Array Value} {t : Term} {c : Cell} {z : Int32} (ev : t.eval a0 s none [] s = some (.ref a)) (ha : s.arrayAt? a = some c) (q : (Term.length t).eval a0 s none [] s = some (.int z)) : c.slots.size < 2 ^ 31 ∧ c.slots.size.toInt32 = z := by
  simp only [Term.eval, ev, ha, Option.bind_eq_bind, Option.bind_some] at q
  split at q
  · rename_i r; exact ⟨r, by simpa using q⟩
  · cases q
theorem own_elemV {a0 : Array Value} {t : Term} {c : Cell} {i : Nat} {v : Value} (ev : t.eval a0 s none [] s = some (.ref a)) (ha : s.arrayAt? a = some c) (hi : i < 2 ^ 31) (q : (Term.elem t (.int (Int32.ofNat i))).eval a0 s none [] s = some v) : c.slots[i]? = some v := by
  simp only [Term.eval, ev, ha, Option.bind_eq_bind, Option.bind_some] at q
  rw [if_neg (own_copyG hi), own_copyN hi] at q
  exact q
end OwnLdI
section OwnLdc2
variable {p : Program} {l : Launch} {e : Env} {R : Room} {s : State} {m : MethodId} {args : Array Value} {below : List Frame} {meth : Method} {c : Code} {T : State} {cells slots : Nat} {Z : State} {a0 : Array Value} {h h0 : Heap} {w kf : Bool} {EL : List (String × Nat)} {own : String} {ws fs : List Addr} {P : Outcome → State → Prop} {pc pc' : Nat} {Ls : Array Slot} {St : List Value} {index : Nat}
/-- ldc2_w of a long -/
theorem own_ldc2 {v : Int64} (K : own_S w kf EL p l e R s m args below meth c Z a0 own h0 ws T h fs cells slots) (hx : p.tables.exec = Jvm.exec) (w1 : (Cond.constantLong own index v).before a0 Z = true) (hd : decode c.code pc = .ok (.ldc2_w index, 3)) (hp : pc + 3 = pc')
    (G : own_Go p.tables e below P T (mkF m pc' Ls (.long v :: St))) : own_Go p.tables e below P T (mkF m pc Ls St) := by
  subst hp
  obtain ⟨vm0, locs, k0, X, eT, I⟩ := K
  exact own_by (fun t q => X.ldc2Long hx (own := own) (index := index) (v := v) I.2.1 (mvT (s := s.setVm vm0) I.1 w1) (g := mkF m pc Ls St) rfl hd _ q) G
end OwnLdc2
theorem own_sa {Z : State} {a0 : Array Value} (hw : ∀ d ∈ tables_1, d.before a0 Z = true) : ∀ a ∈ Bundle.stringAtoms, a.before a0 Z = true := fun d hd => hw d ((by decide +kernel : ∀ d ∈ Bundle.stringAtoms, d ∈ tables_1) d hd)
theorem own_wn {Z : State} {a0 : Array Value} (hw : ∀ d ∈ tables_1, d.before a0 Z = true) : ∀ d ∈ StrChars.Road.words, d.before a0 Z = true := fun d hd => hw d ((by decide +kernel : ∀ d ∈ StrChars.Road.words, d ∈ tables_1) d hd)
theorem own_wl {Z : State} {a0 : Array Value} (hw : ∀ d ∈ tables_1, d.before a0 Z = true) : ∀ d ∈ StrChars.Road.wordsLen, d.before a0 Z = true := fun d hd => hw d ((by decide +kernel : ∀ d ∈ StrChars.Road.wordsLen, d ∈ tables_1) d hd)
theorem own_we {Z : State} {a0 : Array Value} (hw : ∀ d ∈ tables_1, d.before a0 Z = true) : ∀ d ∈ StrChars.Road.wordsEq, d.before a0 Z = true := fun d hd => hw d ((by decide +kernel : ∀ d ∈ StrChars.Road.wordsEq, d ∈ tables_1) d hd)
theorem own_lo8inj {c d : Int32} (h1 : ¬ c < 0 ∧ ¬ (255 : Int32) < c) (h2 : ¬ d < 0 ∧ ¬ (255 : Int32) < d) (e : StrChars.lo8 c = StrChars.lo8 d) : c = d := by
  have a := StrChars.lo8_mask h1.1 h1.2
  have b := StrChars.lo8_mask h2.1 h2.2
  rw [← a, ← b, e]
def own_spN (cs : List Int32) : Nat := (cs.takeWhile (fun c => !decide (c = 32))).length
def own_spI (cs : List Int32) : Int32 := if own_spN cs < cs.length then Int32.ofNat (own_spN cs) else -1
theorem own_sp_le (cs : List Int32) : own_spN cs ≤ cs.length := (List.takeWhile_sublist _).length_le
theorem own_sp_at : ∀ (cs : List Int32) (k : Nat), k < cs.length → (∀ j, j < k → ¬ cs.getD j 0 = 32) → cs.getD k 0 = 32 → own_spN cs = k
  | [], k, h, _, _ => absurd h (Nat.not_lt_zero k)
  | c :: cs, 0, _, _, e => by
    have e : c = 32 := e
    subst e; rfl
  | c :: cs, k + 1, h, f, e => by
    have hc : ¬ c = 32 := f 0 (Nat.succ_pos _)
    have q := own_sp_at cs k (by simpa using h) (fun j hj => f (j + 1) (Nat.succ_lt_succ hj)) e
    unfold own_spN at q ⊢
    rw [List.takeWhile_cons, if_pos (by simpa using hc), List.length_cons, q]
theorem own_sp_no : ∀ (cs : List Int32), (∀ j, j < cs.length → ¬ cs.getD j 0 = 32) → own_spN cs = cs.length
  | [], _ => rfl
  | c :: cs, f => by
    have hc : ¬ c = 32 := f 0 (Nat.succ_pos _)
    have q := own_sp_no cs (fun j hj => f (j + 1) (Nat.succ_lt_succ hj))
    unfold own_spN at q ⊢
    rw [List.takeWhile_cons, if_pos (by simpa using hc), List.length_cons, q]; rfl
theorem own_lowMap (cs : List Int32) (i n : Nat) : ((cs.map (fun c => Value.int (StrChars.lo8 c))).drop i).take n = (((cs.drop i).take n).map (fun c => Value.int (StrChars.lo8 c))) := by rw [List.map_take, List.map_drop]
theorem own_natsub {i j : Nat} (hj : j < 2 ^ 31) (h : i ≤ j) : Int32.ofNat j - Int32.ofNat i = Int32.ofNat (j - i) := by
  apply Int32.toInt_inj.mp
  rw [Int32.toInt_sub_of_le, Int32.toInt_ofNat_small hj, Int32.toInt_ofNat_small (by omega), Int32.toInt_ofNat_small (by omega)]
  · omega
  · rw [Int32.le_iff_toInt_le]; rw [Int32.toInt_ofNat_small (by omega)]; exact Int.natCast_nonneg _
  · rw [Int32.le_iff_toInt_le, Int32.toInt_ofNat_small (by omega), Int32.toInt_ofNat_small hj]; omega
theorem own_natsub' {i j : Nat} : Int32.ofNat (j + i) - Int32.ofNat i = Int32.ofNat j := by rw [Int32.ofNat_add, Int32.add_sub_cancel]
theorem own_natadd (i j : Nat) : Int32.ofNat i + Int32.ofNat j = Int32.ofNat (i + j) := (Int32.ofNat_add i j).symm
theorem own_z {n : Nat} (hn : n < 2 ^ 31) (h : ¬ (0 : Int32) < Int32.ofNat n) : n = 0 := by
  rw [Int32.lt_iff_toInt_lt, Int32.toInt_ofNat_small hn] at h
  have e0 : (0 : Int32).toInt = 0 := rfl
  omega
theorem own_natnlt {i j : Nat} (hi : i < 2 ^ 31) (hj : j < 2 ^ 31) (h : ¬ Int32.ofNat i < Int32.ofNat j) : j ≤ i := by
  rw [Int32.lt_iff_toInt_lt, Int32.toInt_ofNat_small hi, Int32.toInt_ofNat_small hj] at h; omega
theorem d_jdk_29_method_65_0 : decode jdk_29_method_65_code 0 = .ok (.iload_n 0, 1) := by decide +kernel
theorem d_jdk_29_method_65_1 : decode jdk_29_method_65_code 1 = .ok (.iload_n 1, 1) := by decide +kernel
theorem d_jdk_29_method_65_2 : decode jdk_29_method_65_code 2 = .ok (.if_icmp .lt 7, 3) := by decide +kernel
theorem d_jdk_29_method_65_9 : decode jdk_29_method_65_code 9 = .ok (.iload_n 1, 1) := by decide +kernel
theorem d_jdk_29_method_65_10 : decode jdk_29_method_65_code 10 = .ok (.ireturn, 1) := by decide +kernel
theorem d_jdk_29_method_65_5 : decode jdk_29_method_65_code 5 = .ok (.iload_n 0, 1) := by decide +kernel
theorem d_jdk_29_method_65_6 : decode jdk_29_method_65_code 6 = .ok (.goto 4, 3) := by decide +kernel
theorem ef_rl_max (m : MethodId) (q_0 : Int32) (q_1 : Int32)  : entryFrame m #[(.int q_0), (.int q_1)] 2 = mkF m 0 #[.val (.int q_0), .val (.int q_1)] [] := by  first | (simp [entryFrame, mkF, argsToLocals, Value.category]; done) | rfl
set_option maxRecDepth 65536 in
set_option maxHeartbeats 40000000 in
theorem rl_max (l : Launch) (Z : State) (a0 : Array Value) (hw : ∀ d ∈ tables_1, d.before a0 Z = true) (more : List Jvm.Cond) (h0 : Heap) (p1 : Int32) (p2 : Int32)   :
    own_Met true false consts_1 l Z a0 (⟨"java/lang/Math", "max", "(II)I"⟩ : MethodName) jdk_29_method_65_code 2 (some .int) more ({ frames := 0, cells := 0, slots := 0, locals := 0 } : Room) #[(.int p1), (.int p2)] h0 [] (fun v h => v = some (.int (if p1 < p2 then p2 else p1)) ∧ h = h0) := by
  refine own_enter (own := "java/lang/Math") rfl (Jvm.Free.JP.mathPlain rfl (by decide +kernel)) ?_
  intro p e s m below meth c T hx hby hml hret hlk hnm K
  rw [ef_rl_max m p1 p2]
  have A := own_here K
  refine own_iloadN A hx (pc' := 1) (hb hby d_jdk_29_method_65_0) rfl rfl ?_
  refine own_iloadN A hx (pc' := 2) (hb hby d_jdk_29_method_65_1) rfl rfl ?_
  refine own_icmp_lt A hx 9 5 (hb hby d_jdk_29_method_65_2) (by decide) (by decide) rfl (fun hc2 => ?_) (fun hc2 => ?_)
  · refine own_iloadN A hx (pc' := 10) (hb hby d_jdk_29_method_65_9) rfl rfl ?_
    exact own_retI K hx hlk hret (hb hby d_jdk_29_method_65_10) (by decide) (by decide) ⟨by rw [if_pos hc2], rfl⟩
  · refine own_iloadN A hx (pc' := 6) (hb hby d_jdk_29_method_65_5) rfl rfl ?_
    refine own_goto A hx 10 (hb hby d_jdk_29_method_65_6) (by decide) (by decide) ?_
    exact own_retI K hx hlk hret (hb hby d_jdk_29_method_65_10) (by decide) (by decide) ⟨by rw [if_neg hc2], rfl⟩
theorem d_jdk_29_method_69_0 : decode jdk_29_method_69_code 0 = .ok (.iload_n 0, 1) := by decide +kernel
theorem d_jdk_29_method_69_1 : decode jdk_29_method_69_code 1 = .ok (.iload_n 1, 1) := by decide +kernel
theorem d_jdk_29_method_69_2 : decode jdk_29_method_69_code 2 = .ok (.if_icmp .gt 7, 3) := by decide +kernel
theorem d_jdk_29_method_69_9 : decode jdk_29_method_69_code 9 = .ok (.iload_n 1, 1) := by decide +kernel
theorem d_jdk_29_method_69_10 : decode jdk_29_method_69_code 10 = .ok (.ireturn, 1) := by decide +kernel
theorem d_jdk_29_method_69_5 : decode jdk_29_method_69_code 5 = .ok (.iload_n 0, 1) := by decide +kernel
theorem d_jdk_29_method_69_6 : decode jdk_29_method_69_code 6 = .ok (.goto 4, 3) := by decide +kernel
theorem ef_rl_min (m : MethodId) (q_0 : Int32) (q_1 : Int32)  : entryFrame m #[(.int q_0), (.int q_1)] 2 = mkF m 0 #[.val (.int q_0), .val (.int q_1)] [] := by  first | (simp [entryFrame, mkF, argsToLocals, Value.category]; done) | rfl
set_option maxRecDepth 65536 in
set_option maxHeartbeats 40000000 in
theorem rl_min (l : Launch) (Z : State) (a0 : Array Value) (hw : ∀ d ∈ tables_1, d.before a0 Z = true) (more : List Jvm.Cond) (h0 : Heap) (p1 : Int32) (p2 : Int32)   :
    own_Met true false consts_1 l Z a0 (⟨"java/lang/Math", "min", "(II)I"⟩ : MethodName) jdk_29_method_69_code 2 (some .int) more ({ frames := 0, cells := 0, slots := 0, locals := 0 } : Room) #[(.int p1), (.int p2)] h0 [] (fun v h => v = some (.int (if p2 < p1 then p2 else p1)) ∧ h = h0) := by
  refine own_enter (own := "java/lang/Math") rfl (Jvm.Free.JP.mathPlain rfl (by decide +kernel)) ?_
  intro p e s m below meth c T hx hby hml hret hlk hnm K
  rw [ef_rl_min m p1 p2]
  have A := own_here K
  refine own_iloadN A hx (pc' := 1) (hb hby d_jdk_29_method_69_0) rfl rfl ?_
  refine own_iloadN A hx (pc' := 2) (hb hby d_jdk_29_method_69_1) rfl rfl ?_
  refine own_icmp_gt A hx 9 5 (hb hby d_jdk_29_method_69_2) (by decide) (by decide) rfl (fun hc2 => ?_) (fun hc2 => ?_)
  · refine own_iloadN A hx (pc' := 10) (hb hby d_jdk_29_method_69_9) rfl rfl ?_
    exact own_retI K hx hlk hret (hb hby d_jdk_29_method_69_10) (by decide) (by decide) ⟨by rw [if_pos hc2], rfl⟩
  · refine own_iloadN A hx (pc' := 6) (hb hby d_jdk_29_method_69_5) rfl rfl ?_
    refine own_goto A hx 10 (hb hby d_jdk_29_method_69_6) (by decide) (by decide) ?_
    exact own_retI K hx hlk hret (hb hby d_jdk_29_method_69_10) (by decide) (by decide) ⟨by rw [if_neg hc2], rfl⟩
theorem d_jdk_43_method_4_0 : decode jdk_43_method_4_code 0 = .ok (.iload_n 0, 1) := by decide +kernel
theorem d_jdk_43_method_4_1 : decode jdk_43_method_4_code 1 = .ok (.ifCond .lt 14, 3) := by decide +kernel
theorem d_jdk_43_method_4_4 : decode jdk_43_method_4_code 4 = .ok (.iload_n 0, 1) := by decide +kernel
theorem d_jdk_43_method_4_5 : decode jdk_43_method_4_code 5 = .ok (.sipush 255, 3) := by decide +kernel
theorem d_jdk_43_method_4_8 : decode jdk_43_method_4_code 8 = .ok (.if_icmp .gt 7, 3) := by decide +kernel
theorem d_jdk_43_method_4_11 : decode jdk_43_method_4_code 11 = .ok (.iconst 1, 1) := by decide +kernel
theorem d_jdk_43_method_4_12 : decode jdk_43_method_4_code 12 = .ok (.goto 4, 3) := by decide +kernel
theorem d_jdk_43_method_4_16 : decode jdk_43_method_4_code 16 = .ok (.ireturn, 1) := by decide +kernel
theorem ef_rl_can (m : MethodId)   : entryFrame m #[(.int (32 : Int32))] 1 = mkF m 0 #[.val (.int (32 : Int32))] [] := by  first | (simp [entryFrame, mkF, argsToLocals, Value.category]; done) | rfl
theorem pn_0 : plainName "java/lang/StringLatin1" = true := by first | (simp [plainName, overriddenIn]; done) | decide +kernel
set_option maxRecDepth 65536 in
set_option maxHeartbeats 40000000 in
theorem rl_can (l : Launch) (Z : State) (a0 : Array Value) (hw : ∀ d ∈ tables_1, d.before a0 Z = true) (more : List Jvm.Cond) (h0 : Heap)    :
    own_Met true false consts_1 l Z a0 (⟨"java/lang/StringLatin1", "canEncode", "(I)Z"⟩ : MethodName) jdk_43_method_4_code 1 (some .boolean) more ({ frames := 0, cells := 0, slots := 0, locals := 0 } : Room) #[(.int (32 : Int32))] h0 [] (fun v h => v = some (.int 1) ∧ h = h0) := by
  refine own_enter (own := "java/lang/StringLatin1") rfl (plainFor_of_name pn_0) ?_
  intro p e s m below meth c T hx hby hml hret hlk hnm K
  rw [ef_rl_can m ]
  have A := own_here K
  refine own_iloadN A hx (pc' := 1) (hb hby d_jdk_43_method_4_0) rfl rfl ?_
  refine own_if_lt A hx 15 4 (hb hby d_jdk_43_method_4_1) (by decide) (by decide) rfl (fun hc1 => ?_) (fun hc1 => ?_)
  · exact absurd hc1 (by decide)
  refine own_iloadN A hx (pc' := 5) (hb hby d_jdk_43_method_4_4) rfl rfl ?_
  refine own_sipush A hx (pc' := 8) (hb hby d_jdk_43_method_4_5) (z := (255 : Int32)) (by decide) rfl ?_
  refine own_icmp_gt A hx 15 11 (hb hby d_jdk_43_method_4_8) (by decide) (by decide) rfl (fun hc8 => ?_) (fun hc8 => ?_)
  · exact absurd hc8 (by decide)
  refine own_iconst A hx (pc' := 12) (hb hby d_jdk_43_method_4_11) (z := (1 : Int32)) (by decide) rfl ?_
  refine own_goto A hx 16 (hb hby d_jdk_43_method_4_12) (by decide) (by decide) ?_
  exact own_retN K hx hlk hret (by simp) (hb hby d_jdk_43_method_4_16) (by decide) (by decide) ⟨rfl, rfl⟩
theorem d_jdk_43_method_23_0 : decode jdk_43_method_23_code 0 = .ok (.iload_n 1, 1) := by decide +kernel
theorem d_jdk_43_method_23_1 : decode jdk_43_method_23_code 1 = .ok (.i2b, 1) := by decide +kernel
theorem d_jdk_43_method_23_2 : decode jdk_43_method_23_code 2 = .ok (.istore 4, 2) := by decide +kernel
theorem d_jdk_43_method_23_4 : decode jdk_43_method_23_code 4 = .ok (.iload_n 2, 1) := by decide +kernel
theorem d_jdk_43_method_23_5 : decode jdk_43_method_23_code 5 = .ok (.istore 5, 2) := by decide +kernel
theorem d_jdk_43_method_23_7 : decode jdk_43_method_23_code 7 = .ok (.iload 5, 2) := by decide +kernel
theorem d_jdk_43_method_23_9 : decode jdk_43_method_23_code 9 = .ok (.iload_n 3, 1) := by decide +kernel
theorem d_jdk_43_method_23_10 : decode jdk_43_method_23_code 10 = .ok (.if_icmp .ge 21, 3) := by decide +kernel
theorem d_jdk_43_method_23_31 : decode jdk_43_method_23_code 31 = .ok (.iconst (-1), 1) := by decide +kernel
theorem d_jdk_43_method_23_32 : decode jdk_43_method_23_code 32 = .ok (.ireturn, 1) := by decide +kernel
theorem d_jdk_43_method_23_13 : decode jdk_43_method_23_code 13 = .ok (.aload_n 0, 1) := by decide +kernel
theorem d_jdk_43_method_23_14 : decode jdk_43_method_23_code 14 = .ok (.iload 5, 2) := by decide +kernel
theorem d_jdk_43_method_23_16 : decode jdk_43_method_23_code 16 = .ok (.baload, 1) := by decide +kernel
theorem d_jdk_43_method_23_17 : decode jdk_43_method_23_code 17 = .ok (.iload 4, 2) := by decide +kernel
theorem d_jdk_43_method_23_19 : decode jdk_43_method_23_code 19 = .ok (.if_icmp .ne 6, 3) := by decide +kernel
theorem d_jdk_43_method_23_25 : decode jdk_43_method_23_code 25 = .ok (.iinc 5 1, 3) := by decide +kernel
theorem d_jdk_43_method_23_28 : decode jdk_43_method_23_code 28 = .ok (.goto (-21), 3) := by decide +kernel
theorem d_jdk_43_method_23_22 : decode jdk_43_method_23_code 22 = .ok (.iload 5, 2) := by decide +kernel
theorem d_jdk_43_method_23_24 : decode jdk_43_method_23_code 24 = .ok (.ireturn, 1) := by decide +kernel
theorem ef_rl_ioc (m : MethodId) (q_0 : Addr) (q_3 : Int32)  : entryFrame m #[(.ref q_0), (.int (32 : Int32)), (.int (0 : Int32)), (.int q_3)] 6 = mkF m 0 #[.val (.ref q_0), .val (.int (32 : Int32)), .val (.int (0 : Int32)), .val (.int q_3), .unset, .unset] [] := by  first | (simp [entryFrame, mkF, argsToLocals, Value.category]; done) | rfl
set_option maxRecDepth 65536 in
set_option maxHeartbeats 40000000 in
theorem rl_ioc (l : Launch) (Z : State) (a0 : Array Value) (hw : ∀ d ∈ tables_1, d.before a0 Z = true) (more : List Jvm.Cond) (h0 : Heap) (b : Addr) (cs : List Int32) (kb : ClassId) (V : Arv Z h0 b kb .byte (Int32.ofNat cs.length) (cs.map (fun c => Value.int (StrChars.lo8 c))) (.int 0)) (hl : cs.length ≤ 4000) (hlat : ∀ c ∈ cs, ¬ (255 : Int32) < c) (hbc : ∀ c ∈ cs, ¬ c < 0 ∧ ¬ (65535 : Int32) < c) :
    own_Met true false consts_1 l Z a0 (⟨"java/lang/StringLatin1", "indexOfChar", "([BIII)I"⟩ : MethodName) jdk_43_method_23_code 6 (some .int) more ({ frames := 0, cells := 0, slots := 0, locals := 0 } : Room) #[(.ref b), (.int (32 : Int32)), (.int (0 : Int32)), (.int (Int32.ofNat cs.length))] h0 [] (fun v h => v = some (.int (own_spI cs))) := by
  refine own_enter (own := "java/lang/StringLatin1") rfl (plainFor_of_name pn_0) ?_
  intro p e s m below meth c T hx hby hml hret hlk hnm K
  rw [ef_rl_ioc m b (Int32.ofNat cs.length)]
  have A := own_here K
  refine own_iloadN A hx (pc' := 1) (hb hby d_jdk_43_method_23_0) rfl rfl ?_
  refine own_i2b A hx (pc' := 2) (hb hby d_jdk_43_method_23_1) (z := ((32 : Int32).toInt8.toInt32)) rfl rfl ?_
  rw [show (32 : Int32).toInt8.toInt32 = 32 by decide]
  refine own_istore A hx (pc' := 4) #[.val (.ref b), .val (.int (32 : Int32)), .val (.int (0 : Int32)), .val (.int (Int32.ofNat cs.length)), .val (.int (32 : Int32)), .unset] (hb hby d_jdk_43_method_23_2) rfl rfl ?_
  refine own_iloadN A hx (pc' := 5) (hb hby d_jdk_43_method_23_4) rfl rfl ?_
  refine own_istore A hx (pc' := 7) #[.val (.ref b), .val (.int (32 : Int32)), .val (.int (0 : Int32)), .val (.int (Int32.ofNat cs.length)), .val (.int (32 : Int32)), .val (.int (0 : Int32))] (hb hby d_jdk_43_method_23_5) rfl rfl ?_
  have loop : ∀ (n k : Nat) (Tl1 : State) (hl1 : Heap), k + n = cs.length → own_S true false consts_1 p l e ({ frames := 0, cells := 0, slots := 0, locals := 0 } : Room) s m #[(.ref b), (.int (32 : Int32)), (.int (0 : Int32)), (.int (Int32.ofNat cs.length))] below meth c Z a0 "java/lang/StringLatin1" h0 [] Tl1 hl1 [] 0 0 → Arv Z hl1 b kb .byte (Int32.ofNat cs.length) (cs.map (fun c => Value.int (StrChars.lo8 c))) (.int 0) → (∀ j, j < k → ¬ cs.getD j 0 = 32) → own_Go p.tables e below (own_Post true consts_1 Z ({ frames := 0, cells := 0, slots := 0, locals := 0 } : Room) h0 [] (fun v h => v = some (.int (own_spI cs))) s) Tl1 (mkF m 7 #[.val (.ref b), .val (.int (32 : Int32)), .val (.int (0 : Int32)), .val (.int (Int32.ofNat cs.length)), .val (.int (32 : Int32)), .val (.int (Int32.ofNat k))] []) := by
    intro n
    induction n with
    | zero =>
      intro k Tl1 hl1 hk Kl1 V hpre
      have Al1 := own_here Kl1
      obtain rfl : k = cs.length := by omega
      refine own_iload Al1 hx (pc' := 9) (hb hby d_jdk_43_method_23_7) rfl rfl ?_
      refine own_iloadN Al1 hx (pc' := 10) (hb hby d_jdk_43_method_23_9) rfl rfl ?_
      refine own_icmp_ge Al1 hx 31 13 (hb hby d_jdk_43_method_23_10) (by decide) (by decide) rfl (fun hc10 => ?_) (fun hc10 => ?_)
      rotate_left
      · exact absurd hc10 (fun q => Int32.lt_irrefl q)
      refine own_iconst Al1 hx (pc' := 32) (hb hby d_jdk_43_method_23_31) (z := (-1 : Int32)) (by decide) rfl ?_
      exact own_retI Kl1 hx hlk hret (hb hby d_jdk_43_method_23_32) (by decide) (by decide) (by rw [own_spI, own_sp_no cs hpre, if_neg (Nat.lt_irrefl _)])
    | succ n ih =>
      intro k Tl1 hl1 hk Kl1 V hpre
      have Al1 := own_here Kl1
      have hkl : k < cs.length := by omega
      refine own_iload Al1 hx (pc' := 9) (hb hby d_jdk_43_method_23_7) rfl rfl ?_
      refine own_iloadN Al1 hx (pc' := 10) (hb hby d_jdk_43_method_23_9) rfl rfl ?_
      refine own_icmp_ge Al1 hx 31 13 (hb hby d_jdk_43_method_23_10) (by decide) (by decide) rfl (fun hc10 => ?_) (fun hc10 => ?_)
      · exact absurd (own_natlt (by omega) hkl).2 hc10
      refine own_aloadN Al1 hx (pc' := 14) (hb hby d_jdk_43_method_23_13) rfl rfl rfl ?_
      refine own_iload Al1 hx (pc' := 16) (hb hby d_jdk_43_method_23_14) rfl rfl ?_
      refine own_ldB Kl1 hx V (own_natlt (by omega) hkl) (by rw [own_natcl (by omega)]; exact StrChars.Road.low_at _ cs k hkl) (hb hby d_jdk_43_method_23_16) (pc' := 17) rfl ?_
      refine own_iload Al1 hx (pc' := 19) (hb hby d_jdk_43_method_23_17) rfl rfl ?_
      refine own_icmp_ne Al1 hx 25 22 (hb hby d_jdk_43_method_23_19) (by decide) (by decide) rfl (fun hc19 => ?_) (fun hc19 => ?_)
      · refine own_iinc Al1 hx (pc' := 28) #[.val (.ref b), .val (.int (32 : Int32)), .val (.int (0 : Int32)), .val (.int (Int32.ofNat cs.length)), .val (.int (32 : Int32)), .val (.int (Int32.ofNat (k + 1)))] (hb hby d_jdk_43_method_23_25) rfl (by rw [own_natinc]; rfl) rfl ?_
        refine own_goto Al1 hx 7 (hb hby d_jdk_43_method_23_28) (by decide) (by decide) ?_
        exact ih (k + 1) Tl1 hl1 (by omega) Kl1 V (fun j hj => by rcases Nat.lt_succ_iff_lt_or_eq.mp hj with q | rfl; exact hpre j q; exact fun q => hc19 (by rw [q]; decide))
      · refine own_iload Al1 hx (pc' := 24) (hb hby d_jdk_43_method_23_22) rfl rfl ?_
        exact own_retI Kl1 hx hlk hret (hb hby d_jdk_43_method_23_24) (by decide) (by decide) (by have e : cs.getD k 0 = 32 := own_lo8inj ⟨(hbc _ (own_getD' hkl)).1, hlat _ (own_getD' hkl)⟩ (by decide) (hc19.trans (by decide)); rw [own_spI, own_sp_at cs k hkl hpre e, if_pos hkl])
  exact loop cs.length 0 T h0 (by omega) K V (fun j hj => absurd hj (Nat.not_lt_zero j))
theorem d_jdk_43_method_22_0 : decode jdk_43_method_22_code 0 = .ok (.iload_n 1, 1) := by decide +kernel
theorem pd_0 : parseMethodDescriptor "(I)Z" = some ⟨[.int], some .boolean⟩ := by decide +kernel
theorem d_jdk_43_method_22_1 : decode jdk_43_method_22_code 1 = .ok (.invokestatic 88, 3) := by decide +kernel
theorem d_jdk_43_method_22_4 : decode jdk_43_method_22_code 4 = .ok (.ifCond .ne 5, 3) := by decide +kernel
theorem d_jdk_43_method_22_9 : decode jdk_43_method_22_code 9 = .ok (.iload_n 2, 1) := by decide +kernel
theorem d_jdk_43_method_22_10 : decode jdk_43_method_22_code 10 = .ok (.iconst 0, 1) := by decide +kernel
theorem pd_1 : parseMethodDescriptor "(II)I" = some ⟨[.int, .int], some .int⟩ := by decide +kernel
theorem d_jdk_43_method_22_11 : decode jdk_43_method_22_code 11 = .ok (.invokestatic 92, 3) := by decide +kernel
theorem d_jdk_43_method_22_14 : decode jdk_43_method_22_code 14 = .ok (.istore_n 2, 1) := by decide +kernel
theorem d_jdk_43_method_22_15 : decode jdk_43_method_22_code 15 = .ok (.iload_n 3, 1) := by decide +kernel
theorem d_jdk_43_method_22_16 : decode jdk_43_method_22_code 16 = .ok (.aload_n 0, 1) := by decide +kernel
theorem d_jdk_43_method_22_17 : decode jdk_43_method_22_code 17 = .ok (.arraylength, 1) := by decide +kernel
theorem d_jdk_43_method_22_18 : decode jdk_43_method_22_code 18 = .ok (.invokestatic 38, 3) := by decide +kernel
theorem d_jdk_43_method_22_21 : decode jdk_43_method_22_code 21 = .ok (.istore_n 3, 1) := by decide +kernel
theorem d_jdk_43_method_22_22 : decode jdk_43_method_22_code 22 = .ok (.iload_n 2, 1) := by decide +kernel
theorem d_jdk_43_method_22_23 : decode jdk_43_method_22_code 23 = .ok (.iload_n 3, 1) := by decide +kernel
theorem d_jdk_43_method_22_24 : decode jdk_43_method_22_code 24 = .ok (.if_icmp .lt 5, 3) := by decide +kernel
theorem d_jdk_43_method_22_29 : decode jdk_43_method_22_code 29 = .ok (.aload_n 0, 1) := by decide +kernel
theorem d_jdk_43_method_22_30 : decode jdk_43_method_22_code 30 = .ok (.iload_n 1, 1) := by decide +kernel
theorem d_jdk_43_method_22_31 : decode jdk_43_method_22_code 31 = .ok (.iload_n 2, 1) := by decide +kernel
theorem d_jdk_43_method_22_32 : decode jdk_43_method_22_code 32 = .ok (.iload_n 3, 1) := by decide +kernel
theorem pd_2 : parseMethodDescriptor "([BIII)I" = some ⟨[(.array .byte), .int, .int, .int], some .int⟩ := by decide +kernel
theorem d_jdk_43_method_22_33 : decode jdk_43_method_22_code 33 = .ok (.invokestatic 95, 3) := by decide +kernel
theorem d_jdk_43_method_22_36 : decode jdk_43_method_22_code 36 = .ok (.ireturn, 1) := by decide +kernel
theorem d_jdk_43_method_22_27 : decode jdk_43_method_22_code 27 = .ok (.iconst (-1), 1) := by decide +kernel
theorem d_jdk_43_method_22_28 : decode jdk_43_method_22_code 28 = .ok (.ireturn, 1) := by decide +kernel
theorem ef_rl_io4 (m : MethodId) (q_0 : Addr) (q_3 : Int32)  : entryFrame m #[(.ref q_0), (.int (32 : Int32)), (.int (0 : Int32)), (.int q_3)] 4 = mkF m 0 #[.val (.ref q_0), .val (.int (32 : Int32)), .val (.int (0 : Int32)), .val (.int q_3)] [] := by  first | (simp [entryFrame, mkF, argsToLocals, Value.category]; done) | rfl
set_option maxRecDepth 65536 in
set_option maxHeartbeats 40000000 in
theorem rl_io4 (l : Launch) (Z : State) (a0 : Array Value) (hw : ∀ d ∈ tables_1, d.before a0 Z = true) (more : List Jvm.Cond) (h0 : Heap) (b : Addr) (cs : List Int32) (kb : ClassId) (V : Arv Z h0 b kb .byte (Int32.ofNat cs.length) (cs.map (fun c => Value.int (StrChars.lo8 c))) (.int 0)) (hl : cs.length ≤ 4000) (hlat : ∀ c ∈ cs, ¬ (255 : Int32) < c) (hbc : ∀ c ∈ cs, ¬ c < 0 ∧ ¬ (65535 : Int32) < c) :
    own_Met true false consts_1 l Z a0 (⟨"java/lang/StringLatin1", "indexOf", "([BIII)I"⟩ : MethodName) jdk_43_method_22_code 4 (some .int) more ({ frames := 1, cells := 0, slots := 0, locals := 17 } : Room) #[(.ref b), (.int (32 : Int32)), (.int (0 : Int32)), (.int (Int32.ofNat cs.length))] h0 [] (fun v h => v = some (.int (own_spI cs))) := by
  refine own_enter (own := "java/lang/StringLatin1") rfl (plainFor_of_name pn_0) ?_
  intro p e s m below meth c T hx hby hml hret hlk hnm K
  rw [ef_rl_io4 m b (Int32.ofNat cs.length)]
  have A := own_here K
  refine own_iloadN A hx (pc' := 1) (hb hby d_jdk_43_method_22_0) rfl rfl ?_
  refine own_callS K hx (by rw [hml]; rfl) (hw _ (List.mem_of_getElem? (i := 77) rfl)) (hw _ (List.mem_of_getElem? (i := 78) rfl)) (hw _ (List.mem_of_getElem? (i := 75) rfl)) (hw _ (List.mem_of_getElem? (i := 79) rfl)) (by decide) (rl_can l Z a0 hw [] h0) (fun _ q => nomatch q) (argsL := [(.int (32 : Int32))]) (rest := []) (lenOf pd_0 rfl) rfl 0 (Nat.le_of_eq rfl) (hb hby d_jdk_43_method_22_1) (pc' := 4) rfl (by decide) (by decide) (by decide) (by decide) ?_
  intro v2 T2 h2 K2 Kp2 Q2
  obtain ⟨rfl, -⟩ := Q2
  have V := V.keep Kp2 nin0
  have A2 := own_here K2
  show own_Go p.tables e below _ T2 (mkF m 4 #[.val (.ref b), .val (.int (32 : Int32)), .val (.int (0 : Int32)), .val (.int (Int32.ofNat cs.length))] [(.int (1 : Int32))])
  refine own_if_ne A2 hx 9 7 (hb hby d_jdk_43_method_22_4) (by decide) (by decide) rfl (fun hc4 => ?_) (fun hc4 => ?_)
  rotate_left
  · exact absurd hc4 (by decide)
  refine own_iloadN A2 hx (pc' := 10) (hb hby d_jdk_43_method_22_9) rfl rfl ?_
  refine own_iconst A2 hx (pc' := 11) (hb hby d_jdk_43_method_22_10) (z := (0 : Int32)) (by decide) rfl ?_
  refine own_callS K2 hx (by rw [hml]; rfl) (hw _ (List.mem_of_getElem? (i := 80) rfl)) (hw _ (List.mem_of_getElem? (i := 81) rfl)) (hw _ (List.mem_of_getElem? (i := 82) rfl)) (hw _ (List.mem_of_getElem? (i := 83) rfl)) (by decide) (rl_max l Z a0 hw [] h2 (0 : Int32) (0 : Int32)) (fun _ q => nomatch q) (argsL := [(.int (0 : Int32)), (.int (0 : Int32))]) (rest := []) (lenOf pd_1 rfl) rfl 0 (Nat.le_of_eq rfl) (hb hby d_jdk_43_method_22_11) (pc' := 14) rfl (by decide) (by decide) (by decide) (by decide) ?_
  intro v3 T3 h3 K3 Kp3 Q3
  obtain ⟨rfl, -⟩ := Q3
  have V := V.keep Kp3 nin0
  have A3 := own_here K3
  show own_Go p.tables e below _ T3 (mkF m 14 #[.val (.ref b), .val (.int (32 : Int32)), .val (.int (0 : Int32)), .val (.int (Int32.ofNat cs.length))] [(.int (if (0 : Int32) < 0 then (0 : Int32) else 0))])
  rw [show (if (0 : Int32) < 0 then (0 : Int32) else 0) = 0 by decide]
  refine own_istoreN A3 hx (pc' := 15) #[.val (.ref b), .val (.int (32 : Int32)), .val (.int (0 : Int32)), .val (.int (Int32.ofNat cs.length))] (hb hby d_jdk_43_method_22_14) rfl rfl ?_
  refine own_iloadN A3 hx (pc' := 16) (hb hby d_jdk_43_method_22_15) rfl rfl ?_
  refine own_aloadN A3 hx (pc' := 17) (hb hby d_jdk_43_method_22_16) rfl rfl rfl ?_
  refine own_len K3 hx V (hb hby d_jdk_43_method_22_17) (pc' := 18) rfl ?_
  refine own_callS K3 hx (by rw [hml]; rfl) (hw _ (List.mem_of_getElem? (i := 84) rfl)) (hw _ (List.mem_of_getElem? (i := 85) rfl)) (hw _ (List.mem_of_getElem? (i := 82) rfl)) (hw _ (List.mem_of_getElem? (i := 86) rfl)) (by decide) (rl_min l Z a0 hw [] h3 (Int32.ofNat cs.length) (Int32.ofNat cs.length)) (fun _ q => nomatch q) (argsL := [(.int (Int32.ofNat cs.length)), (.int (Int32.ofNat cs.length))]) (rest := []) (lenOf pd_1 rfl) rfl 0 (Nat.le_of_eq rfl) (hb hby d_jdk_43_method_22_18) (pc' := 21) rfl (by decide) (by decide) (by decide) (by decide) ?_
  intro v4 T4 h4 K4 Kp4 Q4
  obtain ⟨rfl, -⟩ := Q4
  have V := V.keep Kp4 nin0
  have A4 := own_here K4
  show own_Go p.tables e below _ T4 (mkF m 21 #[.val (.ref b), .val (.int (32 : Int32)), .val (.int (0 : Int32)), .val (.int (Int32.ofNat cs.length))] [(.int (if (Int32.ofNat cs.length) < (Int32.ofNat cs.length) then (Int32.ofNat cs.length) else (Int32.ofNat cs.length)))])
  rw [if_neg (Int32.lt_irrefl : ¬ (Int32.ofNat cs.length) < (Int32.ofNat cs.length))]
  refine own_istoreN A4 hx (pc' := 22) #[.val (.ref b), .val (.int (32 : Int32)), .val (.int (0 : Int32)), .val (.int (Int32.ofNat cs.length))] (hb hby d_jdk_43_method_22_21) rfl rfl ?_
  refine own_iloadN A4 hx (pc' := 23) (hb hby d_jdk_43_method_22_22) rfl rfl ?_
  refine own_iloadN A4 hx (pc' := 24) (hb hby d_jdk_43_method_22_23) rfl rfl ?_
  refine own_icmp_lt A4 hx 29 27 (hb hby d_jdk_43_method_22_24) (by decide) (by decide) rfl (fun hc24 => ?_) (fun hc24 => ?_)
  · refine own_aloadN A4 hx (pc' := 30) (hb hby d_jdk_43_method_22_29) rfl rfl rfl ?_
    refine own_iloadN A4 hx (pc' := 31) (hb hby d_jdk_43_method_22_30) rfl rfl ?_
    refine own_iloadN A4 hx (pc' := 32) (hb hby d_jdk_43_method_22_31) rfl rfl ?_
    refine own_iloadN A4 hx (pc' := 33) (hb hby d_jdk_43_method_22_32) rfl rfl ?_
    refine own_callS K4 hx (by rw [hml]; rfl) (hw _ (List.mem_of_getElem? (i := 87) rfl)) (hw _ (List.mem_of_getElem? (i := 88) rfl)) (hw _ (List.mem_of_getElem? (i := 75) rfl)) (hw _ (List.mem_of_getElem? (i := 89) rfl)) (by decide) (rl_ioc l Z a0 hw [] h4 b cs kb V hl hlat hbc) (fun _ q => nomatch q) (argsL := [(.ref b), (.int (32 : Int32)), (.int (0 : Int32)), (.int (Int32.ofNat cs.length))]) (rest := []) (lenOf pd_2 rfl) rfl 0 (Nat.le_of_eq rfl) (hb hby d_jdk_43_method_22_33) (pc' := 36) rfl (by decide) (by decide) (by decide) (by decide) ?_
    intro v5 T5 h5 K5 Kp5 Q5
    obtain rfl := Q5
    have V := V.keep Kp5 nin0
    have A5 := own_here K5
    show own_Go p.tables e below _ T5 (mkF m 36 #[.val (.ref b), .val (.int (32 : Int32)), .val (.int (0 : Int32)), .val (.int (Int32.ofNat cs.length))] [(.int (own_spI cs))])
    exact own_retI K5 hx hlk hret (hb hby d_jdk_43_method_22_36) (by decide) (by decide) rfl
  · refine own_iconst A4 hx (pc' := 28) (hb hby d_jdk_43_method_22_27) (z := (-1 : Int32)) (by decide) rfl ?_
    exact own_retI K4 hx hlk hret (hb hby d_jdk_43_method_22_28) (by decide) (by decide) (by have e : cs.length = 0 := own_z (by omega) hc24; rw [List.eq_nil_of_length_eq_zero e]; decide)
theorem d_jdk_42_method_154_0 : decode jdk_42_method_154_code 0 = .ok (.getstatic 38, 3) := by decide +kernel
theorem d_jdk_42_method_154_3 : decode jdk_42_method_154_code 3 = .ok (.ifCond .eq 14, 3) := by decide +kernel
theorem d_jdk_42_method_154_6 : decode jdk_42_method_154_code 6 = .ok (.aload_n 0, 1) := by decide +kernel
theorem d_jdk_42_method_154_7 : decode jdk_42_method_154_code 7 = .ok (.getfield 15, 3) := by decide +kernel
theorem d_jdk_42_method_154_10 : decode jdk_42_method_154_code 10 = .ok (.ifCond .ne 7, 3) := by decide +kernel
theorem d_jdk_42_method_154_13 : decode jdk_42_method_154_code 13 = .ok (.iconst 1, 1) := by decide +kernel
theorem d_jdk_42_method_154_14 : decode jdk_42_method_154_code 14 = .ok (.goto 4, 3) := by decide +kernel
theorem d_jdk_42_method_154_18 : decode jdk_42_method_154_code 18 = .ok (.ireturn, 1) := by decide +kernel
theorem ef_rl_il (m : MethodId) (q_0 : Addr)  : entryFrame m #[(.ref q_0)] 1 = mkF m 0 #[.val (.ref q_0)] [] := by  first | (simp [entryFrame, mkF, argsToLocals, Value.category]; done) | rfl
theorem pn_1 : plainName "java/lang/String" = true := by first | (simp [plainName, overriddenIn]; done) | decide +kernel
set_option maxRecDepth 65536 in
set_option maxHeartbeats 40000000 in
theorem rl_il (l : Launch) (Z : State) (a0 : Array Value) (hw : ∀ d ∈ tables_1, d.before a0 Z = true) (more : List Jvm.Cond) (h0 : Heap) (x : Addr)  (G1 : Int32) (O2 : Sta Z Z.heap "java/lang/String" "COMPACT_STRINGS" "Z" (.int G1)) (P5 : ¬ (G1 = (0 : Int32))) (C : Fld Z h0 x "java/lang/String" "coder" "B" (.int 0)) :
    own_Met true false consts_1 l Z a0 (⟨"java/lang/String", "isLatin1", "()Z"⟩ : MethodName) jdk_42_method_154_code 1 (some .boolean) more ({ frames := 0, cells := 0, slots := 0, locals := 0 } : Room) #[(.ref x)] h0 [] (fun v h => v = some (.int 1) ∧ h = h0) := by
  refine own_enter (own := "java/lang/String") rfl (plainFor_of_name pn_1) ?_
  intro p e s m below meth c T hx hby hml hret hlk hnm K
  rw [ef_rl_il m x]
  have A := own_here K
  refine own_getS K hx (host := "") (Or.inl (hw _ (List.mem_of_getElem? (i := 25) rfl))) Via.refl O2 (hb hby d_jdk_42_method_154_0) (pc' := 3) rfl ?_
  intro T6 K6
  have A6 := own_here K6
  refine own_if_eq A6 hx 17 6 (hb hby d_jdk_42_method_154_3) (by decide) (by decide) rfl (fun hc3 => ?_) (fun hc3 => ?_)
  · exact absurd hc3 P5
  refine own_aloadN A6 hx (pc' := 7) (hb hby d_jdk_42_method_154_6) rfl rfl rfl ?_
  refine own_getF K6 hx (host := "") (Or.inl (hw _ (List.mem_of_getElem? (i := 37) rfl))) Via.refl C (hb hby d_jdk_42_method_154_7) (pc' := 10) rfl ?_
  intro T7 K7
  have A7 := own_here K7
  refine own_if_ne A7 hx 17 13 (hb hby d_jdk_42_method_154_10) (by decide) (by decide) rfl (fun hc10 => ?_) (fun hc10 => ?_)
  · exact absurd rfl hc10
  refine own_iconst A7 hx (pc' := 14) (hb hby d_jdk_42_method_154_13) (z := (1 : Int32)) (by decide) rfl ?_
  refine own_goto A7 hx 18 (hb hby d_jdk_42_method_154_14) (by decide) (by decide) ?_
  exact own_retN K7 hx hlk hret (by simp) (hb hby d_jdk_42_method_154_18) (by decide) (by decide) ⟨rfl, rfl⟩
theorem d_jdk_42_method_80_0 : decode jdk_42_method_80_code 0 = .ok (.aload_n 0, 1) := by decide +kernel
theorem pd_3 : parseMethodDescriptor "()Z" = some ⟨[], some .boolean⟩ := by decide +kernel
theorem d_jdk_42_method_80_1 : decode jdk_42_method_80_code 1 = .ok (.invokevirtual 492, 3) := by decide +kernel
theorem d_jdk_42_method_80_4 : decode jdk_42_method_80_code 4 = .ok (.ifCond .eq 19, 3) := by decide +kernel
theorem d_jdk_42_method_80_7 : decode jdk_42_method_80_code 7 = .ok (.aload_n 0, 1) := by decide +kernel
theorem d_jdk_42_method_80_8 : decode jdk_42_method_80_code 8 = .ok (.getfield 9, 3) := by decide +kernel
theorem d_jdk_42_method_80_11 : decode jdk_42_method_80_code 11 = .ok (.iload_n 1, 1) := by decide +kernel
theorem d_jdk_42_method_80_12 : decode jdk_42_method_80_code 12 = .ok (.iload_n 2, 1) := by decide +kernel
theorem d_jdk_42_method_80_13 : decode jdk_42_method_80_code 13 = .ok (.aload_n 0, 1) := by decide +kernel
theorem pd_4 : parseMethodDescriptor "()I" = some ⟨[], some .int⟩ := by decide +kernel
theorem d_jdk_42_method_80_14 : decode jdk_42_method_80_code 14 = .ok (.invokevirtual 505, 3) := by decide +kernel
theorem d_jdk_42_method_80_17 : decode jdk_42_method_80_code 17 = .ok (.invokestatic 637, 3) := by decide +kernel
theorem d_jdk_42_method_80_20 : decode jdk_42_method_80_code 20 = .ok (.goto 16, 3) := by decide +kernel
theorem d_jdk_42_method_80_36 : decode jdk_42_method_80_code 36 = .ok (.ireturn, 1) := by decide +kernel
theorem ef_rl_io2 (m : MethodId) (q_0 : Addr)  : entryFrame m #[(.ref q_0), (.int (32 : Int32)), (.int (0 : Int32))] 3 = mkF m 0 #[.val (.ref q_0), .val (.int (32 : Int32)), .val (.int (0 : Int32))] [] := by  first | (simp [entryFrame, mkF, argsToLocals, Value.category]; done) | rfl
set_option maxRecDepth 65536 in
set_option maxHeartbeats 40000000 in
theorem rl_io2 (l : Launch) (Z : State) (a0 : Array Value) (hw : ∀ d ∈ tables_1, d.before a0 Z = true) (more : List Jvm.Cond) (h0 : Heap) (x : Addr) (cs : List Int32) (G1 : Int32) (O2 : Sta Z Z.heap "java/lang/String" "COMPACT_STRINGS" "Z" (.int G1)) (P5 : ¬ (G1 = (0 : Int32))) (S : own_Str Z h0 x cs) (hlat : ∀ c ∈ cs, ¬ (255 : Int32) < c) :
    own_Met true false consts_1 l Z a0 (⟨"java/lang/String", "indexOf", "(II)I"⟩ : MethodName) jdk_42_method_80_code 3 (some .int) more ({ frames := 2, cells := 0, slots := 0, locals := 32 } : Room) #[(.ref x), (.int (32 : Int32)), (.int (0 : Int32))] h0 [] (fun v h => v = some (.int (own_spI cs))) := by
  refine own_enter (own := "java/lang/String") rfl (plainFor_of_name pn_1) ?_
  intro p e s m below meth c T hx hby hml hret hlk hnm K
  rw [ef_rl_io2 m x]
  have A := own_here K
  have S0 := S
  obtain ⟨t, kb, cd, N2, vs, E, V, C, Y, hc, hbc, hl⟩ := S
  rcases hc with ⟨rfl, rfl, rfl, -⟩ | ⟨-, -, -, c, hc, hb'⟩
  rotate_left
  · exact absurd hb' (hlat c hc)
  refine own_aloadN A hx (pc' := 1) (hb hby d_jdk_42_method_80_0) rfl rfl rfl ?_
  refine own_callV K hx (by rw [hml]; rfl) (hw _ (List.mem_of_getElem? (i := 58) rfl)) (hw _ (List.mem_of_getElem? (i := 59) rfl)) (fun U hU => notFace_of_selects (args := #[]) (mvT hU (hw _ (List.mem_of_getElem? (i := 61) rfl)))) (hw _ (List.mem_of_getElem? (i := 61) rfl)) (hw _ (List.mem_of_getElem? (i := 60) rfl)) (hw _ (List.mem_of_getElem? (i := 14) rfl)) (hw _ (List.mem_of_getElem? (i := 62) rfl)) (by decide) S0.exa (rl_il l Z a0 hw [] h0 x G1 O2 P5 C) (fun _ q => nomatch q) (argsL := []) (rest := []) (lenOf pd_3 rfl) rfl 0 (Nat.le_of_eq rfl) (hb hby d_jdk_42_method_80_1) (pc' := 4) rfl (by decide) (by decide) (by decide) (by decide) ?_
  intro v8 T8 h8 K8 Kp8 Q8
  obtain ⟨rfl, -⟩ := Q8
  have S0 := S0.keep Kp8 own_off0
  have E := E.keep Kp8
  have V := V.keep Kp8 nin0
  have C := C.keep Kp8 nin0
  have Y := Y.keep Kp8 nin0
  have A8 := own_here K8
  show own_Go p.tables e below _ T8 (mkF m 4 #[.val (.ref x), .val (.int (32 : Int32)), .val (.int (0 : Int32))] [(.int (1 : Int32))])
  refine own_if_eq A8 hx 23 7 (hb hby d_jdk_42_method_80_4) (by decide) (by decide) rfl (fun hc4 => ?_) (fun hc4 => ?_)
  · exact absurd hc4 (by decide)
  refine own_aloadN A8 hx (pc' := 8) (hb hby d_jdk_42_method_80_7) rfl rfl rfl ?_
  refine own_getF K8 hx (host := "") (Or.inl (hw _ (List.mem_of_getElem? (i := 39) rfl))) Via.refl V (hb hby d_jdk_42_method_80_8) (pc' := 11) rfl ?_
  intro T9 K9
  have A9 := own_here K9
  refine own_iloadN A9 hx (pc' := 12) (hb hby d_jdk_42_method_80_11) rfl rfl ?_
  refine own_iloadN A9 hx (pc' := 13) (hb hby d_jdk_42_method_80_12) rfl rfl ?_
  refine own_aloadN A9 hx (pc' := 14) (hb hby d_jdk_42_method_80_13) rfl rfl rfl ?_
  refine own_strLen K9 hx (by rw [hml]; rfl) (hw _ (List.mem_of_getElem? (i := 63) rfl)) (hw _ (List.mem_of_getElem? (i := 64) rfl)) (hw _ (List.mem_of_getElem? (i := 66) rfl)) (hw _ (List.mem_of_getElem? (i := 65) rfl)) (own_wl hw) (hw _ (List.mem_of_getElem? (i := 13) rfl)) S0 O2 P5 (lenOf pd_4 rfl) 3 (Nat.le_of_eq rfl) (hb hby d_jdk_42_method_80_14) (pc' := 17) rfl (by decide) (by decide) (by decide) (by decide) ?_
  intro T10 K10
  have A10 := own_here K10
  refine own_callS K10 hx (by rw [hml]; rfl) (hw _ (List.mem_of_getElem? (i := 73) rfl)) (hw _ (List.mem_of_getElem? (i := 74) rfl)) (hw _ (List.mem_of_getElem? (i := 75) rfl)) (hw _ (List.mem_of_getElem? (i := 76) rfl)) (by decide) (rl_io4 l Z a0 hw [] h8 t cs kb Y hl hlat hbc) (fun _ q => nomatch q) (argsL := [(.ref t), (.int (32 : Int32)), (.int (0 : Int32)), (.int (Int32.ofNat (cs : List Int32).length))]) (rest := []) (lenOf pd_2 rfl) rfl 0 (Nat.le_of_eq rfl) (hb hby d_jdk_42_method_80_17) (pc' := 20) rfl (by decide) (by decide) (by decide) (by decide) ?_
  intro v11 T11 h11 K11 Kp11 Q11
  obtain rfl := Q11
  have S0 := S0.keep Kp11 own_off0
  have E := E.keep Kp11
  have V := V.keep Kp11 nin0
  have C := C.keep Kp11 nin0
  have Y := Y.keep Kp11 nin0
  have A11 := own_here K11
  show own_Go p.tables e below _ T11 (mkF m 20 #[.val (.ref x), .val (.int (32 : Int32)), .val (.int (0 : Int32))] [(.int (own_spI cs))])
  refine own_goto A11 hx 36 (hb hby d_jdk_42_method_80_20) (by decide) (by decide) ?_
  exact own_retI K11 hx hlk hret (hb hby d_jdk_42_method_80_36) (by decide) (by decide) rfl
theorem d_jdk_42_method_79_0 : decode jdk_42_method_79_code 0 = .ok (.aload_n 0, 1) := by decide +kernel
theorem d_jdk_42_method_79_1 : decode jdk_42_method_79_code 1 = .ok (.iload_n 1, 1) := by decide +kernel
theorem d_jdk_42_method_79_2 : decode jdk_42_method_79_code 2 = .ok (.iconst 0, 1) := by decide +kernel
theorem d_jdk_42_method_79_3 : decode jdk_42_method_79_code 3 = .ok (.invokevirtual 633, 3) := by decide +kernel
theorem d_jdk_42_method_79_6 : decode jdk_42_method_79_code 6 = .ok (.ireturn, 1) := by decide +kernel
theorem ef_rl_io1 (m : MethodId) (q_0 : Addr)  : entryFrame m #[(.ref q_0), (.int (32 : Int32))] 2 = mkF m 0 #[.val (.ref q_0), .val (.int (32 : Int32))] [] := by  first | (simp [entryFrame, mkF, argsToLocals, Value.category]; done) | rfl
set_option maxRecDepth 65536 in
set_option maxHeartbeats 40000000 in
theorem rl_io1 (l : Launch) (Z : State) (a0 : Array Value) (hw : ∀ d ∈ tables_1, d.before a0 Z = true) (more : List Jvm.Cond) (h0 : Heap) (x : Addr) (cs : List Int32) (G1 : Int32) (O2 : Sta Z Z.heap "java/lang/String" "COMPACT_STRINGS" "Z" (.int G1)) (P5 : ¬ (G1 = (0 : Int32))) (S : own_Str Z h0 x cs) (hlat : ∀ c ∈ cs, ¬ (255 : Int32) < c) :
    own_Met true false consts_1 l Z a0 (⟨"java/lang/String", "indexOf", "(I)I"⟩ : MethodName) jdk_42_method_79_code 2 (some .int) more ({ frames := 3, cells := 0, slots := 0, locals := 46 } : Room) #[(.ref x), (.int (32 : Int32))] h0 [] (fun v h => v = some (.int (own_spI cs))) := by
  refine own_enter (own := "java/lang/String") rfl (plainFor_of_name pn_1) ?_
  intro p e s m below meth c T hx hby hml hret hlk hnm K
  rw [ef_rl_io1 m x]
  have A := own_here K
  refine own_aloadN A hx (pc' := 1) (hb hby d_jdk_42_method_79_0) rfl rfl rfl ?_
  refine own_iloadN A hx (pc' := 2) (hb hby d_jdk_42_method_79_1) rfl rfl ?_
  refine own_iconst A hx (pc' := 3) (hb hby d_jdk_42_method_79_2) (z := (0 : Int32)) (by decide) rfl ?_
  refine own_callV K hx (by rw [hml]; rfl) (hw _ (List.mem_of_getElem? (i := 53) rfl)) (hw _ (List.mem_of_getElem? (i := 54) rfl)) (fun U hU => notFace_of_selects (args := #[]) (mvT hU (hw _ (List.mem_of_getElem? (i := 56) rfl)))) (hw _ (List.mem_of_getElem? (i := 56) rfl)) (hw _ (List.mem_of_getElem? (i := 55) rfl)) (hw _ (List.mem_of_getElem? (i := 14) rfl)) (hw _ (List.mem_of_getElem? (i := 57) rfl)) (by decide) S.exa (rl_io2 l Z a0 hw [] h0 x cs G1 O2 P5 S hlat) (fun _ q => nomatch q) (argsL := [(.int (32 : Int32)), (.int (0 : Int32))]) (rest := []) (lenOf pd_1 rfl) rfl 0 (Nat.le_of_eq rfl) (hb hby d_jdk_42_method_79_3) (pc' := 6) rfl (by decide) (by decide) (by decide) (by decide) ?_
  intro v12 T12 h12 K12 Kp12 Q12
  obtain rfl := Q12
  have S := S.keep Kp12 own_off0
  have A12 := own_here K12
  show own_Go p.tables e below _ T12 (mkF m 6 #[.val (.ref x), .val (.int (32 : Int32))] [(.int (own_spI cs))])
  exact own_retI K12 hx hlk hret (hb hby d_jdk_42_method_79_6) (by decide) (by decide) rfl
theorem own_le {i j : Nat} (hj : j < 2 ^ 31) (h : i ≤ j) : ¬ Int32.ofNat j < Int32.ofNat i := by
  rw [Int32.lt_iff_toInt_lt, Int32.toInt_ofNat_small hj, Int32.toInt_ofNat_small (by omega)]; omega
theorem d_jdk_41_method_12_0 : decode jdk_41_method_12_code 0 = .ok (.iload_n 0, 1) := by decide +kernel
theorem d_jdk_41_method_12_1 : decode jdk_41_method_12_code 1 = .ok (.ifCond .lt 13, 3) := by decide +kernel
theorem d_jdk_41_method_12_4 : decode jdk_41_method_12_code 4 = .ok (.iload_n 0, 1) := by decide +kernel
theorem d_jdk_41_method_12_5 : decode jdk_41_method_12_code 5 = .ok (.iload_n 1, 1) := by decide +kernel
theorem d_jdk_41_method_12_6 : decode jdk_41_method_12_code 6 = .ok (.if_icmp .gt 8, 3) := by decide +kernel
theorem d_jdk_41_method_12_9 : decode jdk_41_method_12_code 9 = .ok (.iload_n 1, 1) := by decide +kernel
theorem d_jdk_41_method_12_10 : decode jdk_41_method_12_code 10 = .ok (.iload_n 2, 1) := by decide +kernel
theorem d_jdk_41_method_12_11 : decode jdk_41_method_12_code 11 = .ok (.if_icmp .le 11, 3) := by decide +kernel
theorem d_jdk_41_method_12_22 : decode jdk_41_method_12_code 22 = .ok (.iload_n 0, 1) := by decide +kernel
theorem d_jdk_41_method_12_23 : decode jdk_41_method_12_code 23 = .ok (.ireturn, 1) := by decide +kernel
theorem ef_rl_cft (m : MethodId) (q_0 : Int32) (q_1 : Int32) (q_2 : Int32) (f : Value) (hr_f : f.isRef = true) : entryFrame m #[(.int q_0), (.int q_1), (.int q_2), f] 4 = mkF m 0 #[.val (.int q_0), .val (.int q_1), .val (.int q_2), .val f] [] := by rcases ref_cases hr_f with rfl | ⟨_, rfl⟩ <;>  first | (simp [entryFrame, mkF, argsToLocals, Value.category]; done) | rfl
theorem pn_2 : plainName "jdk/internal/util/Preconditions" = true := by first | (simp [plainName, overriddenIn]; done) | decide +kernel
set_option maxRecDepth 65536 in
set_option maxHeartbeats 40000000 in
theorem rl_cft (l : Launch) (Z : State) (a0 : Array Value) (hw : ∀ d ∈ tables_1, d.before a0 Z = true) (more : List Jvm.Cond) (h0 : Heap) (f : Value) (i j n : Nat) (hr_f : f.isRef = true) (hij : i ≤ j) (hjn : j ≤ n) (hn : n < 2 ^ 31) :
    own_Met true false consts_1 l Z a0 (⟨"jdk/internal/util/Preconditions", "checkFromToIndex", "(IIILjava/util/function/BiFunction;)I"⟩ : MethodName) jdk_41_method_12_code 4 (some .int) more ({ frames := 0, cells := 0, slots := 0, locals := 0 } : Room) #[(.int (Int32.ofNat i)), (.int (Int32.ofNat j)), (.int (Int32.ofNat n)), f] h0 [] (fun v h => v = some (.int (Int32.ofNat i)) ∧ h = h0) := by
  refine own_enter (own := "jdk/internal/util/Preconditions") rfl (plainFor_of_name pn_2) ?_
  intro p e s m below meth c T hx hby hml hret hlk hnm K
  rw [ef_rl_cft m (Int32.ofNat i) (Int32.ofNat j) (Int32.ofNat n) f hr_f]
  have A := own_here K
  refine own_iloadN A hx (pc' := 1) (hb hby d_jdk_41_method_12_0) rfl rfl ?_
  refine own_if_lt A hx 14 4 (hb hby d_jdk_41_method_12_1) (by decide) (by decide) rfl (fun hc1 => ?_) (fun hc1 => ?_)
  · exact absurd hc1 (own_nat0 (by omega))
  refine own_iloadN A hx (pc' := 5) (hb hby d_jdk_41_method_12_4) rfl rfl ?_
  refine own_iloadN A hx (pc' := 6) (hb hby d_jdk_41_method_12_5) rfl rfl ?_
  refine own_icmp_gt A hx 14 9 (hb hby d_jdk_41_method_12_6) (by decide) (by decide) rfl (fun hc6 => ?_) (fun hc6 => ?_)
  · exact absurd hc6 (own_le (by omega) hij)
  refine own_iloadN A hx (pc' := 10) (hb hby d_jdk_41_method_12_9) rfl rfl ?_
  refine own_iloadN A hx (pc' := 11) (hb hby d_jdk_41_method_12_10) rfl rfl ?_
  refine own_icmp_le A hx 22 14 (hb hby d_jdk_41_method_12_11) (by decide) (by decide) rfl (fun hc11 => ?_) (fun hc11 => ?_)
  rotate_left
  · exact absurd hc11 (own_le hn hjn)
  refine own_iloadN A hx (pc' := 23) (hb hby d_jdk_41_method_12_22) rfl rfl ?_
  exact own_retI K hx hlk hret (hb hby d_jdk_41_method_12_23) (by decide) (by decide) ⟨rfl, rfl⟩
theorem d_jdk_42_method_158_0 : decode jdk_42_method_158_code 0 = .ok (.iload_n 0, 1) := by decide +kernel
theorem d_jdk_42_method_158_1 : decode jdk_42_method_158_code 1 = .ok (.iload_n 1, 1) := by decide +kernel
theorem d_jdk_42_method_158_2 : decode jdk_42_method_158_code 2 = .ok (.iload_n 2, 1) := by decide +kernel
theorem d_jdk_42_method_158_3 : decode jdk_42_method_158_code 3 = .ok (.getstatic 1053, 3) := by decide +kernel
theorem pd_5 : parseMethodDescriptor "(IIILjava/util/function/BiFunction;)I" = some ⟨[.int, .int, .int, (.object "java/util/function/BiFunction")], some .int⟩ := by decide +kernel
theorem d_jdk_42_method_158_6 : decode jdk_42_method_158_code 6 = .ok (.invokestatic 1062, 3) := by decide +kernel
theorem d_jdk_42_method_158_9 : decode jdk_42_method_158_code 9 = .ok (.pop, 1) := by decide +kernel
theorem d_jdk_42_method_158_10 : decode jdk_42_method_158_code 10 = .ok (.return_, 1) := by decide +kernel
theorem ef_rl_cbe (m : MethodId) (q_0 : Int32) (q_1 : Int32) (q_2 : Int32)  : entryFrame m #[(.int q_0), (.int q_1), (.int q_2)] 3 = mkF m 0 #[.val (.int q_0), .val (.int q_1), .val (.int q_2)] [] := by  first | (simp [entryFrame, mkF, argsToLocals, Value.category]; done) | rfl
set_option maxRecDepth 65536 in
set_option maxHeartbeats 40000000 in
theorem rl_cbe (l : Launch) (Z : State) (a0 : Array Value) (hw : ∀ d ∈ tables_1, d.before a0 Z = true) (more : List Jvm.Cond) (h0 : Heap)  (i j n : Nat) (G3 : Value) (O4 : Sta Z Z.heap "jdk/internal/util/Preconditions" "SIOOBE_FORMATTER" "Ljava/util/function/BiFunction;" G3) (hr_G3 : G3.isRef = true) (hij : i ≤ j) (hjn : j ≤ n) (hn : n < 2 ^ 31) :
    own_Met true false consts_1 l Z a0 (⟨"java/lang/String", "checkBoundsBeginEnd", "(III)V"⟩ : MethodName) jdk_42_method_158_code 3 none more ({ frames := 1, cells := 0, slots := 0, locals := 15 } : Room) #[(.int (Int32.ofNat i)), (.int (Int32.ofNat j)), (.int (Int32.ofNat n))] h0 [] (fun v h => v = none ∧ h = h0) := by
  refine own_enter (own := "java/lang/String") rfl (plainFor_of_name pn_1) ?_
  intro p e s m below meth c T hx hby hml hret hlk hnm K
  rw [ef_rl_cbe m (Int32.ofNat i) (Int32.ofNat j) (Int32.ofNat n)]
  have A := own_here K
  refine own_iloadN A hx (pc' := 1) (hb hby d_jdk_42_method_158_0) rfl rfl ?_
  refine own_iloadN A hx (pc' := 2) (hb hby d_jdk_42_method_158_1) rfl rfl ?_
  refine own_iloadN A hx (pc' := 3) (hb hby d_jdk_42_method_158_2) rfl rfl ?_
  refine own_getS K hx (host := "") (Or.inl (hw _ (List.mem_of_getElem? (i := 116) rfl))) Via.refl O4 (hb hby d_jdk_42_method_158_3) (pc' := 6) rfl ?_
  intro T13 K13
  have A13 := own_here K13
  refine own_callS K13 hx (by rw [hml]; rfl) (hw _ (List.mem_of_getElem? (i := 118) rfl)) (hw _ (List.mem_of_getElem? (i := 119) rfl)) (hw _ (List.mem_of_getElem? (i := 117) rfl)) (hw _ (List.mem_of_getElem? (i := 120) rfl)) (by decide) (rl_cft l Z a0 hw [] h0 G3 i j n hr_G3 hij hjn hn) (fun _ q => nomatch q) (argsL := [(.int (Int32.ofNat i)), (.int (Int32.ofNat j)), (.int (Int32.ofNat n)), G3]) (rest := []) (lenOf pd_5 rfl) rfl 0 (Nat.le_of_eq rfl) (hb hby d_jdk_42_method_158_6) (pc' := 9) rfl (by decide) (by decide) (by decide) (by decide) ?_
  intro v14 T14 h14 K14 Kp14 Q14
  obtain ⟨rfl, e14⟩ := Q14
  have A14 := own_here K14
  show own_Go p.tables e below _ T14 (mkF m 9 #[.val (.int (Int32.ofNat i)), .val (.int (Int32.ofNat j)), .val (.int (Int32.ofNat n))] [(.int (Int32.ofNat i))])
  refine own_pop A14 hx (pc' := 10) (hb hby d_jdk_42_method_158_9) rfl rfl ?_
  exact own_retV K14 hx hlk hret (hb hby d_jdk_42_method_158_10) (by decide) (by decide) ⟨rfl, e14⟩
theorem d_jdk_65_method_131_0 : decode jdk_65_method_131_code 0 = .ok (.iload_n 1, 1) := by decide +kernel
theorem d_jdk_65_method_131_1 : decode jdk_65_method_131_code 1 = .ok (.iload_n 0, 1) := by decide +kernel
theorem d_jdk_65_method_131_2 : decode jdk_65_method_131_code 2 = .ok (.if_icmp .ge 35, 3) := by decide +kernel
theorem d_jdk_65_method_131_37 : decode jdk_65_method_131_code 37 = .ok (.return_, 1) := by decide +kernel
theorem ef_rl_ckl (m : MethodId) (q_0 : Int32) (q_1 : Int32)  : entryFrame m #[(.int q_0), (.int q_1)] 2 = mkF m 0 #[.val (.int q_0), .val (.int q_1)] [] := by  first | (simp [entryFrame, mkF, argsToLocals, Value.category]; done) | rfl
theorem pn_3 : plainName "java/util/Arrays" = true := by first | (simp [plainName, overriddenIn]; done) | decide +kernel
set_option maxRecDepth 65536 in
set_option maxHeartbeats 40000000 in
theorem rl_ckl (l : Launch) (Z : State) (a0 : Array Value) (hw : ∀ d ∈ tables_1, d.before a0 Z = true) (more : List Jvm.Cond) (h0 : Heap)  (i j : Nat) (hij : i ≤ j) (hj : j < 2 ^ 31) :
    own_Met true false consts_1 l Z a0 (⟨"java/util/Arrays", "checkLength", "(II)V"⟩ : MethodName) jdk_65_method_131_code 2 none more ({ frames := 0, cells := 0, slots := 0, locals := 0 } : Room) #[(.int (Int32.ofNat i)), (.int (Int32.ofNat j))] h0 [] (fun v h => v = none ∧ h = h0) := by
  refine own_enter (own := "java/util/Arrays") rfl (plainFor_of_name pn_3) ?_
  intro p e s m below meth c T hx hby hml hret hlk hnm K
  rw [ef_rl_ckl m (Int32.ofNat i) (Int32.ofNat j)]
  have A := own_here K
  refine own_iloadN A hx (pc' := 1) (hb hby d_jdk_65_method_131_0) rfl rfl ?_
  refine own_iloadN A hx (pc' := 2) (hb hby d_jdk_65_method_131_1) rfl rfl ?_
  refine own_icmp_ge A hx 37 5 (hb hby d_jdk_65_method_131_2) (by decide) (by decide) rfl (fun hc2 => ?_) (fun hc2 => ?_)
  rotate_left
  · exact absurd hc2 (own_le hj hij)
  exact own_retV K hx hlk hret (hb hby d_jdk_65_method_131_37) (by decide) (by decide) ⟨rfl, rfl⟩
theorem own_minN {a b : Nat} (ha : a < 2 ^ 31) (h : b ≤ a) : (if Int32.ofNat b < Int32.ofNat a then Int32.ofNat b else Int32.ofNat a) = Int32.ofNat b := by
  split
  · rfl
  · rename_i q
    rw [show a = b from by have := own_natnlt (by omega) ha q; omega]
theorem d_jdk_65_method_133_0 : decode jdk_65_method_133_code 0 = .ok (.iload_n 1, 1) := by decide +kernel
theorem d_jdk_65_method_133_1 : decode jdk_65_method_133_code 1 = .ok (.iload_n 2, 1) := by decide +kernel
theorem pd_6 : parseMethodDescriptor "(II)V" = some ⟨[.int, .int], none⟩ := by decide +kernel
theorem d_jdk_65_method_133_2 : decode jdk_65_method_133_code 2 = .ok (.invokestatic 343, 3) := by decide +kernel
theorem d_jdk_65_method_133_5 : decode jdk_65_method_133_code 5 = .ok (.iload_n 2, 1) := by decide +kernel
theorem d_jdk_65_method_133_6 : decode jdk_65_method_133_code 6 = .ok (.iload_n 1, 1) := by decide +kernel
theorem d_jdk_65_method_133_7 : decode jdk_65_method_133_code 7 = .ok (.isub, 1) := by decide +kernel
theorem d_jdk_65_method_133_8 : decode jdk_65_method_133_code 8 = .ok (.istore_n 3, 1) := by decide +kernel
theorem d_jdk_65_method_133_9 : decode jdk_65_method_133_code 9 = .ok (.iload_n 3, 1) := by decide +kernel
theorem d_jdk_65_method_133_10 : decode jdk_65_method_133_code 10 = .ok (.newarray .byte, 2) := by decide +kernel
theorem d_jdk_65_method_133_12 : decode jdk_65_method_133_code 12 = .ok (.astore 4, 2) := by decide +kernel
theorem d_jdk_65_method_133_14 : decode jdk_65_method_133_code 14 = .ok (.aload_n 0, 1) := by decide +kernel
theorem d_jdk_65_method_133_15 : decode jdk_65_method_133_code 15 = .ok (.iload_n 1, 1) := by decide +kernel
theorem d_jdk_65_method_133_16 : decode jdk_65_method_133_code 16 = .ok (.aload 4, 2) := by decide +kernel
theorem d_jdk_65_method_133_18 : decode jdk_65_method_133_code 18 = .ok (.iconst 0, 1) := by decide +kernel
theorem d_jdk_65_method_133_19 : decode jdk_65_method_133_code 19 = .ok (.aload_n 0, 1) := by decide +kernel
theorem d_jdk_65_method_133_20 : decode jdk_65_method_133_code 20 = .ok (.arraylength, 1) := by decide +kernel
theorem d_jdk_65_method_133_21 : decode jdk_65_method_133_code 21 = .ok (.iload_n 1, 1) := by decide +kernel
theorem d_jdk_65_method_133_22 : decode jdk_65_method_133_code 22 = .ok (.isub, 1) := by decide +kernel
theorem d_jdk_65_method_133_23 : decode jdk_65_method_133_code 23 = .ok (.iload_n 3, 1) := by decide +kernel
theorem d_jdk_65_method_133_24 : decode jdk_65_method_133_code 24 = .ok (.invokestatic 304, 3) := by decide +kernel
theorem d_jdk_65_method_133_27 : decode jdk_65_method_133_code 27 = .ok (.invokestatic 150, 3) := by decide +kernel
theorem d_jdk_65_method_133_30 : decode jdk_65_method_133_code 30 = .ok (.aload 4, 2) := by decide +kernel
theorem d_jdk_65_method_133_32 : decode jdk_65_method_133_code 32 = .ok (.areturn, 1) := by decide +kernel
theorem ef_rl_crb (m : MethodId) (q_0 : Addr) (q_1 : Int32) (q_2 : Int32)  : entryFrame m #[(.ref q_0), (.int q_1), (.int q_2)] 5 = mkF m 0 #[.val (.ref q_0), .val (.int q_1), .val (.int q_2), .unset, .unset] [] := by  first | (simp [entryFrame, mkF, argsToLocals, Value.category]; done) | rfl
set_option maxRecDepth 65536 in
set_option maxHeartbeats 40000000 in
theorem rl_crb (l : Launch) (Z : State) (a0 : Array Value) (hw : ∀ d ∈ tables_1, d.before a0 Z = true) (more : List Jvm.Cond) (h0 : Heap) (b : Addr) (cs : List Int32) (kb : ClassId) (i j : Nat) (V : Arv Z h0 b kb .byte (Int32.ofNat cs.length) (cs.map (fun c => Value.int (StrChars.lo8 c))) (.int 0)) (hl : cs.length ≤ 4000) (hij : i ≤ j) (hjn : j ≤ cs.length) (hcap : j - i ≤ 5) :
    own_Met true false consts_1 l Z a0 (⟨"java/util/Arrays", "copyOfRangeByte", "([BII)[B"⟩ : MethodName) jdk_65_method_133_code 5 (some (.array .byte)) more ({ frames := 1, cells := 1, slots := 5, locals := 18 } : Room) #[(.ref b), (.int (Int32.ofNat i)), (.int (Int32.ofNat j))] h0 [] (fun v h => ∃ t k, v = some (.ref t) ∧ h0.size ≤ t ∧ Arv Z h t k .byte (Int32.ofNat (j - i)) (((cs.drop i).take (j - i)).map (fun c => Value.int (StrChars.lo8 c))) (.int 0)) := by
  refine own_enter (own := "java/util/Arrays") rfl (plainFor_of_name pn_3) ?_
  intro p e s m below meth c T hx hby hml hret hlk hnm K
  rw [ef_rl_crb m b (Int32.ofNat i) (Int32.ofNat j)]
  have A := own_here K
  refine own_iloadN A hx (pc' := 1) (hb hby d_jdk_65_method_133_0) rfl rfl ?_
  refine own_iloadN A hx (pc' := 2) (hb hby d_jdk_65_method_133_1) rfl rfl ?_
  refine own_callS K hx (by rw [hml]; rfl) (hw _ (List.mem_of_getElem? (i := 133) rfl)) (hw _ (List.mem_of_getElem? (i := 134) rfl)) (hw _ (List.mem_of_getElem? (i := 128) rfl)) (hw _ (List.mem_of_getElem? (i := 135) rfl)) (by decide) (rl_ckl l Z a0 hw [] h0 i j hij (by omega)) (fun _ q => nomatch q) (argsL := [(.int (Int32.ofNat i)), (.int (Int32.ofNat j))]) (rest := []) (lenOf pd_6 rfl) rfl 0 (Nat.le_of_eq rfl) (hb hby d_jdk_65_method_133_2) (pc' := 5) rfl (by decide) (by decide) (by decide) (by decide) ?_
  intro v15 T15 h15 K15 Kp15 Q15
  obtain ⟨rfl, -⟩ := Q15
  have V := V.keep Kp15 nin0
  have A15 := own_here K15
  show own_Go p.tables e below _ T15 (mkF m 5 #[.val (.ref b), .val (.int (Int32.ofNat i)), .val (.int (Int32.ofNat j)), .unset, .unset] [])
  refine own_iloadN A15 hx (pc' := 6) (hb hby d_jdk_65_method_133_5) rfl rfl ?_
  refine own_iloadN A15 hx (pc' := 7) (hb hby d_jdk_65_method_133_6) rfl rfl ?_
  refine own_isub A15 hx (pc' := 8) (hb hby d_jdk_65_method_133_7) (z := ((Int32.ofNat j) - (Int32.ofNat i))) rfl rfl ?_
  rw [own_natsub (by omega) hij]
  refine own_istoreN A15 hx (pc' := 9) #[.val (.ref b), .val (.int (Int32.ofNat i)), .val (.int (Int32.ofNat j)), .val (.int (Int32.ofNat (j - i))), .unset] (hb hby d_jdk_65_method_133_8) rfl rfl ?_
  refine own_iloadN A15 hx (pc' := 10) (hb hby d_jdk_65_method_133_9) rfl rfl ?_
  refine own_newarr K15 hx (hw _ (List.mem_of_getElem? (i := 30) rfl)) (hb hby d_jdk_65_method_133_10) (pc' := 12) rfl (own_nat0 (by omega)) 5 (by rw [own_natcl (by omega)]; omega) (by decide) (by decide) (by decide) ?_
  intro T16 h16 b16 k16 g16 K16 E16 V16
  have ne_b_b16 : b ≠ b16 := by rw [g16]; exact Nat.ne_of_lt V.lt
  have V := V.ext E16
  have A16 := own_here K16
  refine own_astore A16 hx (pc' := 14) #[.val (.ref b), .val (.int (Int32.ofNat i)), .val (.int (Int32.ofNat j)), .val (.int (Int32.ofNat (j - i))), .val (.ref b16)] (hb hby d_jdk_65_method_133_12) rfl rfl rfl ?_
  refine own_aloadN A16 hx (pc' := 15) (hb hby d_jdk_65_method_133_14) rfl rfl rfl ?_
  refine own_iloadN A16 hx (pc' := 16) (hb hby d_jdk_65_method_133_15) rfl rfl ?_
  refine own_aload A16 hx (pc' := 18) (hb hby d_jdk_65_method_133_16) rfl rfl rfl ?_
  refine own_iconst A16 hx (pc' := 19) (hb hby d_jdk_65_method_133_18) (z := (0 : Int32)) (by decide) rfl ?_
  refine own_aloadN A16 hx (pc' := 20) (hb hby d_jdk_65_method_133_19) rfl rfl rfl ?_
  refine own_len K16 hx V (hb hby d_jdk_65_method_133_20) (pc' := 21) rfl ?_
  refine own_iloadN A16 hx (pc' := 22) (hb hby d_jdk_65_method_133_21) rfl rfl ?_
  refine own_isub A16 hx (pc' := 23) (hb hby d_jdk_65_method_133_22) (z := ((Int32.ofNat cs.length) - (Int32.ofNat i))) rfl rfl ?_
  refine own_iloadN A16 hx (pc' := 24) (hb hby d_jdk_65_method_133_23) rfl rfl ?_
  rw [own_natsub (by omega) (by omega)]
  refine own_callS K16 hx (by rw [hml]; rfl) (hw _ (List.mem_of_getElem? (i := 136) rfl)) (hw _ (List.mem_of_getElem? (i := 85) rfl)) (hw _ (List.mem_of_getElem? (i := 82) rfl)) (hw _ (List.mem_of_getElem? (i := 86) rfl)) (by decide) (rl_min l Z a0 hw [] h16 (Int32.ofNat (cs.length - i)) (Int32.ofNat (j - i))) (fun _ q => nomatch q) (argsL := [(.int (Int32.ofNat (cs.length - i))), (.int (Int32.ofNat (j - i)))]) (rest := [(.int (0 : Int32)), (.ref b16), (.int (Int32.ofNat i)), (.ref b)]) (lenOf pd_1 rfl) rfl 4 (Nat.le_of_eq rfl) (hb hby d_jdk_65_method_133_24) (pc' := 27) rfl (by decide) (by decide) (by decide) (by decide) ?_
  intro v17 T17 h17 K17 Kp17 Q17
  obtain ⟨rfl, -⟩ := Q17
  have V := V.keep Kp17 nin0
  have V16 := V16.keep Kp17 nin0
  have A17 := own_here K17
  show own_Go p.tables e below _ T17 (mkF m 27 #[.val (.ref b), .val (.int (Int32.ofNat i)), .val (.int (Int32.ofNat j)), .val (.int (Int32.ofNat (j - i))), .val (.ref b16)] [(.int (if (Int32.ofNat (j - i)) < (Int32.ofNat (cs.length - i)) then (Int32.ofNat (j - i)) else (Int32.ofNat (cs.length - i)))), (.int (0 : Int32)), (.ref b16), (.int (Int32.ofNat i)), (.ref b)])
  rw [own_minN (by omega) (by omega)]
  refine own_acopy (i := i) (n := j - i) K17 hx (hw _ (List.mem_of_getElem? (i := 137) rfl)) (hw _ (List.mem_of_getElem? (i := 140) rfl)) (hw _ (List.mem_of_getElem? (i := 138) rfl)) (hw _ (List.mem_of_getElem? (i := 139) rfl)) V V16 (List.mem_of_getElem? (i := 0) rfl) (by simp only [List.length_map]; omega) (by rw [List.length_map]) (by rw [List.length_map]; omega) (by rw [hml]; rfl) (hb hby d_jdk_65_method_133_27) (pc' := 30) rfl (by decide) (by decide) ?_
  intro T18 h18 K18 Kp18 Y18
  have V := V.keep Kp18 (ninS ne_b_b16 nin0)
  have A18 := own_here K18
  rw [own_lowMap] at Y18
  refine own_aload A18 hx (pc' := 32) (hb hby d_jdk_65_method_133_30) rfl rfl rfl ?_
  exact own_retR K18 hx hlk hret rfl rfl (hb hby d_jdk_65_method_133_32) (by decide) (by decide) ⟨_, _, rfl, by rw [g16]; exact Kp15.1, Y18⟩
theorem d_jdk_65_method_132_0 : decode jdk_65_method_132_code 0 = .ok (.iload_n 1, 1) := by decide +kernel
theorem d_jdk_65_method_132_1 : decode jdk_65_method_132_code 1 = .ok (.ifCond .ne 9, 3) := by decide +kernel
theorem d_jdk_65_method_132_10 : decode jdk_65_method_132_code 10 = .ok (.aload_n 0, 1) := by decide +kernel
theorem d_jdk_65_method_132_11 : decode jdk_65_method_132_code 11 = .ok (.iload_n 1, 1) := by decide +kernel
theorem d_jdk_65_method_132_12 : decode jdk_65_method_132_code 12 = .ok (.iload_n 2, 1) := by decide +kernel
theorem pd_7 : parseMethodDescriptor "([BII)[B" = some ⟨[(.array .byte), .int, .int], some (.array .byte)⟩ := by decide +kernel
theorem d_jdk_65_method_132_13 : decode jdk_65_method_132_code 13 = .ok (.invokestatic 339, 3) := by decide +kernel
theorem d_jdk_65_method_132_16 : decode jdk_65_method_132_code 16 = .ok (.areturn, 1) := by decide +kernel
theorem d_jdk_65_method_132_4 : decode jdk_65_method_132_code 4 = .ok (.iload_n 2, 1) := by decide +kernel
theorem d_jdk_65_method_132_5 : decode jdk_65_method_132_code 5 = .ok (.aload_n 0, 1) := by decide +kernel
theorem d_jdk_65_method_132_6 : decode jdk_65_method_132_code 6 = .ok (.arraylength, 1) := by decide +kernel
theorem d_jdk_65_method_132_7 : decode jdk_65_method_132_code 7 = .ok (.if_icmp .eq 10, 3) := by decide +kernel
theorem ef_rl_cor (m : MethodId) (q_0 : Addr) (q_1 : Int32) (q_2 : Int32)  : entryFrame m #[(.ref q_0), (.int q_1), (.int q_2)] 3 = mkF m 0 #[.val (.ref q_0), .val (.int q_1), .val (.int q_2)] [] := by  first | (simp [entryFrame, mkF, argsToLocals, Value.category]; done) | rfl
set_option maxRecDepth 65536 in
set_option maxHeartbeats 40000000 in
theorem rl_cor (l : Launch) (Z : State) (a0 : Array Value) (hw : ∀ d ∈ tables_1, d.before a0 Z = true) (more : List Jvm.Cond) (h0 : Heap) (b : Addr) (cs : List Int32) (kb : ClassId) (i j : Nat) (V : Arv Z h0 b kb .byte (Int32.ofNat cs.length) (cs.map (fun c => Value.int (StrChars.lo8 c))) (.int 0)) (hl : cs.length ≤ 4000) (hij : i ≤ j) (hjn : j ≤ cs.length) (hcap : j - i ≤ 5) (hpart : ¬ (i = 0 ∧ j = cs.length)) :
    own_Met true false consts_1 l Z a0 (⟨"java/util/Arrays", "copyOfRange", "([BII)[B"⟩ : MethodName) jdk_65_method_132_code 3 (some (.array .byte)) more ({ frames := 2, cells := 1, slots := 5, locals := 34 } : Room) #[(.ref b), (.int (Int32.ofNat i)), (.int (Int32.ofNat j))] h0 [] (fun v h => ∃ t k, v = some (.ref t) ∧ h0.size ≤ t ∧ Arv Z h t k .byte (Int32.ofNat (j - i)) (((cs.drop i).take (j - i)).map (fun c => Value.int (StrChars.lo8 c))) (.int 0)) := by
  refine own_enter (own := "java/util/Arrays") rfl (plainFor_of_name pn_3) ?_
  intro p e s m below meth c T hx hby hml hret hlk hnm K
  rw [ef_rl_cor m b (Int32.ofNat i) (Int32.ofNat j)]
  have A := own_here K
  refine own_iloadN A hx (pc' := 1) (hb hby d_jdk_65_method_132_0) rfl rfl ?_
  refine own_if_ne A hx 10 4 (hb hby d_jdk_65_method_132_1) (by decide) (by decide) rfl (fun hc1 => ?_) (fun hc1 => ?_)
  · refine own_aloadN A hx (pc' := 11) (hb hby d_jdk_65_method_132_10) rfl rfl rfl ?_
    refine own_iloadN A hx (pc' := 12) (hb hby d_jdk_65_method_132_11) rfl rfl ?_
    refine own_iloadN A hx (pc' := 13) (hb hby d_jdk_65_method_132_12) rfl rfl ?_
    refine own_callS K hx (by rw [hml]; rfl) (hw _ (List.mem_of_getElem? (i := 130) rfl)) (hw _ (List.mem_of_getElem? (i := 131) rfl)) (hw _ (List.mem_of_getElem? (i := 128) rfl)) (hw _ (List.mem_of_getElem? (i := 132) rfl)) (by decide) (rl_crb l Z a0 hw [] h0 b cs kb i j V hl hij hjn hcap) (fun _ q => nomatch q) (argsL := [(.ref b), (.int (Int32.ofNat i)), (.int (Int32.ofNat j))]) (rest := []) (lenOf pd_7 rfl) rfl 0 (Nat.le_of_eq rfl) (hb hby d_jdk_65_method_132_13) (pc' := 16) rfl (by decide) (by decide) (by decide) (by decide) ?_
    intro v19 T19 h19 K19 Kp19 Q19
    obtain ⟨t, kt, rfl, ge, Y⟩ := Q19
    have V := V.keep Kp19 nin0
    have A19 := own_here K19
    show own_Go p.tables e below _ T19 (mkF m 16 #[.val (.ref b), .val (.int (Int32.ofNat i)), .val (.int (Int32.ofNat j))] [(.ref t)])
    exact own_retR K19 hx hlk hret rfl rfl (hb hby d_jdk_65_method_132_16) (by decide) (by decide) ⟨t, kt, rfl, ge, Y⟩
  · refine own_iloadN A hx (pc' := 5) (hb hby d_jdk_65_method_132_4) rfl rfl ?_
    refine own_aloadN A hx (pc' := 6) (hb hby d_jdk_65_method_132_5) rfl rfl rfl ?_
    refine own_len K hx V (hb hby d_jdk_65_method_132_6) (pc' := 7) rfl ?_
    refine own_icmp_eq A hx 17 10 (hb hby d_jdk_65_method_132_7) (by decide) (by decide) rfl (fun hc7 => ?_) (fun hc7 => ?_)
    · exact absurd ⟨own_natinj (n := 0) (by omega) (by decide) hc1, own_natinj (by omega) (by omega) hc7⟩ hpart
    refine own_aloadN A hx (pc' := 11) (hb hby d_jdk_65_method_132_10) rfl rfl rfl ?_
    refine own_iloadN A hx (pc' := 12) (hb hby d_jdk_65_method_132_11) rfl rfl ?_
    refine own_iloadN A hx (pc' := 13) (hb hby d_jdk_65_method_132_12) rfl rfl ?_
    refine own_callS K hx (by rw [hml]; rfl) (hw _ (List.mem_of_getElem? (i := 130) rfl)) (hw _ (List.mem_of_getElem? (i := 131) rfl)) (hw _ (List.mem_of_getElem? (i := 128) rfl)) (hw _ (List.mem_of_getElem? (i := 132) rfl)) (by decide) (rl_crb l Z a0 hw [] h0 b cs kb i j V hl hij hjn hcap) (fun _ q => nomatch q) (argsL := [(.ref b), (.int (Int32.ofNat i)), (.int (Int32.ofNat j))]) (rest := []) (lenOf pd_7 rfl) rfl 0 (Nat.le_of_eq rfl) (hb hby d_jdk_65_method_132_13) (pc' := 16) rfl (by decide) (by decide) (by decide) (by decide) ?_
    intro v20 T20 h20 K20 Kp20 Q20
    obtain ⟨t, kt, rfl, ge, Y⟩ := Q20
    have V := V.keep Kp20 nin0
    have A20 := own_here K20
    show own_Go p.tables e below _ T20 (mkF m 16 #[.val (.ref b), .val (.int (Int32.ofNat i)), .val (.int (Int32.ofNat j))] [(.ref t)])
    exact own_retR K20 hx hlk hret rfl rfl (hb hby d_jdk_65_method_132_16) (by decide) (by decide) ⟨t, kt, rfl, ge, Y⟩
def own_up (c : Int32) : Prop := (¬ c < 65 ∧ ¬ 90 < c) ∨ (¬ c < 192 ∧ ¬ 222 < c ∧ ¬ c = 215)
instance own_upD : DecidablePred own_up := fun c => by unfold own_up; infer_instance
def own_ci (c d : Int32) : Prop := c = d ∨ (own_up c ∧ d = c + 32) ∨ (own_up d ∧ c = d + 32)
instance own_ciD (c d : Int32) : Decidable (own_ci c d) := by unfold own_ci; infer_instance
theorem own_u8 {c : Int32} (h : ¬ c < 0 ∧ ¬ (255 : Int32) < c) : ∃ k : Fin 256, c = Int32.ofNat k.val := by
  rw [Int32.lt_iff_toInt_lt, Int32.lt_iff_toInt_lt] at h
  have e0 : (0 : Int32).toInt = 0 := rfl
  have e1 : (255 : Int32).toInt = 255 := rfl
  refine ⟨⟨c.toInt.toNat, by omega⟩, ?_⟩
  apply Int32.toInt_inj.mp
  rw [Int32.toInt_ofNat_small (by show c.toInt.toNat < 2 ^ 31; omega)]
  show c.toInt = ((c.toInt.toNat : Nat) : Int)
  omega
theorem own_ciL1 : ∀ k : Fin 256, own_up (Int32.ofNat k.val) → Int32.ofNat k.val &&& 223 = Int32.ofNat k.val ∧ (Int32.ofNat k.val + 32) &&& 223 = Int32.ofNat k.val := by decide +kernel
theorem own_ciL2 : ∀ k : Fin 256, Int32.ofNat k.val &&& 223 = Int32.ofNat k.val ∨ Int32.ofNat k.val = (Int32.ofNat k.val &&& 223) + 32 := by decide +kernel
theorem own_ciL3 : ∀ k : Fin 256, StrChars.lo8 (Int32.ofNat k.val) &&& 223 = Int32.ofNat k.val &&& 223 := by decide +kernel
/-- what CharacterDataLatin1.equalsIgnoreCase asks of two bytes -/
theorem own_eici {c d : Int32} (hc : ¬ c < 0 ∧ ¬ (255 : Int32) < c) (hd : ¬ d < 0 ∧ ¬ (255 : Int32) < d) : (StrChars.lo8 c = StrChars.lo8 d ∨ (own_up (StrChars.lo8 c &&& 223) ∧ StrChars.lo8 c &&& 223 = StrChars.lo8 d &&& 223)) ↔ own_ci c d := by
  obtain ⟨k, ek⟩ := own_u8 hc
  obtain ⟨m, em⟩ := own_u8 hd
  have x1 : StrChars.lo8 c &&& 223 = c &&& 223 := by rw [ek]; exact own_ciL3 k
  have x2 : StrChars.lo8 d &&& 223 = d &&& 223 := by rw [em]; exact own_ciL3 m
  rw [x1, x2]
  have l2c : c &&& 223 = c ∨ c = (c &&& 223) + 32 := by rw [ek]; exact own_ciL2 k
  have l2d : d &&& 223 = d ∨ d = (d &&& 223) + 32 := by rw [em]; exact own_ciL2 m
  constructor
  · rintro (h | ⟨h1, h2⟩)
    · exact Or.inl (own_lo8inj hc hd h)
    · rcases l2c with a | a <;> rcases l2d with b | b
      · exact Or.inl (by rw [← a, ← b, h2])
      · refine Or.inr (Or.inl ⟨by rw [a] at h1; exact h1, ?_⟩)
        rw [b, ← h2, a]
      · refine Or.inr (Or.inr ⟨by rw [h2, b] at h1; exact h1, ?_⟩)
        rw [a, h2, b]
      · exact Or.inl (by rw [a, b, h2])
  · rintro (h | ⟨h1, h2⟩ | ⟨h1, h2⟩)
    · exact Or.inl (by rw [h])
    · have q : c &&& 223 = c ∧ (c + 32) &&& 223 = c := by rw [ek]; rw [ek] at h1; exact own_ciL1 k h1
      exact Or.inr ⟨by rw [q.1]; exact h1, by rw [q.1, h2, q.2]⟩
    · have q : d &&& 223 = d ∧ (d + 32) &&& 223 = d := by rw [em]; rw [em] at h1; exact own_ciL1 m h1
      exact Or.inr ⟨by rw [h2, q.2]; exact h1, by rw [h2, q.2, q.1]⟩
def own_eqi (cs ds : List Int32) : Prop := cs.length = ds.length ∧ ∀ j, j < cs.length → own_ci (cs.getD j 0) (ds.getD j 0)
instance own_eqiD (cs ds : List Int32) : Decidable (own_eqi cs ds) := by unfold own_eqi; infer_instance
theorem own_eqi_refl (cs : List Int32) : own_eqi cs cs := ⟨rfl, fun _ _ => Or.inl rfl⟩
theorem own_lowInj {cs ds : List Int32} (h1 : ∀ c ∈ cs, ¬ c < 0 ∧ ¬ (255 : Int32) < c) (h2 : ∀ c ∈ ds, ¬ c < 0 ∧ ¬ (255 : Int32) < c) (hl : cs.length = ds.length) (hv : ∀ j, j < cs.length → (cs.map (fun c => Value.int (StrChars.lo8 c))).getD j (.int 0) = (ds.map (fun c => Value.int (StrChars.lo8 c))).getD j (.int 0)) : cs = ds := by
  apply List.ext_getElem hl
  intro j a b
  have q := hv j a
  rw [StrChars.Road.low_at _ cs j a, StrChars.Road.low_at _ ds j b] at q
  have e1 : cs.getD j 0 = cs[j] := by rw [List.getD_eq_getElem?_getD, List.getElem?_eq_getElem a]; rfl
  have e2 : ds.getD j 0 = ds[j] := by rw [List.getD_eq_getElem?_getD, List.getElem?_eq_getElem b]; rfl
  rw [e1, e2] at q
  exact own_lo8inj (h1 _ (List.getElem_mem a)) (h2 _ (List.getElem_mem b)) (Value.int.inj q)
theorem own_Str.inj {Z : State} {h : Heap} {a : Addr} {cs ds : List Int32} (F : own_Str Z h a cs) (G : own_Str Z h a ds) (h1 : ∀ c ∈ cs, ¬ (255 : Int32) < c) (h2 : ∀ c ∈ ds, ¬ (255 : Int32) < c) : cs = ds := by
  obtain ⟨t, kb, cd, N2, vs, E, V, C, A, hc, hb, hl⟩ := F
  obtain ⟨t', kb', cd', N2', vs', E', V', C', A', hc', hb', hl'⟩ := G
  obtain ⟨c1, f1, k1, i1, g1, p1, p2, -, -, -, -, p7⟩ := V
  obtain ⟨c2, f2, k2, i2, g2, q1, q2, -, -, -, -, q7⟩ := V'
  cases p1.symm.trans q1
  cases p2.symm.trans q2
  cases p7.symm.trans q7
  rcases hc with ⟨-, rfl, rfl, -⟩ | ⟨-, -, -, c, hc, hb2⟩
  · rcases hc' with ⟨-, rfl, rfl, -⟩ | ⟨-, -, -, c, hc, hb2⟩
    · obtain ⟨x, X, -, x2, -, x4, -⟩ := A
      obtain ⟨y, Y, -, y2, -, y4, -⟩ := A'
      cases X.1.symm.trans Y.1
      rw [own_natcl (by omega)] at x2 y2
      refine own_lowInj (fun c hc => ⟨(hb c hc).1, h1 c hc⟩) (fun c hc => ⟨(hb' c hc).1, h2 c hc⟩) (x2.symm.trans y2) fun j hj => ?_
      exact Option.some.inj ((x4 j (by omega)).symm.trans (y4 j (by omega)))
    · exact absurd hb2 (h2 c hc)
  · exact absurd hb2 (h1 c hc)
theorem d_jdk_42_method_151_0 : decode jdk_42_method_151_code 0 = .ok (.aload_n 0, 1) := by decide +kernel
theorem d_jdk_42_method_151_1 : decode jdk_42_method_151_code 1 = .ok (.invokespecial 1, 3) := by decide +kernel
theorem d_jdk_42_method_151_4 : decode jdk_42_method_151_code 4 = .ok (.aload_n 0, 1) := by decide +kernel
theorem d_jdk_42_method_151_5 : decode jdk_42_method_151_code 5 = .ok (.aload_n 1, 1) := by decide +kernel
theorem d_jdk_42_method_151_6 : decode jdk_42_method_151_code 6 = .ok (.putfield 9, 3) := by decide +kernel
theorem d_jdk_42_method_151_9 : decode jdk_42_method_151_code 9 = .ok (.aload_n 0, 1) := by decide +kernel
theorem d_jdk_42_method_151_10 : decode jdk_42_method_151_code 10 = .ok (.iload_n 2, 1) := by decide +kernel
theorem d_jdk_42_method_151_11 : decode jdk_42_method_151_code 11 = .ok (.putfield 15, 3) := by decide +kernel
theorem d_jdk_42_method_151_14 : decode jdk_42_method_151_code 14 = .ok (.return_, 1) := by decide +kernel
theorem ef_rm_i2 (m : MethodId) (q_0 : Addr) (q_1 : Addr)  : entryFrame m #[(.ref q_0), (.ref q_1), (.int (0 : Int32))] 3 = mkF m 0 #[.val (.ref q_0), .val (.ref q_1), .val (.int (0 : Int32))] [] := by  first | (simp [entryFrame, mkF, argsToLocals, Value.category]; done) | rfl
set_option maxRecDepth 65536 in
set_option maxHeartbeats 40000000 in
theorem rm_i2 (l : Launch) (Z : State) (a0 : Array Value) (hw : ∀ d ∈ tables_1, d.before a0 Z = true) (more : List Jvm.Cond) (h0 : Heap) (x : Addr) (b : Addr) (v0 c0 : Value) (E : Exa Z h0 x "java/lang/String") (V : Fld Z h0 x "java/lang/String" "value" "[B" v0) (C : Fld Z h0 x "java/lang/String" "coder" "B" c0) :
    own_Met true false consts_1 l Z a0 (⟨"java/lang/String", "<init>", "([BB)V"⟩ : MethodName) jdk_42_method_151_code 3 none more ({ frames := 1, cells := 0, slots := 0, locals := 12 } : Room) #[(.ref x), (.ref b), (.int (0 : Int32))] h0 [x] (fun v h => v = none ∧ Exa Z h x "java/lang/String" ∧ Fld Z h x "java/lang/String" "value" "[B" (.ref b) ∧ Fld Z h x "java/lang/String" "coder" "B" (.int 0)) := by
  refine own_enter (own := "java/lang/String") rfl (plainFor_of_name pn_1) ?_
  intro p e s m below meth c T hx hby hml hret hlk hnm K
  rw [ef_rm_i2 m x b]
  have A := own_here K
  refine own_aloadN A hx (pc' := 1) (hb hby d_jdk_42_method_151_0) rfl rfl rfl ?_
  refine own_initO K hx (hw _ (List.mem_of_getElem? (i := 22) rfl)) (hw _ (List.mem_of_getElem? (i := 23) rfl)) (hw _ (List.mem_of_getElem? (i := 24) rfl)) (by rw [hml]; rfl) 0 (Nat.le_of_eq rfl) (by decide) (by decide) (hb hby d_jdk_42_method_151_1) (pc' := 4) rfl ?_
  intro T21 K21
  have A21 := own_here K21
  refine own_aloadN A21 hx (pc' := 5) (hb hby d_jdk_42_method_151_4) rfl rfl rfl ?_
  refine own_aloadN A21 hx (pc' := 6) (hb hby d_jdk_42_method_151_5) rfl rfl rfl ?_
  refine own_putF K21 hx (host := "") (Or.inl (hw _ (List.mem_of_getElem? (i := 39) rfl))) Via.refl V E (Or.inr ⟨(hw _ (List.mem_of_getElem? (i := 40) rfl)), rfl, hnm⟩) (hw _ (List.mem_of_getElem? (i := 13) rfl)) (ty := (.array .byte)) (by decide) rfl rfl (List.mem_of_getElem? (i := 0) rfl) (hb hby d_jdk_42_method_151_6) (pc' := 9) rfl ?_
  intro T22 h22 K22 W22
  have E := E.wr W22
  have V := V.same W22
  have C := C.other W22 (Or.inr (slot_ne (Or.inr (hw _ (List.mem_of_getElem? (i := 38) rfl))) (Or.inr (hw _ (List.mem_of_getElem? (i := 40) rfl))) (by decide) (t := .byte) (t' := (.array .byte)) (by decide) (by decide)))
  have A22 := own_here K22
  refine own_aloadN A22 hx (pc' := 10) (hb hby d_jdk_42_method_151_9) rfl rfl rfl ?_
  refine own_iloadN A22 hx (pc' := 11) (hb hby d_jdk_42_method_151_10) rfl rfl ?_
  refine own_putF K22 hx (host := "") (Or.inl (hw _ (List.mem_of_getElem? (i := 37) rfl))) Via.refl C E (Or.inr ⟨(hw _ (List.mem_of_getElem? (i := 38) rfl)), rfl, hnm⟩) (hw _ (List.mem_of_getElem? (i := 13) rfl)) (ty := .byte) (by decide) (by decide) (by decide) (List.mem_of_getElem? (i := 0) rfl) (hb hby d_jdk_42_method_151_11) (pc' := 14) rfl ?_
  intro T23 h23 K23 W23
  have E := E.wr W23
  have V := V.other W23 (Or.inr (slot_ne (Or.inr (hw _ (List.mem_of_getElem? (i := 40) rfl))) (Or.inr (hw _ (List.mem_of_getElem? (i := 38) rfl))) (by decide) (t := (.array .byte)) (t' := .byte) (by decide) (by decide)))
  have C := C.same W23
  have A23 := own_here K23
  exact own_retV K23 hx hlk hret (hb hby d_jdk_42_method_151_14) (by decide) (by decide) ⟨rfl, E, V, C⟩
theorem d_jdk_43_method_47_0 : decode jdk_43_method_47_code 0 = .ok (.iload_n 2, 1) := by decide +kernel
theorem d_jdk_43_method_47_1 : decode jdk_43_method_47_code 1 = .ok (.ifCond .ne 6, 3) := by decide +kernel
theorem d_jdk_43_method_47_7 : decode jdk_43_method_47_code 7 = .ok (.new 1, 3) := by decide +kernel
theorem d_jdk_43_method_47_10 : decode jdk_43_method_47_code 10 = .ok (.dup, 1) := by decide +kernel
theorem d_jdk_43_method_47_11 : decode jdk_43_method_47_code 11 = .ok (.aload_n 0, 1) := by decide +kernel
theorem d_jdk_43_method_47_12 : decode jdk_43_method_47_code 12 = .ok (.iload_n 1, 1) := by decide +kernel
theorem d_jdk_43_method_47_13 : decode jdk_43_method_47_code 13 = .ok (.iload_n 1, 1) := by decide +kernel
theorem d_jdk_43_method_47_14 : decode jdk_43_method_47_code 14 = .ok (.iload_n 2, 1) := by decide +kernel
theorem d_jdk_43_method_47_15 : decode jdk_43_method_47_code 15 = .ok (.iadd, 1) := by decide +kernel
theorem d_jdk_43_method_47_16 : decode jdk_43_method_47_code 16 = .ok (.invokestatic 232, 3) := by decide +kernel
theorem d_jdk_43_method_47_19 : decode jdk_43_method_47_code 19 = .ok (.iconst 0, 1) := by decide +kernel
theorem pd_8 : parseMethodDescriptor "([BB)V" = some ⟨[(.array .byte), .byte], none⟩ := by decide +kernel
theorem d_jdk_43_method_47_20 : decode jdk_43_method_47_code 20 = .ok (.invokespecial 112, 3) := by decide +kernel
theorem d_jdk_43_method_47_23 : decode jdk_43_method_47_code 23 = .ok (.areturn, 1) := by decide +kernel
theorem d_jdk_43_method_47_4 : decode jdk_43_method_47_code 4 = .ok (.ldc 151, 2) := by decide +kernel
theorem d_jdk_43_method_47_6 : decode jdk_43_method_47_code 6 = .ok (.areturn, 1) := by decide +kernel
theorem ef_rl_ns (m : MethodId) (q_0 : Addr) (q_1 : Int32) (q_2 : Int32)  : entryFrame m #[(.ref q_0), (.int q_1), (.int q_2)] 3 = mkF m 0 #[.val (.ref q_0), .val (.int q_1), .val (.int q_2)] [] := by  first | (simp [entryFrame, mkF, argsToLocals, Value.category]; done) | rfl
set_option maxRecDepth 65536 in
set_option maxHeartbeats 40000000 in
theorem rl_ns (l : Launch) (Z : State) (a0 : Array Value) (hw : ∀ d ∈ tables_1, d.before a0 Z = true) (more : List Jvm.Cond) (h0 : Heap) (b : Addr) (cs : List Int32) (kb : ClassId) (i n : Nat) (V : Arv Z h0 b kb .byte (Int32.ofNat cs.length) (cs.map (fun c => Value.int (StrChars.lo8 c))) (.int 0)) (hl : cs.length ≤ 4000) (hlat : ∀ c ∈ cs, ¬ (255 : Int32) < c) (hbc : ∀ c ∈ cs, ¬ c < 0 ∧ ¬ (65535 : Int32) < c) (hin : i + n ≤ cs.length) (hcap : n ≤ 5) (hpart : ¬ n = 0 → ¬ (i = 0 ∧ n = cs.length)) :
    own_Met true false consts_1 l Z a0 (⟨"java/lang/StringLatin1", "newString", "([BII)Ljava/lang/String;"⟩ : MethodName) jdk_43_method_47_code 3 (some (.object "java/lang/String")) more ({ frames := 3, cells := 2, slots := 9, locals := 50 } : Room) #[(.ref b), (.int (Int32.ofNat i)), (.int (Int32.ofNat n))] h0 [] (fun v h => ∃ a, v = some (.ref a) ∧ own_Str Z h a ((cs.drop i).take n)) := by
  refine own_enter (own := "java/lang/StringLatin1") rfl (plainFor_of_name pn_0) ?_
  intro p e s m below meth c T hx hby hml hret hlk hnm K
  rw [ef_rl_ns m b (Int32.ofNat i) (Int32.ofNat n)]
  have A := own_here K
  refine own_iloadN A hx (pc' := 1) (hb hby d_jdk_43_method_47_0) rfl rfl ?_
  refine own_if_ne A hx 7 4 (hb hby d_jdk_43_method_47_1) (by decide) (by decide) rfl (fun hc1 => ?_) (fun hc1 => ?_)
  · refine own_new K hx (hw _ (List.mem_of_getElem? (i := 125) rfl)) (hw _ (List.mem_of_getElem? (i := 13) rfl)) (hw _ (List.mem_of_getElem? (i := 14) rfl)) (hb hby d_jdk_43_method_47_7) (pc' := 10) rfl (by decide) (by decide) ?_
    intro T24 h24 b24 g24 K24 E24 X24 D24 U24
    have ne_b_b24 : b ≠ b24 := by rw [g24]; exact Nat.ne_of_lt V.lt
    have V := V.ext E24
    have A24 := own_here K24
    have F_value_b24 := D24 (Or.inr (hw _ (List.mem_of_getElem? (i := 40) rfl))) (ty := (.array .byte)) (by decide)
    have F_coder_b24 := D24 (Or.inr (hw _ (List.mem_of_getElem? (i := 38) rfl))) (ty := .byte) (by decide)
    refine own_dup A24 hx (pc' := 11) (hb hby d_jdk_43_method_47_10) rfl rfl ?_
    refine own_aloadN A24 hx (pc' := 12) (hb hby d_jdk_43_method_47_11) rfl rfl rfl ?_
    refine own_iloadN A24 hx (pc' := 13) (hb hby d_jdk_43_method_47_12) rfl rfl ?_
    refine own_iloadN A24 hx (pc' := 14) (hb hby d_jdk_43_method_47_13) rfl rfl ?_
    refine own_iloadN A24 hx (pc' := 15) (hb hby d_jdk_43_method_47_14) rfl rfl ?_
    refine own_iadd A24 hx (pc' := 16) (hb hby d_jdk_43_method_47_15) (z := ((Int32.ofNat i) + (Int32.ofNat n))) rfl rfl ?_
    rw [own_natadd]
    have hn1 : ¬ n = 0 := fun q => hc1 (by rw [q]; rfl)
    have X0_b24 := X24
    refine own_callS K24 hx (by rw [hml]; rfl) (hw _ (List.mem_of_getElem? (i := 126) rfl)) (hw _ (List.mem_of_getElem? (i := 127) rfl)) (hw _ (List.mem_of_getElem? (i := 128) rfl)) (hw _ (List.mem_of_getElem? (i := 129) rfl)) (by decide) (rl_cor l Z a0 hw [] h24 b cs kb i (i + n) V hl (by omega) (by omega) (by omega) (fun q => hpart hn1 ⟨q.1, by omega⟩)) (fun _ q => nomatch q) (argsL := [(.ref b), (.int (Int32.ofNat i)), (.int (Int32.ofNat (i + n)))]) (rest := [(.ref b24), (.ref b24)]) (lenOf pd_7 rfl) rfl 2 (Nat.le_of_eq rfl) (hb hby d_jdk_43_method_47_16) (pc' := 19) rfl (by decide) (by decide) (by decide) (by decide) ?_
    intro v25 T25 h25 K25 Kp25 Q25
    obtain ⟨t, kt, rfl, ge, Y⟩ := Q25
    have V := V.keep Kp25 nin0
    have X24 := X24.keep Kp25
    have F_value_b24 := F_value_b24.keep Kp25 nin0
    have F_coder_b24 := F_coder_b24.keep Kp25 nin0
    have A25 := own_here K25
    show own_Go p.tables e below _ T25 (mkF m 19 #[.val (.ref b), .val (.int (Int32.ofNat i)), .val (.int (Int32.ofNat n))] [(.ref t), (.ref b24), (.ref b24)])
    rw [Nat.add_sub_cancel_left] at Y
    have ne_t : t ≠ b24 := fun q => Nat.lt_irrefl _ (Nat.lt_of_lt_of_le X0_b24.lt (q ▸ ge))
    refine own_iconst A25 hx (pc' := 20) (hb hby d_jdk_43_method_47_19) (z := (0 : Int32)) (by decide) rfl ?_
    refine own_callSp K25 hx (by rw [hml]; rfl) rfl (hw _ (List.mem_of_getElem? (i := 141) rfl)) (hw _ (List.mem_of_getElem? (i := 106) rfl)) (hw _ (List.mem_of_getElem? (i := 14) rfl)) (hw _ (List.mem_of_getElem? (i := 107) rfl)) (by decide) (rm_i2 l Z a0 hw [] h25 b24 t _ _ X24 F_value_b24 F_coder_b24) (own_mem1 (List.mem_of_getElem? (i := 0) rfl)) (argsL := [(.ref t), (.int (0 : Int32))]) (rest := [(.ref b24)]) (lenOf pd_8 rfl) rfl 1 (Nat.le_of_eq rfl) (hb hby d_jdk_43_method_47_20) (pc' := 23) rfl (by decide) (by decide) (by decide) (by decide) ?_
    intro v26 T26 h26 K26 Kp26 Q26
    obtain ⟨rfl, E26, V26, C26⟩ := Q26
    have V := V.keep Kp26 (ninS ne_b_b24 nin0)
    have Y := Y.keep Kp26 (ninS ne_t nin0)
    have A26 := own_here K26
    show own_Go p.tables e below _ T26 (mkF m 23 #[.val (.ref b), .val (.int (Int32.ofNat i)), .val (.int (Int32.ofNat n))] [(.ref b24)])
    exact own_retR K26 hx hlk hret rfl rfl (hb hby d_jdk_43_method_47_23) (by decide) (by decide) ⟨_, rfl, own_Str.of0 E26 V26 C26 Y (by rw [List.length_take, List.length_drop, Nat.min_eq_left (by omega)]) (by rw [List.map_map]; rfl) (fun c hc => have q := List.mem_of_mem_drop (List.mem_of_mem_take hc); ⟨(hbc c q).1, hlat c q⟩) (by rw [List.length_take, List.length_drop]; omega)⟩
  · have hn0 : n = 0 := own_natinj (n := 0) (by omega) (by decide) hc1
    refine own_ldcR (n := 0) (zn := (0 : Int32)) (vs := []) K hx (hw _ (List.mem_of_getElem? (i := 124) rfl)) (own_sa hw) (by decide +kernel) ⟨by decide +kernel, by decide +kernel⟩ (by decide) (by decide) (hb hby d_jdk_43_method_47_4) (pc' := 6) rfl (by decide +kernel) (by decide) (by decide) (by decide) ?_
    intro b27 T27 h27 t27 kt27 K27 E27 X27 C27 V27 Y27 N27
    have V := V.ext E27
    have A27 := own_here K27
    have S27 := own_Str.of0 (cs := []) X27 V27 C27 Y27 rfl (by decide +kernel) (by decide +kernel) (by decide)
    exact own_retR K27 hx hlk hret rfl rfl (hb hby d_jdk_43_method_47_6) (by decide) (by decide) ⟨_, rfl, by rw [hn0, List.take_zero]; exact S27⟩
theorem d_jdk_42_method_92_0 : decode jdk_42_method_92_code 0 = .ok (.aload_n 0, 1) := by decide +kernel
theorem d_jdk_42_method_92_1 : decode jdk_42_method_92_code 1 = .ok (.invokevirtual 505, 3) := by decide +kernel
theorem d_jdk_42_method_92_4 : decode jdk_42_method_92_code 4 = .ok (.istore_n 3, 1) := by decide +kernel
theorem d_jdk_42_method_92_5 : decode jdk_42_method_92_code 5 = .ok (.iload_n 1, 1) := by decide +kernel
theorem d_jdk_42_method_92_6 : decode jdk_42_method_92_code 6 = .ok (.iload_n 2, 1) := by decide +kernel
theorem d_jdk_42_method_92_7 : decode jdk_42_method_92_code 7 = .ok (.iload_n 3, 1) := by decide +kernel
theorem pd_9 : parseMethodDescriptor "(III)V" = some ⟨[.int, .int, .int], none⟩ := by decide +kernel
theorem d_jdk_42_method_92_8 : decode jdk_42_method_92_code 8 = .ok (.invokestatic 521, 3) := by decide +kernel
theorem d_jdk_42_method_92_11 : decode jdk_42_method_92_code 11 = .ok (.iload_n 1, 1) := by decide +kernel
theorem d_jdk_42_method_92_12 : decode jdk_42_method_92_code 12 = .ok (.ifCond .ne 10, 3) := by decide +kernel
theorem d_jdk_42_method_92_22 : decode jdk_42_method_92_code 22 = .ok (.iload_n 2, 1) := by decide +kernel
theorem d_jdk_42_method_92_23 : decode jdk_42_method_92_code 23 = .ok (.iload_n 1, 1) := by decide +kernel
theorem d_jdk_42_method_92_24 : decode jdk_42_method_92_code 24 = .ok (.isub, 1) := by decide +kernel
theorem d_jdk_42_method_92_25 : decode jdk_42_method_92_code 25 = .ok (.istore 4, 2) := by decide +kernel
theorem d_jdk_42_method_92_27 : decode jdk_42_method_92_code 27 = .ok (.aload_n 0, 1) := by decide +kernel
theorem d_jdk_42_method_92_28 : decode jdk_42_method_92_code 28 = .ok (.invokevirtual 492, 3) := by decide +kernel
theorem d_jdk_42_method_92_31 : decode jdk_42_method_92_code 31 = .ok (.ifCond .eq 16, 3) := by decide +kernel
theorem d_jdk_42_method_92_34 : decode jdk_42_method_92_code 34 = .ok (.aload_n 0, 1) := by decide +kernel
theorem d_jdk_42_method_92_35 : decode jdk_42_method_92_code 35 = .ok (.getfield 9, 3) := by decide +kernel
theorem d_jdk_42_method_92_38 : decode jdk_42_method_92_code 38 = .ok (.iload_n 1, 1) := by decide +kernel
theorem d_jdk_42_method_92_39 : decode jdk_42_method_92_code 39 = .ok (.iload 4, 2) := by decide +kernel
theorem pd_10 : parseMethodDescriptor "([BII)Ljava/lang/String;" = some ⟨[(.array .byte), .int, .int], some (.object "java/lang/String")⟩ := by decide +kernel
theorem d_jdk_42_method_92_41 : decode jdk_42_method_92_code 41 = .ok (.invokestatic 685, 3) := by decide +kernel
theorem d_jdk_42_method_92_44 : decode jdk_42_method_92_code 44 = .ok (.goto 13, 3) := by decide +kernel
theorem d_jdk_42_method_92_57 : decode jdk_42_method_92_code 57 = .ok (.areturn, 1) := by decide +kernel
theorem d_jdk_42_method_92_15 : decode jdk_42_method_92_code 15 = .ok (.iload_n 2, 1) := by decide +kernel
theorem d_jdk_42_method_92_16 : decode jdk_42_method_92_code 16 = .ok (.iload_n 3, 1) := by decide +kernel
theorem d_jdk_42_method_92_17 : decode jdk_42_method_92_code 17 = .ok (.if_icmp .ne 5, 3) := by decide +kernel
theorem d_jdk_42_method_92_20 : decode jdk_42_method_92_code 20 = .ok (.aload_n 0, 1) := by decide +kernel
theorem d_jdk_42_method_92_21 : decode jdk_42_method_92_code 21 = .ok (.areturn, 1) := by decide +kernel
theorem ef_rl_sb2 (m : MethodId) (q_0 : Addr) (q_1 : Int32) (q_2 : Int32)  : entryFrame m #[(.ref q_0), (.int q_1), (.int q_2)] 5 = mkF m 0 #[.val (.ref q_0), .val (.int q_1), .val (.int q_2), .unset, .unset] [] := by  first | (simp [entryFrame, mkF, argsToLocals, Value.category]; done) | rfl
set_option maxRecDepth 65536 in
set_option maxHeartbeats 40000000 in
theorem rl_sb2 (l : Launch) (Z : State) (a0 : Array Value) (hw : ∀ d ∈ tables_1, d.before a0 Z = true) (more : List Jvm.Cond) (h0 : Heap) (x : Addr) (cs : List Int32) (i j : Nat) (G1 : Int32) (O2 : Sta Z Z.heap "java/lang/String" "COMPACT_STRINGS" "Z" (.int G1)) (P5 : ¬ (G1 = (0 : Int32))) (G3 : Value) (O4 : Sta Z Z.heap "jdk/internal/util/Preconditions" "SIOOBE_FORMATTER" "Ljava/util/function/BiFunction;" G3) (hr_G3 : G3.isRef = true) (S : own_Str Z h0 x cs) (hlat : ∀ c ∈ cs, ¬ (255 : Int32) < c) (hij : i ≤ j) (hjn : j ≤ cs.length) (hcap : ¬ (i = 0 ∧ j = cs.length) → j - i ≤ 5) :
    own_Met true false consts_1 l Z a0 (⟨"java/lang/String", "substring", "(II)Ljava/lang/String;"⟩ : MethodName) jdk_42_method_92_code 5 (some (.object "java/lang/String")) more ({ frames := 4, cells := 2, slots := 9, locals := 64 } : Room) #[(.ref x), (.int (Int32.ofNat i)), (.int (Int32.ofNat j))] h0 [] (fun v h => ∃ a, v = some (.ref a) ∧ own_Str Z h a ((cs.drop i).take (j - i))) := by
  refine own_enter (own := "java/lang/String") rfl (plainFor_of_name pn_1) ?_
  intro p e s m below meth c T hx hby hml hret hlk hnm K
  rw [ef_rl_sb2 m x (Int32.ofNat i) (Int32.ofNat j)]
  have A := own_here K
  have S0 := S
  obtain ⟨t, kb, cd, N2, vs, E, V, C, Y, hc, hbc, hl⟩ := S
  rcases hc with ⟨rfl, rfl, rfl, -⟩ | ⟨-, -, -, c, hc, hb'⟩
  rotate_left
  · exact absurd hb' (hlat c hc)
  refine own_aloadN A hx (pc' := 1) (hb hby d_jdk_42_method_92_0) rfl rfl rfl ?_
  refine own_strLen K hx (by rw [hml]; rfl) (hw _ (List.mem_of_getElem? (i := 63) rfl)) (hw _ (List.mem_of_getElem? (i := 64) rfl)) (hw _ (List.mem_of_getElem? (i := 66) rfl)) (hw _ (List.mem_of_getElem? (i := 65) rfl)) (own_wl hw) (hw _ (List.mem_of_getElem? (i := 13) rfl)) S0 O2 P5 (lenOf pd_4 rfl) 0 (Nat.le_of_eq rfl) (hb hby d_jdk_42_method_92_1) (pc' := 4) rfl (by decide) (by decide) (by decide) (by decide) ?_
  intro T28 K28
  have A28 := own_here K28
  refine own_istoreN A28 hx (pc' := 5) #[.val (.ref x), .val (.int (Int32.ofNat i)), .val (.int (Int32.ofNat j)), .val (.int (Int32.ofNat (cs : List Int32).length)), .unset] (hb hby d_jdk_42_method_92_4) rfl rfl ?_
  refine own_iloadN A28 hx (pc' := 6) (hb hby d_jdk_42_method_92_5) rfl rfl ?_
  refine own_iloadN A28 hx (pc' := 7) (hb hby d_jdk_42_method_92_6) rfl rfl ?_
  refine own_iloadN A28 hx (pc' := 8) (hb hby d_jdk_42_method_92_7) rfl rfl ?_
  refine own_callS K28 hx (by rw [hml]; rfl) (hw _ (List.mem_of_getElem? (i := 113) rfl)) (hw _ (List.mem_of_getElem? (i := 114) rfl)) (hw _ (List.mem_of_getElem? (i := 14) rfl)) (hw _ (List.mem_of_getElem? (i := 115) rfl)) (by decide) (rl_cbe l Z a0 hw [] h0 i j cs.length G3 O4 hr_G3 hij hjn (by omega)) (fun _ q => nomatch q) (argsL := [(.int (Int32.ofNat i)), (.int (Int32.ofNat j)), (.int (Int32.ofNat (cs : List Int32).length))]) (rest := []) (lenOf pd_9 rfl) rfl 0 (Nat.le_of_eq rfl) (hb hby d_jdk_42_method_92_8) (pc' := 11) rfl (by decide) (by decide) (by decide) (by decide) ?_
  intro v29 T29 h29 K29 Kp29 Q29
  obtain ⟨rfl, -⟩ := Q29
  have S0 := S0.keep Kp29 own_off0
  have E := E.keep Kp29
  have V := V.keep Kp29 nin0
  have C := C.keep Kp29 nin0
  have Y := Y.keep Kp29 nin0
  have A29 := own_here K29
  show own_Go p.tables e below _ T29 (mkF m 11 #[.val (.ref x), .val (.int (Int32.ofNat i)), .val (.int (Int32.ofNat j)), .val (.int (Int32.ofNat (cs : List Int32).length)), .unset] [])
  refine own_iloadN A29 hx (pc' := 12) (hb hby d_jdk_42_method_92_11) rfl rfl ?_
  refine own_if_ne A29 hx 22 15 (hb hby d_jdk_42_method_92_12) (by decide) (by decide) rfl (fun hc12 => ?_) (fun hc12 => ?_)
  · refine own_iloadN A29 hx (pc' := 23) (hb hby d_jdk_42_method_92_22) rfl rfl ?_
    refine own_iloadN A29 hx (pc' := 24) (hb hby d_jdk_42_method_92_23) rfl rfl ?_
    refine own_isub A29 hx (pc' := 25) (hb hby d_jdk_42_method_92_24) (z := ((Int32.ofNat j) - (Int32.ofNat i))) rfl rfl ?_
    rw [own_natsub (by omega) hij]
    refine own_istore A29 hx (pc' := 27) #[.val (.ref x), .val (.int (Int32.ofNat i)), .val (.int (Int32.ofNat j)), .val (.int (Int32.ofNat (cs : List Int32).length)), .val (.int (Int32.ofNat (j - i)))] (hb hby d_jdk_42_method_92_25) rfl rfl ?_
    refine own_aloadN A29 hx (pc' := 28) (hb hby d_jdk_42_method_92_27) rfl rfl rfl ?_
    refine own_callV K29 hx (by rw [hml]; rfl) (hw _ (List.mem_of_getElem? (i := 58) rfl)) (hw _ (List.mem_of_getElem? (i := 59) rfl)) (fun U hU => notFace_of_selects (args := #[]) (mvT hU (hw _ (List.mem_of_getElem? (i := 61) rfl)))) (hw _ (List.mem_of_getElem? (i := 61) rfl)) (hw _ (List.mem_of_getElem? (i := 60) rfl)) (hw _ (List.mem_of_getElem? (i := 14) rfl)) (hw _ (List.mem_of_getElem? (i := 62) rfl)) (by decide) S0.exa (rl_il l Z a0 hw [] h29 x G1 O2 P5 C) (fun _ q => nomatch q) (argsL := []) (rest := []) (lenOf pd_3 rfl) rfl 0 (Nat.le_of_eq rfl) (hb hby d_jdk_42_method_92_28) (pc' := 31) rfl (by decide) (by decide) (by decide) (by decide) ?_
    intro v30 T30 h30 K30 Kp30 Q30
    obtain ⟨rfl, -⟩ := Q30
    have S0 := S0.keep Kp30 own_off0
    have E := E.keep Kp30
    have V := V.keep Kp30 nin0
    have C := C.keep Kp30 nin0
    have Y := Y.keep Kp30 nin0
    have A30 := own_here K30
    show own_Go p.tables e below _ T30 (mkF m 31 #[.val (.ref x), .val (.int (Int32.ofNat i)), .val (.int (Int32.ofNat j)), .val (.int (Int32.ofNat (cs : List Int32).length)), .val (.int (Int32.ofNat (j - i)))] [(.int (1 : Int32))])
    refine own_if_eq A30 hx 47 34 (hb hby d_jdk_42_method_92_31) (by decide) (by decide) rfl (fun hc31 => ?_) (fun hc31 => ?_)
    · exact absurd hc31 (by decide)
    refine own_aloadN A30 hx (pc' := 35) (hb hby d_jdk_42_method_92_34) rfl rfl rfl ?_
    refine own_getF K30 hx (host := "") (Or.inl (hw _ (List.mem_of_getElem? (i := 39) rfl))) Via.refl V (hb hby d_jdk_42_method_92_35) (pc' := 38) rfl ?_
    intro T31 K31
    have A31 := own_here K31
    refine own_iloadN A31 hx (pc' := 39) (hb hby d_jdk_42_method_92_38) rfl rfl ?_
    refine own_iload A31 hx (pc' := 41) (hb hby d_jdk_42_method_92_39) rfl rfl ?_
    have hpt : ¬ (i = 0 ∧ j = cs.length) := (fun q => hc12 (by rw [q.1]; rfl))
    refine own_callS K31 hx (by rw [hml]; rfl) (hw _ (List.mem_of_getElem? (i := 121) rfl)) (hw _ (List.mem_of_getElem? (i := 122) rfl)) (hw _ (List.mem_of_getElem? (i := 75) rfl)) (hw _ (List.mem_of_getElem? (i := 123) rfl)) (by decide) (rl_ns l Z a0 hw [] h30 t cs kb i (j - i) Y hl hlat hbc (by omega) (hcap hpt) (fun _ q => hpt ⟨q.1, by omega⟩)) (fun _ q => nomatch q) (argsL := [(.ref t), (.int (Int32.ofNat i)), (.int (Int32.ofNat (j - i)))]) (rest := []) (lenOf pd_10 rfl) rfl 0 (Nat.le_of_eq rfl) (hb hby d_jdk_42_method_92_41) (pc' := 44) rfl (by decide) (by decide) (by decide) (by decide) ?_
    intro v32 T32 h32 K32 Kp32 Q32
    obtain ⟨a32, rfl, S32⟩ := Q32
    have S0 := S0.keep Kp32 own_off0
    have E := E.keep Kp32
    have V := V.keep Kp32 nin0
    have C := C.keep Kp32 nin0
    have Y := Y.keep Kp32 nin0
    have A32 := own_here K32
    show own_Go p.tables e below _ T32 (mkF m 44 #[.val (.ref x), .val (.int (Int32.ofNat i)), .val (.int (Int32.ofNat j)), .val (.int (Int32.ofNat (cs : List Int32).length)), .val (.int (Int32.ofNat (j - i)))] [(.ref a32)])
    refine own_goto A32 hx 57 (hb hby d_jdk_42_method_92_44) (by decide) (by decide) ?_
    exact own_retR K32 hx hlk hret rfl rfl (hb hby d_jdk_42_method_92_57) (by decide) (by decide) ⟨_, rfl, S32⟩
  · refine own_iloadN A29 hx (pc' := 16) (hb hby d_jdk_42_method_92_15) rfl rfl ?_
    refine own_iloadN A29 hx (pc' := 17) (hb hby d_jdk_42_method_92_16) rfl rfl ?_
    refine own_icmp_ne A29 hx 22 20 (hb hby d_jdk_42_method_92_17) (by decide) (by decide) rfl (fun hc17 => ?_) (fun hc17 => ?_)
    · refine own_iloadN A29 hx (pc' := 23) (hb hby d_jdk_42_method_92_22) rfl rfl ?_
      refine own_iloadN A29 hx (pc' := 24) (hb hby d_jdk_42_method_92_23) rfl rfl ?_
      refine own_isub A29 hx (pc' := 25) (hb hby d_jdk_42_method_92_24) (z := ((Int32.ofNat j) - (Int32.ofNat i))) rfl rfl ?_
      rw [own_natsub (by omega) hij]
      refine own_istore A29 hx (pc' := 27) #[.val (.ref x), .val (.int (Int32.ofNat i)), .val (.int (Int32.ofNat j)), .val (.int (Int32.ofNat (cs : List Int32).length)), .val (.int (Int32.ofNat (j - i)))] (hb hby d_jdk_42_method_92_25) rfl rfl ?_
      refine own_aloadN A29 hx (pc' := 28) (hb hby d_jdk_42_method_92_27) rfl rfl rfl ?_
      refine own_callV K29 hx (by rw [hml]; rfl) (hw _ (List.mem_of_getElem? (i := 58) rfl)) (hw _ (List.mem_of_getElem? (i := 59) rfl)) (fun U hU => notFace_of_selects (args := #[]) (mvT hU (hw _ (List.mem_of_getElem? (i := 61) rfl)))) (hw _ (List.mem_of_getElem? (i := 61) rfl)) (hw _ (List.mem_of_getElem? (i := 60) rfl)) (hw _ (List.mem_of_getElem? (i := 14) rfl)) (hw _ (List.mem_of_getElem? (i := 62) rfl)) (by decide) S0.exa (rl_il l Z a0 hw [] h29 x G1 O2 P5 C) (fun _ q => nomatch q) (argsL := []) (rest := []) (lenOf pd_3 rfl) rfl 0 (Nat.le_of_eq rfl) (hb hby d_jdk_42_method_92_28) (pc' := 31) rfl (by decide) (by decide) (by decide) (by decide) ?_
      intro v33 T33 h33 K33 Kp33 Q33
      obtain ⟨rfl, -⟩ := Q33
      have S0 := S0.keep Kp33 own_off0
      have E := E.keep Kp33
      have V := V.keep Kp33 nin0
      have C := C.keep Kp33 nin0
      have Y := Y.keep Kp33 nin0
      have A33 := own_here K33
      show own_Go p.tables e below _ T33 (mkF m 31 #[.val (.ref x), .val (.int (Int32.ofNat i)), .val (.int (Int32.ofNat j)), .val (.int (Int32.ofNat (cs : List Int32).length)), .val (.int (Int32.ofNat (j - i)))] [(.int (1 : Int32))])
      refine own_if_eq A33 hx 47 34 (hb hby d_jdk_42_method_92_31) (by decide) (by decide) rfl (fun hc31 => ?_) (fun hc31 => ?_)
      · exact absurd hc31 (by decide)
      refine own_aloadN A33 hx (pc' := 35) (hb hby d_jdk_42_method_92_34) rfl rfl rfl ?_
      refine own_getF K33 hx (host := "") (Or.inl (hw _ (List.mem_of_getElem? (i := 39) rfl))) Via.refl V (hb hby d_jdk_42_method_92_35) (pc' := 38) rfl ?_
      intro T34 K34
      have A34 := own_here K34
      refine own_iloadN A34 hx (pc' := 39) (hb hby d_jdk_42_method_92_38) rfl rfl ?_
      refine own_iload A34 hx (pc' := 41) (hb hby d_jdk_42_method_92_39) rfl rfl ?_
      have hpt : ¬ (i = 0 ∧ j = cs.length) := (fun q => hc17 (by rw [q.2]))
      refine own_callS K34 hx (by rw [hml]; rfl) (hw _ (List.mem_of_getElem? (i := 121) rfl)) (hw _ (List.mem_of_getElem? (i := 122) rfl)) (hw _ (List.mem_of_getElem? (i := 75) rfl)) (hw _ (List.mem_of_getElem? (i := 123) rfl)) (by decide) (rl_ns l Z a0 hw [] h33 t cs kb i (j - i) Y hl hlat hbc (by omega) (hcap hpt) (fun _ q => hpt ⟨q.1, by omega⟩)) (fun _ q => nomatch q) (argsL := [(.ref t), (.int (Int32.ofNat i)), (.int (Int32.ofNat (j - i)))]) (rest := []) (lenOf pd_10 rfl) rfl 0 (Nat.le_of_eq rfl) (hb hby d_jdk_42_method_92_41) (pc' := 44) rfl (by decide) (by decide) (by decide) (by decide) ?_
      intro v35 T35 h35 K35 Kp35 Q35
      obtain ⟨a35, rfl, S35⟩ := Q35
      have S0 := S0.keep Kp35 own_off0
      have E := E.keep Kp35
      have V := V.keep Kp35 nin0
      have C := C.keep Kp35 nin0
      have Y := Y.keep Kp35 nin0
      have A35 := own_here K35
      show own_Go p.tables e below _ T35 (mkF m 44 #[.val (.ref x), .val (.int (Int32.ofNat i)), .val (.int (Int32.ofNat j)), .val (.int (Int32.ofNat (cs : List Int32).length)), .val (.int (Int32.ofNat (j - i)))] [(.ref a35)])
      refine own_goto A35 hx 57 (hb hby d_jdk_42_method_92_44) (by decide) (by decide) ?_
      exact own_retR K35 hx hlk hret rfl rfl (hb hby d_jdk_42_method_92_57) (by decide) (by decide) ⟨_, rfl, S35⟩
    · refine own_aloadN A29 hx (pc' := 21) (hb hby d_jdk_42_method_92_20) rfl rfl rfl ?_
      exact own_retR K29 hx hlk hret rfl rfl (hb hby d_jdk_42_method_92_21) (by decide) (by decide) ⟨_, rfl, by rw [own_natinj (n := 0) (by omega) (by decide) hc12, own_natinj (by omega) (by omega) hc17, List.drop_zero, Nat.sub_zero, List.take_length]; exact S0⟩
theorem d_jdk_42_method_91_0 : decode jdk_42_method_91_code 0 = .ok (.aload_n 0, 1) := by decide +kernel
theorem d_jdk_42_method_91_1 : decode jdk_42_method_91_code 1 = .ok (.iload_n 1, 1) := by decide +kernel
theorem d_jdk_42_method_91_2 : decode jdk_42_method_91_code 2 = .ok (.aload_n 0, 1) := by decide +kernel
theorem d_jdk_42_method_91_3 : decode jdk_42_method_91_code 3 = .ok (.invokevirtual 505, 3) := by decide +kernel
theorem pd_11 : parseMethodDescriptor "(II)Ljava/lang/String;" = some ⟨[.int, .int], some (.object "java/lang/String")⟩ := by decide +kernel
theorem d_jdk_42_method_91_6 : decode jdk_42_method_91_code 6 = .ok (.invokevirtual 681, 3) := by decide +kernel
theorem d_jdk_42_method_91_9 : decode jdk_42_method_91_code 9 = .ok (.areturn, 1) := by decide +kernel
theorem ef_rl_sb1 (m : MethodId) (q_0 : Addr) (q_1 : Int32)  : entryFrame m #[(.ref q_0), (.int q_1)] 2 = mkF m 0 #[.val (.ref q_0), .val (.int q_1)] [] := by  first | (simp [entryFrame, mkF, argsToLocals, Value.category]; done) | rfl
set_option maxRecDepth 65536 in
set_option maxHeartbeats 40000000 in
theorem rl_sb1 (l : Launch) (Z : State) (a0 : Array Value) (hw : ∀ d ∈ tables_1, d.before a0 Z = true) (more : List Jvm.Cond) (h0 : Heap) (x : Addr) (cs : List Int32) (i : Nat) (G1 : Int32) (O2 : Sta Z Z.heap "java/lang/String" "COMPACT_STRINGS" "Z" (.int G1)) (P5 : ¬ (G1 = (0 : Int32))) (G3 : Value) (O4 : Sta Z Z.heap "jdk/internal/util/Preconditions" "SIOOBE_FORMATTER" "Ljava/util/function/BiFunction;" G3) (hr_G3 : G3.isRef = true) (S : own_Str Z h0 x cs) (hlat : ∀ c ∈ cs, ¬ (255 : Int32) < c) (hi : i ≤ cs.length) (hcap : cs.length - i ≤ 5) :
    own_Met true false consts_1 l Z a0 (⟨"java/lang/String", "substring", "(I)Ljava/lang/String;"⟩ : MethodName) jdk_42_method_91_code 2 (some (.object "java/lang/String")) more ({ frames := 5, cells := 2, slots := 9, locals := 80 } : Room) #[(.ref x), (.int (Int32.ofNat i))] h0 [] (fun v h => ∃ a, v = some (.ref a) ∧ own_Str Z h a (cs.drop i)) := by
  refine own_enter (own := "java/lang/String") rfl (plainFor_of_name pn_1) ?_
  intro p e s m below meth c T hx hby hml hret hlk hnm K
  rw [ef_rl_sb1 m x (Int32.ofNat i)]
  have A := own_here K
  refine own_aloadN A hx (pc' := 1) (hb hby d_jdk_42_method_91_0) rfl rfl rfl ?_
  refine own_iloadN A hx (pc' := 2) (hb hby d_jdk_42_method_91_1) rfl rfl ?_
  refine own_aloadN A hx (pc' := 3) (hb hby d_jdk_42_method_91_2) rfl rfl rfl ?_
  refine own_strLen K hx (by rw [hml]; rfl) (hw _ (List.mem_of_getElem? (i := 63) rfl)) (hw _ (List.mem_of_getElem? (i := 64) rfl)) (hw _ (List.mem_of_getElem? (i := 66) rfl)) (hw _ (List.mem_of_getElem? (i := 65) rfl)) (own_wl hw) (hw _ (List.mem_of_getElem? (i := 13) rfl)) S O2 P5 (lenOf pd_4 rfl) 2 (Nat.le_of_eq rfl) (hb hby d_jdk_42_method_91_3) (pc' := 6) rfl (by decide) (by decide) (by decide) (by decide) ?_
  intro T36 K36
  have A36 := own_here K36
  refine own_callV K36 hx (by rw [hml]; rfl) (hw _ (List.mem_of_getElem? (i := 171) rfl)) (hw _ (List.mem_of_getElem? (i := 109) rfl)) (fun U hU => notFace_of_selects (args := #[]) (mvT hU (hw _ (List.mem_of_getElem? (i := 111) rfl)))) (hw _ (List.mem_of_getElem? (i := 111) rfl)) (hw _ (List.mem_of_getElem? (i := 110) rfl)) (hw _ (List.mem_of_getElem? (i := 14) rfl)) (hw _ (List.mem_of_getElem? (i := 112) rfl)) (by decide) S.exa (rl_sb2 l Z a0 hw [] h0 x cs i cs.length G1 O2 P5 G3 O4 hr_G3 S hlat hi (Nat.le_refl _) (fun _ => hcap)) (fun _ q => nomatch q) (argsL := [(.int (Int32.ofNat i)), (.int (Int32.ofNat (cs : List Int32).length))]) (rest := []) (lenOf pd_11 rfl) rfl 0 (Nat.le_of_eq rfl) (hb hby d_jdk_42_method_91_6) (pc' := 9) rfl (by decide) (by decide) (by decide) (by decide) ?_
  intro v37 T37 h37 K37 Kp37 Q37
  obtain ⟨a1, rfl, S1⟩ := Q37
  have S := S.keep Kp37 own_off0
  have A37 := own_here K37
  show own_Go p.tables e below _ T37 (mkF m 9 #[.val (.ref x), .val (.int (Int32.ofNat i))] [(.ref a1)])
  exact own_retR K37 hx hlk hret rfl rfl (hb hby d_jdk_42_method_91_9) (by decide) (by decide) ⟨_, rfl, by rw [show cs.drop i = (cs.drop i).take (cs.length - i) by rw [← List.length_drop, List.take_length]]; exact S1⟩
theorem own_lt_tr {x : Int32} (h : ¬ x < 192) : ¬ x < 65 := by
  rw [Int32.lt_iff_toInt_lt] at h ⊢
  have e0 : (192 : Int32).toInt = 192 := rfl
  have e1 : (65 : Int32).toInt = 65 := rfl
  omega
theorem d_jdk_116_method_22_0 : decode jdk_116_method_22_code 0 = .ok (.iload_n 0, 1) := by decide +kernel
theorem d_jdk_116_method_22_1 : decode jdk_116_method_22_code 1 = .ok (.iload_n 1, 1) := by decide +kernel
theorem d_jdk_116_method_22_2 : decode jdk_116_method_22_code 2 = .ok (.if_icmp .ne 5, 3) := by decide +kernel
theorem d_jdk_116_method_22_7 : decode jdk_116_method_22_code 7 = .ok (.iload_n 0, 1) := by decide +kernel
theorem d_jdk_116_method_22_8 : decode jdk_116_method_22_code 8 = .ok (.sipush 223, 3) := by decide +kernel
theorem d_jdk_116_method_22_11 : decode jdk_116_method_22_code 11 = .ok (.iand, 1) := by decide +kernel
theorem d_jdk_116_method_22_12 : decode jdk_116_method_22_code 12 = .ok (.istore_n 2, 1) := by decide +kernel
theorem d_jdk_116_method_22_13 : decode jdk_116_method_22_code 13 = .ok (.iload_n 2, 1) := by decide +kernel
theorem d_jdk_116_method_22_14 : decode jdk_116_method_22_code 14 = .ok (.bipush 65, 2) := by decide +kernel
theorem d_jdk_116_method_22_16 : decode jdk_116_method_22_code 16 = .ok (.if_icmp .ge 5, 3) := by decide +kernel
theorem d_jdk_116_method_22_21 : decode jdk_116_method_22_code 21 = .ok (.iload_n 2, 1) := by decide +kernel
theorem d_jdk_116_method_22_22 : decode jdk_116_method_22_code 22 = .ok (.bipush 90, 2) := by decide +kernel
theorem d_jdk_116_method_22_24 : decode jdk_116_method_22_code 24 = .ok (.if_icmp .le 24, 3) := by decide +kernel
theorem d_jdk_116_method_22_48 : decode jdk_116_method_22_code 48 = .ok (.iload_n 2, 1) := by decide +kernel
theorem d_jdk_116_method_22_49 : decode jdk_116_method_22_code 49 = .ok (.iload_n 1, 1) := by decide +kernel
theorem d_jdk_116_method_22_50 : decode jdk_116_method_22_code 50 = .ok (.sipush 223, 3) := by decide +kernel
theorem d_jdk_116_method_22_53 : decode jdk_116_method_22_code 53 = .ok (.iand, 1) := by decide +kernel
theorem d_jdk_116_method_22_54 : decode jdk_116_method_22_code 54 = .ok (.if_icmp .ne 7, 3) := by decide +kernel
theorem d_jdk_116_method_22_61 : decode jdk_116_method_22_code 61 = .ok (.iconst 0, 1) := by decide +kernel
theorem d_jdk_116_method_22_62 : decode jdk_116_method_22_code 62 = .ok (.ireturn, 1) := by decide +kernel
theorem d_jdk_116_method_22_57 : decode jdk_116_method_22_code 57 = .ok (.iconst 1, 1) := by decide +kernel
theorem d_jdk_116_method_22_58 : decode jdk_116_method_22_code 58 = .ok (.goto 4, 3) := by decide +kernel
theorem d_jdk_116_method_22_27 : decode jdk_116_method_22_code 27 = .ok (.iload_n 2, 1) := by decide +kernel
theorem d_jdk_116_method_22_28 : decode jdk_116_method_22_code 28 = .ok (.sipush 192, 3) := by decide +kernel
theorem d_jdk_116_method_22_31 : decode jdk_116_method_22_code 31 = .ok (.if_icmp .lt 30, 3) := by decide +kernel
theorem d_jdk_116_method_22_34 : decode jdk_116_method_22_code 34 = .ok (.iload_n 2, 1) := by decide +kernel
theorem d_jdk_116_method_22_35 : decode jdk_116_method_22_code 35 = .ok (.sipush 222, 3) := by decide +kernel
theorem d_jdk_116_method_22_38 : decode jdk_116_method_22_code 38 = .ok (.if_icmp .gt 23, 3) := by decide +kernel
theorem d_jdk_116_method_22_41 : decode jdk_116_method_22_code 41 = .ok (.iload_n 2, 1) := by decide +kernel
theorem d_jdk_116_method_22_42 : decode jdk_116_method_22_code 42 = .ok (.sipush 215, 3) := by decide +kernel
theorem d_jdk_116_method_22_45 : decode jdk_116_method_22_code 45 = .ok (.if_icmp .eq 16, 3) := by decide +kernel
theorem d_jdk_116_method_22_19 : decode jdk_116_method_22_code 19 = .ok (.iconst 0, 1) := by decide +kernel
theorem d_jdk_116_method_22_20 : decode jdk_116_method_22_code 20 = .ok (.ireturn, 1) := by decide +kernel
theorem d_jdk_116_method_22_5 : decode jdk_116_method_22_code 5 = .ok (.iconst 1, 1) := by decide +kernel
theorem d_jdk_116_method_22_6 : decode jdk_116_method_22_code 6 = .ok (.ireturn, 1) := by decide +kernel
theorem ef_rl_eic (m : MethodId) (q_0 : Int32) (q_1 : Int32)  : entryFrame m #[(.int q_0), (.int q_1)] 3 = mkF m 0 #[.val (.int q_0), .val (.int q_1), .unset] [] := by  first | (simp [entryFrame, mkF, argsToLocals, Value.category]; done) | rfl
theorem pn_4 : plainName "java/lang/CharacterDataLatin1" = true := by first | (simp [plainName, overriddenIn]; done) | decide +kernel
set_option maxRecDepth 65536 in
set_option maxHeartbeats 40000000 in
theorem rl_eic (l : Launch) (Z : State) (a0 : Array Value) (hw : ∀ d ∈ tables_1, d.before a0 Z = true) (more : List Jvm.Cond) (h0 : Heap)  (ec ed : Int32) (hec : ¬ ec < 0 ∧ ¬ (255 : Int32) < ec) (hed : ¬ ed < 0 ∧ ¬ (255 : Int32) < ed) :
    own_Met true false consts_1 l Z a0 (⟨"java/lang/CharacterDataLatin1", "equalsIgnoreCase", "(BB)Z"⟩ : MethodName) jdk_116_method_22_code 3 (some .boolean) more ({ frames := 0, cells := 0, slots := 0, locals := 0 } : Room) #[(.int (StrChars.lo8 ec)), (.int (StrChars.lo8 ed))] h0 [] (fun v h => v = some (.int (if own_ci ec ed then 1 else 0)) ∧ h = h0) := by
  refine own_enter (own := "java/lang/CharacterDataLatin1") rfl (plainFor_of_name pn_4) ?_
  intro p e s m below meth c T hx hby hml hret hlk hnm K
  rw [ef_rl_eic m (StrChars.lo8 ec) (StrChars.lo8 ed)]
  have A := own_here K
  refine own_iloadN A hx (pc' := 1) (hb hby d_jdk_116_method_22_0) rfl rfl ?_
  refine own_iloadN A hx (pc' := 2) (hb hby d_jdk_116_method_22_1) rfl rfl ?_
  refine own_icmp_ne A hx 7 5 (hb hby d_jdk_116_method_22_2) (by decide) (by decide) rfl (fun hc2 => ?_) (fun hc2 => ?_)
  · refine own_iloadN A hx (pc' := 8) (hb hby d_jdk_116_method_22_7) rfl rfl ?_
    refine own_sipush A hx (pc' := 11) (hb hby d_jdk_116_method_22_8) (z := (223 : Int32)) (by decide) rfl ?_
    refine own_iand A hx (pc' := 12) (hb hby d_jdk_116_method_22_11) (z := ((StrChars.lo8 ec) &&& (223 : Int32))) rfl rfl ?_
    refine own_istoreN A hx (pc' := 13) #[.val (.int (StrChars.lo8 ec)), .val (.int (StrChars.lo8 ed)), .val (.int ((StrChars.lo8 ec) &&& (223 : Int32)))] (hb hby d_jdk_116_method_22_12) rfl rfl ?_
    refine own_iloadN A hx (pc' := 14) (hb hby d_jdk_116_method_22_13) rfl rfl ?_
    refine own_bipush A hx (pc' := 16) (hb hby d_jdk_116_method_22_14) (z := (65 : Int32)) (by decide) rfl ?_
    refine own_icmp_ge A hx 21 19 (hb hby d_jdk_116_method_22_16) (by decide) (by decide) rfl (fun hc16 => ?_) (fun hc16 => ?_)
    · refine own_iloadN A hx (pc' := 22) (hb hby d_jdk_116_method_22_21) rfl rfl ?_
      refine own_bipush A hx (pc' := 24) (hb hby d_jdk_116_method_22_22) (z := (90 : Int32)) (by decide) rfl ?_
      refine own_icmp_le A hx 48 27 (hb hby d_jdk_116_method_22_24) (by decide) (by decide) rfl (fun hc24 => ?_) (fun hc24 => ?_)
      · refine own_iloadN A hx (pc' := 49) (hb hby d_jdk_116_method_22_48) rfl rfl ?_
        refine own_iloadN A hx (pc' := 50) (hb hby d_jdk_116_method_22_49) rfl rfl ?_
        refine own_sipush A hx (pc' := 53) (hb hby d_jdk_116_method_22_50) (z := (223 : Int32)) (by decide) rfl ?_
        refine own_iand A hx (pc' := 54) (hb hby d_jdk_116_method_22_53) (z := ((StrChars.lo8 ed) &&& (223 : Int32))) rfl rfl ?_
        refine own_icmp_ne A hx 61 57 (hb hby d_jdk_116_method_22_54) (by decide) (by decide) rfl (fun hc54 => ?_) (fun hc54 => ?_)
        · refine own_iconst A hx (pc' := 62) (hb hby d_jdk_116_method_22_61) (z := (0 : Int32)) (by decide) rfl ?_
          exact own_retN K hx hlk hret (by simp) (hb hby d_jdk_116_method_22_62) (by decide) (by decide) ⟨by show some (Value.int (nar .boolean 0)) = _; rw [if_neg (fun q => ((own_eici hec hed).mpr q).elim hc2 (fun r => absurd r.2 hc54))]; rfl, rfl⟩
        · refine own_iconst A hx (pc' := 58) (hb hby d_jdk_116_method_22_57) (z := (1 : Int32)) (by decide) rfl ?_
          refine own_goto A hx 62 (hb hby d_jdk_116_method_22_58) (by decide) (by decide) ?_
          exact own_retN K hx hlk hret (by simp) (hb hby d_jdk_116_method_22_62) (by decide) (by decide) ⟨by show some (Value.int (nar .boolean 1)) = _; rw [if_pos ((own_eici hec hed).mp (Or.inr ⟨Or.inl ⟨hc16, hc24⟩, hc54⟩))]; rfl, rfl⟩
      · refine own_iloadN A hx (pc' := 28) (hb hby d_jdk_116_method_22_27) rfl rfl ?_
        refine own_sipush A hx (pc' := 31) (hb hby d_jdk_116_method_22_28) (z := (192 : Int32)) (by decide) rfl ?_
        refine own_icmp_lt A hx 61 34 (hb hby d_jdk_116_method_22_31) (by decide) (by decide) rfl (fun hc31 => ?_) (fun hc31 => ?_)
        · refine own_iconst A hx (pc' := 62) (hb hby d_jdk_116_method_22_61) (z := (0 : Int32)) (by decide) rfl ?_
          exact own_retN K hx hlk hret (by simp) (hb hby d_jdk_116_method_22_62) (by decide) (by decide) ⟨by show some (Value.int (nar .boolean 0)) = _; rw [if_neg (fun q => ((own_eici hec hed).mpr q).elim hc2 (fun r => absurd r.1 (fun u => u.elim (fun r => r.2 hc24) (fun r => r.1 hc31))))]; rfl, rfl⟩
        · refine own_iloadN A hx (pc' := 35) (hb hby d_jdk_116_method_22_34) rfl rfl ?_
          refine own_sipush A hx (pc' := 38) (hb hby d_jdk_116_method_22_35) (z := (222 : Int32)) (by decide) rfl ?_
          refine own_icmp_gt A hx 61 41 (hb hby d_jdk_116_method_22_38) (by decide) (by decide) rfl (fun hc38 => ?_) (fun hc38 => ?_)
          · refine own_iconst A hx (pc' := 62) (hb hby d_jdk_116_method_22_61) (z := (0 : Int32)) (by decide) rfl ?_
            exact own_retN K hx hlk hret (by simp) (hb hby d_jdk_116_method_22_62) (by decide) (by decide) ⟨by show some (Value.int (nar .boolean 0)) = _; rw [if_neg (fun q => ((own_eici hec hed).mpr q).elim hc2 (fun r => absurd r.1 (fun u => u.elim (fun r => r.2 hc24) (fun r => r.2.1 hc38))))]; rfl, rfl⟩
          · refine own_iloadN A hx (pc' := 42) (hb hby d_jdk_116_method_22_41) rfl rfl ?_
            refine own_sipush A hx (pc' := 45) (hb hby d_jdk_116_method_22_42) (z := (215 : Int32)) (by decide) rfl ?_
            refine own_icmp_eq A hx 61 48 (hb hby d_jdk_116_method_22_45) (by decide) (by decide) rfl (fun hc45 => ?_) (fun hc45 => ?_)
            · refine own_iconst A hx (pc' := 62) (hb hby d_jdk_116_method_22_61) (z := (0 : Int32)) (by decide) rfl ?_
              exact own_retN K hx hlk hret (by simp) (hb hby d_jdk_116_method_22_62) (by decide) (by decide) ⟨by show some (Value.int (nar .boolean 0)) = _; rw [if_neg (fun q => ((own_eici hec hed).mpr q).elim hc2 (fun r => absurd r.1 (fun u => u.elim (fun r => r.2 hc24) (fun r => r.2.2 hc45))))]; rfl, rfl⟩
            · refine own_iloadN A hx (pc' := 49) (hb hby d_jdk_116_method_22_48) rfl rfl ?_
              refine own_iloadN A hx (pc' := 50) (hb hby d_jdk_116_method_22_49) rfl rfl ?_
              refine own_sipush A hx (pc' := 53) (hb hby d_jdk_116_method_22_50) (z := (223 : Int32)) (by decide) rfl ?_
              refine own_iand A hx (pc' := 54) (hb hby d_jdk_116_method_22_53) (z := ((StrChars.lo8 ed) &&& (223 : Int32))) rfl rfl ?_
              refine own_icmp_ne A hx 61 57 (hb hby d_jdk_116_method_22_54) (by decide) (by decide) rfl (fun hc54 => ?_) (fun hc54 => ?_)
              · refine own_iconst A hx (pc' := 62) (hb hby d_jdk_116_method_22_61) (z := (0 : Int32)) (by decide) rfl ?_
                exact own_retN K hx hlk hret (by simp) (hb hby d_jdk_116_method_22_62) (by decide) (by decide) ⟨by show some (Value.int (nar .boolean 0)) = _; rw [if_neg (fun q => ((own_eici hec hed).mpr q).elim hc2 (fun r => absurd r.2 hc54))]; rfl, rfl⟩
              · refine own_iconst A hx (pc' := 58) (hb hby d_jdk_116_method_22_57) (z := (1 : Int32)) (by decide) rfl ?_
                refine own_goto A hx 62 (hb hby d_jdk_116_method_22_58) (by decide) (by decide) ?_
                exact own_retN K hx hlk hret (by simp) (hb hby d_jdk_116_method_22_62) (by decide) (by decide) ⟨by show some (Value.int (nar .boolean 1)) = _; rw [if_pos ((own_eici hec hed).mp (Or.inr ⟨Or.inr ⟨hc31, hc38, hc45⟩, hc54⟩))]; rfl, rfl⟩
    · refine own_iconst A hx (pc' := 20) (hb hby d_jdk_116_method_22_19) (z := (0 : Int32)) (by decide) rfl ?_
      exact own_retN K hx hlk hret (by simp) (hb hby d_jdk_116_method_22_20) (by decide) (by decide) ⟨by show some (Value.int (nar .boolean 0)) = _; rw [if_neg (fun q => ((own_eici hec hed).mpr q).elim hc2 (fun r => absurd r.1 (fun u => u.elim (fun r => r.1 hc16) (fun r => absurd hc16 (own_lt_tr r.1)))))]; rfl, rfl⟩
  · refine own_iconst A hx (pc' := 6) (hb hby d_jdk_116_method_22_5) (z := (1 : Int32)) (by decide) rfl ?_
    exact own_retN K hx hlk hret (by simp) (hb hby d_jdk_116_method_22_6) (by decide) (by decide) ⟨by show some (Value.int (nar .boolean 1)) = _; rw [if_pos ((own_eici hec hed).mp (Or.inl hc2))]; rfl, rfl⟩
theorem d_jdk_43_method_30_0 : decode jdk_43_method_30_code 0 = .ok (.iload_n 1, 1) := by decide +kernel
theorem d_jdk_43_method_30_1 : decode jdk_43_method_30_code 1 = .ok (.iload 4, 2) := by decide +kernel
theorem d_jdk_43_method_30_3 : decode jdk_43_method_30_code 3 = .ok (.iadd, 1) := by decide +kernel
theorem d_jdk_43_method_30_4 : decode jdk_43_method_30_code 4 = .ok (.istore 5, 2) := by decide +kernel
theorem d_jdk_43_method_30_6 : decode jdk_43_method_30_code 6 = .ok (.iload_n 1, 1) := by decide +kernel
theorem d_jdk_43_method_30_7 : decode jdk_43_method_30_code 7 = .ok (.iload 5, 2) := by decide +kernel
theorem d_jdk_43_method_30_9 : decode jdk_43_method_30_code 9 = .ok (.if_icmp .ge 34, 3) := by decide +kernel
theorem d_jdk_43_method_30_43 : decode jdk_43_method_30_code 43 = .ok (.iconst 1, 1) := by decide +kernel
theorem d_jdk_43_method_30_44 : decode jdk_43_method_30_code 44 = .ok (.ireturn, 1) := by decide +kernel
theorem d_jdk_43_method_30_12 : decode jdk_43_method_30_code 12 = .ok (.aload_n 0, 1) := by decide +kernel
theorem d_jdk_43_method_30_13 : decode jdk_43_method_30_code 13 = .ok (.iload_n 1, 1) := by decide +kernel
theorem d_jdk_43_method_30_14 : decode jdk_43_method_30_code 14 = .ok (.iinc 1 1, 3) := by decide +kernel
theorem d_jdk_43_method_30_17 : decode jdk_43_method_30_code 17 = .ok (.baload, 1) := by decide +kernel
theorem d_jdk_43_method_30_18 : decode jdk_43_method_30_code 18 = .ok (.istore 6, 2) := by decide +kernel
theorem d_jdk_43_method_30_20 : decode jdk_43_method_30_code 20 = .ok (.aload_n 2, 1) := by decide +kernel
theorem d_jdk_43_method_30_21 : decode jdk_43_method_30_code 21 = .ok (.iload_n 3, 1) := by decide +kernel
theorem d_jdk_43_method_30_22 : decode jdk_43_method_30_code 22 = .ok (.iinc 3 1, 3) := by decide +kernel
theorem d_jdk_43_method_30_25 : decode jdk_43_method_30_code 25 = .ok (.baload, 1) := by decide +kernel
theorem d_jdk_43_method_30_26 : decode jdk_43_method_30_code 26 = .ok (.istore 7, 2) := by decide +kernel
theorem d_jdk_43_method_30_28 : decode jdk_43_method_30_code 28 = .ok (.iload 6, 2) := by decide +kernel
theorem d_jdk_43_method_30_30 : decode jdk_43_method_30_code 30 = .ok (.iload 7, 2) := by decide +kernel
theorem pd_12 : parseMethodDescriptor "(BB)Z" = some ⟨[.byte, .byte], some .boolean⟩ := by decide +kernel
theorem d_jdk_43_method_30_32 : decode jdk_43_method_30_code 32 = .ok (.invokestatic 153, 3) := by decide +kernel
theorem d_jdk_43_method_30_35 : decode jdk_43_method_30_code 35 = .ok (.ifCond .eq 6, 3) := by decide +kernel
theorem d_jdk_43_method_30_41 : decode jdk_43_method_30_code 41 = .ok (.iconst 0, 1) := by decide +kernel
theorem d_jdk_43_method_30_42 : decode jdk_43_method_30_code 42 = .ok (.ireturn, 1) := by decide +kernel
theorem d_jdk_43_method_30_38 : decode jdk_43_method_30_code 38 = .ok (.goto (-32), 3) := by decide +kernel
theorem ef_rl_rci (m : MethodId) (q_0 : Addr) (q_2 : Addr) (q_4 : Int32)  : entryFrame m #[(.ref q_0), (.int (0 : Int32)), (.ref q_2), (.int (0 : Int32)), (.int q_4)] 8 = mkF m 0 #[.val (.ref q_0), .val (.int (0 : Int32)), .val (.ref q_2), .val (.int (0 : Int32)), .val (.int q_4), .unset, .unset, .unset] [] := by  first | (simp [entryFrame, mkF, argsToLocals, Value.category]; done) | rfl
set_option maxRecDepth 65536 in
set_option maxHeartbeats 40000000 in
theorem rl_rci (l : Launch) (Z : State) (a0 : Array Value) (hw : ∀ d ∈ tables_1, d.before a0 Z = true) (more : List Jvm.Cond) (h0 : Heap) (b : Addr) (d : Addr) (cs ds : List Int32) (kb kd : ClassId) (V : Arv Z h0 b kb .byte (Int32.ofNat cs.length) (cs.map (fun c => Value.int (StrChars.lo8 c))) (.int 0)) (hl : cs.length ≤ 4000) (hlat : ∀ c ∈ cs, ¬ (255 : Int32) < c) (hbc : ∀ c ∈ cs, ¬ c < 0 ∧ ¬ (65535 : Int32) < c) (V2 : Arv Z h0 d kd .byte (Int32.ofNat ds.length) (ds.map (fun c => Value.int (StrChars.lo8 c))) (.int 0)) (hlad : ∀ c ∈ ds, ¬ (255 : Int32) < c) (hbd : ∀ c ∈ ds, ¬ c < 0 ∧ ¬ (65535 : Int32) < c) (hlen : cs.length = ds.length) :
    own_Met true false consts_1 l Z a0 (⟨"java/lang/StringLatin1", "regionMatchesCI", "([BI[BII)Z"⟩ : MethodName) jdk_43_method_30_code 8 (some .boolean) more ({ frames := 1, cells := 0, slots := 0, locals := 14 } : Room) #[(.ref b), (.int (0 : Int32)), (.ref d), (.int (0 : Int32)), (.int (Int32.ofNat cs.length))] h0 [] (fun v h => v = some (.int (if own_eqi cs ds then 1 else 0))) := by
  refine own_enter (own := "java/lang/StringLatin1") rfl (plainFor_of_name pn_0) ?_
  intro p e s m below meth c T hx hby hml hret hlk hnm K
  rw [ef_rl_rci m b d (Int32.ofNat cs.length)]
  have A := own_here K
  refine own_iloadN A hx (pc' := 1) (hb hby d_jdk_43_method_30_0) rfl rfl ?_
  refine own_iload A hx (pc' := 3) (hb hby d_jdk_43_method_30_1) rfl rfl ?_
  refine own_iadd A hx (pc' := 4) (hb hby d_jdk_43_method_30_3) (z := ((0 : Int32) + (Int32.ofNat cs.length))) rfl rfl ?_
  rw [Int32.zero_add]
  refine own_istore A hx (pc' := 6) #[.val (.ref b), .val (.int (0 : Int32)), .val (.ref d), .val (.int (0 : Int32)), .val (.int (Int32.ofNat cs.length)), .val (.int (Int32.ofNat cs.length)), .unset, .unset] (hb hby d_jdk_43_method_30_4) rfl rfl ?_
  have loop : ∀ (n k : Nat) (s6 : Slot) (s7 : Slot) (Tl38 : State) (hl38 : Heap), k + n = cs.length → (s6 = .unset ∨ ∃ z, s6 = .val (.int z)) → (s7 = .unset ∨ ∃ z, s7 = .val (.int z)) → own_S true false consts_1 p l e ({ frames := 1, cells := 0, slots := 0, locals := 14 } : Room) s m #[(.ref b), (.int (0 : Int32)), (.ref d), (.int (0 : Int32)), (.int (Int32.ofNat cs.length))] below meth c Z a0 "java/lang/StringLatin1" h0 [] Tl38 hl38 [] 0 0 → Arv Z hl38 b kb .byte (Int32.ofNat cs.length) (cs.map (fun c => Value.int (StrChars.lo8 c))) (.int 0) → Arv Z hl38 d kd .byte (Int32.ofNat ds.length) (ds.map (fun c => Value.int (StrChars.lo8 c))) (.int 0) → (∀ j, j < k → own_ci (cs.getD j 0) (ds.getD j 0)) → own_Go p.tables e below (own_Post true consts_1 Z ({ frames := 1, cells := 0, slots := 0, locals := 14 } : Room) h0 [] (fun v h => v = some (.int (if own_eqi cs ds then 1 else 0))) s) Tl38 (mkF m 6 #[.val (.ref b), .val (.int (Int32.ofNat k)), .val (.ref d), .val (.int (Int32.ofNat k)), .val (.int (Int32.ofNat cs.length)), .val (.int (Int32.ofNat cs.length)), s6, s7] []) := by
    intro n
    induction n with
    | zero =>
      intro k s6 s7 Tl38 hl38 hk hs_s6 hs_s7 Kl38 V V2 hpre
      have Al38 := own_here Kl38
      obtain rfl : k = cs.length := by omega
      refine own_iloadN Al38 hx (pc' := 7) (hb hby d_jdk_43_method_30_6) rfl rfl ?_
      refine own_iload Al38 hx (pc' := 9) (hb hby d_jdk_43_method_30_7) rfl rfl ?_
      refine own_icmp_ge Al38 hx 43 12 (hb hby d_jdk_43_method_30_9) (by decide) (by decide) rfl (fun hc9 => ?_) (fun hc9 => ?_)
      rotate_left
      · exact absurd hc9 (fun q => Int32.lt_irrefl q)
      refine own_iconst Al38 hx (pc' := 44) (hb hby d_jdk_43_method_30_43) (z := (1 : Int32)) (by decide) rfl ?_
      exact own_retN Kl38 hx hlk hret (by simp) (hb hby d_jdk_43_method_30_44) (by decide) (by decide) (by show some (Value.int (nar .boolean 1)) = _; rw [if_pos ⟨hlen, hpre⟩]; rfl)
    | succ n ih =>
      intro k s6 s7 Tl38 hl38 hk hs_s6 hs_s7 Kl38 V V2 hpre
      have Al38 := own_here Kl38
      have hkl : k < cs.length := by omega
      refine own_iloadN Al38 hx (pc' := 7) (hb hby d_jdk_43_method_30_6) rfl rfl ?_
      refine own_iload Al38 hx (pc' := 9) (hb hby d_jdk_43_method_30_7) rfl rfl ?_
      refine own_icmp_ge Al38 hx 43 12 (hb hby d_jdk_43_method_30_9) (by decide) (by decide) rfl (fun hc9 => ?_) (fun hc9 => ?_)
      · exact absurd (own_natlt (by omega) hkl).2 hc9
      refine own_aloadN Al38 hx (pc' := 13) (hb hby d_jdk_43_method_30_12) rfl rfl rfl ?_
      refine own_iloadN Al38 hx (pc' := 14) (hb hby d_jdk_43_method_30_13) rfl rfl ?_
      refine own_iinc Al38 hx (pc' := 17) #[.val (.ref b), .val (.int (Int32.ofNat (k + 1))), .val (.ref d), .val (.int (Int32.ofNat k)), .val (.int (Int32.ofNat cs.length)), .val (.int (Int32.ofNat cs.length)), s6, s7] (hb hby d_jdk_43_method_30_14) rfl (by rw [own_natinc]; rfl) rfl ?_
      refine own_ldB Kl38 hx V (own_natlt (by omega) (by omega)) (by rw [own_natcl (by omega)]; exact StrChars.Road.low_at _ cs k (by omega)) (hb hby d_jdk_43_method_30_17) (pc' := 18) rfl ?_
      refine own_istore Al38 hx (pc' := 20) #[.val (.ref b), .val (.int (Int32.ofNat (k + 1))), .val (.ref d), .val (.int (Int32.ofNat k)), .val (.int (Int32.ofNat cs.length)), .val (.int (Int32.ofNat cs.length)), .val (.int (StrChars.lo8 (cs.getD k 0))), s7] (hb hby d_jdk_43_method_30_18) (by rcases hs_s6 with rfl | ⟨_, rfl⟩ <;> rfl) rfl ?_
      refine own_aloadN Al38 hx (pc' := 21) (hb hby d_jdk_43_method_30_20) rfl rfl rfl ?_
      refine own_iloadN Al38 hx (pc' := 22) (hb hby d_jdk_43_method_30_21) rfl rfl ?_
      refine own_iinc Al38 hx (pc' := 25) #[.val (.ref b), .val (.int (Int32.ofNat (k + 1))), .val (.ref d), .val (.int (Int32.ofNat (k + 1))), .val (.int (Int32.ofNat cs.length)), .val (.int (Int32.ofNat cs.length)), .val (.int (StrChars.lo8 (cs.getD k 0))), s7] (hb hby d_jdk_43_method_30_22) rfl (by rw [own_natinc]; rfl) rfl ?_
      refine own_ldB Kl38 hx V2 (own_natlt (by omega) (by omega)) (by rw [own_natcl (by omega)]; exact StrChars.Road.low_at _ ds k (by omega)) (hb hby d_jdk_43_method_30_25) (pc' := 26) rfl ?_
      refine own_istore Al38 hx (pc' := 28) #[.val (.ref b), .val (.int (Int32.ofNat (k + 1))), .val (.ref d), .val (.int (Int32.ofNat (k + 1))), .val (.int (Int32.ofNat cs.length)), .val (.int (Int32.ofNat cs.length)), .val (.int (StrChars.lo8 (cs.getD k 0))), .val (.int (StrChars.lo8 (ds.getD k 0)))] (hb hby d_jdk_43_method_30_26) (by rcases hs_s7 with rfl | ⟨_, rfl⟩ <;> rfl) rfl ?_
      refine own_iload Al38 hx (pc' := 30) (hb hby d_jdk_43_method_30_28) rfl rfl ?_
      refine own_iload Al38 hx (pc' := 32) (hb hby d_jdk_43_method_30_30) rfl rfl ?_
      refine own_callS Kl38 hx (by rw [hml]; rfl) (hw _ (List.mem_of_getElem? (i := 150) rfl)) (hw _ (List.mem_of_getElem? (i := 151) rfl)) (hw _ (List.mem_of_getElem? (i := 152) rfl)) (hw _ (List.mem_of_getElem? (i := 153) rfl)) (by decide) (rl_eic l Z a0 hw [] hl38 (cs.getD k 0) (ds.getD k 0) ⟨(hbc _ (own_getD' hkl)).1, hlat _ (own_getD' hkl)⟩ ⟨(hbd _ (own_getD' (by omega))).1, hlad _ (own_getD' (by omega))⟩) (fun _ q => nomatch q) (argsL := [(.int (StrChars.lo8 (cs.getD k 0))), (.int (StrChars.lo8 (ds.getD k 0)))]) (rest := []) (lenOf pd_12 rfl) rfl 0 (Nat.le_of_eq rfl) (hb hby d_jdk_43_method_30_32) (pc' := 35) rfl (by decide) (by decide) (by decide) (by decide) ?_
      intro v39 T39 h39 K39 Kp39 Q39
      obtain ⟨rfl, -⟩ := Q39
      have V := V.keep Kp39 nin0
      have V2 := V2.keep Kp39 nin0
      have A39 := own_here K39
      show own_Go p.tables e below _ T39 (mkF m 35 #[.val (.ref b), .val (.int (Int32.ofNat (k + 1))), .val (.ref d), .val (.int (Int32.ofNat (k + 1))), .val (.int (Int32.ofNat cs.length)), .val (.int (Int32.ofNat cs.length)), .val (.int (StrChars.lo8 (cs.getD k 0))), .val (.int (StrChars.lo8 (ds.getD k 0)))] [(.int (if own_ci (cs.getD k 0) (ds.getD k 0) then (1 : Int32) else 0))])
      refine own_if_eq A39 hx 41 38 (hb hby d_jdk_43_method_30_35) (by decide) (by decide) rfl (fun hc35 => ?_) (fun hc35 => ?_)
      · refine own_iconst A39 hx (pc' := 42) (hb hby d_jdk_43_method_30_41) (z := (0 : Int32)) (by decide) rfl ?_
        exact own_retN K39 hx hlk hret (by simp) (hb hby d_jdk_43_method_30_42) (by decide) (by decide) (by show some (Value.int (nar .boolean 0)) = _; rw [if_neg (fun q => absurd (q.2 k hkl) (own_if0 hc35))]; rfl)
      · refine own_goto A39 hx 6 (hb hby d_jdk_43_method_30_38) (by decide) (by decide) ?_
        exact ih (k + 1) _ _ T39 h39 (by omega) (Or.inr ⟨_, rfl⟩) (Or.inr ⟨_, rfl⟩) K39 V V2 (fun j hj => by rcases Nat.lt_succ_iff_lt_or_eq.mp hj with q | rfl; exact hpre j q; exact own_if1 hc35)
  exact loop cs.length 0 _ _ T h0 (by omega) (Or.inl rfl) (Or.inl rfl) K V V2 (fun j hj => absurd hj (Nat.not_lt_zero j))
theorem d_jdk_42_method_152_0 : decode jdk_42_method_152_code 0 = .ok (.getstatic 38, 3) := by decide +kernel
theorem d_jdk_42_method_152_3 : decode jdk_42_method_152_code 3 = .ok (.ifCond .eq 10, 3) := by decide +kernel
theorem d_jdk_42_method_152_6 : decode jdk_42_method_152_code 6 = .ok (.aload_n 0, 1) := by decide +kernel
theorem d_jdk_42_method_152_7 : decode jdk_42_method_152_code 7 = .ok (.getfield 15, 3) := by decide +kernel
theorem d_jdk_42_method_152_10 : decode jdk_42_method_152_code 10 = .ok (.goto 4, 3) := by decide +kernel
theorem d_jdk_42_method_152_14 : decode jdk_42_method_152_code 14 = .ok (.ireturn, 1) := by decide +kernel
theorem ef_rl_cdr (m : MethodId) (q_0 : Addr)  : entryFrame m #[(.ref q_0)] 1 = mkF m 0 #[.val (.ref q_0)] [] := by  first | (simp [entryFrame, mkF, argsToLocals, Value.category]; done) | rfl
set_option maxRecDepth 65536 in
set_option maxHeartbeats 40000000 in
theorem rl_cdr (l : Launch) (Z : State) (a0 : Array Value) (hw : ∀ d ∈ tables_1, d.before a0 Z = true) (more : List Jvm.Cond) (h0 : Heap) (x : Addr)  (G1 : Int32) (O2 : Sta Z Z.heap "java/lang/String" "COMPACT_STRINGS" "Z" (.int G1)) (P5 : ¬ (G1 = (0 : Int32))) (C : Fld Z h0 x "java/lang/String" "coder" "B" (.int 0)) :
    own_Met true false consts_1 l Z a0 (⟨"java/lang/String", "coder", "()B"⟩ : MethodName) jdk_42_method_152_code 1 (some .byte) more ({ frames := 0, cells := 0, slots := 0, locals := 0 } : Room) #[(.ref x)] h0 [] (fun v h => v = some (.int 0) ∧ h = h0) := by
  refine own_enter (own := "java/lang/String") rfl (plainFor_of_name pn_1) ?_
  intro p e s m below meth c T hx hby hml hret hlk hnm K
  rw [ef_rl_cdr m x]
  have A := own_here K
  refine own_getS K hx (host := "") (Or.inl (hw _ (List.mem_of_getElem? (i := 25) rfl))) Via.refl O2 (hb hby d_jdk_42_method_152_0) (pc' := 3) rfl ?_
  intro T40 K40
  have A40 := own_here K40
  refine own_if_eq A40 hx 13 6 (hb hby d_jdk_42_method_152_3) (by decide) (by decide) rfl (fun hc3 => ?_) (fun hc3 => ?_)
  · exact absurd hc3 P5
  refine own_aloadN A40 hx (pc' := 7) (hb hby d_jdk_42_method_152_6) rfl rfl rfl ?_
  refine own_getF K40 hx (host := "") (Or.inl (hw _ (List.mem_of_getElem? (i := 37) rfl))) Via.refl C (hb hby d_jdk_42_method_152_7) (pc' := 10) rfl ?_
  intro T41 K41
  have A41 := own_here K41
  refine own_goto A41 hx 14 (hb hby d_jdk_42_method_152_10) (by decide) (by decide) ?_
  exact own_retN K41 hx hlk hret (by simp) (hb hby d_jdk_42_method_152_14) (by decide) (by decide) ⟨rfl, rfl⟩
theorem d_jdk_42_method_74_0 : decode jdk_42_method_74_code 0 = .ok (.iload_n 1, 1) := by decide +kernel
theorem d_jdk_42_method_74_1 : decode jdk_42_method_74_code 1 = .ok (.ifCond .ne 14, 3) := by decide +kernel
theorem d_jdk_42_method_74_15 : decode jdk_42_method_74_code 15 = .ok (.iload 4, 2) := by decide +kernel
theorem d_jdk_42_method_74_17 : decode jdk_42_method_74_code 17 = .ok (.ifCond .lt 38, 3) := by decide +kernel
theorem d_jdk_42_method_74_20 : decode jdk_42_method_74_code 20 = .ok (.iload_n 2, 1) := by decide +kernel
theorem d_jdk_42_method_74_21 : decode jdk_42_method_74_code 21 = .ok (.ifCond .lt 34, 3) := by decide +kernel
theorem d_jdk_42_method_74_24 : decode jdk_42_method_74_code 24 = .ok (.iload_n 2, 1) := by decide +kernel
theorem d_jdk_42_method_74_25 : decode jdk_42_method_74_code 25 = .ok (.i2l, 1) := by decide +kernel
theorem d_jdk_42_method_74_26 : decode jdk_42_method_74_code 26 = .ok (.aload_n 0, 1) := by decide +kernel
theorem d_jdk_42_method_74_27 : decode jdk_42_method_74_code 27 = .ok (.invokevirtual 505, 3) := by decide +kernel
theorem d_jdk_42_method_74_30 : decode jdk_42_method_74_code 30 = .ok (.i2l, 1) := by decide +kernel
theorem d_jdk_42_method_74_31 : decode jdk_42_method_74_code 31 = .ok (.iload 5, 2) := by decide +kernel
theorem d_jdk_42_method_74_33 : decode jdk_42_method_74_code 33 = .ok (.i2l, 1) := by decide +kernel
theorem d_jdk_42_method_74_34 : decode jdk_42_method_74_code 34 = .ok (.lsub, 1) := by decide +kernel
theorem d_jdk_42_method_74_35 : decode jdk_42_method_74_code 35 = .ok (.lcmp, 1) := by decide +kernel
theorem d_jdk_42_method_74_36 : decode jdk_42_method_74_code 36 = .ok (.ifCond .gt 19, 3) := by decide +kernel
theorem d_jdk_42_method_74_39 : decode jdk_42_method_74_code 39 = .ok (.iload 4, 2) := by decide +kernel
theorem d_jdk_42_method_74_41 : decode jdk_42_method_74_code 41 = .ok (.i2l, 1) := by decide +kernel
theorem d_jdk_42_method_74_42 : decode jdk_42_method_74_code 42 = .ok (.aload_n 3, 1) := by decide +kernel
theorem d_jdk_42_method_74_43 : decode jdk_42_method_74_code 43 = .ok (.invokevirtual 505, 3) := by decide +kernel
theorem d_jdk_42_method_74_46 : decode jdk_42_method_74_code 46 = .ok (.i2l, 1) := by decide +kernel
theorem d_jdk_42_method_74_47 : decode jdk_42_method_74_code 47 = .ok (.iload 5, 2) := by decide +kernel
theorem d_jdk_42_method_74_49 : decode jdk_42_method_74_code 49 = .ok (.i2l, 1) := by decide +kernel
theorem d_jdk_42_method_74_50 : decode jdk_42_method_74_code 50 = .ok (.lsub, 1) := by decide +kernel
theorem d_jdk_42_method_74_51 : decode jdk_42_method_74_code 51 = .ok (.lcmp, 1) := by decide +kernel
theorem d_jdk_42_method_74_52 : decode jdk_42_method_74_code 52 = .ok (.ifCond .le 5, 3) := by decide +kernel
theorem d_jdk_42_method_74_57 : decode jdk_42_method_74_code 57 = .ok (.aload_n 0, 1) := by decide +kernel
theorem d_jdk_42_method_74_58 : decode jdk_42_method_74_code 58 = .ok (.getfield 9, 3) := by decide +kernel
theorem d_jdk_42_method_74_61 : decode jdk_42_method_74_code 61 = .ok (.astore 6, 2) := by decide +kernel
theorem d_jdk_42_method_74_63 : decode jdk_42_method_74_code 63 = .ok (.aload_n 3, 1) := by decide +kernel
theorem d_jdk_42_method_74_64 : decode jdk_42_method_74_code 64 = .ok (.getfield 9, 3) := by decide +kernel
theorem d_jdk_42_method_74_67 : decode jdk_42_method_74_code 67 = .ok (.astore 7, 2) := by decide +kernel
theorem d_jdk_42_method_74_69 : decode jdk_42_method_74_code 69 = .ok (.aload_n 0, 1) := by decide +kernel
theorem pd_13 : parseMethodDescriptor "()B" = some ⟨[], some .byte⟩ := by decide +kernel
theorem d_jdk_42_method_74_70 : decode jdk_42_method_74_code 70 = .ok (.invokevirtual 335, 3) := by decide +kernel
theorem d_jdk_42_method_74_73 : decode jdk_42_method_74_code 73 = .ok (.istore 8, 2) := by decide +kernel
theorem d_jdk_42_method_74_75 : decode jdk_42_method_74_code 75 = .ok (.iload 8, 2) := by decide +kernel
theorem d_jdk_42_method_74_77 : decode jdk_42_method_74_code 77 = .ok (.aload_n 3, 1) := by decide +kernel
theorem d_jdk_42_method_74_78 : decode jdk_42_method_74_code 78 = .ok (.invokevirtual 335, 3) := by decide +kernel
theorem d_jdk_42_method_74_81 : decode jdk_42_method_74_code 81 = .ok (.if_icmp .ne 36, 3) := by decide +kernel
theorem d_jdk_42_method_74_84 : decode jdk_42_method_74_code 84 = .ok (.iload 8, 2) := by decide +kernel
theorem d_jdk_42_method_74_86 : decode jdk_42_method_74_code 86 = .ok (.ifCond .ne 18, 3) := by decide +kernel
theorem d_jdk_42_method_74_89 : decode jdk_42_method_74_code 89 = .ok (.aload 6, 2) := by decide +kernel
theorem d_jdk_42_method_74_91 : decode jdk_42_method_74_code 91 = .ok (.iload_n 2, 1) := by decide +kernel
theorem d_jdk_42_method_74_92 : decode jdk_42_method_74_code 92 = .ok (.aload 7, 2) := by decide +kernel
theorem d_jdk_42_method_74_94 : decode jdk_42_method_74_code 94 = .ok (.iload 4, 2) := by decide +kernel
theorem d_jdk_42_method_74_96 : decode jdk_42_method_74_code 96 = .ok (.iload 5, 2) := by decide +kernel
theorem pd_14 : parseMethodDescriptor "([BI[BII)Z" = some ⟨[(.array .byte), .int, (.array .byte), .int, .int], some .boolean⟩ := by decide +kernel
theorem d_jdk_42_method_74_98 : decode jdk_42_method_74_code 98 = .ok (.invokestatic 613, 3) := by decide +kernel
theorem d_jdk_42_method_74_101 : decode jdk_42_method_74_code 101 = .ok (.goto 15, 3) := by decide +kernel
theorem d_jdk_42_method_74_116 : decode jdk_42_method_74_code 116 = .ok (.ireturn, 1) := by decide +kernel
theorem ef_rl_rgm (m : MethodId) (q_0 : Addr) (q_3 : Addr) (q_5 : Int32)  : entryFrame m #[(.ref q_0), (.int (1 : Int32)), (.int (0 : Int32)), (.ref q_3), (.int (0 : Int32)), (.int q_5)] 9 = mkF m 0 #[.val (.ref q_0), .val (.int (1 : Int32)), .val (.int (0 : Int32)), .val (.ref q_3), .val (.int (0 : Int32)), .val (.int q_5), .unset, .unset, .unset] [] := by  first | (simp [entryFrame, mkF, argsToLocals, Value.category]; done) | rfl
set_option maxRecDepth 65536 in
set_option maxHeartbeats 40000000 in
theorem rl_rgm (l : Launch) (Z : State) (a0 : Array Value) (hw : ∀ d ∈ tables_1, d.before a0 Z = true) (more : List Jvm.Cond) (h0 : Heap) (x : Addr) (y : Addr) (cs ds : List Int32) (G1 : Int32) (O2 : Sta Z Z.heap "java/lang/String" "COMPACT_STRINGS" "Z" (.int G1)) (P5 : ¬ (G1 = (0 : Int32))) (S : own_Str Z h0 x cs) (hlat : ∀ c ∈ cs, ¬ (255 : Int32) < c) (S2 : own_Str Z h0 y ds) (hlad : ∀ c ∈ ds, ¬ (255 : Int32) < c) (hlen : cs.length = ds.length) :
    own_Met true false consts_1 l Z a0 (⟨"java/lang/String", "regionMatches", "(ZILjava/lang/String;II)Z"⟩ : MethodName) jdk_42_method_74_code 9 (some .boolean) more ({ frames := 2, cells := 0, slots := 0, locals := 33 } : Room) #[(.ref x), (.int (1 : Int32)), (.int (0 : Int32)), (.ref y), (.int (0 : Int32)), (.int (Int32.ofNat cs.length))] h0 [] (fun v h => v = some (.int (if own_eqi cs ds then 1 else 0))) := by
  refine own_enter (own := "java/lang/String") rfl (plainFor_of_name pn_1) ?_
  intro p e s m below meth c T hx hby hml hret hlk hnm K
  rw [ef_rl_rgm m x y (Int32.ofNat cs.length)]
  have A := own_here K
  have S0 := S
  obtain ⟨t, kb, cd, N2, vs, E, V, C, Y, hc, hbc, hl⟩ := S
  rcases hc with ⟨rfl, rfl, rfl, -⟩ | ⟨-, -, -, c, hc, hb'⟩
  rotate_left
  · exact absurd hb' (hlat c hc)
  have S0' := S2
  obtain ⟨t', kb', cd', N2', vs', E', V', C', Y', hc', hbd, hl'⟩ := S2
  rcases hc' with ⟨rfl, rfl, rfl, -⟩ | ⟨-, -, -, c, hc, hb'⟩
  rotate_left
  · exact absurd hb' (hlad c hc)
  refine own_iloadN A hx (pc' := 1) (hb hby d_jdk_42_method_74_0) rfl rfl ?_
  refine own_if_ne A hx 15 4 (hb hby d_jdk_42_method_74_1) (by decide) (by decide) rfl (fun hc1 => ?_) (fun hc1 => ?_)
  rotate_left
  · exact absurd hc1 (by decide)
  refine own_iload A hx (pc' := 17) (hb hby d_jdk_42_method_74_15) rfl rfl ?_
  refine own_if_lt A hx 55 20 (hb hby d_jdk_42_method_74_17) (by decide) (by decide) rfl (fun hc17 => ?_) (fun hc17 => ?_)
  · exact absurd hc17 (by decide)
  refine own_iloadN A hx (pc' := 21) (hb hby d_jdk_42_method_74_20) rfl rfl ?_
  refine own_if_lt A hx 55 24 (hb hby d_jdk_42_method_74_21) (by decide) (by decide) rfl (fun hc21 => ?_) (fun hc21 => ?_)
  · exact absurd hc21 (by decide)
  refine own_iloadN A hx (pc' := 25) (hb hby d_jdk_42_method_74_24) rfl rfl ?_
  refine own_i2l A hx (pc' := 26) (hb hby d_jdk_42_method_74_25) (z := ((0 : Int32).toInt64)) rfl rfl ?_
  refine own_aloadN A hx (pc' := 27) (hb hby d_jdk_42_method_74_26) rfl rfl rfl ?_
  refine own_strLen K hx (by rw [hml]; rfl) (hw _ (List.mem_of_getElem? (i := 63) rfl)) (hw _ (List.mem_of_getElem? (i := 64) rfl)) (hw _ (List.mem_of_getElem? (i := 66) rfl)) (hw _ (List.mem_of_getElem? (i := 65) rfl)) (own_wl hw) (hw _ (List.mem_of_getElem? (i := 13) rfl)) S0 O2 P5 (lenOf pd_4 rfl) 2 (Nat.le_of_eq rfl) (hb hby d_jdk_42_method_74_27) (pc' := 30) rfl (by decide) (by decide) (by decide) (by decide) ?_
  intro T42 K42
  have A42 := own_here K42
  refine own_i2l A42 hx (pc' := 31) (hb hby d_jdk_42_method_74_30) (z := ((Int32.ofNat (cs : List Int32).length).toInt64)) rfl rfl ?_
  refine own_iload A42 hx (pc' := 33) (hb hby d_jdk_42_method_74_31) rfl rfl ?_
  refine own_i2l A42 hx (pc' := 34) (hb hby d_jdk_42_method_74_33) (z := ((Int32.ofNat cs.length).toInt64)) rfl rfl ?_
  refine own_lsub A42 hx (pc' := 35) (hb hby d_jdk_42_method_74_34) (z := (((Int32.ofNat (cs : List Int32).length).toInt64) - ((Int32.ofNat cs.length).toInt64))) rfl rfl ?_
  refine own_lcmp A42 hx (pc' := 36) (hb hby d_jdk_42_method_74_35) (z := (lcmpW ((0 : Int32).toInt64) (((Int32.ofNat (cs : List Int32).length).toInt64) - ((Int32.ofNat cs.length).toInt64)))) rfl rfl ?_
  refine own_if_gt A42 hx 55 39 (hb hby d_jdk_42_method_74_36) (by decide) (by decide) rfl (fun hc36 => ?_) (fun hc36 => ?_)
  · exact absurd hc36 (by rw [Int64.sub_self]; decide)
  refine own_iload A42 hx (pc' := 41) (hb hby d_jdk_42_method_74_39) rfl rfl ?_
  refine own_i2l A42 hx (pc' := 42) (hb hby d_jdk_42_method_74_41) (z := ((0 : Int32).toInt64)) rfl rfl ?_
  refine own_aloadN A42 hx (pc' := 43) (hb hby d_jdk_42_method_74_42) rfl rfl rfl ?_
  refine own_strLen K42 hx (by rw [hml]; rfl) (hw _ (List.mem_of_getElem? (i := 63) rfl)) (hw _ (List.mem_of_getElem? (i := 64) rfl)) (hw _ (List.mem_of_getElem? (i := 66) rfl)) (hw _ (List.mem_of_getElem? (i := 65) rfl)) (own_wl hw) (hw _ (List.mem_of_getElem? (i := 13) rfl)) S0' O2 P5 (lenOf pd_4 rfl) 2 (Nat.le_of_eq rfl) (hb hby d_jdk_42_method_74_43) (pc' := 46) rfl (by decide) (by decide) (by decide) (by decide) ?_
  intro T43 K43
  have A43 := own_here K43
  refine own_i2l A43 hx (pc' := 47) (hb hby d_jdk_42_method_74_46) (z := ((Int32.ofNat (ds : List Int32).length).toInt64)) rfl rfl ?_
  refine own_iload A43 hx (pc' := 49) (hb hby d_jdk_42_method_74_47) rfl rfl ?_
  refine own_i2l A43 hx (pc' := 50) (hb hby d_jdk_42_method_74_49) (z := ((Int32.ofNat cs.length).toInt64)) rfl rfl ?_
  refine own_lsub A43 hx (pc' := 51) (hb hby d_jdk_42_method_74_50) (z := (((Int32.ofNat (ds : List Int32).length).toInt64) - ((Int32.ofNat cs.length).toInt64))) rfl rfl ?_
  refine own_lcmp A43 hx (pc' := 52) (hb hby d_jdk_42_method_74_51) (z := (lcmpW ((0 : Int32).toInt64) (((Int32.ofNat (ds : List Int32).length).toInt64) - ((Int32.ofNat cs.length).toInt64)))) rfl rfl ?_
  refine own_if_le A43 hx 57 55 (hb hby d_jdk_42_method_74_52) (by decide) (by decide) rfl (fun hc52 => ?_) (fun hc52 => ?_)
  rotate_left
  · exact absurd hc52 (by rw [hlen, Int64.sub_self]; decide)
  refine own_aloadN A43 hx (pc' := 58) (hb hby d_jdk_42_method_74_57) rfl rfl rfl ?_
  refine own_getF K43 hx (host := "") (Or.inl (hw _ (List.mem_of_getElem? (i := 39) rfl))) Via.refl V (hb hby d_jdk_42_method_74_58) (pc' := 61) rfl ?_
  intro T44 K44
  have A44 := own_here K44
  refine own_astore A44 hx (pc' := 63) #[.val (.ref x), .val (.int (1 : Int32)), .val (.int (0 : Int32)), .val (.ref y), .val (.int (0 : Int32)), .val (.int (Int32.ofNat cs.length)), .val (.ref t), .unset, .unset] (hb hby d_jdk_42_method_74_61) rfl rfl rfl ?_
  refine own_aloadN A44 hx (pc' := 64) (hb hby d_jdk_42_method_74_63) rfl rfl rfl ?_
  refine own_getF K44 hx (host := "") (Or.inl (hw _ (List.mem_of_getElem? (i := 39) rfl))) Via.refl V' (hb hby d_jdk_42_method_74_64) (pc' := 67) rfl ?_
  intro T45 K45
  have A45 := own_here K45
  refine own_astore A45 hx (pc' := 69) #[.val (.ref x), .val (.int (1 : Int32)), .val (.int (0 : Int32)), .val (.ref y), .val (.int (0 : Int32)), .val (.int (Int32.ofNat cs.length)), .val (.ref t), .val (.ref t'), .unset] (hb hby d_jdk_42_method_74_67) rfl rfl rfl ?_
  refine own_aloadN A45 hx (pc' := 70) (hb hby d_jdk_42_method_74_69) rfl rfl rfl ?_
  refine own_callV K45 hx (by rw [hml]; rfl) (hw _ (List.mem_of_getElem? (i := 68) rfl)) (hw _ (List.mem_of_getElem? (i := 69) rfl)) (fun U hU => notFace_of_selects (args := #[]) (mvT hU (hw _ (List.mem_of_getElem? (i := 71) rfl)))) (hw _ (List.mem_of_getElem? (i := 71) rfl)) (hw _ (List.mem_of_getElem? (i := 70) rfl)) (hw _ (List.mem_of_getElem? (i := 14) rfl)) (hw _ (List.mem_of_getElem? (i := 72) rfl)) (by decide) S0.exa (rl_cdr l Z a0 hw [] h0 x G1 O2 P5 C) (fun _ q => nomatch q) (argsL := []) (rest := []) (lenOf pd_13 rfl) rfl 0 (Nat.le_of_eq rfl) (hb hby d_jdk_42_method_74_70) (pc' := 73) rfl (by decide) (by decide) (by decide) (by decide) ?_
  intro v46 T46 h46 K46 Kp46 Q46
  obtain ⟨rfl, -⟩ := Q46
  have S0 := S0.keep Kp46 own_off0
  have E := E.keep Kp46
  have V := V.keep Kp46 nin0
  have C := C.keep Kp46 nin0
  have Y := Y.keep Kp46 nin0
  have S0' := S0'.keep Kp46 own_off0
  have E' := E'.keep Kp46
  have V' := V'.keep Kp46 nin0
  have C' := C'.keep Kp46 nin0
  have Y' := Y'.keep Kp46 nin0
  have A46 := own_here K46
  show own_Go p.tables e below _ T46 (mkF m 73 #[.val (.ref x), .val (.int (1 : Int32)), .val (.int (0 : Int32)), .val (.ref y), .val (.int (0 : Int32)), .val (.int (Int32.ofNat cs.length)), .val (.ref t), .val (.ref t'), .unset] [(.int (0 : Int32))])
  refine own_istore A46 hx (pc' := 75) #[.val (.ref x), .val (.int (1 : Int32)), .val (.int (0 : Int32)), .val (.ref y), .val (.int (0 : Int32)), .val (.int (Int32.ofNat cs.length)), .val (.ref t), .val (.ref t'), .val (.int (0 : Int32))] (hb hby d_jdk_42_method_74_73) rfl rfl ?_
  refine own_iload A46 hx (pc' := 77) (hb hby d_jdk_42_method_74_75) rfl rfl ?_
  refine own_aloadN A46 hx (pc' := 78) (hb hby d_jdk_42_method_74_77) rfl rfl rfl ?_
  refine own_callV K46 hx (by rw [hml]; rfl) (hw _ (List.mem_of_getElem? (i := 68) rfl)) (hw _ (List.mem_of_getElem? (i := 69) rfl)) (fun U hU => notFace_of_selects (args := #[]) (mvT hU (hw _ (List.mem_of_getElem? (i := 71) rfl)))) (hw _ (List.mem_of_getElem? (i := 71) rfl)) (hw _ (List.mem_of_getElem? (i := 70) rfl)) (hw _ (List.mem_of_getElem? (i := 14) rfl)) (hw _ (List.mem_of_getElem? (i := 72) rfl)) (by decide) S0'.exa (rl_cdr l Z a0 hw [] h46 y G1 O2 P5 C') (fun _ q => nomatch q) (argsL := []) (rest := [(.int (0 : Int32))]) (lenOf pd_13 rfl) rfl 1 (Nat.le_of_eq rfl) (hb hby d_jdk_42_method_74_78) (pc' := 81) rfl (by decide) (by decide) (by decide) (by decide) ?_
  intro v47 T47 h47 K47 Kp47 Q47
  obtain ⟨rfl, -⟩ := Q47
  have S0 := S0.keep Kp47 own_off0
  have E := E.keep Kp47
  have V := V.keep Kp47 nin0
  have C := C.keep Kp47 nin0
  have Y := Y.keep Kp47 nin0
  have S0' := S0'.keep Kp47 own_off0
  have E' := E'.keep Kp47
  have V' := V'.keep Kp47 nin0
  have C' := C'.keep Kp47 nin0
  have Y' := Y'.keep Kp47 nin0
  have A47 := own_here K47
  show own_Go p.tables e below _ T47 (mkF m 81 #[.val (.ref x), .val (.int (1 : Int32)), .val (.int (0 : Int32)), .val (.ref y), .val (.int (0 : Int32)), .val (.int (Int32.ofNat cs.length)), .val (.ref t), .val (.ref t'), .val (.int (0 : Int32))] [(.int (0 : Int32)), (.int (0 : Int32))])
  refine own_icmp_ne A47 hx 117 84 (hb hby d_jdk_42_method_74_81) (by decide) (by decide) rfl (fun hc81 => ?_) (fun hc81 => ?_)
  · exact absurd hc81 (by decide)
  refine own_iload A47 hx (pc' := 86) (hb hby d_jdk_42_method_74_84) rfl rfl ?_
  refine own_if_ne A47 hx 104 89 (hb hby d_jdk_42_method_74_86) (by decide) (by decide) rfl (fun hc86 => ?_) (fun hc86 => ?_)
  · exact absurd hc86 (by decide)
  refine own_aload A47 hx (pc' := 91) (hb hby d_jdk_42_method_74_89) rfl rfl rfl ?_
  refine own_iloadN A47 hx (pc' := 92) (hb hby d_jdk_42_method_74_91) rfl rfl ?_
  refine own_aload A47 hx (pc' := 94) (hb hby d_jdk_42_method_74_92) rfl rfl rfl ?_
  refine own_iload A47 hx (pc' := 96) (hb hby d_jdk_42_method_74_94) rfl rfl ?_
  refine own_iload A47 hx (pc' := 98) (hb hby d_jdk_42_method_74_96) rfl rfl ?_
  refine own_callS K47 hx (by rw [hml]; rfl) (hw _ (List.mem_of_getElem? (i := 147) rfl)) (hw _ (List.mem_of_getElem? (i := 148) rfl)) (hw _ (List.mem_of_getElem? (i := 75) rfl)) (hw _ (List.mem_of_getElem? (i := 149) rfl)) (by decide) (rl_rci l Z a0 hw [] h47 t t' cs ds kb kb' Y hl hlat hbc Y' hlad hbd hlen) (fun _ q => nomatch q) (argsL := [(.ref t), (.int (0 : Int32)), (.ref t'), (.int (0 : Int32)), (.int (Int32.ofNat cs.length))]) (rest := []) (lenOf pd_14 rfl) rfl 0 (Nat.le_of_eq rfl) (hb hby d_jdk_42_method_74_98) (pc' := 101) rfl (by decide) (by decide) (by decide) (by decide) ?_
  intro v48 T48 h48 K48 Kp48 Q48
  obtain rfl := Q48
  have S0 := S0.keep Kp48 own_off0
  have E := E.keep Kp48
  have V := V.keep Kp48 nin0
  have C := C.keep Kp48 nin0
  have Y := Y.keep Kp48 nin0
  have S0' := S0'.keep Kp48 own_off0
  have E' := E'.keep Kp48
  have V' := V'.keep Kp48 nin0
  have C' := C'.keep Kp48 nin0
  have Y' := Y'.keep Kp48 nin0
  have A48 := own_here K48
  show own_Go p.tables e below _ T48 (mkF m 101 #[.val (.ref x), .val (.int (1 : Int32)), .val (.int (0 : Int32)), .val (.ref y), .val (.int (0 : Int32)), .val (.int (Int32.ofNat cs.length)), .val (.ref t), .val (.ref t'), .val (.int (0 : Int32))] [(.int (if own_eqi cs ds then (1 : Int32) else 0))])
  refine own_goto A48 hx 116 (hb hby d_jdk_42_method_74_101) (by decide) (by decide) ?_
  exact own_retN K48 hx hlk hret (by simp) (hb hby d_jdk_42_method_74_116) (by decide) (by decide) (by show some (Value.int (nar .boolean _)) = _; split <;> rfl)
theorem own_Str.le {Z : State} {h : Heap} {a : Addr} {cs : List Int32} (F : own_Str Z h a cs) : cs.length ≤ 4000 := by obtain ⟨t, kb, cd, N2, vs, -, -, -, -, -, -, q⟩ := F; exact q
theorem d_jdk_42_method_70_0 : decode jdk_42_method_70_code 0 = .ok (.aload_n 0, 1) := by decide +kernel
theorem d_jdk_42_method_70_1 : decode jdk_42_method_70_code 1 = .ok (.aload_n 1, 1) := by decide +kernel
theorem d_jdk_42_method_70_2 : decode jdk_42_method_70_code 2 = .ok (.if_acmp .ne 7, 3) := by decide +kernel
theorem d_jdk_42_method_70_5 : decode jdk_42_method_70_code 5 = .ok (.iconst 1, 1) := by decide +kernel
theorem d_jdk_42_method_70_6 : decode jdk_42_method_70_code 6 = .ok (.goto 38, 3) := by decide +kernel
theorem d_jdk_42_method_70_44 : decode jdk_42_method_70_code 44 = .ok (.ireturn, 1) := by decide +kernel
theorem d_jdk_42_method_70_9 : decode jdk_42_method_70_code 9 = .ok (.aload_n 1, 1) := by decide +kernel
theorem d_jdk_42_method_70_10 : decode jdk_42_method_70_code 10 = .ok (.ifnull 33, 3) := by decide +kernel
theorem d_jdk_42_method_70_13 : decode jdk_42_method_70_code 13 = .ok (.aload_n 1, 1) := by decide +kernel
theorem d_jdk_42_method_70_14 : decode jdk_42_method_70_code 14 = .ok (.invokevirtual 505, 3) := by decide +kernel
theorem d_jdk_42_method_70_17 : decode jdk_42_method_70_code 17 = .ok (.aload_n 0, 1) := by decide +kernel
theorem d_jdk_42_method_70_18 : decode jdk_42_method_70_code 18 = .ok (.invokevirtual 505, 3) := by decide +kernel
theorem d_jdk_42_method_70_21 : decode jdk_42_method_70_code 21 = .ok (.if_icmp .ne 22, 3) := by decide +kernel
theorem d_jdk_42_method_70_43 : decode jdk_42_method_70_code 43 = .ok (.iconst 0, 1) := by decide +kernel
theorem d_jdk_42_method_70_24 : decode jdk_42_method_70_code 24 = .ok (.aload_n 0, 1) := by decide +kernel
theorem d_jdk_42_method_70_25 : decode jdk_42_method_70_code 25 = .ok (.iconst 1, 1) := by decide +kernel
theorem d_jdk_42_method_70_26 : decode jdk_42_method_70_code 26 = .ok (.iconst 0, 1) := by decide +kernel
theorem d_jdk_42_method_70_27 : decode jdk_42_method_70_code 27 = .ok (.aload_n 1, 1) := by decide +kernel
theorem d_jdk_42_method_70_28 : decode jdk_42_method_70_code 28 = .ok (.iconst 0, 1) := by decide +kernel
theorem d_jdk_42_method_70_29 : decode jdk_42_method_70_code 29 = .ok (.aload_n 0, 1) := by decide +kernel
theorem d_jdk_42_method_70_30 : decode jdk_42_method_70_code 30 = .ok (.invokevirtual 505, 3) := by decide +kernel
theorem pd_15 : parseMethodDescriptor "(ZILjava/lang/String;II)Z" = some ⟨[.boolean, .int, (.object "java/lang/String"), .int, .int], some .boolean⟩ := by decide +kernel
theorem d_jdk_42_method_70_33 : decode jdk_42_method_70_code 33 = .ok (.invokevirtual 582, 3) := by decide +kernel
theorem d_jdk_42_method_70_36 : decode jdk_42_method_70_code 36 = .ok (.ifCond .eq 7, 3) := by decide +kernel
theorem d_jdk_42_method_70_39 : decode jdk_42_method_70_code 39 = .ok (.iconst 1, 1) := by decide +kernel
theorem d_jdk_42_method_70_40 : decode jdk_42_method_70_code 40 = .ok (.goto 4, 3) := by decide +kernel
theorem ef_rl_eqi (m : MethodId) (q_0 : Addr) (q_1 : Addr)  : entryFrame m #[(.ref q_0), (.ref q_1)] 2 = mkF m 0 #[.val (.ref q_0), .val (.ref q_1)] [] := by  first | (simp [entryFrame, mkF, argsToLocals, Value.category]; done) | rfl
set_option maxRecDepth 65536 in
set_option maxHeartbeats 40000000 in
theorem rl_eqi (l : Launch) (Z : State) (a0 : Array Value) (hw : ∀ d ∈ tables_1, d.before a0 Z = true) (more : List Jvm.Cond) (h0 : Heap) (x : Addr) (y : Addr) (cs ds : List Int32) (G1 : Int32) (O2 : Sta Z Z.heap "java/lang/String" "COMPACT_STRINGS" "Z" (.int G1)) (P5 : ¬ (G1 = (0 : Int32))) (S : own_Str Z h0 x cs) (hlat : ∀ c ∈ cs, ¬ (255 : Int32) < c) (S2 : own_Str Z h0 y ds) (hlad : ∀ c ∈ ds, ¬ (255 : Int32) < c) :
    own_Met true false consts_1 l Z a0 (⟨"java/lang/String", "equalsIgnoreCase", "(Ljava/lang/String;)Z"⟩ : MethodName) jdk_42_method_70_code 2 (some .boolean) more ({ frames := 3, cells := 0, slots := 0, locals := 53 } : Room) #[(.ref x), (.ref y)] h0 [] (fun v h => v = some (.int (if own_eqi cs ds then 1 else 0))) := by
  refine own_enter (own := "java/lang/String") rfl (plainFor_of_name pn_1) ?_
  intro p e s m below meth c T hx hby hml hret hlk hnm K
  rw [ef_rl_eqi m x y]
  have A := own_here K
  have S0 := S
  have S20 := S2
  refine own_aloadN A hx (pc' := 1) (hb hby d_jdk_42_method_70_0) rfl rfl rfl ?_
  refine own_aloadN A hx (pc' := 2) (hb hby d_jdk_42_method_70_1) rfl rfl rfl ?_
  by_cases hq : x = y
  · refine own_acmp K hx rfl rfl true (decide_eq_true (congrArg Value.ref hq)) (pc' := 5) (hb hby d_jdk_42_method_70_2) (by decide) (by decide) ?_
    refine own_iconst A hx (pc' := 6) (hb hby d_jdk_42_method_70_5) (z := (1 : Int32)) (by decide) rfl ?_
    refine own_goto A hx 44 (hb hby d_jdk_42_method_70_6) (by decide) (by decide) ?_
    exact own_retN K hx hlk hret (by simp) (hb hby d_jdk_42_method_70_44) (by decide) (by decide) (by show some (Value.int (nar .boolean 1)) = _; subst hq; rw [S0.inj S20 hlat hlad, if_pos (own_eqi_refl _)]; rfl)
  · refine own_acmp K hx rfl rfl false (decide_eq_false fun q => hq (Value.ref.inj q)) (pc' := 9) (hb hby d_jdk_42_method_70_2) (by decide) (by decide) ?_
    refine own_aloadN A hx (pc' := 10) (hb hby d_jdk_42_method_70_9) rfl rfl rfl ?_
    refine own_ifnull_f A hx 13 (hb hby d_jdk_42_method_70_10) rfl ?_
    refine own_aloadN A hx (pc' := 14) (hb hby d_jdk_42_method_70_13) rfl rfl rfl ?_
    refine own_strLen K hx (by rw [hml]; rfl) (hw _ (List.mem_of_getElem? (i := 63) rfl)) (hw _ (List.mem_of_getElem? (i := 64) rfl)) (hw _ (List.mem_of_getElem? (i := 66) rfl)) (hw _ (List.mem_of_getElem? (i := 65) rfl)) (own_wl hw) (hw _ (List.mem_of_getElem? (i := 13) rfl)) S2 O2 P5 (lenOf pd_4 rfl) 0 (Nat.le_of_eq rfl) (hb hby d_jdk_42_method_70_14) (pc' := 17) rfl (by decide) (by decide) (by decide) (by decide) ?_
    intro T49 K49
    have A49 := own_here K49
    refine own_aloadN A49 hx (pc' := 18) (hb hby d_jdk_42_method_70_17) rfl rfl rfl ?_
    refine own_strLen K49 hx (by rw [hml]; rfl) (hw _ (List.mem_of_getElem? (i := 63) rfl)) (hw _ (List.mem_of_getElem? (i := 64) rfl)) (hw _ (List.mem_of_getElem? (i := 66) rfl)) (hw _ (List.mem_of_getElem? (i := 65) rfl)) (own_wl hw) (hw _ (List.mem_of_getElem? (i := 13) rfl)) S O2 P5 (lenOf pd_4 rfl) 1 (Nat.le_of_eq rfl) (hb hby d_jdk_42_method_70_18) (pc' := 21) rfl (by decide) (by decide) (by decide) (by decide) ?_
    intro T50 K50
    have A50 := own_here K50
    refine own_icmp_ne A50 hx 43 24 (hb hby d_jdk_42_method_70_21) (by decide) (by decide) rfl (fun hc21 => ?_) (fun hc21 => ?_)
    · refine own_iconst A50 hx (pc' := 44) (hb hby d_jdk_42_method_70_43) (z := (0 : Int32)) (by decide) rfl ?_
      exact own_retN K50 hx hlk hret (by simp) (hb hby d_jdk_42_method_70_44) (by decide) (by decide) (by show some (Value.int (nar .boolean 0)) = _; rw [if_neg (fun q => hc21 (by rw [q.1]))]; rfl)
    · refine own_aloadN A50 hx (pc' := 25) (hb hby d_jdk_42_method_70_24) rfl rfl rfl ?_
      refine own_iconst A50 hx (pc' := 26) (hb hby d_jdk_42_method_70_25) (z := (1 : Int32)) (by decide) rfl ?_
      refine own_iconst A50 hx (pc' := 27) (hb hby d_jdk_42_method_70_26) (z := (0 : Int32)) (by decide) rfl ?_
      refine own_aloadN A50 hx (pc' := 28) (hb hby d_jdk_42_method_70_27) rfl rfl rfl ?_
      refine own_iconst A50 hx (pc' := 29) (hb hby d_jdk_42_method_70_28) (z := (0 : Int32)) (by decide) rfl ?_
      refine own_aloadN A50 hx (pc' := 30) (hb hby d_jdk_42_method_70_29) rfl rfl rfl ?_
      refine own_strLen K50 hx (by rw [hml]; rfl) (hw _ (List.mem_of_getElem? (i := 63) rfl)) (hw _ (List.mem_of_getElem? (i := 64) rfl)) (hw _ (List.mem_of_getElem? (i := 66) rfl)) (hw _ (List.mem_of_getElem? (i := 65) rfl)) (own_wl hw) (hw _ (List.mem_of_getElem? (i := 13) rfl)) S O2 P5 (lenOf pd_4 rfl) 5 (Nat.le_of_eq rfl) (hb hby d_jdk_42_method_70_30) (pc' := 33) rfl (by decide) (by decide) (by decide) (by decide) ?_
      intro T51 K51
      have A51 := own_here K51
      refine own_callV K51 hx (by rw [hml]; rfl) (hw _ (List.mem_of_getElem? (i := 142) rfl)) (hw _ (List.mem_of_getElem? (i := 143) rfl)) (fun U hU => notFace_of_selects (args := #[]) (mvT hU (hw _ (List.mem_of_getElem? (i := 145) rfl)))) (hw _ (List.mem_of_getElem? (i := 145) rfl)) (hw _ (List.mem_of_getElem? (i := 144) rfl)) (hw _ (List.mem_of_getElem? (i := 14) rfl)) (hw _ (List.mem_of_getElem? (i := 146) rfl)) (by decide) S.exa (rl_rgm l Z a0 hw [] h0 x y cs ds G1 O2 P5 S hlat S2 hlad (own_natinj (Nat.lt_of_le_of_lt S20.le (by decide)) (Nat.lt_of_le_of_lt S0.le (by decide)) hc21).symm) (fun _ q => nomatch q) (argsL := [(.int (1 : Int32)), (.int (0 : Int32)), (.ref y), (.int (0 : Int32)), (.int (Int32.ofNat (cs : List Int32).length))]) (rest := []) (lenOf pd_15 rfl) rfl 0 (Nat.le_of_eq rfl) (hb hby d_jdk_42_method_70_33) (pc' := 36) rfl (by decide) (by decide) (by decide) (by decide) ?_
      intro v52 T52 h52 K52 Kp52 Q52
      obtain rfl := Q52
      have S := S.keep Kp52 own_off0
      have S2 := S2.keep Kp52 own_off0
      have A52 := own_here K52
      show own_Go p.tables e below _ T52 (mkF m 36 #[.val (.ref x), .val (.ref y)] [(.int (if own_eqi cs ds then (1 : Int32) else 0))])
      refine own_if_eq A52 hx 43 39 (hb hby d_jdk_42_method_70_36) (by decide) (by decide) rfl (fun hc36 => ?_) (fun hc36 => ?_)
      · refine own_iconst A52 hx (pc' := 44) (hb hby d_jdk_42_method_70_43) (z := (0 : Int32)) (by decide) rfl ?_
        exact own_retN K52 hx hlk hret (by simp) (hb hby d_jdk_42_method_70_44) (by decide) (by decide) (by show some (Value.int (nar .boolean 0)) = _; rw [if_neg (own_if0 hc36)]; rfl)
      · refine own_iconst A52 hx (pc' := 40) (hb hby d_jdk_42_method_70_39) (z := (1 : Int32)) (by decide) rfl ?_
        refine own_goto A52 hx 44 (hb hby d_jdk_42_method_70_40) (by decide) (by decide) ?_
        exact own_retN K52 hx hlk hret (by simp) (hb hby d_jdk_42_method_70_44) (by decide) (by decide) (by show some (Value.int (nar .boolean 1)) = _; rw [if_pos (own_if1 hc36)]; rfl)
def own_ws (c : Int32) : Prop := c = 32 ∨ (¬ c < 9 ∧ ¬ 13 < c) ∨ (¬ c < 28 ∧ ¬ 31 < c)
instance own_wsD : DecidablePred own_ws := fun c => by unfold own_ws; infer_instance
def own_tab : List Int32 := [1207963663, 1207963663, 1207963663, 1207963663, 1207963663, 1207963663, 1207963663, 1207963663, 1207963663, 1476411407, 1342193679, 1476411407, 1610629135, 1342193679, 1207963663, 1207963663, 1207963663, 1207963663, 1207963663, 1207963663, 1207963663, 1207963663, 1207963663, 1207963663, 1207963663, 1207963663, 1207963663, 1207963663, 1342193679, 1342193679, 1342193679, 1476411407, 1610629132, 1744830488, 1744830488, 671088664, 671113242, 671088664, 1744830488, 1744830488, -402653163, -402653162, 1744830488, 536870937, 939524120, 536870932, 939524120, 939524120, 402667017, 402667017, 402667017, 402667017, 402667017, 402667017, 402667017, 402667017, 402667017, 402667017, 939524120, 1744830488, -402653159, 1744830489, -402653159, 1744830488, 1744830488, 8552417, 8552417, 8552417, 8552417, 8552417, 8552417, 8552417, 8552417, 8552417, 8552417, 8552417, 8552417, 8552417, 8552417, 8552417, 8552417, 8552417, 8552417, 8552417, 8552417, 8552417, 8552417, 8552417, 8552417, 8552417, 8552417, -402653163, 1744830488, -402653162, 1744830491, 1744850967, 1744830491, 8486882, 8486882, 8486882, 8486882, 8486882, 8486882, 8486882, 8486882, 8486882, 8486882, 8486882, 8486882, 8486882, 8486882, 8486882, 8486882, 8486882, 8486882, 8486882, 8486882, 8486882, 8486882, 8486882, 8486882, 8486882, 8486882, -402653163, 1744830489, -402653162, 1744830489, 1207963663, 1207963663, 1207963663, 1207963663, 1207963663, 1207963663, 1342181391, 1207963663, 1207963663, 1207963663, 1207963663, 1207963663, 1207963663, 1207963663, 1207963663, 1207963663, 1207963663, 1207963663, 1207963663, 1207963663, 1207963663, 1207963663, 1207963663, 1207963663, 1207963663, 1207963663, 1207963663, 1207963663, 1207963663, 1207963663, 1207963663, 1207963663, 1207963663, 939524108, 1744830488, 671113242, 671113242, 671113242, 671113242, 1744830492, 1744830488, 1744830491, 1744830492, 28677, -402653155, 1744830489, 1207963664, 1744830492, 1744830491, 671088668, 671088665, 402654731, 402654731, 1744830491, 134049794, 1744830488, 1744830488, 1744830491, 402654475, 28677, -402653154, 1744832523, 1744832523, 1744832523, 1744830488, 8548353, 8548353, 8548353, 8548353, 8548353, 8548353, 8548353, 8548353, 8548353, 8548353, 8548353, 8548353, 8548353, 8548353, 8548353, 8548353, 8548353, 8548353, 8548353, 8548353, 8548353, 8548353, 8548353, 1744830489, 8548353, 8548353, 8548353, 8548353, 8548353, 8548353, 8548353, 134049794, 8482818, 8482818, 8482818, 8482818, 8482818, 8482818, 8482818, 8482818, 8482818, 8482818, 8482818, 8482818, 8482818, 8482818, 8482818, 8482818, 8482818, 8482818, 8482818, 8482818, 8482818, 8482818, 8482818, 1744830489, 8482818, 8482818, 8482818, 8482818, 8482818, 8482818, 8482818, 102592514]
theorem own_tabL : 256 = own_tab.length := by decide +kernel
theorem own_wsK : ∀ k : Fin 256, (own_tab.getD k.val 0 &&& 28672 = 16384) ↔ own_ws (Int32.ofNat k.val) := by decide +kernel
theorem own_wsT {c : Int32} (h : ¬ c < 0 ∧ ¬ (255 : Int32) < c) : (own_tab.getD c.toNatClampNeg 0 &&& (28672 : Int32)) = 16384 ↔ own_ws c := by
  obtain ⟨k, rfl⟩ := own_u8 h
  rw [own_natcl (by have := k.isLt; omega)]; exact own_wsK k
theorem own_i2cK : ∀ k : Fin 256, (Int32.ofNat k.val).toUInt32.toUInt16.toUInt32.toInt32 = Int32.ofNat k.val := by decide +kernel
theorem own_tabA {s : State} {args : Array Value} (hs : ∀ d ∈ jdkStatics_1, d.before args s = true) : ∃ aA kA, Sta s s.heap "java/lang/CharacterDataLatin1" "A" "[I" (.ref aA) ∧ Arv s s.heap aA kA .int (Int32.ofNat 256) (own_tab.map Value.int) (.int 0) := by
  have w1 := Cond.before_iff.mp (hs _ (List.mem_of_getElem? (i := 14) rfl))
  obtain ⟨a, ea⟩ := arr_v w1
  obtain ⟨c, A⟩ := Arr.start ea w1
  have hat : s.arrayAt? a = some c := A.fin (Vm.Alike.refl _)
  obtain ⟨z1, z2⟩ := own_lenV ea hat (eqv_i (Term.int_eval (256)) (Cond.before_iff.mp (hs _ (List.mem_of_getElem? (i := 16) rfl))))
  have sz : c.slots.size = 256 := own_natinj z1 (by decide) (z2.trans (by decide))
  have el : ∀ k : Fin 256, jdkStatics_1[17 + k.val]? = some (Jvm.Cond.eq (Jvm.Term.elem (Jvm.Term.static "java/lang/CharacterDataLatin1" "A" "[I") (Jvm.Term.int (Int32.ofNat k.val))) (Jvm.Term.int (own_tab.getD k.val 0))) := by decide +kernel
  have at_ : ∀ i, i < 256 → c.slots[i]? = some ((own_tab.map Value.int).getD i (.int 0)) := fun i hi => by
    rw [own_mapAt _ (own_tabL ▸ hi)]
    exact own_elemV ea hat (by omega) (eqv_i (Term.int_eval _) (Cond.before_iff.mp (hs _ (List.mem_of_getElem? (el ⟨i, hi⟩)))))
  refine ⟨a, c.cls, Sta.start ea (Or.inl (hs _ (List.mem_of_getElem? (i := 13) rfl))), c, A, rfl, by rw [own_natcl (by decide)]; exact sz, own_nat0 (by decide), fun i hi => at_ i (by omega), fun i hi => ?_⟩
  rw [own_mapAt _ (own_tabL ▸ (by omega : i < 256))]; rfl
theorem own_natsub1 (k : Nat) : Int32.ofNat (k + 1) - (1 : Int32) = Int32.ofNat k := own_natsub' (i := 1)
def own_qr (cs : List Int32) (q r : Nat) : Prop := q ≤ cs.length ∧ (∀ j, j < q → own_ws (cs.getD j 0)) ∧ (q < cs.length → ¬ own_ws (cs.getD q 0) ∧ q < r ∧ r ≤ cs.length ∧ (∀ j, r ≤ j → j < cs.length → own_ws (cs.getD j 0)) ∧ ¬ own_ws (cs.getD (r - 1) 0))
def own_trim (cs us : List Int32) : Prop := ∃ q r, us = (cs.drop q).take (r - q) ∧ own_qr cs q r
theorem own_qr_uniq {cs : List Int32} {q r q' r' : Nat} (h : own_qr cs q r) (h' : own_qr cs q' r') : (cs.drop q).take (r - q) = (cs.drop q').take (r' - q') := by
  obtain ⟨a1, a2, a3⟩ := h
  obtain ⟨b1, b2, b3⟩ := h'
  have eq : q = q' := by
    rcases Nat.lt_trichotomy q q' with x | x | x
    · exact absurd (b2 q x) (a3 (by omega)).1
    · exact x
    · exact absurd (a2 q' x) (b3 (by omega)).1
  subst eq
  by_cases hq : q < cs.length
  · obtain ⟨c1, c2, c3, c4, c5⟩ := a3 hq
    obtain ⟨d1, d2, d3, d4, d5⟩ := b3 hq
    have er : r = r' := by
      rcases Nat.lt_trichotomy r r' with x | x | x
      · exact absurd (c4 (r' - 1) (by omega) (by omega)) d5
      · exact x
      · exact absurd (d4 (r - 1) (by omega) (by omega)) c5
    rw [er]
  · rw [List.drop_of_length_le (by omega)]; simp
theorem own_natdec (m : Nat) : Int32.ofNat (m + 1) + Int32.ofInt (-1) = Int32.ofNat m := by
  rw [Int32.ofNat_add, Int32.add_assoc, show Int32.ofNat 1 + Int32.ofInt (-1) = 0 by decide, Int32.add_zero]
theorem d_jdk_116_method_1_0 : decode jdk_116_method_1_code 0 = .ok (.iload_n 1, 1) := by decide +kernel
theorem d_jdk_116_method_1_1 : decode jdk_116_method_1_code 1 = .ok (.i2c, 1) := by decide +kernel
theorem d_jdk_116_method_1_2 : decode jdk_116_method_1_code 2 = .ok (.istore_n 2, 1) := by decide +kernel
theorem d_jdk_116_method_1_3 : decode jdk_116_method_1_code 3 = .ok (.getstatic 1, 3) := by decide +kernel
theorem d_jdk_116_method_1_6 : decode jdk_116_method_1_code 6 = .ok (.iload_n 2, 1) := by decide +kernel
theorem d_jdk_116_method_1_7 : decode jdk_116_method_1_code 7 = .ok (.iaload, 1) := by decide +kernel
theorem d_jdk_116_method_1_8 : decode jdk_116_method_1_code 8 = .ok (.istore_n 3, 1) := by decide +kernel
theorem d_jdk_116_method_1_9 : decode jdk_116_method_1_code 9 = .ok (.iload_n 3, 1) := by decide +kernel
theorem d_jdk_116_method_1_10 : decode jdk_116_method_1_code 10 = .ok (.ireturn, 1) := by decide +kernel
theorem ef_rl_gp (m : MethodId) (q_0 : Addr) (q_1 : Int32)  : entryFrame m #[(.ref q_0), (.int q_1)] 4 = mkF m 0 #[.val (.ref q_0), .val (.int q_1), .unset, .unset] [] := by  first | (simp [entryFrame, mkF, argsToLocals, Value.category]; done) | rfl
set_option maxRecDepth 65536 in
set_option maxHeartbeats 40000000 in
theorem rl_gp (l : Launch) (Z : State) (a0 : Array Value) (hw : ∀ d ∈ tables_1, d.before a0 Z = true) (more : List Jvm.Cond) (h0 : Heap) (x : Addr) (ec : Int32)  (aA : Addr) (kA : ClassId) (SA : Sta Z Z.heap "java/lang/CharacterDataLatin1" "A" "[I" (.ref aA)) (TA : Arv Z Z.heap aA kA .int (Int32.ofNat 256) (own_tab.map Value.int) (.int 0)) (aI : Addr) (SI : Sta Z Z.heap "java/lang/CharacterDataLatin1" "instance" "Ljava/lang/CharacterDataLatin1;" (.ref aI)) (XI : Exa Z Z.heap aI "java/lang/CharacterDataLatin1") (hec : ¬ ec < 0 ∧ ¬ (255 : Int32) < ec) :
    own_Met true false consts_1 l Z a0 (⟨"java/lang/CharacterDataLatin1", "getProperties", "(I)I"⟩ : MethodName) jdk_116_method_1_code 4 (some .int) more ({ frames := 0, cells := 0, slots := 0, locals := 0 } : Room) #[(.ref x), (.int ec)] h0 [] (fun v h => v = some (.int (own_tab.getD ec.toNatClampNeg 0)) ∧ h = h0) := by
  refine own_enter (own := "java/lang/CharacterDataLatin1") rfl (plainFor_of_name pn_4) ?_
  intro p e s m below meth c T hx hby hml hret hlk hnm K
  rw [ef_rl_gp m x ec]
  have A := own_here K
  obtain ⟨k, rfl⟩ := own_u8 hec
  refine own_iloadN A hx (pc' := 1) (hb hby d_jdk_116_method_1_0) rfl rfl ?_
  refine own_i2c A hx (pc' := 2) (hb hby d_jdk_116_method_1_1) (z := ((Int32.ofNat k.val).toUInt32.toUInt16.toUInt32.toInt32)) rfl rfl ?_
  rw [own_i2cK]
  refine own_istoreN A hx (pc' := 3) #[.val (.ref x), .val (.int (Int32.ofNat k.val)), .val (.int (Int32.ofNat k.val)), .unset] (hb hby d_jdk_116_method_1_2) rfl rfl ?_
  refine own_getS K hx (host := "") (Or.inl (hw _ (List.mem_of_getElem? (i := 197) rfl))) Via.refl SA (hb hby d_jdk_116_method_1_3) (pc' := 6) rfl ?_
  intro T53 K53
  have A53 := own_here K53
  refine own_iloadN A53 hx (pc' := 7) (hb hby d_jdk_116_method_1_6) rfl rfl ?_
  refine own_ldI K53 hx (TA.ext (own_ext0 K53)) (own_natlt (by decide) k.isLt) (by rw [own_natcl (by have := k.isLt; omega)]; exact own_mapAt _ (own_tabL ▸ k.isLt)) (hb hby d_jdk_116_method_1_7) (pc' := 8) rfl ?_
  refine own_istoreN A53 hx (pc' := 9) #[.val (.ref x), .val (.int (Int32.ofNat k.val)), .val (.int (Int32.ofNat k.val)), .val (.int (own_tab.getD k.val 0))] (hb hby d_jdk_116_method_1_8) rfl rfl ?_
  refine own_iloadN A53 hx (pc' := 10) (hb hby d_jdk_116_method_1_9) rfl rfl ?_
  exact own_retI K53 hx hlk hret (hb hby d_jdk_116_method_1_10) (by decide) (by decide) ⟨by rw [own_natcl (by have := k.isLt; omega)], rfl⟩
theorem d_jdk_116_method_26_0 : decode jdk_116_method_26_code 0 = .ok (.aload_n 0, 1) := by decide +kernel
theorem d_jdk_116_method_26_1 : decode jdk_116_method_26_code 1 = .ok (.iload_n 1, 1) := by decide +kernel
theorem pd_16 : parseMethodDescriptor "(I)I" = some ⟨[.int], some .int⟩ := by decide +kernel
theorem d_jdk_116_method_26_2 : decode jdk_116_method_26_code 2 = .ok (.invokevirtual 15, 3) := by decide +kernel
theorem d_jdk_116_method_26_5 : decode jdk_116_method_26_code 5 = .ok (.istore_n 2, 1) := by decide +kernel
theorem d_jdk_116_method_26_6 : decode jdk_116_method_26_code 6 = .ok (.iload_n 2, 1) := by decide +kernel
theorem d_jdk_116_method_26_7 : decode jdk_116_method_26_code 7 = .ok (.sipush 28672, 3) := by decide +kernel
theorem d_jdk_116_method_26_10 : decode jdk_116_method_26_code 10 = .ok (.iand, 1) := by decide +kernel
theorem d_jdk_116_method_26_11 : decode jdk_116_method_26_code 11 = .ok (.sipush 16384, 3) := by decide +kernel
theorem d_jdk_116_method_26_14 : decode jdk_116_method_26_code 14 = .ok (.if_icmp .ne 7, 3) := by decide +kernel
theorem d_jdk_116_method_26_21 : decode jdk_116_method_26_code 21 = .ok (.iconst 0, 1) := by decide +kernel
theorem d_jdk_116_method_26_22 : decode jdk_116_method_26_code 22 = .ok (.ireturn, 1) := by decide +kernel
theorem d_jdk_116_method_26_17 : decode jdk_116_method_26_code 17 = .ok (.iconst 1, 1) := by decide +kernel
theorem d_jdk_116_method_26_18 : decode jdk_116_method_26_code 18 = .ok (.goto 4, 3) := by decide +kernel
theorem ef_rl_isw (m : MethodId) (q_0 : Addr) (q_1 : Int32)  : entryFrame m #[(.ref q_0), (.int q_1)] 3 = mkF m 0 #[.val (.ref q_0), .val (.int q_1), .unset] [] := by  first | (simp [entryFrame, mkF, argsToLocals, Value.category]; done) | rfl
set_option maxRecDepth 65536 in
set_option maxHeartbeats 40000000 in
theorem rl_isw (l : Launch) (Z : State) (a0 : Array Value) (hw : ∀ d ∈ tables_1, d.before a0 Z = true) (more : List Jvm.Cond) (h0 : Heap) (x : Addr) (ec : Int32)  (aA : Addr) (kA : ClassId) (SA : Sta Z Z.heap "java/lang/CharacterDataLatin1" "A" "[I" (.ref aA)) (TA : Arv Z Z.heap aA kA .int (Int32.ofNat 256) (own_tab.map Value.int) (.int 0)) (aI : Addr) (SI : Sta Z Z.heap "java/lang/CharacterDataLatin1" "instance" "Ljava/lang/CharacterDataLatin1;" (.ref aI)) (XI : Exa Z Z.heap aI "java/lang/CharacterDataLatin1") (EX : Exa Z h0 x "java/lang/CharacterDataLatin1") (hec : ¬ ec < 0 ∧ ¬ (255 : Int32) < ec) :
    own_Met true false consts_1 l Z a0 (⟨"java/lang/CharacterDataLatin1", "isWhitespace", "(I)Z"⟩ : MethodName) jdk_116_method_26_code 3 (some .boolean) more ({ frames := 1, cells := 0, slots := 0, locals := 15 } : Room) #[(.ref x), (.int ec)] h0 [] (fun v h => v = some (.int (if own_ws ec then 1 else 0))) := by
  refine own_enter (own := "java/lang/CharacterDataLatin1") rfl (plainFor_of_name pn_4) ?_
  intro p e s m below meth c T hx hby hml hret hlk hnm K
  rw [ef_rl_isw m x ec]
  have A := own_here K
  refine own_aloadN A hx (pc' := 1) (hb hby d_jdk_116_method_26_0) rfl rfl rfl ?_
  refine own_iloadN A hx (pc' := 2) (hb hby d_jdk_116_method_26_1) rfl rfl ?_
  refine own_callV K hx (by rw [hml]; rfl) (hw _ (List.mem_of_getElem? (i := 192) rfl)) (hw _ (List.mem_of_getElem? (i := 193) rfl)) (fun U hU => notFace_of_selects (args := #[]) (mvT hU (hw _ (List.mem_of_getElem? (i := 195) rfl)))) (hw _ (List.mem_of_getElem? (i := 195) rfl)) (hw _ (List.mem_of_getElem? (i := 194) rfl)) (hw _ (List.mem_of_getElem? (i := 152) rfl)) (hw _ (List.mem_of_getElem? (i := 196) rfl)) (by decide) EX (rl_gp l Z a0 hw [] h0 x ec aA kA SA TA aI SI XI hec) (fun _ q => nomatch q) (argsL := [(.int ec)]) (rest := []) (lenOf pd_16 rfl) rfl 0 (Nat.le_of_eq rfl) (hb hby d_jdk_116_method_26_2) (pc' := 5) rfl (by decide) (by decide) (by decide) (by decide) ?_
  intro v54 T54 h54 K54 Kp54 Q54
  obtain ⟨rfl, -⟩ := Q54
  have EX := EX.keep Kp54
  have A54 := own_here K54
  show own_Go p.tables e below _ T54 (mkF m 5 #[.val (.ref x), .val (.int ec), .unset] [(.int (own_tab.getD ec.toNatClampNeg 0))])
  refine own_istoreN A54 hx (pc' := 6) #[.val (.ref x), .val (.int ec), .val (.int (own_tab.getD ec.toNatClampNeg 0))] (hb hby d_jdk_116_method_26_5) rfl rfl ?_
  refine own_iloadN A54 hx (pc' := 7) (hb hby d_jdk_116_method_26_6) rfl rfl ?_
  refine own_sipush A54 hx (pc' := 10) (hb hby d_jdk_116_method_26_7) (z := (28672 : Int32)) (by decide) rfl ?_
  refine own_iand A54 hx (pc' := 11) (hb hby d_jdk_116_method_26_10) (z := ((own_tab.getD ec.toNatClampNeg 0) &&& (28672 : Int32))) rfl rfl ?_
  refine own_sipush A54 hx (pc' := 14) (hb hby d_jdk_116_method_26_11) (z := (16384 : Int32)) (by decide) rfl ?_
  refine own_icmp_ne A54 hx 21 17 (hb hby d_jdk_116_method_26_14) (by decide) (by decide) rfl (fun hc14 => ?_) (fun hc14 => ?_)
  · refine own_iconst A54 hx (pc' := 22) (hb hby d_jdk_116_method_26_21) (z := (0 : Int32)) (by decide) rfl ?_
    exact own_retN K54 hx hlk hret (by simp) (hb hby d_jdk_116_method_26_22) (by decide) (by decide) (by show some (Value.int (nar .boolean 0)) = _; rw [if_neg (fun q => hc14 ((own_wsT hec).mpr q))]; rfl)
  · refine own_iconst A54 hx (pc' := 18) (hb hby d_jdk_116_method_26_17) (z := (1 : Int32)) (by decide) rfl ?_
    refine own_goto A54 hx 22 (hb hby d_jdk_116_method_26_18) (by decide) (by decide) ?_
    exact own_retN K54 hx hlk hret (by simp) (hb hby d_jdk_116_method_26_22) (by decide) (by decide) (by show some (Value.int (nar .boolean 1)) = _; rw [if_pos ((own_wsT hec).mp hc14)]; rfl)
theorem d_jdk_43_method_44_0 : decode jdk_43_method_44_code 0 = .ok (.aload_n 0, 1) := by decide +kernel
theorem d_jdk_43_method_44_1 : decode jdk_43_method_44_code 1 = .ok (.iload_n 1, 1) := by decide +kernel
theorem d_jdk_43_method_44_2 : decode jdk_43_method_44_code 2 = .ok (.baload, 1) := by decide +kernel
theorem d_jdk_43_method_44_3 : decode jdk_43_method_44_code 3 = .ok (.sipush 255, 3) := by decide +kernel
theorem d_jdk_43_method_44_6 : decode jdk_43_method_44_code 6 = .ok (.iand, 1) := by decide +kernel
theorem d_jdk_43_method_44_7 : decode jdk_43_method_44_code 7 = .ok (.i2c, 1) := by decide +kernel
theorem d_jdk_43_method_44_8 : decode jdk_43_method_44_code 8 = .ok (.ireturn, 1) := by decide +kernel
theorem ef_rl_gch (m : MethodId) (q_0 : Addr) (q_1 : Int32)  : entryFrame m #[(.ref q_0), (.int q_1)] 2 = mkF m 0 #[.val (.ref q_0), .val (.int q_1)] [] := by  first | (simp [entryFrame, mkF, argsToLocals, Value.category]; done) | rfl
set_option maxRecDepth 65536 in
set_option maxHeartbeats 40000000 in
theorem rl_gch (l : Launch) (Z : State) (a0 : Array Value) (hw : ∀ d ∈ tables_1, d.before a0 Z = true) (more : List Jvm.Cond) (h0 : Heap) (b : Addr) (cs : List Int32) (kb : ClassId) (i : Nat) (V : Arv Z h0 b kb .byte (Int32.ofNat cs.length) (cs.map (fun c => Value.int (StrChars.lo8 c))) (.int 0)) (hl : cs.length ≤ 4000) (hlat : ∀ c ∈ cs, ¬ (255 : Int32) < c) (hbc : ∀ c ∈ cs, ¬ c < 0 ∧ ¬ (65535 : Int32) < c) (hi : i < cs.length) :
    own_Met true false consts_1 l Z a0 (⟨"java/lang/StringLatin1", "getChar", "([BI)C"⟩ : MethodName) jdk_43_method_44_code 2 (some .char) more ({ frames := 0, cells := 0, slots := 0, locals := 0 } : Room) #[(.ref b), (.int (Int32.ofNat i))] h0 [] (fun v h => v = some (.int (cs.getD i 0)) ∧ h = h0) := by
  refine own_enter (own := "java/lang/StringLatin1") rfl (plainFor_of_name pn_0) ?_
  intro p e s m below meth c T hx hby hml hret hlk hnm K
  rw [ef_rl_gch m b (Int32.ofNat i)]
  have A := own_here K
  refine own_aloadN A hx (pc' := 1) (hb hby d_jdk_43_method_44_0) rfl rfl rfl ?_
  refine own_iloadN A hx (pc' := 2) (hb hby d_jdk_43_method_44_1) rfl rfl ?_
  refine own_ldB K hx V (own_natlt (by omega) hi) (by rw [own_natcl (by omega)]; exact StrChars.Road.low_at _ cs i hi) (hb hby d_jdk_43_method_44_2) (pc' := 3) rfl ?_
  refine own_sipush A hx (pc' := 6) (hb hby d_jdk_43_method_44_3) (z := (255 : Int32)) (by decide) rfl ?_
  refine own_iand A hx (pc' := 7) (hb hby d_jdk_43_method_44_6) (z := ((StrChars.lo8 (cs.getD i 0)) &&& (255 : Int32))) rfl rfl ?_
  refine own_i2c A hx (pc' := 8) (hb hby d_jdk_43_method_44_7) (z := (((StrChars.lo8 (cs.getD i 0)) &&& (255 : Int32)).toUInt32.toUInt16.toUInt32.toInt32)) rfl rfl ?_
  exact own_retN K hx hlk hret (by simp) (hb hby d_jdk_43_method_44_8) (by decide) (by decide) ⟨by show some (Value.int (nar .char _)) = _; rw [show (StrChars.lo8 (cs.getD i 0) &&& (255 : Int32)).toUInt32.toUInt16.toUInt32.toInt32 = cs.getD i 0 from StrChars.chr8_lo8 (hbc _ (own_getD' hi)).1 (hlat _ (own_getD' hi)), own_narC (hbc _ (own_getD' hi)).1 (hbc _ (own_getD' hi)).2], rfl⟩
theorem d_jdk_43_method_37_0 : decode jdk_43_method_37_code 0 = .ok (.aload_n 0, 1) := by decide +kernel
theorem d_jdk_43_method_37_1 : decode jdk_43_method_37_code 1 = .ok (.arraylength, 1) := by decide +kernel
theorem d_jdk_43_method_37_2 : decode jdk_43_method_37_code 2 = .ok (.istore_n 1, 1) := by decide +kernel
theorem d_jdk_43_method_37_3 : decode jdk_43_method_37_code 3 = .ok (.iconst 0, 1) := by decide +kernel
theorem d_jdk_43_method_37_4 : decode jdk_43_method_37_code 4 = .ok (.istore_n 2, 1) := by decide +kernel
theorem d_jdk_43_method_37_5 : decode jdk_43_method_37_code 5 = .ok (.iload_n 2, 1) := by decide +kernel
theorem d_jdk_43_method_37_6 : decode jdk_43_method_37_code 6 = .ok (.iload_n 1, 1) := by decide +kernel
theorem d_jdk_43_method_37_7 : decode jdk_43_method_37_code 7 = .ok (.if_icmp .ge 40, 3) := by decide +kernel
theorem d_jdk_43_method_37_47 : decode jdk_43_method_37_code 47 = .ok (.iload_n 2, 1) := by decide +kernel
theorem d_jdk_43_method_37_48 : decode jdk_43_method_37_code 48 = .ok (.ireturn, 1) := by decide +kernel
theorem d_jdk_43_method_37_10 : decode jdk_43_method_37_code 10 = .ok (.aload_n 0, 1) := by decide +kernel
theorem d_jdk_43_method_37_11 : decode jdk_43_method_37_code 11 = .ok (.iload_n 2, 1) := by decide +kernel
theorem pd_17 : parseMethodDescriptor "([BI)C" = some ⟨[(.array .byte), .int], some .char⟩ := by decide +kernel
theorem d_jdk_43_method_37_12 : decode jdk_43_method_37_code 12 = .ok (.invokestatic 50, 3) := by decide +kernel
theorem d_jdk_43_method_37_15 : decode jdk_43_method_37_code 15 = .ok (.istore_n 3, 1) := by decide +kernel
theorem d_jdk_43_method_37_16 : decode jdk_43_method_37_code 16 = .ok (.iload_n 3, 1) := by decide +kernel
theorem d_jdk_43_method_37_17 : decode jdk_43_method_37_code 17 = .ok (.bipush 32, 2) := by decide +kernel
theorem d_jdk_43_method_37_19 : decode jdk_43_method_37_code 19 = .ok (.if_icmp .eq 22, 3) := by decide +kernel
theorem d_jdk_43_method_37_41 : decode jdk_43_method_37_code 41 = .ok (.iinc 2 1, 3) := by decide +kernel
theorem d_jdk_43_method_37_44 : decode jdk_43_method_37_code 44 = .ok (.goto (-39), 3) := by decide +kernel
theorem d_jdk_43_method_37_22 : decode jdk_43_method_37_code 22 = .ok (.iload_n 3, 1) := by decide +kernel
theorem d_jdk_43_method_37_23 : decode jdk_43_method_37_code 23 = .ok (.bipush 9, 2) := by decide +kernel
theorem d_jdk_43_method_37_25 : decode jdk_43_method_37_code 25 = .ok (.if_icmp .eq 16, 3) := by decide +kernel
theorem d_jdk_43_method_37_28 : decode jdk_43_method_37_code 28 = .ok (.getstatic 66, 3) := by decide +kernel
theorem d_jdk_43_method_37_31 : decode jdk_43_method_37_code 31 = .ok (.iload_n 3, 1) := by decide +kernel
theorem d_jdk_43_method_37_32 : decode jdk_43_method_37_code 32 = .ok (.invokevirtual 211, 3) := by decide +kernel
theorem d_jdk_43_method_37_35 : decode jdk_43_method_37_code 35 = .ok (.ifCond .ne 6, 3) := by decide +kernel
theorem d_jdk_43_method_37_38 : decode jdk_43_method_37_code 38 = .ok (.goto 9, 3) := by decide +kernel
theorem ef_rl_inw (m : MethodId) (q_0 : Addr)  : entryFrame m #[(.ref q_0)] 4 = mkF m 0 #[.val (.ref q_0), .unset, .unset, .unset] [] := by  first | (simp [entryFrame, mkF, argsToLocals, Value.category]; done) | rfl
set_option maxRecDepth 65536 in
set_option maxHeartbeats 40000000 in
theorem rl_inw (l : Launch) (Z : State) (a0 : Array Value) (hw : ∀ d ∈ tables_1, d.before a0 Z = true) (more : List Jvm.Cond) (h0 : Heap) (b : Addr) (cs : List Int32) (kb : ClassId) (aA : Addr) (kA : ClassId) (SA : Sta Z Z.heap "java/lang/CharacterDataLatin1" "A" "[I" (.ref aA)) (TA : Arv Z Z.heap aA kA .int (Int32.ofNat 256) (own_tab.map Value.int) (.int 0)) (aI : Addr) (SI : Sta Z Z.heap "java/lang/CharacterDataLatin1" "instance" "Ljava/lang/CharacterDataLatin1;" (.ref aI)) (XI : Exa Z Z.heap aI "java/lang/CharacterDataLatin1") (V : Arv Z h0 b kb .byte (Int32.ofNat cs.length) (cs.map (fun c => Value.int (StrChars.lo8 c))) (.int 0)) (hl : cs.length ≤ 4000) (hlat : ∀ c ∈ cs, ¬ (255 : Int32) < c) (hbc : ∀ c ∈ cs, ¬ c < 0 ∧ ¬ (65535 : Int32) < c) :
    own_Met true false consts_1 l Z a0 (⟨"java/lang/StringLatin1", "indexOfNonWhitespace", "([B)I"⟩ : MethodName) jdk_43_method_37_code 4 (some .int) more ({ frames := 2, cells := 0, slots := 0, locals := 29 } : Room) #[(.ref b)] h0 [] (fun v h => ∃ q, v = some (.int (Int32.ofNat q)) ∧ q ≤ cs.length ∧ (∀ j, j < q → own_ws (cs.getD j 0)) ∧ (q < cs.length → ¬ own_ws (cs.getD q 0))) := by
  refine own_enter (own := "java/lang/StringLatin1") rfl (plainFor_of_name pn_0) ?_
  intro p e s m below meth c T hx hby hml hret hlk hnm K
  rw [ef_rl_inw m b]
  have A := own_here K
  refine own_aloadN A hx (pc' := 1) (hb hby d_jdk_43_method_37_0) rfl rfl rfl ?_
  refine own_len K hx V (hb hby d_jdk_43_method_37_1) (pc' := 2) rfl ?_
  refine own_istoreN A hx (pc' := 3) #[.val (.ref b), .val (.int (Int32.ofNat cs.length)), .unset, .unset] (hb hby d_jdk_43_method_37_2) rfl rfl ?_
  refine own_iconst A hx (pc' := 4) (hb hby d_jdk_43_method_37_3) (z := (0 : Int32)) (by decide) rfl ?_
  refine own_istoreN A hx (pc' := 5) #[.val (.ref b), .val (.int (Int32.ofNat cs.length)), .val (.int (0 : Int32)), .unset] (hb hby d_jdk_43_method_37_4) rfl rfl ?_
  have loop : ∀ (n k : Nat) (s3 : Slot) (Tl55 : State) (hl55 : Heap), k + n = cs.length → (s3 = .unset ∨ ∃ z, s3 = .val (.int z)) → own_S true false consts_1 p l e ({ frames := 2, cells := 0, slots := 0, locals := 29 } : Room) s m #[(.ref b)] below meth c Z a0 "java/lang/StringLatin1" h0 [] Tl55 hl55 [] 0 0 → Arv Z hl55 b kb .byte (Int32.ofNat cs.length) (cs.map (fun c => Value.int (StrChars.lo8 c))) (.int 0) → (∀ j, j < k → own_ws (cs.getD j 0)) → own_Go p.tables e below (own_Post true consts_1 Z ({ frames := 2, cells := 0, slots := 0, locals := 29 } : Room) h0 [] (fun v h => ∃ q, v = some (.int (Int32.ofNat q)) ∧ q ≤ cs.length ∧ (∀ j, j < q → own_ws (cs.getD j 0)) ∧ (q < cs.length → ¬ own_ws (cs.getD q 0))) s) Tl55 (mkF m 5 #[.val (.ref b), .val (.int (Int32.ofNat cs.length)), .val (.int (Int32.ofNat k)), s3] []) := by
    intro n
    induction n with
    | zero =>
      intro k s3 Tl55 hl55 hk hs_s3 Kl55 V hpre
      have Al55 := own_here Kl55
      obtain rfl : k = cs.length := by omega
      refine own_iloadN Al55 hx (pc' := 6) (hb hby d_jdk_43_method_37_5) rfl rfl ?_
      refine own_iloadN Al55 hx (pc' := 7) (hb hby d_jdk_43_method_37_6) rfl rfl ?_
      refine own_icmp_ge Al55 hx 47 10 (hb hby d_jdk_43_method_37_7) (by decide) (by decide) rfl (fun hc7 => ?_) (fun hc7 => ?_)
      rotate_left
      · exact absurd hc7 (fun q => Int32.lt_irrefl q)
      refine own_iloadN Al55 hx (pc' := 48) (hb hby d_jdk_43_method_37_47) rfl rfl ?_
      exact own_retI Kl55 hx hlk hret (hb hby d_jdk_43_method_37_48) (by decide) (by decide) ⟨_, rfl, Nat.le_refl _, hpre, fun q => absurd q (Nat.lt_irrefl _)⟩
    | succ n ih =>
      intro k s3 Tl55 hl55 hk hs_s3 Kl55 V hpre
      have Al55 := own_here Kl55
      have hkl : k < cs.length := by omega
      refine own_iloadN Al55 hx (pc' := 6) (hb hby d_jdk_43_method_37_5) rfl rfl ?_
      refine own_iloadN Al55 hx (pc' := 7) (hb hby d_jdk_43_method_37_6) rfl rfl ?_
      refine own_icmp_ge Al55 hx 47 10 (hb hby d_jdk_43_method_37_7) (by decide) (by decide) rfl (fun hc7 => ?_) (fun hc7 => ?_)
      · exact absurd (own_natlt (by omega) hkl).2 hc7
      refine own_aloadN Al55 hx (pc' := 11) (hb hby d_jdk_43_method_37_10) rfl rfl rfl ?_
      refine own_iloadN Al55 hx (pc' := 12) (hb hby d_jdk_43_method_37_11) rfl rfl ?_
      refine own_callS Kl55 hx (by rw [hml]; rfl) (hw _ (List.mem_of_getElem? (i := 183) rfl)) (hw _ (List.mem_of_getElem? (i := 184) rfl)) (hw _ (List.mem_of_getElem? (i := 75) rfl)) (hw _ (List.mem_of_getElem? (i := 185) rfl)) (by decide) (rl_gch l Z a0 hw [] hl55 b cs kb k V hl hlat hbc (by omega)) (fun _ q => nomatch q) (argsL := [(.ref b), (.int (Int32.ofNat k))]) (rest := []) (lenOf pd_17 rfl) rfl 0 (Nat.le_of_eq rfl) (hb hby d_jdk_43_method_37_12) (pc' := 15) rfl (by decide) (by decide) (by decide) (by decide) ?_
      intro v56 T56 h56 K56 Kp56 Q56
      obtain ⟨rfl, -⟩ := Q56
      have V := V.keep Kp56 nin0
      have A56 := own_here K56
      show own_Go p.tables e below _ T56 (mkF m 15 #[.val (.ref b), .val (.int (Int32.ofNat cs.length)), .val (.int (Int32.ofNat k)), s3] [(.int (cs.getD k 0))])
      refine own_istoreN A56 hx (pc' := 16) #[.val (.ref b), .val (.int (Int32.ofNat cs.length)), .val (.int (Int32.ofNat k)), .val (.int (cs.getD k 0))] (hb hby d_jdk_43_method_37_15) (by rcases hs_s3 with rfl | ⟨_, rfl⟩ <;> rfl) rfl ?_
      refine own_iloadN A56 hx (pc' := 17) (hb hby d_jdk_43_method_37_16) rfl rfl ?_
      refine own_bipush A56 hx (pc' := 19) (hb hby d_jdk_43_method_37_17) (z := (32 : Int32)) (by decide) rfl ?_
      refine own_icmp_eq A56 hx 41 22 (hb hby d_jdk_43_method_37_19) (by decide) (by decide) rfl (fun hc19 => ?_) (fun hc19 => ?_)
      · refine own_iinc A56 hx (pc' := 44) #[.val (.ref b), .val (.int (Int32.ofNat cs.length)), .val (.int (Int32.ofNat (k + 1))), .val (.int (cs.getD k 0))] (hb hby d_jdk_43_method_37_41) rfl (by rw [own_natinc]; rfl) rfl ?_
        refine own_goto A56 hx 5 (hb hby d_jdk_43_method_37_44) (by decide) (by decide) ?_
        exact ih (k + 1) _ T56 h56 (by omega) (Or.inr ⟨_, rfl⟩) K56 V (fun j hj => by rcases Nat.lt_succ_iff_lt_or_eq.mp hj with q | rfl; exact hpre j q; exact (by rw [hc19]; decide))
      · refine own_iloadN A56 hx (pc' := 23) (hb hby d_jdk_43_method_37_22) rfl rfl ?_
        refine own_bipush A56 hx (pc' := 25) (hb hby d_jdk_43_method_37_23) (z := (9 : Int32)) (by decide) rfl ?_
        refine own_icmp_eq A56 hx 41 28 (hb hby d_jdk_43_method_37_25) (by decide) (by decide) rfl (fun hc25 => ?_) (fun hc25 => ?_)
        · refine own_iinc A56 hx (pc' := 44) #[.val (.ref b), .val (.int (Int32.ofNat cs.length)), .val (.int (Int32.ofNat (k + 1))), .val (.int (cs.getD k 0))] (hb hby d_jdk_43_method_37_41) rfl (by rw [own_natinc]; rfl) rfl ?_
          refine own_goto A56 hx 5 (hb hby d_jdk_43_method_37_44) (by decide) (by decide) ?_
          exact ih (k + 1) _ T56 h56 (by omega) (Or.inr ⟨_, rfl⟩) K56 V (fun j hj => by rcases Nat.lt_succ_iff_lt_or_eq.mp hj with q | rfl; exact hpre j q; exact (by rw [hc25]; decide))
        · refine own_getS K56 hx (host := "") (Or.inl (hw _ (List.mem_of_getElem? (i := 186) rfl))) Via.refl SI (hb hby d_jdk_43_method_37_28) (pc' := 31) rfl ?_
          intro T57 K57
          have A57 := own_here K57
          refine own_iloadN A57 hx (pc' := 32) (hb hby d_jdk_43_method_37_31) rfl rfl ?_
          refine own_callV K57 hx (by rw [hml]; rfl) (hw _ (List.mem_of_getElem? (i := 187) rfl)) (hw _ (List.mem_of_getElem? (i := 188) rfl)) (fun U hU => notFace_of_selects (args := #[]) (mvT hU (hw _ (List.mem_of_getElem? (i := 190) rfl)))) (hw _ (List.mem_of_getElem? (i := 190) rfl)) (hw _ (List.mem_of_getElem? (i := 189) rfl)) (hw _ (List.mem_of_getElem? (i := 152) rfl)) (hw _ (List.mem_of_getElem? (i := 191) rfl)) (by decide) (XI.ext (own_ext0 K57)) (rl_isw l Z a0 hw [] h56 aI (cs.getD k 0) aA kA SA TA aI SI XI (XI.ext (own_ext0 K57)) ⟨(hbc _ (own_getD' (by omega))).1, hlat _ (own_getD' (by omega))⟩) (fun _ q => nomatch q) (argsL := [(.int (cs.getD k 0))]) (rest := []) (lenOf pd_0 rfl) rfl 0 (Nat.le_of_eq rfl) (hb hby d_jdk_43_method_37_32) (pc' := 35) rfl (by decide) (by decide) (by decide) (by decide) ?_
          intro v58 T58 h58 K58 Kp58 Q58
          obtain rfl := Q58
          have V := V.keep Kp58 nin0
          have A58 := own_here K58
          show own_Go p.tables e below _ T58 (mkF m 35 #[.val (.ref b), .val (.int (Int32.ofNat cs.length)), .val (.int (Int32.ofNat k)), .val (.int (cs.getD k 0))] [(.int (if own_ws (cs.getD k 0) then (1 : Int32) else 0))])
          refine own_if_ne A58 hx 41 38 (hb hby d_jdk_43_method_37_35) (by decide) (by decide) rfl (fun hc35 => ?_) (fun hc35 => ?_)
          · refine own_iinc A58 hx (pc' := 44) #[.val (.ref b), .val (.int (Int32.ofNat cs.length)), .val (.int (Int32.ofNat (k + 1))), .val (.int (cs.getD k 0))] (hb hby d_jdk_43_method_37_41) rfl (by rw [own_natinc]; rfl) rfl ?_
            refine own_goto A58 hx 5 (hb hby d_jdk_43_method_37_44) (by decide) (by decide) ?_
            exact ih (k + 1) _ T58 h58 (by omega) (Or.inr ⟨_, rfl⟩) K58 V (fun j hj => by rcases Nat.lt_succ_iff_lt_or_eq.mp hj with q | rfl; exact hpre j q; exact (own_if1 hc35))
          · refine own_goto A58 hx 47 (hb hby d_jdk_43_method_37_38) (by decide) (by decide) ?_
            refine own_iloadN A58 hx (pc' := 48) (hb hby d_jdk_43_method_37_47) rfl rfl ?_
            exact own_retI K58 hx hlk hret (hb hby d_jdk_43_method_37_48) (by decide) (by decide) ⟨_, rfl, by omega, hpre, fun _ => own_if0 hc35⟩
  exact loop cs.length 0 _ T h0 (by omega) (Or.inl rfl) K V (fun j hj => absurd hj (Nat.not_lt_zero j))
theorem own_posI {k : Nat} (h : k + 1 < 2 ^ 31) : (0 : Int32) < Int32.ofNat (k + 1) := by
  rw [Int32.lt_iff_toInt_lt, Int32.toInt_ofNat_small h]
  have e0 : (0 : Int32).toInt = 0 := rfl
  omega
theorem d_jdk_43_method_38_0 : decode jdk_43_method_38_code 0 = .ok (.aload_n 0, 1) := by decide +kernel
theorem d_jdk_43_method_38_1 : decode jdk_43_method_38_code 1 = .ok (.arraylength, 1) := by decide +kernel
theorem d_jdk_43_method_38_2 : decode jdk_43_method_38_code 2 = .ok (.istore_n 1, 1) := by decide +kernel
theorem d_jdk_43_method_38_3 : decode jdk_43_method_38_code 3 = .ok (.iload_n 1, 1) := by decide +kernel
theorem d_jdk_43_method_38_4 : decode jdk_43_method_38_code 4 = .ok (.istore_n 2, 1) := by decide +kernel
theorem d_jdk_43_method_38_5 : decode jdk_43_method_38_code 5 = .ok (.iconst 0, 1) := by decide +kernel
theorem d_jdk_43_method_38_6 : decode jdk_43_method_38_code 6 = .ok (.iload_n 2, 1) := by decide +kernel
theorem d_jdk_43_method_38_7 : decode jdk_43_method_38_code 7 = .ok (.if_icmp .ge 42, 3) := by decide +kernel
theorem d_jdk_43_method_38_49 : decode jdk_43_method_38_code 49 = .ok (.iload_n 2, 1) := by decide +kernel
theorem d_jdk_43_method_38_50 : decode jdk_43_method_38_code 50 = .ok (.ireturn, 1) := by decide +kernel
theorem d_jdk_43_method_38_10 : decode jdk_43_method_38_code 10 = .ok (.aload_n 0, 1) := by decide +kernel
theorem d_jdk_43_method_38_11 : decode jdk_43_method_38_code 11 = .ok (.iload_n 2, 1) := by decide +kernel
theorem d_jdk_43_method_38_12 : decode jdk_43_method_38_code 12 = .ok (.iconst 1, 1) := by decide +kernel
theorem d_jdk_43_method_38_13 : decode jdk_43_method_38_code 13 = .ok (.isub, 1) := by decide +kernel
theorem d_jdk_43_method_38_14 : decode jdk_43_method_38_code 14 = .ok (.invokestatic 50, 3) := by decide +kernel
theorem d_jdk_43_method_38_17 : decode jdk_43_method_38_code 17 = .ok (.istore_n 3, 1) := by decide +kernel
theorem d_jdk_43_method_38_18 : decode jdk_43_method_38_code 18 = .ok (.iload_n 3, 1) := by decide +kernel
theorem d_jdk_43_method_38_19 : decode jdk_43_method_38_code 19 = .ok (.bipush 32, 2) := by decide +kernel
theorem d_jdk_43_method_38_21 : decode jdk_43_method_38_code 21 = .ok (.if_icmp .eq 22, 3) := by decide +kernel
theorem d_jdk_43_method_38_43 : decode jdk_43_method_38_code 43 = .ok (.iinc 2 (-1), 3) := by decide +kernel
theorem d_jdk_43_method_38_46 : decode jdk_43_method_38_code 46 = .ok (.goto (-41), 3) := by decide +kernel
theorem d_jdk_43_method_38_24 : decode jdk_43_method_38_code 24 = .ok (.iload_n 3, 1) := by decide +kernel
theorem d_jdk_43_method_38_25 : decode jdk_43_method_38_code 25 = .ok (.bipush 9, 2) := by decide +kernel
theorem d_jdk_43_method_38_27 : decode jdk_43_method_38_code 27 = .ok (.if_icmp .eq 16, 3) := by decide +kernel
theorem d_jdk_43_method_38_30 : decode jdk_43_method_38_code 30 = .ok (.getstatic 66, 3) := by decide +kernel
theorem d_jdk_43_method_38_33 : decode jdk_43_method_38_code 33 = .ok (.iload_n 3, 1) := by decide +kernel
theorem d_jdk_43_method_38_34 : decode jdk_43_method_38_code 34 = .ok (.invokevirtual 211, 3) := by decide +kernel
theorem d_jdk_43_method_38_37 : decode jdk_43_method_38_code 37 = .ok (.ifCond .ne 6, 3) := by decide +kernel
theorem d_jdk_43_method_38_40 : decode jdk_43_method_38_code 40 = .ok (.goto 9, 3) := by decide +kernel
theorem ef_rl_lnw (m : MethodId) (q_0 : Addr)  : entryFrame m #[(.ref q_0)] 4 = mkF m 0 #[.val (.ref q_0), .unset, .unset, .unset] [] := by  first | (simp [entryFrame, mkF, argsToLocals, Value.category]; done) | rfl
set_option maxRecDepth 65536 in
set_option maxHeartbeats 40000000 in
theorem rl_lnw (l : Launch) (Z : State) (a0 : Array Value) (hw : ∀ d ∈ tables_1, d.before a0 Z = true) (more : List Jvm.Cond) (h0 : Heap) (b : Addr) (cs : List Int32) (kb : ClassId) (aA : Addr) (kA : ClassId) (SA : Sta Z Z.heap "java/lang/CharacterDataLatin1" "A" "[I" (.ref aA)) (TA : Arv Z Z.heap aA kA .int (Int32.ofNat 256) (own_tab.map Value.int) (.int 0)) (aI : Addr) (SI : Sta Z Z.heap "java/lang/CharacterDataLatin1" "instance" "Ljava/lang/CharacterDataLatin1;" (.ref aI)) (XI : Exa Z Z.heap aI "java/lang/CharacterDataLatin1") (V : Arv Z h0 b kb .byte (Int32.ofNat cs.length) (cs.map (fun c => Value.int (StrChars.lo8 c))) (.int 0)) (hl : cs.length ≤ 4000) (hlat : ∀ c ∈ cs, ¬ (255 : Int32) < c) (hbc : ∀ c ∈ cs, ¬ c < 0 ∧ ¬ (65535 : Int32) < c) :
    own_Met true false consts_1 l Z a0 (⟨"java/lang/StringLatin1", "lastIndexOfNonWhitespace", "([B)I"⟩ : MethodName) jdk_43_method_38_code 4 (some .int) more ({ frames := 2, cells := 0, slots := 0, locals := 29 } : Room) #[(.ref b)] h0 [] (fun v h => ∃ r, v = some (.int (Int32.ofNat r)) ∧ r ≤ cs.length ∧ (∀ j, r ≤ j → j < cs.length → own_ws (cs.getD j 0)) ∧ (r = 0 ∨ ¬ own_ws (cs.getD (r - 1) 0))) := by
  refine own_enter (own := "java/lang/StringLatin1") rfl (plainFor_of_name pn_0) ?_
  intro p e s m below meth c T hx hby hml hret hlk hnm K
  rw [ef_rl_lnw m b]
  have A := own_here K
  refine own_aloadN A hx (pc' := 1) (hb hby d_jdk_43_method_38_0) rfl rfl rfl ?_
  refine own_len K hx V (hb hby d_jdk_43_method_38_1) (pc' := 2) rfl ?_
  refine own_istoreN A hx (pc' := 3) #[.val (.ref b), .val (.int (Int32.ofNat cs.length)), .unset, .unset] (hb hby d_jdk_43_method_38_2) rfl rfl ?_
  refine own_iloadN A hx (pc' := 4) (hb hby d_jdk_43_method_38_3) rfl rfl ?_
  refine own_istoreN A hx (pc' := 5) #[.val (.ref b), .val (.int (Int32.ofNat cs.length)), .val (.int (Int32.ofNat cs.length)), .unset] (hb hby d_jdk_43_method_38_4) rfl rfl ?_
  have loop : ∀ (m' : Nat) (s3 : Slot) (Tl59 : State) (hl59 : Heap), m' ≤ cs.length → (s3 = .unset ∨ ∃ z, s3 = .val (.int z)) → own_S true false consts_1 p l e ({ frames := 2, cells := 0, slots := 0, locals := 29 } : Room) s m #[(.ref b)] below meth c Z a0 "java/lang/StringLatin1" h0 [] Tl59 hl59 [] 0 0 → Arv Z hl59 b kb .byte (Int32.ofNat cs.length) (cs.map (fun c => Value.int (StrChars.lo8 c))) (.int 0) → (∀ j, m' ≤ j → j < cs.length → own_ws (cs.getD j 0)) → own_Go p.tables e below (own_Post true consts_1 Z ({ frames := 2, cells := 0, slots := 0, locals := 29 } : Room) h0 [] (fun v h => ∃ r, v = some (.int (Int32.ofNat r)) ∧ r ≤ cs.length ∧ (∀ j, r ≤ j → j < cs.length → own_ws (cs.getD j 0)) ∧ (r = 0 ∨ ¬ own_ws (cs.getD (r - 1) 0))) s) Tl59 (mkF m 5 #[.val (.ref b), .val (.int (Int32.ofNat cs.length)), .val (.int (Int32.ofNat m')), s3] []) := by
    intro m'
    induction m' with
    | zero =>
      intro s3 Tl59 hl59 hm hs_s3 Kl59 V hpre
      have Al59 := own_here Kl59
      refine own_iconst Al59 hx (pc' := 6) (hb hby d_jdk_43_method_38_5) (z := (0 : Int32)) (by decide) rfl ?_
      refine own_iloadN Al59 hx (pc' := 7) (hb hby d_jdk_43_method_38_6) rfl rfl ?_
      refine own_icmp_ge Al59 hx 49 10 (hb hby d_jdk_43_method_38_7) (by decide) (by decide) rfl (fun hc7 => ?_) (fun hc7 => ?_)
      rotate_left
      · exact absurd hc7 (by decide)
      refine own_iloadN Al59 hx (pc' := 50) (hb hby d_jdk_43_method_38_49) rfl rfl ?_
      exact own_retI Kl59 hx hlk hret (hb hby d_jdk_43_method_38_50) (by decide) (by decide) ⟨_, rfl, Nat.zero_le _, hpre, Or.inl rfl⟩
    | succ k ih =>
      intro s3 Tl59 hl59 hm hs_s3 Kl59 V hpre
      have Al59 := own_here Kl59
      refine own_iconst Al59 hx (pc' := 6) (hb hby d_jdk_43_method_38_5) (z := (0 : Int32)) (by decide) rfl ?_
      refine own_iloadN Al59 hx (pc' := 7) (hb hby d_jdk_43_method_38_6) rfl rfl ?_
      refine own_icmp_ge Al59 hx 49 10 (hb hby d_jdk_43_method_38_7) (by decide) (by decide) rfl (fun hc7 => ?_) (fun hc7 => ?_)
      · exact absurd (own_posI (by omega)) hc7
      refine own_aloadN Al59 hx (pc' := 11) (hb hby d_jdk_43_method_38_10) rfl rfl rfl ?_
      refine own_iloadN Al59 hx (pc' := 12) (hb hby d_jdk_43_method_38_11) rfl rfl ?_
      refine own_iconst Al59 hx (pc' := 13) (hb hby d_jdk_43_method_38_12) (z := (1 : Int32)) (by decide) rfl ?_
      refine own_isub Al59 hx (pc' := 14) (hb hby d_jdk_43_method_38_13) (z := ((Int32.ofNat (k + 1)) - (1 : Int32))) rfl rfl ?_
      rw [own_natsub1 k]
      refine own_callS Kl59 hx (by rw [hml]; rfl) (hw _ (List.mem_of_getElem? (i := 183) rfl)) (hw _ (List.mem_of_getElem? (i := 184) rfl)) (hw _ (List.mem_of_getElem? (i := 75) rfl)) (hw _ (List.mem_of_getElem? (i := 185) rfl)) (by decide) (rl_gch l Z a0 hw [] hl59 b cs kb k V hl hlat hbc (by omega)) (fun _ q => nomatch q) (argsL := [(.ref b), (.int (Int32.ofNat k))]) (rest := []) (lenOf pd_17 rfl) rfl 0 (Nat.le_of_eq rfl) (hb hby d_jdk_43_method_38_14) (pc' := 17) rfl (by decide) (by decide) (by decide) (by decide) ?_
      intro v60 T60 h60 K60 Kp60 Q60
      obtain ⟨rfl, -⟩ := Q60
      have V := V.keep Kp60 nin0
      have A60 := own_here K60
      show own_Go p.tables e below _ T60 (mkF m 17 #[.val (.ref b), .val (.int (Int32.ofNat cs.length)), .val (.int (Int32.ofNat (k + 1))), s3] [(.int (cs.getD k 0))])
      refine own_istoreN A60 hx (pc' := 18) #[.val (.ref b), .val (.int (Int32.ofNat cs.length)), .val (.int (Int32.ofNat (k + 1))), .val (.int (cs.getD k 0))] (hb hby d_jdk_43_method_38_17) (by rcases hs_s3 with rfl | ⟨_, rfl⟩ <;> rfl) rfl ?_
      refine own_iloadN A60 hx (pc' := 19) (hb hby d_jdk_43_method_38_18) rfl rfl ?_
      refine own_bipush A60 hx (pc' := 21) (hb hby d_jdk_43_method_38_19) (z := (32 : Int32)) (by decide) rfl ?_
      refine own_icmp_eq A60 hx 43 24 (hb hby d_jdk_43_method_38_21) (by decide) (by decide) rfl (fun hc21 => ?_) (fun hc21 => ?_)
      · refine own_iinc A60 hx (pc' := 46) #[.val (.ref b), .val (.int (Int32.ofNat cs.length)), .val (.int (Int32.ofNat k)), .val (.int (cs.getD k 0))] (hb hby d_jdk_43_method_38_43) rfl (by rw [own_natdec]; rfl) rfl ?_
        refine own_goto A60 hx 5 (hb hby d_jdk_43_method_38_46) (by decide) (by decide) ?_
        exact ih _ T60 h60 (by omega) (Or.inr ⟨_, rfl⟩) K60 V (fun j h1 h2 => by rcases Nat.lt_or_eq_of_le h1 with q | rfl; exact hpre j q h2; exact (by rw [hc21]; decide))
      · refine own_iloadN A60 hx (pc' := 25) (hb hby d_jdk_43_method_38_24) rfl rfl ?_
        refine own_bipush A60 hx (pc' := 27) (hb hby d_jdk_43_method_38_25) (z := (9 : Int32)) (by decide) rfl ?_
        refine own_icmp_eq A60 hx 43 30 (hb hby d_jdk_43_method_38_27) (by decide) (by decide) rfl (fun hc27 => ?_) (fun hc27 => ?_)
        · refine own_iinc A60 hx (pc' := 46) #[.val (.ref b), .val (.int (Int32.ofNat cs.length)), .val (.int (Int32.ofNat k)), .val (.int (cs.getD k 0))] (hb hby d_jdk_43_method_38_43) rfl (by rw [own_natdec]; rfl) rfl ?_
          refine own_goto A60 hx 5 (hb hby d_jdk_43_method_38_46) (by decide) (by decide) ?_
          exact ih _ T60 h60 (by omega) (Or.inr ⟨_, rfl⟩) K60 V (fun j h1 h2 => by rcases Nat.lt_or_eq_of_le h1 with q | rfl; exact hpre j q h2; exact (by rw [hc27]; decide))
        · refine own_getS K60 hx (host := "") (Or.inl (hw _ (List.mem_of_getElem? (i := 186) rfl))) Via.refl SI (hb hby d_jdk_43_method_38_30) (pc' := 33) rfl ?_
          intro T61 K61
          have A61 := own_here K61
          refine own_iloadN A61 hx (pc' := 34) (hb hby d_jdk_43_method_38_33) rfl rfl ?_
          refine own_callV K61 hx (by rw [hml]; rfl) (hw _ (List.mem_of_getElem? (i := 187) rfl)) (hw _ (List.mem_of_getElem? (i := 188) rfl)) (fun U hU => notFace_of_selects (args := #[]) (mvT hU (hw _ (List.mem_of_getElem? (i := 190) rfl)))) (hw _ (List.mem_of_getElem? (i := 190) rfl)) (hw _ (List.mem_of_getElem? (i := 189) rfl)) (hw _ (List.mem_of_getElem? (i := 152) rfl)) (hw _ (List.mem_of_getElem? (i := 191) rfl)) (by decide) (XI.ext (own_ext0 K61)) (rl_isw l Z a0 hw [] h60 aI (cs.getD k 0) aA kA SA TA aI SI XI (XI.ext (own_ext0 K61)) ⟨(hbc _ (own_getD' (by omega))).1, hlat _ (own_getD' (by omega))⟩) (fun _ q => nomatch q) (argsL := [(.int (cs.getD k 0))]) (rest := []) (lenOf pd_0 rfl) rfl 0 (Nat.le_of_eq rfl) (hb hby d_jdk_43_method_38_34) (pc' := 37) rfl (by decide) (by decide) (by decide) (by decide) ?_
          intro v62 T62 h62 K62 Kp62 Q62
          obtain rfl := Q62
          have V := V.keep Kp62 nin0
          have A62 := own_here K62
          show own_Go p.tables e below _ T62 (mkF m 37 #[.val (.ref b), .val (.int (Int32.ofNat cs.length)), .val (.int (Int32.ofNat (k + 1))), .val (.int (cs.getD k 0))] [(.int (if own_ws (cs.getD k 0) then (1 : Int32) else 0))])
          refine own_if_ne A62 hx 43 40 (hb hby d_jdk_43_method_38_37) (by decide) (by decide) rfl (fun hc37 => ?_) (fun hc37 => ?_)
          · refine own_iinc A62 hx (pc' := 46) #[.val (.ref b), .val (.int (Int32.ofNat cs.length)), .val (.int (Int32.ofNat k)), .val (.int (cs.getD k 0))] (hb hby d_jdk_43_method_38_43) rfl (by rw [own_natdec]; rfl) rfl ?_
            refine own_goto A62 hx 5 (hb hby d_jdk_43_method_38_46) (by decide) (by decide) ?_
            exact ih _ T62 h62 (by omega) (Or.inr ⟨_, rfl⟩) K62 V (fun j h1 h2 => by rcases Nat.lt_or_eq_of_le h1 with q | rfl; exact hpre j q h2; exact (own_if1 hc37))
          · refine own_goto A62 hx 49 (hb hby d_jdk_43_method_38_40) (by decide) (by decide) ?_
            refine own_iloadN A62 hx (pc' := 50) (hb hby d_jdk_43_method_38_49) rfl rfl ?_
            exact own_retI K62 hx hlk hret (hb hby d_jdk_43_method_38_50) (by decide) (by decide) ⟨k + 1, rfl, hm, hpre, Or.inr (own_if0 hc37)⟩
  exact loop cs.length _ T h0 (Nat.le_refl _) (Or.inl rfl) K V (fun j h1 h2 => absurd h2 (Nat.not_lt.mpr h1))
theorem d_jdk_43_method_39_0 : decode jdk_43_method_39_code 0 = .ok (.aload_n 0, 1) := by decide +kernel
theorem pd_18 : parseMethodDescriptor "([B)I" = some ⟨[(.array .byte)], some .int⟩ := by decide +kernel
theorem d_jdk_43_method_39_1 : decode jdk_43_method_39_code 1 = .ok (.invokestatic 214, 3) := by decide +kernel
theorem d_jdk_43_method_39_4 : decode jdk_43_method_39_code 4 = .ok (.istore_n 1, 1) := by decide +kernel
theorem d_jdk_43_method_39_5 : decode jdk_43_method_39_code 5 = .ok (.iload_n 1, 1) := by decide +kernel
theorem d_jdk_43_method_39_6 : decode jdk_43_method_39_code 6 = .ok (.aload_n 0, 1) := by decide +kernel
theorem d_jdk_43_method_39_7 : decode jdk_43_method_39_code 7 = .ok (.arraylength, 1) := by decide +kernel
theorem d_jdk_43_method_39_8 : decode jdk_43_method_39_code 8 = .ok (.if_icmp .ne 6, 3) := by decide +kernel
theorem d_jdk_43_method_39_14 : decode jdk_43_method_39_code 14 = .ok (.aload_n 0, 1) := by decide +kernel
theorem d_jdk_43_method_39_15 : decode jdk_43_method_39_code 15 = .ok (.invokestatic 217, 3) := by decide +kernel
theorem d_jdk_43_method_39_18 : decode jdk_43_method_39_code 18 = .ok (.istore_n 2, 1) := by decide +kernel
theorem d_jdk_43_method_39_19 : decode jdk_43_method_39_code 19 = .ok (.iload_n 1, 1) := by decide +kernel
theorem d_jdk_43_method_39_20 : decode jdk_43_method_39_code 20 = .ok (.ifCond .gt 9, 3) := by decide +kernel
theorem d_jdk_43_method_39_29 : decode jdk_43_method_39_code 29 = .ok (.iconst 1, 1) := by decide +kernel
theorem d_jdk_43_method_39_30 : decode jdk_43_method_39_code 30 = .ok (.goto 4, 3) := by decide +kernel
theorem d_jdk_43_method_39_34 : decode jdk_43_method_39_code 34 = .ok (.istore_n 3, 1) := by decide +kernel
theorem d_jdk_43_method_39_35 : decode jdk_43_method_39_code 35 = .ok (.iload_n 3, 1) := by decide +kernel
theorem d_jdk_43_method_39_36 : decode jdk_43_method_39_code 36 = .ok (.ifCond .eq 14, 3) := by decide +kernel
theorem d_jdk_43_method_39_39 : decode jdk_43_method_39_code 39 = .ok (.aload_n 0, 1) := by decide +kernel
theorem d_jdk_43_method_39_40 : decode jdk_43_method_39_code 40 = .ok (.iload_n 1, 1) := by decide +kernel
theorem d_jdk_43_method_39_41 : decode jdk_43_method_39_code 41 = .ok (.iload_n 2, 1) := by decide +kernel
theorem d_jdk_43_method_39_42 : decode jdk_43_method_39_code 42 = .ok (.iload_n 1, 1) := by decide +kernel
theorem d_jdk_43_method_39_43 : decode jdk_43_method_39_code 43 = .ok (.isub, 1) := by decide +kernel
theorem d_jdk_43_method_39_44 : decode jdk_43_method_39_code 44 = .ok (.invokestatic 210, 3) := by decide +kernel
theorem d_jdk_43_method_39_47 : decode jdk_43_method_39_code 47 = .ok (.goto 4, 3) := by decide +kernel
theorem d_jdk_43_method_39_51 : decode jdk_43_method_39_code 51 = .ok (.areturn, 1) := by decide +kernel
theorem d_jdk_43_method_39_23 : decode jdk_43_method_39_code 23 = .ok (.iload_n 2, 1) := by decide +kernel
theorem d_jdk_43_method_39_24 : decode jdk_43_method_39_code 24 = .ok (.aload_n 0, 1) := by decide +kernel
theorem d_jdk_43_method_39_25 : decode jdk_43_method_39_code 25 = .ok (.arraylength, 1) := by decide +kernel
theorem d_jdk_43_method_39_26 : decode jdk_43_method_39_code 26 = .ok (.if_icmp .ge 7, 3) := by decide +kernel
theorem d_jdk_43_method_39_33 : decode jdk_43_method_39_code 33 = .ok (.iconst 0, 1) := by decide +kernel
theorem d_jdk_43_method_39_50 : decode jdk_43_method_39_code 50 = .ok (.aconst_null, 1) := by decide +kernel
theorem d_jdk_43_method_39_11 : decode jdk_43_method_39_code 11 = .ok (.ldc 151, 2) := by decide +kernel
theorem d_jdk_43_method_39_13 : decode jdk_43_method_39_code 13 = .ok (.areturn, 1) := by decide +kernel
theorem ef_rl_lst (m : MethodId) (q_0 : Addr)  : entryFrame m #[(.ref q_0)] 4 = mkF m 0 #[.val (.ref q_0), .unset, .unset, .unset] [] := by  first | (simp [entryFrame, mkF, argsToLocals, Value.category]; done) | rfl
set_option maxRecDepth 65536 in
set_option maxHeartbeats 40000000 in
theorem rl_lst (l : Launch) (Z : State) (a0 : Array Value) (hw : ∀ d ∈ tables_1, d.before a0 Z = true) (more : List Jvm.Cond) (h0 : Heap) (b : Addr) (cs : List Int32) (kb : ClassId) (aA : Addr) (kA : ClassId) (SA : Sta Z Z.heap "java/lang/CharacterDataLatin1" "A" "[I" (.ref aA)) (TA : Arv Z Z.heap aA kA .int (Int32.ofNat 256) (own_tab.map Value.int) (.int 0)) (aI : Addr) (SI : Sta Z Z.heap "java/lang/CharacterDataLatin1" "instance" "Ljava/lang/CharacterDataLatin1;" (.ref aI)) (XI : Exa Z Z.heap aI "java/lang/CharacterDataLatin1") (V : Arv Z h0 b kb .byte (Int32.ofNat cs.length) (cs.map (fun c => Value.int (StrChars.lo8 c))) (.int 0)) (hl : cs.length ≤ 4000) (hlat : ∀ c ∈ cs, ¬ (255 : Int32) < c) (hbc : ∀ c ∈ cs, ¬ c < 0 ∧ ¬ (65535 : Int32) < c) (hcap : cs.length ≤ 5) :
    own_Met true false consts_1 l Z a0 (⟨"java/lang/StringLatin1", "strip", "([B)Ljava/lang/String;"⟩ : MethodName) jdk_43_method_39_code 4 (some (.object "java/lang/String")) more ({ frames := 4, cells := 2, slots := 9, locals := 64 } : Room) #[(.ref b)] h0 [] (fun v h => ∃ us, own_trim cs us ∧ ((∃ a, v = some (.ref a) ∧ own_Str Z h a us) ∨ (v = some .null ∧ us = cs))) := by
  refine own_enter (own := "java/lang/StringLatin1") rfl (plainFor_of_name pn_0) ?_
  intro p e s m below meth c T hx hby hml hret hlk hnm K
  rw [ef_rl_lst m b]
  have A := own_here K
  refine own_aloadN A hx (pc' := 1) (hb hby d_jdk_43_method_39_0) rfl rfl rfl ?_
  refine own_callS K hx (by rw [hml]; rfl) (hw _ (List.mem_of_getElem? (i := 180) rfl)) (hw _ (List.mem_of_getElem? (i := 181) rfl)) (hw _ (List.mem_of_getElem? (i := 75) rfl)) (hw _ (List.mem_of_getElem? (i := 182) rfl)) (by decide) (rl_inw l Z a0 hw [] h0 b cs kb aA kA SA TA aI SI XI V hl hlat hbc) (fun _ q => nomatch q) (argsL := [(.ref b)]) (rest := []) (lenOf pd_18 rfl) rfl 0 (Nat.le_of_eq rfl) (hb hby d_jdk_43_method_39_1) (pc' := 4) rfl (by decide) (by decide) (by decide) (by decide) ?_
  intro v63 T63 h63 K63 Kp63 Q63
  obtain ⟨q, rfl, hq1, hq2, hq3⟩ := Q63
  have V := V.keep Kp63 nin0
  have A63 := own_here K63
  show own_Go p.tables e below _ T63 (mkF m 4 #[.val (.ref b), .unset, .unset, .unset] [(.int (Int32.ofNat q))])
  refine own_istoreN A63 hx (pc' := 5) #[.val (.ref b), .val (.int (Int32.ofNat q)), .unset, .unset] (hb hby d_jdk_43_method_39_4) rfl rfl ?_
  refine own_iloadN A63 hx (pc' := 6) (hb hby d_jdk_43_method_39_5) rfl rfl ?_
  refine own_aloadN A63 hx (pc' := 7) (hb hby d_jdk_43_method_39_6) rfl rfl rfl ?_
  refine own_len K63 hx V (hb hby d_jdk_43_method_39_7) (pc' := 8) rfl ?_
  refine own_icmp_ne A63 hx 14 11 (hb hby d_jdk_43_method_39_8) (by decide) (by decide) rfl (fun hc8 => ?_) (fun hc8 => ?_)
  · refine own_aloadN A63 hx (pc' := 15) (hb hby d_jdk_43_method_39_14) rfl rfl rfl ?_
    have hqn : q < cs.length := Nat.lt_of_le_of_ne hq1 (fun e => hc8 (by rw [e]))
    refine own_callS K63 hx (by rw [hml]; rfl) (hw _ (List.mem_of_getElem? (i := 198) rfl)) (hw _ (List.mem_of_getElem? (i := 199) rfl)) (hw _ (List.mem_of_getElem? (i := 75) rfl)) (hw _ (List.mem_of_getElem? (i := 200) rfl)) (by decide) (rl_lnw l Z a0 hw [] h63 b cs kb aA kA SA TA aI SI XI V hl hlat hbc) (fun _ q => nomatch q) (argsL := [(.ref b)]) (rest := []) (lenOf pd_18 rfl) rfl 0 (Nat.le_of_eq rfl) (hb hby d_jdk_43_method_39_15) (pc' := 18) rfl (by decide) (by decide) (by decide) (by decide) ?_
    intro v64 T64 h64 K64 Kp64 Q64
    obtain ⟨r, rfl, hr1, hr2, hr3⟩ := Q64
    have V := V.keep Kp64 nin0
    have A64 := own_here K64
    show own_Go p.tables e below _ T64 (mkF m 18 #[.val (.ref b), .val (.int (Int32.ofNat q)), .unset, .unset] [(.int (Int32.ofNat r))])
    have hqr : q < r := Nat.lt_of_not_le (fun e => hq3 hqn (hr2 q e hqn))
    have hr4 : ¬ own_ws (cs.getD (r - 1) 0) := hr3.resolve_left (by omega)
    have QR : own_qr cs q r := ⟨hq1, hq2, fun _ => ⟨hq3 hqn, hqr, hr1, hr2, hr4⟩⟩
    refine own_istoreN A64 hx (pc' := 19) #[.val (.ref b), .val (.int (Int32.ofNat q)), .val (.int (Int32.ofNat r)), .unset] (hb hby d_jdk_43_method_39_18) rfl rfl ?_
    refine own_iloadN A64 hx (pc' := 20) (hb hby d_jdk_43_method_39_19) rfl rfl ?_
    refine own_if_gt A64 hx 29 23 (hb hby d_jdk_43_method_39_20) (by decide) (by decide) rfl (fun hc20 => ?_) (fun hc20 => ?_)
    · refine own_iconst A64 hx (pc' := 30) (hb hby d_jdk_43_method_39_29) (z := (1 : Int32)) (by decide) rfl ?_
      refine own_goto A64 hx 34 (hb hby d_jdk_43_method_39_30) (by decide) (by decide) ?_
      refine own_istoreN A64 hx (pc' := 35) #[.val (.ref b), .val (.int (Int32.ofNat q)), .val (.int (Int32.ofNat r)), .val (.int (1 : Int32))] (hb hby d_jdk_43_method_39_34) rfl rfl ?_
      refine own_iloadN A64 hx (pc' := 36) (hb hby d_jdk_43_method_39_35) rfl rfl ?_
      refine own_if_eq A64 hx 50 39 (hb hby d_jdk_43_method_39_36) (by decide) (by decide) rfl (fun hc36 => ?_) (fun hc36 => ?_)
      · exact absurd hc36 (by decide)
      refine own_aloadN A64 hx (pc' := 40) (hb hby d_jdk_43_method_39_39) rfl rfl rfl ?_
      refine own_iloadN A64 hx (pc' := 41) (hb hby d_jdk_43_method_39_40) rfl rfl ?_
      refine own_iloadN A64 hx (pc' := 42) (hb hby d_jdk_43_method_39_41) rfl rfl ?_
      refine own_iloadN A64 hx (pc' := 43) (hb hby d_jdk_43_method_39_42) rfl rfl ?_
      refine own_isub A64 hx (pc' := 44) (hb hby d_jdk_43_method_39_43) (z := ((Int32.ofNat r) - (Int32.ofNat q))) rfl rfl ?_
      rw [own_natsub (by omega) (by omega)]
      refine own_callS K64 hx (by rw [hml]; rfl) (hw _ (List.mem_of_getElem? (i := 201) rfl)) (hw _ (List.mem_of_getElem? (i := 122) rfl)) (hw _ (List.mem_of_getElem? (i := 75) rfl)) (hw _ (List.mem_of_getElem? (i := 123) rfl)) (by decide) (rl_ns l Z a0 hw [] h64 b cs kb q (r - q) V hl hlat hbc (by omega) (by omega) (fun _ e => absurd hc20 (by rw [e.1]; decide))) (fun _ q => nomatch q) (argsL := [(.ref b), (.int (Int32.ofNat q)), (.int (Int32.ofNat (r - q)))]) (rest := []) (lenOf pd_10 rfl) rfl 0 (Nat.le_of_eq rfl) (hb hby d_jdk_43_method_39_44) (pc' := 47) rfl (by decide) (by decide) (by decide) (by decide) ?_
      intro v65 T65 h65 K65 Kp65 Q65
      obtain ⟨a65, rfl, S65⟩ := Q65
      have V := V.keep Kp65 nin0
      have A65 := own_here K65
      show own_Go p.tables e below _ T65 (mkF m 47 #[.val (.ref b), .val (.int (Int32.ofNat q)), .val (.int (Int32.ofNat r)), .val (.int (1 : Int32))] [(.ref a65)])
      refine own_goto A65 hx 51 (hb hby d_jdk_43_method_39_47) (by decide) (by decide) ?_
      exact own_retR K65 hx hlk hret rfl rfl (hb hby d_jdk_43_method_39_51) (by decide) (by decide) ⟨_, ⟨q, r, rfl, QR⟩, Or.inl ⟨_, rfl, S65⟩⟩
    · refine own_iloadN A64 hx (pc' := 24) (hb hby d_jdk_43_method_39_23) rfl rfl ?_
      refine own_aloadN A64 hx (pc' := 25) (hb hby d_jdk_43_method_39_24) rfl rfl rfl ?_
      refine own_len K64 hx V (hb hby d_jdk_43_method_39_25) (pc' := 26) rfl ?_
      refine own_icmp_ge A64 hx 33 29 (hb hby d_jdk_43_method_39_26) (by decide) (by decide) rfl (fun hc26 => ?_) (fun hc26 => ?_)
      · refine own_iconst A64 hx (pc' := 34) (hb hby d_jdk_43_method_39_33) (z := (0 : Int32)) (by decide) rfl ?_
        refine own_istoreN A64 hx (pc' := 35) #[.val (.ref b), .val (.int (Int32.ofNat q)), .val (.int (Int32.ofNat r)), .val (.int (0 : Int32))] (hb hby d_jdk_43_method_39_34) rfl rfl ?_
        refine own_iloadN A64 hx (pc' := 36) (hb hby d_jdk_43_method_39_35) rfl rfl ?_
        refine own_if_eq A64 hx 50 39 (hb hby d_jdk_43_method_39_36) (by decide) (by decide) rfl (fun hc36 => ?_) (fun hc36 => ?_)
        rotate_left
        · exact absurd hc36 (by decide)
        refine own_null A64 hx (pc' := 51) (hb hby d_jdk_43_method_39_50) rfl ?_
        exact own_retR K64 hx hlk hret rfl rfl (hb hby d_jdk_43_method_39_51) (by decide) (by decide) ⟨_, ⟨q, r, rfl, QR⟩, Or.inr ⟨rfl, by have e0 := own_z (by omega) hc20; have e1 := own_natnlt (by omega) (by omega) hc26; rw [e0, show r = cs.length by omega, List.drop_zero, Nat.sub_zero, List.take_length]⟩⟩
      · refine own_iconst A64 hx (pc' := 30) (hb hby d_jdk_43_method_39_29) (z := (1 : Int32)) (by decide) rfl ?_
        refine own_goto A64 hx 34 (hb hby d_jdk_43_method_39_30) (by decide) (by decide) ?_
        refine own_istoreN A64 hx (pc' := 35) #[.val (.ref b), .val (.int (Int32.ofNat q)), .val (.int (Int32.ofNat r)), .val (.int (1 : Int32))] (hb hby d_jdk_43_method_39_34) rfl rfl ?_
        refine own_iloadN A64 hx (pc' := 36) (hb hby d_jdk_43_method_39_35) rfl rfl ?_
        refine own_if_eq A64 hx 50 39 (hb hby d_jdk_43_method_39_36) (by decide) (by decide) rfl (fun hc36 => ?_) (fun hc36 => ?_)
        · exact absurd hc36 (by decide)
        refine own_aloadN A64 hx (pc' := 40) (hb hby d_jdk_43_method_39_39) rfl rfl rfl ?_
        refine own_iloadN A64 hx (pc' := 41) (hb hby d_jdk_43_method_39_40) rfl rfl ?_
        refine own_iloadN A64 hx (pc' := 42) (hb hby d_jdk_43_method_39_41) rfl rfl ?_
        refine own_iloadN A64 hx (pc' := 43) (hb hby d_jdk_43_method_39_42) rfl rfl ?_
        refine own_isub A64 hx (pc' := 44) (hb hby d_jdk_43_method_39_43) (z := ((Int32.ofNat r) - (Int32.ofNat q))) rfl rfl ?_
        rw [own_natsub (by omega) (by omega)]
        refine own_callS K64 hx (by rw [hml]; rfl) (hw _ (List.mem_of_getElem? (i := 201) rfl)) (hw _ (List.mem_of_getElem? (i := 122) rfl)) (hw _ (List.mem_of_getElem? (i := 75) rfl)) (hw _ (List.mem_of_getElem? (i := 123) rfl)) (by decide) (rl_ns l Z a0 hw [] h64 b cs kb q (r - q) V hl hlat hbc (by omega) (by omega) (fun _ e => by rw [show r = cs.length by omega] at hc26; exact Int32.lt_irrefl hc26)) (fun _ q => nomatch q) (argsL := [(.ref b), (.int (Int32.ofNat q)), (.int (Int32.ofNat (r - q)))]) (rest := []) (lenOf pd_10 rfl) rfl 0 (Nat.le_of_eq rfl) (hb hby d_jdk_43_method_39_44) (pc' := 47) rfl (by decide) (by decide) (by decide) (by decide) ?_
        intro v66 T66 h66 K66 Kp66 Q66
        obtain ⟨a66, rfl, S66⟩ := Q66
        have V := V.keep Kp66 nin0
        have A66 := own_here K66
        show own_Go p.tables e below _ T66 (mkF m 47 #[.val (.ref b), .val (.int (Int32.ofNat q)), .val (.int (Int32.ofNat r)), .val (.int (1 : Int32))] [(.ref a66)])
        refine own_goto A66 hx 51 (hb hby d_jdk_43_method_39_47) (by decide) (by decide) ?_
        exact own_retR K66 hx hlk hret rfl rfl (hb hby d_jdk_43_method_39_51) (by decide) (by decide) ⟨_, ⟨q, r, rfl, QR⟩, Or.inl ⟨_, rfl, S66⟩⟩
  · have eq : q = cs.length := own_natinj (by omega) (by omega) hc8
    refine own_ldcR (n := 0) (zn := (0 : Int32)) (vs := []) K63 hx (hw _ (List.mem_of_getElem? (i := 124) rfl)) (own_sa hw) (by decide +kernel) ⟨by decide +kernel, by decide +kernel⟩ (by decide) (by decide) (hb hby d_jdk_43_method_39_11) (pc' := 13) rfl (by decide +kernel) (by decide) (by decide) (by decide) ?_
    intro b67 T67 h67 t67 kt67 K67 E67 X67 C67 V67 Y67 N67
    have V := V.ext E67
    have A67 := own_here K67
    have S67 := own_Str.of0 (cs := []) X67 V67 C67 Y67 rfl (by decide +kernel) (by decide +kernel) (by decide)
    exact own_retR K67 hx hlk hret rfl rfl (hb hby d_jdk_43_method_39_13) (by decide) (by decide) ⟨[], ⟨q, q, by rw [eq, Nat.sub_self]; simp, hq1, hq2, fun e => absurd e (by omega)⟩, Or.inl ⟨_, rfl, S67⟩⟩
theorem d_jdk_42_method_114_0 : decode jdk_42_method_114_code 0 = .ok (.aload_n 0, 1) := by decide +kernel
theorem d_jdk_42_method_114_1 : decode jdk_42_method_114_code 1 = .ok (.invokevirtual 492, 3) := by decide +kernel
theorem d_jdk_42_method_114_4 : decode jdk_42_method_114_code 4 = .ok (.ifCond .eq 13, 3) := by decide +kernel
theorem d_jdk_42_method_114_7 : decode jdk_42_method_114_code 7 = .ok (.aload_n 0, 1) := by decide +kernel
theorem d_jdk_42_method_114_8 : decode jdk_42_method_114_code 8 = .ok (.getfield 9, 3) := by decide +kernel
theorem pd_19 : parseMethodDescriptor "([B)Ljava/lang/String;" = some ⟨[(.array .byte)], some (.object "java/lang/String")⟩ := by decide +kernel
theorem d_jdk_42_method_114_11 : decode jdk_42_method_114_code 11 = .ok (.invokestatic 864, 3) := by decide +kernel
theorem d_jdk_42_method_114_14 : decode jdk_42_method_114_code 14 = .ok (.goto 10, 3) := by decide +kernel
theorem d_jdk_42_method_114_24 : decode jdk_42_method_114_code 24 = .ok (.astore_n 1, 1) := by decide +kernel
theorem d_jdk_42_method_114_25 : decode jdk_42_method_114_code 25 = .ok (.aload_n 1, 1) := by decide +kernel
theorem d_jdk_42_method_114_26 : decode jdk_42_method_114_code 26 = .ok (.ifnonnull 7, 3) := by decide +kernel
theorem d_jdk_42_method_114_33 : decode jdk_42_method_114_code 33 = .ok (.aload_n 1, 1) := by decide +kernel
theorem d_jdk_42_method_114_34 : decode jdk_42_method_114_code 34 = .ok (.areturn, 1) := by decide +kernel
theorem d_jdk_42_method_114_29 : decode jdk_42_method_114_code 29 = .ok (.aload_n 0, 1) := by decide +kernel
theorem d_jdk_42_method_114_30 : decode jdk_42_method_114_code 30 = .ok (.goto 4, 3) := by decide +kernel
theorem ef_rl_strip (m : MethodId) (q_0 : Addr)  : entryFrame m #[(.ref q_0)] 2 = mkF m 0 #[.val (.ref q_0), .unset] [] := by  first | (simp [entryFrame, mkF, argsToLocals, Value.category]; done) | rfl
set_option maxRecDepth 65536 in
set_option maxHeartbeats 40000000 in
theorem rl_strip (l : Launch) (Z : State) (a0 : Array Value) (hw : ∀ d ∈ tables_1, d.before a0 Z = true) (more : List Jvm.Cond) (h0 : Heap) (x : Addr) (cs : List Int32) (G1 : Int32) (O2 : Sta Z Z.heap "java/lang/String" "COMPACT_STRINGS" "Z" (.int G1)) (P5 : ¬ (G1 = (0 : Int32))) (aA : Addr) (kA : ClassId) (SA : Sta Z Z.heap "java/lang/CharacterDataLatin1" "A" "[I" (.ref aA)) (TA : Arv Z Z.heap aA kA .int (Int32.ofNat 256) (own_tab.map Value.int) (.int 0)) (aI : Addr) (SI : Sta Z Z.heap "java/lang/CharacterDataLatin1" "instance" "Ljava/lang/CharacterDataLatin1;" (.ref aI)) (XI : Exa Z Z.heap aI "java/lang/CharacterDataLatin1") (S : own_Str Z h0 x cs) (hlat : ∀ c ∈ cs, ¬ (255 : Int32) < c) (hcap : cs.length ≤ 5) :
    own_Met true false consts_1 l Z a0 (⟨"java/lang/String", "strip", "()Ljava/lang/String;"⟩ : MethodName) jdk_42_method_114_code 2 (some (.object "java/lang/String")) more ({ frames := 5, cells := 2, slots := 9, locals := 79 } : Room) #[(.ref x)] h0 [] (fun v h => ∃ a us, v = some (.ref a) ∧ own_Str Z h a us ∧ own_trim cs us) := by
  refine own_enter (own := "java/lang/String") rfl (plainFor_of_name pn_1) ?_
  intro p e s m below meth c T hx hby hml hret hlk hnm K
  rw [ef_rl_strip m x]
  have A := own_here K
  have S0 := S
  obtain ⟨t, kb, cd, N2, vs, E, V, C, Y, hc, hbc, hl⟩ := S
  rcases hc with ⟨rfl, rfl, rfl, -⟩ | ⟨-, -, -, c, hc, hb'⟩
  rotate_left
  · exact absurd hb' (hlat c hc)
  refine own_aloadN A hx (pc' := 1) (hb hby d_jdk_42_method_114_0) rfl rfl rfl ?_
  refine own_callV K hx (by rw [hml]; rfl) (hw _ (List.mem_of_getElem? (i := 58) rfl)) (hw _ (List.mem_of_getElem? (i := 59) rfl)) (fun U hU => notFace_of_selects (args := #[]) (mvT hU (hw _ (List.mem_of_getElem? (i := 61) rfl)))) (hw _ (List.mem_of_getElem? (i := 61) rfl)) (hw _ (List.mem_of_getElem? (i := 60) rfl)) (hw _ (List.mem_of_getElem? (i := 14) rfl)) (hw _ (List.mem_of_getElem? (i := 62) rfl)) (by decide) S0.exa (rl_il l Z a0 hw [] h0 x G1 O2 P5 C) (fun _ q => nomatch q) (argsL := []) (rest := []) (lenOf pd_3 rfl) rfl 0 (Nat.le_of_eq rfl) (hb hby d_jdk_42_method_114_1) (pc' := 4) rfl (by decide) (by decide) (by decide) (by decide) ?_
  intro v68 T68 h68 K68 Kp68 Q68
  obtain ⟨rfl, -⟩ := Q68
  have S0 := S0.keep Kp68 own_off0
  have E := E.keep Kp68
  have V := V.keep Kp68 nin0
  have C := C.keep Kp68 nin0
  have Y := Y.keep Kp68 nin0
  have A68 := own_here K68
  show own_Go p.tables e below _ T68 (mkF m 4 #[.val (.ref x), .unset] [(.int (1 : Int32))])
  refine own_if_eq A68 hx 17 7 (hb hby d_jdk_42_method_114_4) (by decide) (by decide) rfl (fun hc4 => ?_) (fun hc4 => ?_)
  · exact absurd hc4 (by decide)
  refine own_aloadN A68 hx (pc' := 8) (hb hby d_jdk_42_method_114_7) rfl rfl rfl ?_
  refine own_getF K68 hx (host := "") (Or.inl (hw _ (List.mem_of_getElem? (i := 39) rfl))) Via.refl V (hb hby d_jdk_42_method_114_8) (pc' := 11) rfl ?_
  intro T69 K69
  have A69 := own_here K69
  refine own_callS K69 hx (by rw [hml]; rfl) (hw _ (List.mem_of_getElem? (i := 177) rfl)) (hw _ (List.mem_of_getElem? (i := 178) rfl)) (hw _ (List.mem_of_getElem? (i := 75) rfl)) (hw _ (List.mem_of_getElem? (i := 179) rfl)) (by decide) (rl_lst l Z a0 hw [] h68 t cs kb aA kA SA TA aI SI XI Y hl hlat hbc hcap) (fun _ q => nomatch q) (argsL := [(.ref t)]) (rest := []) (lenOf pd_19 rfl) rfl 0 (Nat.le_of_eq rfl) (hb hby d_jdk_42_method_114_11) (pc' := 14) rfl (by decide) (by decide) (by decide) (by decide) ?_
  intro v70 T70 h70 K70 Kp70 Q70
  obtain ⟨us, htr, hor⟩ := Q70
  have S0 := S0.keep Kp70 own_off0
  have E := E.keep Kp70
  have V := V.keep Kp70 nin0
  have C := C.keep Kp70 nin0
  have Y := Y.keep Kp70 nin0
  have A70 := own_here K70
  rcases hor with ⟨a, rfl, SA2⟩ | ⟨rfl, rfl⟩
  · show own_Go p.tables e below _ T70 (mkF m 14 #[.val (.ref x), .unset] [(.ref a)])
    refine own_goto A70 hx 24 (hb hby d_jdk_42_method_114_14) (by decide) (by decide) ?_
    refine own_astoreN A70 hx (pc' := 25) #[.val (.ref x), .val (.ref a)] (hb hby d_jdk_42_method_114_24) rfl rfl rfl ?_
    refine own_aloadN A70 hx (pc' := 26) (hb hby d_jdk_42_method_114_25) rfl rfl rfl ?_
    refine own_ifnonnull_t A70 hx 33 (hb hby d_jdk_42_method_114_26) (by decide) (by decide) ?_
    refine own_aloadN A70 hx (pc' := 34) (hb hby d_jdk_42_method_114_33) rfl rfl rfl ?_
    exact own_retR K70 hx hlk hret rfl rfl (hb hby d_jdk_42_method_114_34) (by decide) (by decide) ⟨_, _, rfl, SA2, htr⟩
  · show own_Go p.tables e below _ T70 (mkF m 14 #[.val (.ref x), .unset] [.null])
    refine own_goto A70 hx 24 (hb hby d_jdk_42_method_114_14) (by decide) (by decide) ?_
    refine own_astoreN A70 hx (pc' := 25) #[.val (.ref x), .val .null] (hb hby d_jdk_42_method_114_24) rfl rfl rfl ?_
    refine own_aloadN A70 hx (pc' := 26) (hb hby d_jdk_42_method_114_25) rfl rfl rfl ?_
    refine own_ifnonnull_f A70 hx 29 (hb hby d_jdk_42_method_114_26) rfl ?_
    refine own_aloadN A70 hx (pc' := 30) (hb hby d_jdk_42_method_114_29) rfl rfl rfl ?_
    refine own_goto A70 hx 34 (hb hby d_jdk_42_method_114_30) (by decide) (by decide) ?_
    exact own_retR K70 hx hlk hret rfl rfl (hb hby d_jdk_42_method_114_34) (by decide) (by decide) ⟨_, _, rfl, S0, htr⟩
theorem own_takeSp {cs : List Int32} (h : ¬ own_spN cs < cs.length) : cs.take (own_spN cs) = cs := by rw [show own_spN cs = cs.length from by have := own_sp_le cs; omega, List.take_length]
theorem own_latT {cs : List Int32} {P : Int32 → Prop} (n : Nat) (h : ∀ c ∈ cs, P c) : ∀ c ∈ cs.take n, P c := fun c hc => h c (List.mem_of_mem_take hc)
theorem own_latD {cs : List Int32} {P : Int32 → Prop} (n : Nat) (h : ∀ c ∈ cs, P c) : ∀ c ∈ cs.drop n, P c := fun c hc => h c (List.mem_of_mem_drop hc)
theorem d_prog_18_method_2_0 : decode prog_18_method_2_code 0 = .ok (.aload_n 0, 1) := by decide +kernel
theorem d_prog_18_method_2_1 : decode prog_18_method_2_code 1 = .ok (.bipush 32, 2) := by decide +kernel
theorem d_prog_18_method_2_3 : decode prog_18_method_2_code 3 = .ok (.invokevirtual 7, 3) := by decide +kernel
theorem d_prog_18_method_2_6 : decode prog_18_method_2_code 6 = .ok (.istore_n 2, 1) := by decide +kernel
theorem d_prog_18_method_2_7 : decode prog_18_method_2_code 7 = .ok (.iload_n 2, 1) := by decide +kernel
theorem d_prog_18_method_2_8 : decode prog_18_method_2_code 8 = .ok (.ifCond .ge 7, 3) := by decide +kernel
theorem d_prog_18_method_2_15 : decode prog_18_method_2_code 15 = .ok (.aload_n 0, 1) := by decide +kernel
theorem d_prog_18_method_2_16 : decode prog_18_method_2_code 16 = .ok (.iconst 0, 1) := by decide +kernel
theorem d_prog_18_method_2_17 : decode prog_18_method_2_code 17 = .ok (.iload_n 2, 1) := by decide +kernel
theorem d_prog_18_method_2_18 : decode prog_18_method_2_code 18 = .ok (.invokevirtual 13, 3) := by decide +kernel
theorem d_prog_18_method_2_21 : decode prog_18_method_2_code 21 = .ok (.astore_n 3, 1) := by decide +kernel
theorem d_prog_18_method_2_22 : decode prog_18_method_2_code 22 = .ok (.aconst_null, 1) := by decide +kernel
theorem d_prog_18_method_2_23 : decode prog_18_method_2_code 23 = .ok (.astore 4, 2) := by decide +kernel
theorem d_prog_18_method_2_25 : decode prog_18_method_2_code 25 = .ok (.aload_n 3, 1) := by decide +kernel
theorem d_prog_18_method_2_26 : decode prog_18_method_2_code 26 = .ok (.aload_n 1, 1) := by decide +kernel
theorem pd_20 : parseMethodDescriptor "(Ljava/lang/String;)Z" = some ⟨[(.object "java/lang/String")], some .boolean⟩ := by decide +kernel
theorem d_prog_18_method_2_27 : decode prog_18_method_2_code 27 = .ok (.invokevirtual 17, 3) := by decide +kernel
theorem d_prog_18_method_2_30 : decode prog_18_method_2_code 30 = .ok (.ifCond .eq 24, 3) := by decide +kernel
theorem d_prog_18_method_2_54 : decode prog_18_method_2_code 54 = .ok (.aload 4, 2) := by decide +kernel
theorem d_prog_18_method_2_56 : decode prog_18_method_2_code 56 = .ok (.areturn, 1) := by decide +kernel
theorem d_prog_18_method_2_33 : decode prog_18_method_2_code 33 = .ok (.iload_n 2, 1) := by decide +kernel
theorem d_prog_18_method_2_34 : decode prog_18_method_2_code 34 = .ok (.ifCond .ge 8, 3) := by decide +kernel
theorem d_prog_18_method_2_42 : decode prog_18_method_2_code 42 = .ok (.aload_n 0, 1) := by decide +kernel
theorem d_prog_18_method_2_43 : decode prog_18_method_2_code 43 = .ok (.iload_n 2, 1) := by decide +kernel
theorem d_prog_18_method_2_44 : decode prog_18_method_2_code 44 = .ok (.iconst 1, 1) := by decide +kernel
theorem d_prog_18_method_2_45 : decode prog_18_method_2_code 45 = .ok (.iadd, 1) := by decide +kernel
theorem pd_21 : parseMethodDescriptor "(I)Ljava/lang/String;" = some ⟨[.int], some (.object "java/lang/String")⟩ := by decide +kernel
theorem d_prog_18_method_2_46 : decode prog_18_method_2_code 46 = .ok (.invokevirtual 23, 3) := by decide +kernel
theorem pd_22 : parseMethodDescriptor "()Ljava/lang/String;" = some ⟨[], some (.object "java/lang/String")⟩ := by decide +kernel
theorem d_prog_18_method_2_49 : decode prog_18_method_2_code 49 = .ok (.invokevirtual 26, 3) := by decide +kernel
theorem d_prog_18_method_2_52 : decode prog_18_method_2_code 52 = .ok (.astore 4, 2) := by decide +kernel
theorem d_prog_18_method_2_11 : decode prog_18_method_2_code 11 = .ok (.aload_n 0, 1) := by decide +kernel
theorem d_prog_18_method_2_12 : decode prog_18_method_2_code 12 = .ok (.goto 9, 3) := by decide +kernel
theorem d_prog_18_method_2_37 : decode prog_18_method_2_code 37 = .ok (.ldc 21, 2) := by decide +kernel
theorem d_prog_18_method_2_39 : decode prog_18_method_2_code 39 = .ok (.goto 13, 3) := by decide +kernel
theorem ef_rm_cred (m : MethodId) (q_0 : Addr) (q_1 : Addr)  : entryFrame m #[(.ref q_0), (.ref q_1)] 5 = mkF m 0 #[.val (.ref q_0), .val (.ref q_1), .unset, .unset, .unset] [] := by  first | (simp [entryFrame, mkF, argsToLocals, Value.category]; done) | rfl
theorem pn_5 : plainName "com/example/portcullis/portcullis/service/AuthorizationHeader" = true := by first | (simp [plainName, overriddenIn]; done) | decide +kernel
set_option maxRecDepth 65536 in
set_option maxHeartbeats 40000000 in
theorem rm_cred (l : Launch) (Z : State) (a0 : Array Value) (hw : ∀ d ∈ tables_1, d.before a0 Z = true) (more : List Jvm.Cond) (h0 : Heap) (x : Addr) (y : Addr) (cs ds : List Int32) (G1 : Int32) (O2 : Sta Z Z.heap "java/lang/String" "COMPACT_STRINGS" "Z" (.int G1)) (P5 : ¬ (G1 = (0 : Int32))) (G3 : Value) (O4 : Sta Z Z.heap "jdk/internal/util/Preconditions" "SIOOBE_FORMATTER" "Ljava/util/function/BiFunction;" G3) (hr_G3 : G3.isRef = true) (aA : Addr) (kA : ClassId) (SA : Sta Z Z.heap "java/lang/CharacterDataLatin1" "A" "[I" (.ref aA)) (TA : Arv Z Z.heap aA kA .int (Int32.ofNat 256) (own_tab.map Value.int) (.int 0)) (aI : Addr) (SI : Sta Z Z.heap "java/lang/CharacterDataLatin1" "instance" "Ljava/lang/CharacterDataLatin1;" (.ref aI)) (XI : Exa Z Z.heap aI "java/lang/CharacterDataLatin1") (S : own_Str Z h0 x cs) (hlat : ∀ c ∈ cs, ¬ (255 : Int32) < c) (S2 : own_Str Z h0 y ds) (hlad : ∀ c ∈ ds, ¬ (255 : Int32) < c) (hcap5 : cs.length ≤ 5) :
    own_Met true false consts_1 l Z a0 (⟨"com/example/portcullis/portcullis/service/AuthorizationHeader", "credentials", "(Ljava/lang/String;Ljava/lang/String;)Ljava/lang/String;"⟩ : MethodName) prog_18_method_2_code 5 (some (.object "java/lang/String")) more ({ frames := 6, cells := 6, slots := 27, locals := 93 } : Room) #[(.ref x), (.ref y)] h0 [] (fun v h => (¬ own_eqi (cs.take (own_spN cs)) ds ∧ v = some .null) ∨ (own_eqi (cs.take (own_spN cs)) ds ∧ ¬ own_spN cs < cs.length ∧ ∃ a, v = some (.ref a) ∧ own_Str Z h a []) ∨ (own_eqi (cs.take (own_spN cs)) ds ∧ own_spN cs < cs.length ∧ ∃ a us, v = some (.ref a) ∧ own_Str Z h a us ∧ own_trim (cs.drop (own_spN cs + 1)) us)) := by
  refine own_enter (own := "com/example/portcullis/portcullis/service/AuthorizationHeader") rfl (plainFor_of_name pn_5) ?_
  intro p e s m below meth c T hx hby hml hret hlk hnm K
  rw [ef_rm_cred m x y]
  have A := own_here K
  refine own_aloadN A hx (pc' := 1) (hb hby d_prog_18_method_2_0) rfl rfl rfl ?_
  refine own_bipush A hx (pc' := 3) (hb hby d_prog_18_method_2_1) (z := (32 : Int32)) (by decide) rfl ?_
  refine own_callV K hx (by rw [hml]; rfl) (hw _ (List.mem_of_getElem? (i := 48) rfl)) (hw _ (List.mem_of_getElem? (i := 49) rfl)) (fun U hU => notFace_of_selects (args := #[]) (mvT hU (hw _ (List.mem_of_getElem? (i := 51) rfl)))) (hw _ (List.mem_of_getElem? (i := 51) rfl)) (hw _ (List.mem_of_getElem? (i := 50) rfl)) (hw _ (List.mem_of_getElem? (i := 14) rfl)) (hw _ (List.mem_of_getElem? (i := 52) rfl)) (by decide) S.exa (rl_io1 l Z a0 hw [] h0 x cs G1 O2 P5 S hlat) (fun _ q => nomatch q) (argsL := [(.int (32 : Int32))]) (rest := []) (lenOf pd_16 rfl) rfl 0 (Nat.le_of_eq rfl) (hb hby d_prog_18_method_2_3) (pc' := 6) rfl (by decide) (by decide) (by decide) (by decide) ?_
  intro v71 T71 h71 K71 Kp71 Q71
  obtain rfl := Q71
  have S := S.keep Kp71 own_off0
  have S2 := S2.keep Kp71 own_off0
  have A71 := own_here K71
  show own_Go p.tables e below _ T71 (mkF m 6 #[.val (.ref x), .val (.ref y), .unset, .unset, .unset] [(.int (own_spI cs))])
  by_cases hsp : own_spN cs < cs.length
  · rw [own_spI, if_pos hsp]
    refine own_istoreN A71 hx (pc' := 7) #[.val (.ref x), .val (.ref y), .val (.int (Int32.ofNat (own_spN cs))), .unset, .unset] (hb hby d_prog_18_method_2_6) rfl rfl ?_
    refine own_iloadN A71 hx (pc' := 8) (hb hby d_prog_18_method_2_7) rfl rfl ?_
    refine own_if_ge A71 hx 15 11 (hb hby d_prog_18_method_2_8) (by decide) (by decide) rfl (fun hc8 => ?_) (fun hc8 => ?_)
    rotate_left
    · exact absurd hc8 (own_nat0 (by omega))
    refine own_aloadN A71 hx (pc' := 16) (hb hby d_prog_18_method_2_15) rfl rfl rfl ?_
    refine own_iconst A71 hx (pc' := 17) (hb hby d_prog_18_method_2_16) (z := (0 : Int32)) (by decide) rfl ?_
    refine own_iloadN A71 hx (pc' := 18) (hb hby d_prog_18_method_2_17) rfl rfl ?_
    refine own_callV K71 hx (by rw [hml]; rfl) (hw _ (List.mem_of_getElem? (i := 108) rfl)) (hw _ (List.mem_of_getElem? (i := 109) rfl)) (fun U hU => notFace_of_selects (args := #[]) (mvT hU (hw _ (List.mem_of_getElem? (i := 111) rfl)))) (hw _ (List.mem_of_getElem? (i := 111) rfl)) (hw _ (List.mem_of_getElem? (i := 110) rfl)) (hw _ (List.mem_of_getElem? (i := 14) rfl)) (hw _ (List.mem_of_getElem? (i := 112) rfl)) (by decide) S.exa (rl_sb2 l Z a0 hw [] h71 x cs 0 (own_spN cs) G1 O2 P5 G3 O4 hr_G3 S hlat (Nat.zero_le _) (Nat.le_of_lt hsp) (fun _ => by omega)) (fun _ q => nomatch q) (argsL := [(.int (0 : Int32)), (.int (Int32.ofNat (own_spN cs)))]) (rest := []) (lenOf pd_11 rfl) rfl 0 (Nat.le_of_eq rfl) (hb hby d_prog_18_method_2_18) (pc' := 21) rfl (by decide) (by decide) (by decide) (by decide) ?_
    intro v72 T72 h72 K72 Kp72 Q72
    obtain ⟨nm, rfl, Sn⟩ := Q72
    have S := S.keep Kp72 own_off0
    have S2 := S2.keep Kp72 own_off0
    have A72 := own_here K72
    show own_Go p.tables e below _ T72 (mkF m 21 #[.val (.ref x), .val (.ref y), .val (.int (Int32.ofNat (own_spN cs))), .unset, .unset] [(.ref nm)])
    rw [List.drop_zero, Nat.sub_zero] at Sn
    refine own_astoreN A72 hx (pc' := 22) #[.val (.ref x), .val (.ref y), .val (.int (Int32.ofNat (own_spN cs))), .val (.ref nm), .unset] (hb hby d_prog_18_method_2_21) rfl rfl rfl ?_
    refine own_null A72 hx (pc' := 23) (hb hby d_prog_18_method_2_22) rfl ?_
    refine own_astore A72 hx (pc' := 25) #[.val (.ref x), .val (.ref y), .val (.int (Int32.ofNat (own_spN cs))), .val (.ref nm), .val .null] (hb hby d_prog_18_method_2_23) rfl rfl rfl ?_
    refine own_aloadN A72 hx (pc' := 26) (hb hby d_prog_18_method_2_25) rfl rfl rfl ?_
    refine own_aloadN A72 hx (pc' := 27) (hb hby d_prog_18_method_2_26) rfl rfl rfl ?_
    refine own_callV K72 hx (by rw [hml]; rfl) (hw _ (List.mem_of_getElem? (i := 90) rfl)) (hw _ (List.mem_of_getElem? (i := 91) rfl)) (fun U hU => notFace_of_selects (args := #[]) (mvT hU (hw _ (List.mem_of_getElem? (i := 93) rfl)))) (hw _ (List.mem_of_getElem? (i := 93) rfl)) (hw _ (List.mem_of_getElem? (i := 92) rfl)) (hw _ (List.mem_of_getElem? (i := 14) rfl)) (hw _ (List.mem_of_getElem? (i := 94) rfl)) (by decide) Sn.exa (rl_eqi l Z a0 hw [] h72 nm y (cs.take (own_spN cs)) ds G1 O2 P5 Sn (own_latT _ hlat) S2 hlad) (fun _ q => nomatch q) (argsL := [(.ref y)]) (rest := []) (lenOf pd_20 rfl) rfl 0 (Nat.le_of_eq rfl) (hb hby d_prog_18_method_2_27) (pc' := 30) rfl (by decide) (by decide) (by decide) (by decide) ?_
    intro v73 T73 h73 K73 Kp73 Q73
    obtain rfl := Q73
    have S := S.keep Kp73 own_off0
    have S2 := S2.keep Kp73 own_off0
    have Sn := Sn.keep Kp73 own_off0
    have A73 := own_here K73
    show own_Go p.tables e below _ T73 (mkF m 30 #[.val (.ref x), .val (.ref y), .val (.int (Int32.ofNat (own_spN cs))), .val (.ref nm), .val .null] [(.int (if own_eqi (cs.take (own_spN cs)) ds then (1 : Int32) else 0))])
    refine own_if_eq A73 hx 54 33 (hb hby d_prog_18_method_2_30) (by decide) (by decide) rfl (fun hc30 => ?_) (fun hc30 => ?_)
    · refine own_aload A73 hx (pc' := 56) (hb hby d_prog_18_method_2_54) rfl rfl rfl ?_
      exact own_retR K73 hx hlk hret rfl rfl (hb hby d_prog_18_method_2_56) (by decide) (by decide) (Or.inl ⟨own_if0 hc30, rfl⟩)
    · refine own_iloadN A73 hx (pc' := 34) (hb hby d_prog_18_method_2_33) rfl rfl ?_
      refine own_if_ge A73 hx 42 37 (hb hby d_prog_18_method_2_34) (by decide) (by decide) rfl (fun hc34 => ?_) (fun hc34 => ?_)
      rotate_left
      · exact absurd hc34 (own_nat0 (by omega))
      refine own_aloadN A73 hx (pc' := 43) (hb hby d_prog_18_method_2_42) rfl rfl rfl ?_
      refine own_iloadN A73 hx (pc' := 44) (hb hby d_prog_18_method_2_43) rfl rfl ?_
      refine own_iconst A73 hx (pc' := 45) (hb hby d_prog_18_method_2_44) (z := (1 : Int32)) (by decide) rfl ?_
      refine own_iadd A73 hx (pc' := 46) (hb hby d_prog_18_method_2_45) (z := ((Int32.ofNat (own_spN cs)) + (1 : Int32))) rfl rfl ?_
      rw [own_natinc']
      refine own_callV K73 hx (by rw [hml]; rfl) (hw _ (List.mem_of_getElem? (i := 166) rfl)) (hw _ (List.mem_of_getElem? (i := 167) rfl)) (fun U hU => notFace_of_selects (args := #[]) (mvT hU (hw _ (List.mem_of_getElem? (i := 169) rfl)))) (hw _ (List.mem_of_getElem? (i := 169) rfl)) (hw _ (List.mem_of_getElem? (i := 168) rfl)) (hw _ (List.mem_of_getElem? (i := 14) rfl)) (hw _ (List.mem_of_getElem? (i := 170) rfl)) (by decide) S.exa (rl_sb1 l Z a0 hw [] h73 x cs (own_spN cs + 1) G1 O2 P5 G3 O4 hr_G3 S hlat (by omega) (by omega)) (fun _ q => nomatch q) (argsL := [(.int (Int32.ofNat (own_spN cs + 1)))]) (rest := []) (lenOf pd_21 rfl) rfl 0 (Nat.le_of_eq rfl) (hb hby d_prog_18_method_2_46) (pc' := 49) rfl (by decide) (by decide) (by decide) (by decide) ?_
      intro v74 T74 h74 K74 Kp74 Q74
      obtain ⟨sb, rfl, Ss⟩ := Q74
      have S := S.keep Kp74 own_off0
      have S2 := S2.keep Kp74 own_off0
      have Sn := Sn.keep Kp74 own_off0
      have A74 := own_here K74
      show own_Go p.tables e below _ T74 (mkF m 49 #[.val (.ref x), .val (.ref y), .val (.int (Int32.ofNat (own_spN cs))), .val (.ref nm), .val .null] [(.ref sb)])
      refine own_callV K74 hx (by rw [hml]; rfl) (hw _ (List.mem_of_getElem? (i := 172) rfl)) (hw _ (List.mem_of_getElem? (i := 173) rfl)) (fun U hU => notFace_of_selects (args := #[]) (mvT hU (hw _ (List.mem_of_getElem? (i := 175) rfl)))) (hw _ (List.mem_of_getElem? (i := 175) rfl)) (hw _ (List.mem_of_getElem? (i := 174) rfl)) (hw _ (List.mem_of_getElem? (i := 14) rfl)) (hw _ (List.mem_of_getElem? (i := 176) rfl)) (by decide) Ss.exa (rl_strip l Z a0 hw [] h74 sb (cs.drop (own_spN cs + 1)) G1 O2 P5 aA kA SA TA aI SI XI Ss (own_latD _ hlat) (by rw [List.length_drop]; omega)) (fun _ q => nomatch q) (argsL := []) (rest := []) (lenOf pd_22 rfl) rfl 0 (Nat.le_of_eq rfl) (hb hby d_prog_18_method_2_49) (pc' := 52) rfl (by decide) (by decide) (by decide) (by decide) ?_
      intro v75 T75 h75 K75 Kp75 Q75
      obtain ⟨ra, us, rfl, Sr, htr⟩ := Q75
      have S := S.keep Kp75 own_off0
      have S2 := S2.keep Kp75 own_off0
      have Sn := Sn.keep Kp75 own_off0
      have Ss := Ss.keep Kp75 own_off0
      have A75 := own_here K75
      show own_Go p.tables e below _ T75 (mkF m 52 #[.val (.ref x), .val (.ref y), .val (.int (Int32.ofNat (own_spN cs))), .val (.ref nm), .val .null] [(.ref ra)])
      refine own_astore A75 hx (pc' := 54) #[.val (.ref x), .val (.ref y), .val (.int (Int32.ofNat (own_spN cs))), .val (.ref nm), .val (.ref ra)] (hb hby d_prog_18_method_2_52) rfl rfl rfl ?_
      refine own_aload A75 hx (pc' := 56) (hb hby d_prog_18_method_2_54) rfl rfl rfl ?_
      exact own_retR K75 hx hlk hret rfl rfl (hb hby d_prog_18_method_2_56) (by decide) (by decide) (Or.inr (Or.inr ⟨own_if1 hc30, hsp, _, _, rfl, Sr, htr⟩))
  · rw [own_spI, if_neg hsp]
    refine own_istoreN A71 hx (pc' := 7) #[.val (.ref x), .val (.ref y), .val (.int (-1 : Int32)), .unset, .unset] (hb hby d_prog_18_method_2_6) rfl rfl ?_
    refine own_iloadN A71 hx (pc' := 8) (hb hby d_prog_18_method_2_7) rfl rfl ?_
    refine own_if_ge A71 hx 15 11 (hb hby d_prog_18_method_2_8) (by decide) (by decide) rfl (fun hc8 => ?_) (fun hc8 => ?_)
    · exact absurd hc8 (by decide)
    refine own_aloadN A71 hx (pc' := 12) (hb hby d_prog_18_method_2_11) rfl rfl rfl ?_
    refine own_goto A71 hx 21 (hb hby d_prog_18_method_2_12) (by decide) (by decide) ?_
    refine own_astoreN A71 hx (pc' := 22) #[.val (.ref x), .val (.ref y), .val (.int (-1 : Int32)), .val (.ref x), .unset] (hb hby d_prog_18_method_2_21) rfl rfl rfl ?_
    refine own_null A71 hx (pc' := 23) (hb hby d_prog_18_method_2_22) rfl ?_
    refine own_astore A71 hx (pc' := 25) #[.val (.ref x), .val (.ref y), .val (.int (-1 : Int32)), .val (.ref x), .val .null] (hb hby d_prog_18_method_2_23) rfl rfl rfl ?_
    refine own_aloadN A71 hx (pc' := 26) (hb hby d_prog_18_method_2_25) rfl rfl rfl ?_
    refine own_aloadN A71 hx (pc' := 27) (hb hby d_prog_18_method_2_26) rfl rfl rfl ?_
    refine own_callV K71 hx (by rw [hml]; rfl) (hw _ (List.mem_of_getElem? (i := 90) rfl)) (hw _ (List.mem_of_getElem? (i := 91) rfl)) (fun U hU => notFace_of_selects (args := #[]) (mvT hU (hw _ (List.mem_of_getElem? (i := 93) rfl)))) (hw _ (List.mem_of_getElem? (i := 93) rfl)) (hw _ (List.mem_of_getElem? (i := 92) rfl)) (hw _ (List.mem_of_getElem? (i := 14) rfl)) (hw _ (List.mem_of_getElem? (i := 94) rfl)) (by decide) S.exa (rl_eqi l Z a0 hw [] h71 x y cs ds G1 O2 P5 S hlat S2 hlad) (fun _ q => nomatch q) (argsL := [(.ref y)]) (rest := []) (lenOf pd_20 rfl) rfl 0 (Nat.le_of_eq rfl) (hb hby d_prog_18_method_2_27) (pc' := 30) rfl (by decide) (by decide) (by decide) (by decide) ?_
    intro v76 T76 h76 K76 Kp76 Q76
    obtain rfl := Q76
    have S := S.keep Kp76 own_off0
    have S2 := S2.keep Kp76 own_off0
    have A76 := own_here K76
    show own_Go p.tables e below _ T76 (mkF m 30 #[.val (.ref x), .val (.ref y), .val (.int (-1 : Int32)), .val (.ref x), .val .null] [(.int (if own_eqi cs ds then (1 : Int32) else 0))])
    rw [show (if own_eqi cs ds then (1 : Int32) else 0) = if own_eqi (cs.take (own_spN cs)) ds then 1 else 0 by rw [own_takeSp hsp]]
    refine own_if_eq A76 hx 54 33 (hb hby d_prog_18_method_2_30) (by decide) (by decide) rfl (fun hc30 => ?_) (fun hc30 => ?_)
    · refine own_aload A76 hx (pc' := 56) (hb hby d_prog_18_method_2_54) rfl rfl rfl ?_
      exact own_retR K76 hx hlk hret rfl rfl (hb hby d_prog_18_method_2_56) (by decide) (by decide) (Or.inl ⟨own_if0 hc30, rfl⟩)
    · refine own_iloadN A76 hx (pc' := 34) (hb hby d_prog_18_method_2_33) rfl rfl ?_
      refine own_if_ge A76 hx 42 37 (hb hby d_prog_18_method_2_34) (by decide) (by decide) rfl (fun hc34 => ?_) (fun hc34 => ?_)
      · exact absurd hc34 (by decide)
      refine own_ldcR (n := 0) (zn := (0 : Int32)) (vs := []) K76 hx (hw _ (List.mem_of_getElem? (i := 160) rfl)) (own_sa hw) (by decide +kernel) ⟨by decide +kernel, by decide +kernel⟩ (by decide) (by decide) (hb hby d_prog_18_method_2_37) (pc' := 39) rfl (by decide +kernel) (by decide) (by decide) (by decide) ?_
      intro b77 T77 h77 t77 kt77 K77 E77 X77 C77 V77 Y77 N77
      have S := S.ext E77
      have S2 := S2.ext E77
      have A77 := own_here K77
      have S77 := own_Str.of0 (cs := []) X77 V77 C77 Y77 rfl (by decide +kernel) (by decide +kernel) (by decide)
      refine own_goto A77 hx 52 (hb hby d_prog_18_method_2_39) (by decide) (by decide) ?_
      refine own_astore A77 hx (pc' := 54) #[.val (.ref x), .val (.ref y), .val (.int (-1 : Int32)), .val (.ref x), .val (.ref b77)] (hb hby d_prog_18_method_2_52) rfl rfl rfl ?_
      refine own_aload A77 hx (pc' := 56) (hb hby d_prog_18_method_2_54) rfl rfl rfl ?_
      exact own_retR K77 hx hlk hret rfl rfl (hb hby d_prog_18_method_2_56) (by decide) (by decide) (Or.inr (Or.inl ⟨own_if1 hc30, hsp, _, rfl, S77⟩))
theorem d_method_5_0 : decode method_5_code 0 = .ok (.iload_n 0, 1) := by decide +kernel
theorem d_method_5_1 : decode method_5_code 1 = .ok (.bipush 65, 2) := by decide +kernel
theorem d_method_5_3 : decode method_5_code 3 = .ok (.if_icmp .lt 9, 3) := by decide +kernel
theorem d_method_5_12 : decode method_5_code 12 = .ok (.iload_n 0, 1) := by decide +kernel
theorem d_method_5_13 : decode method_5_code 13 = .ok (.sipush 192, 3) := by decide +kernel
theorem d_method_5_16 : decode method_5_code 16 = .ok (.if_icmp .lt 21, 3) := by decide +kernel
theorem d_method_5_37 : decode method_5_code 37 = .ok (.iconst 0, 1) := by decide +kernel
theorem d_method_5_38 : decode method_5_code 38 = .ok (.ireturn, 1) := by decide +kernel
theorem d_method_5_19 : decode method_5_code 19 = .ok (.iload_n 0, 1) := by decide +kernel
theorem d_method_5_20 : decode method_5_code 20 = .ok (.sipush 222, 3) := by decide +kernel
theorem d_method_5_23 : decode method_5_code 23 = .ok (.if_icmp .gt 14, 3) := by decide +kernel
theorem d_method_5_26 : decode method_5_code 26 = .ok (.iload_n 0, 1) := by decide +kernel
theorem d_method_5_27 : decode method_5_code 27 = .ok (.sipush 215, 3) := by decide +kernel
theorem d_method_5_30 : decode method_5_code 30 = .ok (.if_icmp .eq 7, 3) := by decide +kernel
theorem d_method_5_33 : decode method_5_code 33 = .ok (.iconst 1, 1) := by decide +kernel
theorem d_method_5_34 : decode method_5_code 34 = .ok (.goto 4, 3) := by decide +kernel
theorem d_method_5_6 : decode method_5_code 6 = .ok (.iload_n 0, 1) := by decide +kernel
theorem d_method_5_7 : decode method_5_code 7 = .ok (.bipush 90, 2) := by decide +kernel
theorem d_method_5_9 : decode method_5_code 9 = .ok (.if_icmp .le 24, 3) := by decide +kernel
theorem ef_rm_up (m : MethodId) (q_0 : Int32)  : entryFrame m #[(.int q_0)] 1 = mkF m 0 #[.val (.int q_0)] [] := by  first | (simp [entryFrame, mkF, argsToLocals, Value.category]; done) | rfl
theorem pn_6 : plainName "com/example/portcullis/portcullis/service/AuthorizationHeaderCredentialsPinLaw" = true := by first | (simp [plainName, overriddenIn]; done) | decide +kernel
set_option maxRecDepth 65536 in
set_option maxHeartbeats 40000000 in
theorem rm_up (l : Launch) (Z : State) (a0 : Array Value) (hw : ∀ d ∈ tables_1, d.before a0 Z = true) (more : List Jvm.Cond) (h0 : Heap) (p1 : Int32)   :
    own_Met true false consts_1 l Z a0 (⟨"com/example/portcullis/portcullis/service/AuthorizationHeaderCredentialsPinLaw", "up", "(C)Z"⟩ : MethodName) method_5_code 1 (some .boolean) more ({ frames := 0, cells := 0, slots := 0, locals := 0 } : Room) #[(.int p1)] h0 [] (fun v h => v = some (.int (if own_up p1 then 1 else 0)) ∧ h = h0) := by
  refine own_enter (own := "com/example/portcullis/portcullis/service/AuthorizationHeaderCredentialsPinLaw") rfl (plainFor_of_name pn_6) ?_
  intro p e s m below meth c T hx hby hml hret hlk hnm K
  rw [ef_rm_up m p1]
  have A := own_here K
  refine own_iloadN A hx (pc' := 1) (hb hby d_method_5_0) rfl rfl ?_
  refine own_bipush A hx (pc' := 3) (hb hby d_method_5_1) (z := (65 : Int32)) (by decide) rfl ?_
  refine own_icmp_lt A hx 12 6 (hb hby d_method_5_3) (by decide) (by decide) rfl (fun hc3 => ?_) (fun hc3 => ?_)
  · refine own_iloadN A hx (pc' := 13) (hb hby d_method_5_12) rfl rfl ?_
    refine own_sipush A hx (pc' := 16) (hb hby d_method_5_13) (z := (192 : Int32)) (by decide) rfl ?_
    refine own_icmp_lt A hx 37 19 (hb hby d_method_5_16) (by decide) (by decide) rfl (fun hc16 => ?_) (fun hc16 => ?_)
    · refine own_iconst A hx (pc' := 38) (hb hby d_method_5_37) (z := (0 : Int32)) (by decide) rfl ?_
      exact own_retN K hx hlk hret (by simp) (hb hby d_method_5_38) (by decide) (by decide) ⟨by rw [show (if own_up p1 then (1 : Int32) else 0) = 0 from (by simp only [own_up, own_ws]; simp [hc3, hc16])]; rfl, rfl⟩
    · refine own_iloadN A hx (pc' := 20) (hb hby d_method_5_19) rfl rfl ?_
      refine own_sipush A hx (pc' := 23) (hb hby d_method_5_20) (z := (222 : Int32)) (by decide) rfl ?_
      refine own_icmp_gt A hx 37 26 (hb hby d_method_5_23) (by decide) (by decide) rfl (fun hc23 => ?_) (fun hc23 => ?_)
      · refine own_iconst A hx (pc' := 38) (hb hby d_method_5_37) (z := (0 : Int32)) (by decide) rfl ?_
        exact own_retN K hx hlk hret (by simp) (hb hby d_method_5_38) (by decide) (by decide) ⟨by rw [show (if own_up p1 then (1 : Int32) else 0) = 0 from (by simp only [own_up, own_ws]; simp [hc3, hc16, hc23])]; rfl, rfl⟩
      · refine own_iloadN A hx (pc' := 27) (hb hby d_method_5_26) rfl rfl ?_
        refine own_sipush A hx (pc' := 30) (hb hby d_method_5_27) (z := (215 : Int32)) (by decide) rfl ?_
        refine own_icmp_eq A hx 37 33 (hb hby d_method_5_30) (by decide) (by decide) rfl (fun hc30 => ?_) (fun hc30 => ?_)
        · refine own_iconst A hx (pc' := 38) (hb hby d_method_5_37) (z := (0 : Int32)) (by decide) rfl ?_
          exact own_retN K hx hlk hret (by simp) (hb hby d_method_5_38) (by decide) (by decide) ⟨by rw [show (if own_up p1 then (1 : Int32) else 0) = 0 from (by simp only [own_up, own_ws]; simp [hc3, hc16, hc23, hc30])]; rfl, rfl⟩
        · refine own_iconst A hx (pc' := 34) (hb hby d_method_5_33) (z := (1 : Int32)) (by decide) rfl ?_
          refine own_goto A hx 38 (hb hby d_method_5_34) (by decide) (by decide) ?_
          exact own_retN K hx hlk hret (by simp) (hb hby d_method_5_38) (by decide) (by decide) ⟨by rw [show (if own_up p1 then (1 : Int32) else 0) = 1 from (by simp only [own_up, own_ws]; simp [hc3, hc16, hc23, hc30])]; rfl, rfl⟩
  · refine own_iloadN A hx (pc' := 7) (hb hby d_method_5_6) rfl rfl ?_
    refine own_bipush A hx (pc' := 9) (hb hby d_method_5_7) (z := (90 : Int32)) (by decide) rfl ?_
    refine own_icmp_le A hx 33 12 (hb hby d_method_5_9) (by decide) (by decide) rfl (fun hc9 => ?_) (fun hc9 => ?_)
    · refine own_iconst A hx (pc' := 34) (hb hby d_method_5_33) (z := (1 : Int32)) (by decide) rfl ?_
      refine own_goto A hx 38 (hb hby d_method_5_34) (by decide) (by decide) ?_
      exact own_retN K hx hlk hret (by simp) (hb hby d_method_5_38) (by decide) (by decide) ⟨by rw [show (if own_up p1 then (1 : Int32) else 0) = 1 from (by simp only [own_up, own_ws]; simp [hc3, hc9])]; rfl, rfl⟩
    · refine own_iloadN A hx (pc' := 13) (hb hby d_method_5_12) rfl rfl ?_
      refine own_sipush A hx (pc' := 16) (hb hby d_method_5_13) (z := (192 : Int32)) (by decide) rfl ?_
      refine own_icmp_lt A hx 37 19 (hb hby d_method_5_16) (by decide) (by decide) rfl (fun hc16 => ?_) (fun hc16 => ?_)
      · refine own_iconst A hx (pc' := 38) (hb hby d_method_5_37) (z := (0 : Int32)) (by decide) rfl ?_
        exact own_retN K hx hlk hret (by simp) (hb hby d_method_5_38) (by decide) (by decide) ⟨by rw [show (if own_up p1 then (1 : Int32) else 0) = 0 from (by simp only [own_up, own_ws]; simp [hc3, hc9, hc16])]; rfl, rfl⟩
      · refine own_iloadN A hx (pc' := 20) (hb hby d_method_5_19) rfl rfl ?_
        refine own_sipush A hx (pc' := 23) (hb hby d_method_5_20) (z := (222 : Int32)) (by decide) rfl ?_
        refine own_icmp_gt A hx 37 26 (hb hby d_method_5_23) (by decide) (by decide) rfl (fun hc23 => ?_) (fun hc23 => ?_)
        · refine own_iconst A hx (pc' := 38) (hb hby d_method_5_37) (z := (0 : Int32)) (by decide) rfl ?_
          exact own_retN K hx hlk hret (by simp) (hb hby d_method_5_38) (by decide) (by decide) ⟨by rw [show (if own_up p1 then (1 : Int32) else 0) = 0 from (by simp only [own_up, own_ws]; simp [hc3, hc9, hc16, hc23])]; rfl, rfl⟩
        · refine own_iloadN A hx (pc' := 27) (hb hby d_method_5_26) rfl rfl ?_
          refine own_sipush A hx (pc' := 30) (hb hby d_method_5_27) (z := (215 : Int32)) (by decide) rfl ?_
          refine own_icmp_eq A hx 37 33 (hb hby d_method_5_30) (by decide) (by decide) rfl (fun hc30 => ?_) (fun hc30 => ?_)
          · refine own_iconst A hx (pc' := 38) (hb hby d_method_5_37) (z := (0 : Int32)) (by decide) rfl ?_
            exact own_retN K hx hlk hret (by simp) (hb hby d_method_5_38) (by decide) (by decide) ⟨by rw [show (if own_up p1 then (1 : Int32) else 0) = 0 from (by simp only [own_up, own_ws]; simp [hc3, hc9, hc16, hc23, hc30])]; rfl, rfl⟩
          · refine own_iconst A hx (pc' := 34) (hb hby d_method_5_33) (z := (1 : Int32)) (by decide) rfl ?_
            refine own_goto A hx 38 (hb hby d_method_5_34) (by decide) (by decide) ?_
            exact own_retN K hx hlk hret (by simp) (hb hby d_method_5_38) (by decide) (by decide) ⟨by rw [show (if own_up p1 then (1 : Int32) else 0) = 1 from (by simp only [own_up, own_ws]; simp [hc3, hc9, hc16, hc23, hc30])]; rfl, rfl⟩
theorem d_method_7_0 : decode method_7_code 0 = .ok (.iload_n 0, 1) := by decide +kernel
theorem d_method_7_1 : decode method_7_code 1 = .ok (.bipush 32, 2) := by decide +kernel
theorem d_method_7_3 : decode method_7_code 3 = .ok (.if_icmp .eq 27, 3) := by decide +kernel
theorem d_method_7_30 : decode method_7_code 30 = .ok (.iconst 1, 1) := by decide +kernel
theorem d_method_7_31 : decode method_7_code 31 = .ok (.goto 4, 3) := by decide +kernel
theorem d_method_7_35 : decode method_7_code 35 = .ok (.ireturn, 1) := by decide +kernel
theorem d_method_7_6 : decode method_7_code 6 = .ok (.iload_n 0, 1) := by decide +kernel
theorem d_method_7_7 : decode method_7_code 7 = .ok (.bipush 9, 2) := by decide +kernel
theorem d_method_7_9 : decode method_7_code 9 = .ok (.if_icmp .lt 9, 3) := by decide +kernel
theorem d_method_7_18 : decode method_7_code 18 = .ok (.iload_n 0, 1) := by decide +kernel
theorem d_method_7_19 : decode method_7_code 19 = .ok (.bipush 28, 2) := by decide +kernel
theorem d_method_7_21 : decode method_7_code 21 = .ok (.if_icmp .lt 13, 3) := by decide +kernel
theorem d_method_7_34 : decode method_7_code 34 = .ok (.iconst 0, 1) := by decide +kernel
theorem d_method_7_24 : decode method_7_code 24 = .ok (.iload_n 0, 1) := by decide +kernel
theorem d_method_7_25 : decode method_7_code 25 = .ok (.bipush 31, 2) := by decide +kernel
theorem d_method_7_27 : decode method_7_code 27 = .ok (.if_icmp .gt 7, 3) := by decide +kernel
theorem d_method_7_12 : decode method_7_code 12 = .ok (.iload_n 0, 1) := by decide +kernel
theorem d_method_7_13 : decode method_7_code 13 = .ok (.bipush 13, 2) := by decide +kernel
theorem d_method_7_15 : decode method_7_code 15 = .ok (.if_icmp .le 15, 3) := by decide +kernel
theorem ef_rm_ws (m : MethodId) (q_0 : Int32)  : entryFrame m #[(.int q_0)] 1 = mkF m 0 #[.val (.int q_0)] [] := by  first | (simp [entryFrame, mkF, argsToLocals, Value.category]; done) | rfl
set_option maxRecDepth 65536 in
set_option maxHeartbeats 40000000 in
theorem rm_ws (l : Launch) (Z : State) (a0 : Array Value) (hw : ∀ d ∈ tables_1, d.before a0 Z = true) (more : List Jvm.Cond) (h0 : Heap) (p1 : Int32)   :
    own_Met true false consts_1 l Z a0 (⟨"com/example/portcullis/portcullis/service/AuthorizationHeaderCredentialsPinLaw", "ws", "(C)Z"⟩ : MethodName) method_7_code 1 (some .boolean) more ({ frames := 0, cells := 0, slots := 0, locals := 0 } : Room) #[(.int p1)] h0 [] (fun v h => v = some (.int (if own_ws p1 then 1 else 0)) ∧ h = h0) := by
  refine own_enter (own := "com/example/portcullis/portcullis/service/AuthorizationHeaderCredentialsPinLaw") rfl (plainFor_of_name pn_6) ?_
  intro p e s m below meth c T hx hby hml hret hlk hnm K
  rw [ef_rm_ws m p1]
  have A := own_here K
  refine own_iloadN A hx (pc' := 1) (hb hby d_method_7_0) rfl rfl ?_
  refine own_bipush A hx (pc' := 3) (hb hby d_method_7_1) (z := (32 : Int32)) (by decide) rfl ?_
  refine own_icmp_eq A hx 30 6 (hb hby d_method_7_3) (by decide) (by decide) rfl (fun hc3 => ?_) (fun hc3 => ?_)
  · refine own_iconst A hx (pc' := 31) (hb hby d_method_7_30) (z := (1 : Int32)) (by decide) rfl ?_
    refine own_goto A hx 35 (hb hby d_method_7_31) (by decide) (by decide) ?_
    exact own_retN K hx hlk hret (by simp) (hb hby d_method_7_35) (by decide) (by decide) ⟨by rw [show (if own_ws p1 then (1 : Int32) else 0) = 1 from (by simp only [own_up, own_ws]; simp [hc3])]; rfl, rfl⟩
  · refine own_iloadN A hx (pc' := 7) (hb hby d_method_7_6) rfl rfl ?_
    refine own_bipush A hx (pc' := 9) (hb hby d_method_7_7) (z := (9 : Int32)) (by decide) rfl ?_
    refine own_icmp_lt A hx 18 12 (hb hby d_method_7_9) (by decide) (by decide) rfl (fun hc9 => ?_) (fun hc9 => ?_)
    · refine own_iloadN A hx (pc' := 19) (hb hby d_method_7_18) rfl rfl ?_
      refine own_bipush A hx (pc' := 21) (hb hby d_method_7_19) (z := (28 : Int32)) (by decide) rfl ?_
      refine own_icmp_lt A hx 34 24 (hb hby d_method_7_21) (by decide) (by decide) rfl (fun hc21 => ?_) (fun hc21 => ?_)
      · refine own_iconst A hx (pc' := 35) (hb hby d_method_7_34) (z := (0 : Int32)) (by decide) rfl ?_
        exact own_retN K hx hlk hret (by simp) (hb hby d_method_7_35) (by decide) (by decide) ⟨by rw [show (if own_ws p1 then (1 : Int32) else 0) = 0 from (by simp only [own_up, own_ws]; simp [hc3, hc9, hc21])]; rfl, rfl⟩
      · refine own_iloadN A hx (pc' := 25) (hb hby d_method_7_24) rfl rfl ?_
        refine own_bipush A hx (pc' := 27) (hb hby d_method_7_25) (z := (31 : Int32)) (by decide) rfl ?_
        refine own_icmp_gt A hx 34 30 (hb hby d_method_7_27) (by decide) (by decide) rfl (fun hc27 => ?_) (fun hc27 => ?_)
        · refine own_iconst A hx (pc' := 35) (hb hby d_method_7_34) (z := (0 : Int32)) (by decide) rfl ?_
          exact own_retN K hx hlk hret (by simp) (hb hby d_method_7_35) (by decide) (by decide) ⟨by rw [show (if own_ws p1 then (1 : Int32) else 0) = 0 from (by simp only [own_up, own_ws]; simp [hc3, hc9, hc21, hc27])]; rfl, rfl⟩
        · refine own_iconst A hx (pc' := 31) (hb hby d_method_7_30) (z := (1 : Int32)) (by decide) rfl ?_
          refine own_goto A hx 35 (hb hby d_method_7_31) (by decide) (by decide) ?_
          exact own_retN K hx hlk hret (by simp) (hb hby d_method_7_35) (by decide) (by decide) ⟨by rw [show (if own_ws p1 then (1 : Int32) else 0) = 1 from (by simp only [own_up, own_ws]; simp [hc3, hc9, hc21, hc27])]; rfl, rfl⟩
    · refine own_iloadN A hx (pc' := 13) (hb hby d_method_7_12) rfl rfl ?_
      refine own_bipush A hx (pc' := 15) (hb hby d_method_7_13) (z := (13 : Int32)) (by decide) rfl ?_
      refine own_icmp_le A hx 30 18 (hb hby d_method_7_15) (by decide) (by decide) rfl (fun hc15 => ?_) (fun hc15 => ?_)
      · refine own_iconst A hx (pc' := 31) (hb hby d_method_7_30) (z := (1 : Int32)) (by decide) rfl ?_
        refine own_goto A hx 35 (hb hby d_method_7_31) (by decide) (by decide) ?_
        exact own_retN K hx hlk hret (by simp) (hb hby d_method_7_35) (by decide) (by decide) ⟨by rw [show (if own_ws p1 then (1 : Int32) else 0) = 1 from (by simp only [own_up, own_ws]; simp [hc3, hc9, hc15])]; rfl, rfl⟩
      · refine own_iloadN A hx (pc' := 19) (hb hby d_method_7_18) rfl rfl ?_
        refine own_bipush A hx (pc' := 21) (hb hby d_method_7_19) (z := (28 : Int32)) (by decide) rfl ?_
        refine own_icmp_lt A hx 34 24 (hb hby d_method_7_21) (by decide) (by decide) rfl (fun hc21 => ?_) (fun hc21 => ?_)
        · refine own_iconst A hx (pc' := 35) (hb hby d_method_7_34) (z := (0 : Int32)) (by decide) rfl ?_
          exact own_retN K hx hlk hret (by simp) (hb hby d_method_7_35) (by decide) (by decide) ⟨by rw [show (if own_ws p1 then (1 : Int32) else 0) = 0 from (by simp only [own_up, own_ws]; simp [hc3, hc9, hc15, hc21])]; rfl, rfl⟩
        · refine own_iloadN A hx (pc' := 25) (hb hby d_method_7_24) rfl rfl ?_
          refine own_bipush A hx (pc' := 27) (hb hby d_method_7_25) (z := (31 : Int32)) (by decide) rfl ?_
          refine own_icmp_gt A hx 34 30 (hb hby d_method_7_27) (by decide) (by decide) rfl (fun hc27 => ?_) (fun hc27 => ?_)
          · refine own_iconst A hx (pc' := 35) (hb hby d_method_7_34) (z := (0 : Int32)) (by decide) rfl ?_
            exact own_retN K hx hlk hret (by simp) (hb hby d_method_7_35) (by decide) (by decide) ⟨by rw [show (if own_ws p1 then (1 : Int32) else 0) = 0 from (by simp only [own_up, own_ws]; simp [hc3, hc9, hc15, hc21, hc27])]; rfl, rfl⟩
          · refine own_iconst A hx (pc' := 31) (hb hby d_method_7_30) (z := (1 : Int32)) (by decide) rfl ?_
            refine own_goto A hx 35 (hb hby d_method_7_31) (by decide) (by decide) ?_
            exact own_retN K hx hlk hret (by simp) (hb hby d_method_7_35) (by decide) (by decide) ⟨by rw [show (if own_ws p1 then (1 : Int32) else 0) = 1 from (by simp only [own_up, own_ws]; simp [hc3, hc9, hc15, hc21, hc27])]; rfl, rfl⟩
theorem d_method_6_0 : decode method_6_code 0 = .ok (.iload_n 0, 1) := by decide +kernel
theorem d_method_6_1 : decode method_6_code 1 = .ok (.iload_n 1, 1) := by decide +kernel
theorem d_method_6_2 : decode method_6_code 2 = .ok (.if_icmp .eq 33, 3) := by decide +kernel
theorem d_method_6_35 : decode method_6_code 35 = .ok (.iconst 1, 1) := by decide +kernel
theorem d_method_6_36 : decode method_6_code 36 = .ok (.goto 4, 3) := by decide +kernel
theorem d_method_6_40 : decode method_6_code 40 = .ok (.ireturn, 1) := by decide +kernel
theorem d_method_6_5 : decode method_6_code 5 = .ok (.iload_n 0, 1) := by decide +kernel
theorem pd_23 : parseMethodDescriptor "(C)Z" = some ⟨[.char], some .boolean⟩ := by decide +kernel
theorem d_method_6_6 : decode method_6_code 6 = .ok (.invokestatic 45, 3) := by decide +kernel
theorem d_method_6_9 : decode method_6_code 9 = .ok (.ifCond .eq 11, 3) := by decide +kernel
theorem d_method_6_20 : decode method_6_code 20 = .ok (.iload_n 1, 1) := by decide +kernel
theorem d_method_6_21 : decode method_6_code 21 = .ok (.invokestatic 45, 3) := by decide +kernel
theorem d_method_6_24 : decode method_6_code 24 = .ok (.ifCond .eq 15, 3) := by decide +kernel
theorem d_method_6_39 : decode method_6_code 39 = .ok (.iconst 0, 1) := by decide +kernel
theorem d_method_6_27 : decode method_6_code 27 = .ok (.iload_n 0, 1) := by decide +kernel
theorem d_method_6_28 : decode method_6_code 28 = .ok (.iload_n 1, 1) := by decide +kernel
theorem d_method_6_29 : decode method_6_code 29 = .ok (.bipush 32, 2) := by decide +kernel
theorem d_method_6_31 : decode method_6_code 31 = .ok (.iadd, 1) := by decide +kernel
theorem d_method_6_32 : decode method_6_code 32 = .ok (.if_icmp .ne 7, 3) := by decide +kernel
theorem d_method_6_12 : decode method_6_code 12 = .ok (.iload_n 1, 1) := by decide +kernel
theorem d_method_6_13 : decode method_6_code 13 = .ok (.iload_n 0, 1) := by decide +kernel
theorem d_method_6_14 : decode method_6_code 14 = .ok (.bipush 32, 2) := by decide +kernel
theorem d_method_6_16 : decode method_6_code 16 = .ok (.iadd, 1) := by decide +kernel
theorem d_method_6_17 : decode method_6_code 17 = .ok (.if_icmp .eq 18, 3) := by decide +kernel
theorem ef_rm_ci (m : MethodId) (q_0 : Int32) (q_1 : Int32)  : entryFrame m #[(.int q_0), (.int q_1)] 2 = mkF m 0 #[.val (.int q_0), .val (.int q_1)] [] := by  first | (simp [entryFrame, mkF, argsToLocals, Value.category]; done) | rfl
set_option maxRecDepth 65536 in
set_option maxHeartbeats 40000000 in
theorem rm_ci (l : Launch) (Z : State) (a0 : Array Value) (hw : ∀ d ∈ tables_1, d.before a0 Z = true) (more : List Jvm.Cond) (h0 : Heap) (p1 : Int32) (p2 : Int32)   :
    own_Met true false consts_1 l Z a0 (⟨"com/example/portcullis/portcullis/service/AuthorizationHeaderCredentialsPinLaw", "ci", "(CC)Z"⟩ : MethodName) method_6_code 2 (some .boolean) more ({ frames := 1, cells := 0, slots := 0, locals := 12 } : Room) #[(.int p1), (.int p2)] h0 [] (fun v h => v = some (.int (if own_ci p1 p2 then 1 else 0))) := by
  refine own_enter (own := "com/example/portcullis/portcullis/service/AuthorizationHeaderCredentialsPinLaw") rfl (plainFor_of_name pn_6) ?_
  intro p e s m below meth c T hx hby hml hret hlk hnm K
  rw [ef_rm_ci m p1 p2]
  have A := own_here K
  refine own_iloadN A hx (pc' := 1) (hb hby d_method_6_0) rfl rfl ?_
  refine own_iloadN A hx (pc' := 2) (hb hby d_method_6_1) rfl rfl ?_
  refine own_icmp_eq A hx 35 5 (hb hby d_method_6_2) (by decide) (by decide) rfl (fun hc2 => ?_) (fun hc2 => ?_)
  · refine own_iconst A hx (pc' := 36) (hb hby d_method_6_35) (z := (1 : Int32)) (by decide) rfl ?_
    refine own_goto A hx 40 (hb hby d_method_6_36) (by decide) (by decide) ?_
    exact own_retN K hx hlk hret (by simp) (hb hby d_method_6_40) (by decide) (by decide) (by show some (Value.int (nar .boolean 1)) = _; rw [if_pos (show own_ci p1 p2 from Or.inl hc2)]; rfl)
  · refine own_iloadN A hx (pc' := 6) (hb hby d_method_6_5) rfl rfl ?_
    refine own_callS K hx (by rw [hml]; rfl) (hw _ (List.mem_of_getElem? (i := 157) rfl)) (hw _ (List.mem_of_getElem? (i := 158) rfl)) (hw _ (List.mem_of_getElem? (i := 3) rfl)) (hw _ (List.mem_of_getElem? (i := 159) rfl)) (by decide) (rm_up l Z a0 hw [] h0 p1) (fun _ q => nomatch q) (argsL := [(.int p1)]) (rest := []) (lenOf pd_23 rfl) rfl 0 (Nat.le_of_eq rfl) (hb hby d_method_6_6) (pc' := 9) rfl (by decide) (by decide) (by decide) (by decide) ?_
    intro v78 T78 h78 K78 Kp78 Q78
    obtain ⟨rfl, -⟩ := Q78
    have A78 := own_here K78
    show own_Go p.tables e below _ T78 (mkF m 9 #[.val (.int p1), .val (.int p2)] [(.int (if own_up p1 then (1 : Int32) else 0))])
    refine own_if_eq A78 hx 20 12 (hb hby d_method_6_9) (by decide) (by decide) rfl (fun hc9 => ?_) (fun hc9 => ?_)
    · refine own_iloadN A78 hx (pc' := 21) (hb hby d_method_6_20) rfl rfl ?_
      refine own_callS K78 hx (by rw [hml]; rfl) (hw _ (List.mem_of_getElem? (i := 157) rfl)) (hw _ (List.mem_of_getElem? (i := 158) rfl)) (hw _ (List.mem_of_getElem? (i := 3) rfl)) (hw _ (List.mem_of_getElem? (i := 159) rfl)) (by decide) (rm_up l Z a0 hw [] h78 p2) (fun _ q => nomatch q) (argsL := [(.int p2)]) (rest := []) (lenOf pd_23 rfl) rfl 0 (Nat.le_of_eq rfl) (hb hby d_method_6_21) (pc' := 24) rfl (by decide) (by decide) (by decide) (by decide) ?_
      intro v79 T79 h79 K79 Kp79 Q79
      obtain ⟨rfl, -⟩ := Q79
      have A79 := own_here K79
      show own_Go p.tables e below _ T79 (mkF m 24 #[.val (.int p1), .val (.int p2)] [(.int (if own_up p2 then (1 : Int32) else 0))])
      refine own_if_eq A79 hx 39 27 (hb hby d_method_6_24) (by decide) (by decide) rfl (fun hc24 => ?_) (fun hc24 => ?_)
      · refine own_iconst A79 hx (pc' := 40) (hb hby d_method_6_39) (z := (0 : Int32)) (by decide) rfl ?_
        exact own_retN K79 hx hlk hret (by simp) (hb hby d_method_6_40) (by decide) (by decide) (by show some (Value.int (nar .boolean 0)) = _; rw [if_neg (fun q : own_ci p1 p2 => q.elim hc2 (fun u => u.elim (fun r => own_if0 hc9 r.1) (fun r => own_if0 hc24 r.1)))]; rfl)
      · refine own_iloadN A79 hx (pc' := 28) (hb hby d_method_6_27) rfl rfl ?_
        refine own_iloadN A79 hx (pc' := 29) (hb hby d_method_6_28) rfl rfl ?_
        refine own_bipush A79 hx (pc' := 31) (hb hby d_method_6_29) (z := (32 : Int32)) (by decide) rfl ?_
        refine own_iadd A79 hx (pc' := 32) (hb hby d_method_6_31) (z := (p2 + (32 : Int32))) rfl rfl ?_
        refine own_icmp_ne A79 hx 39 35 (hb hby d_method_6_32) (by decide) (by decide) rfl (fun hc32 => ?_) (fun hc32 => ?_)
        · refine own_iconst A79 hx (pc' := 40) (hb hby d_method_6_39) (z := (0 : Int32)) (by decide) rfl ?_
          exact own_retN K79 hx hlk hret (by simp) (hb hby d_method_6_40) (by decide) (by decide) (by show some (Value.int (nar .boolean 0)) = _; rw [if_neg (fun q : own_ci p1 p2 => q.elim hc2 (fun u => u.elim (fun r => own_if0 hc9 r.1) (fun r => hc32 r.2)))]; rfl)
        · refine own_iconst A79 hx (pc' := 36) (hb hby d_method_6_35) (z := (1 : Int32)) (by decide) rfl ?_
          refine own_goto A79 hx 40 (hb hby d_method_6_36) (by decide) (by decide) ?_
          exact own_retN K79 hx hlk hret (by simp) (hb hby d_method_6_40) (by decide) (by decide) (by show some (Value.int (nar .boolean 1)) = _; rw [if_pos (show own_ci p1 p2 from Or.inr (Or.inr ⟨own_if1 hc24, hc32⟩))]; rfl)
    · refine own_iloadN A78 hx (pc' := 13) (hb hby d_method_6_12) rfl rfl ?_
      refine own_iloadN A78 hx (pc' := 14) (hb hby d_method_6_13) rfl rfl ?_
      refine own_bipush A78 hx (pc' := 16) (hb hby d_method_6_14) (z := (32 : Int32)) (by decide) rfl ?_
      refine own_iadd A78 hx (pc' := 17) (hb hby d_method_6_16) (z := (p1 + (32 : Int32))) rfl rfl ?_
      refine own_icmp_eq A78 hx 35 20 (hb hby d_method_6_17) (by decide) (by decide) rfl (fun hc17 => ?_) (fun hc17 => ?_)
      · refine own_iconst A78 hx (pc' := 36) (hb hby d_method_6_35) (z := (1 : Int32)) (by decide) rfl ?_
        refine own_goto A78 hx 40 (hb hby d_method_6_36) (by decide) (by decide) ?_
        exact own_retN K78 hx hlk hret (by simp) (hb hby d_method_6_40) (by decide) (by decide) (by show some (Value.int (nar .boolean 1)) = _; rw [if_pos (show own_ci p1 p2 from Or.inr (Or.inl ⟨own_if1 hc9, hc17⟩))]; rfl)
      · refine own_iloadN A78 hx (pc' := 21) (hb hby d_method_6_20) rfl rfl ?_
        refine own_callS K78 hx (by rw [hml]; rfl) (hw _ (List.mem_of_getElem? (i := 157) rfl)) (hw _ (List.mem_of_getElem? (i := 158) rfl)) (hw _ (List.mem_of_getElem? (i := 3) rfl)) (hw _ (List.mem_of_getElem? (i := 159) rfl)) (by decide) (rm_up l Z a0 hw [] h78 p2) (fun _ q => nomatch q) (argsL := [(.int p2)]) (rest := []) (lenOf pd_23 rfl) rfl 0 (Nat.le_of_eq rfl) (hb hby d_method_6_21) (pc' := 24) rfl (by decide) (by decide) (by decide) (by decide) ?_
        intro v80 T80 h80 K80 Kp80 Q80
        obtain ⟨rfl, -⟩ := Q80
        have A80 := own_here K80
        show own_Go p.tables e below _ T80 (mkF m 24 #[.val (.int p1), .val (.int p2)] [(.int (if own_up p2 then (1 : Int32) else 0))])
        refine own_if_eq A80 hx 39 27 (hb hby d_method_6_24) (by decide) (by decide) rfl (fun hc24 => ?_) (fun hc24 => ?_)
        · refine own_iconst A80 hx (pc' := 40) (hb hby d_method_6_39) (z := (0 : Int32)) (by decide) rfl ?_
          exact own_retN K80 hx hlk hret (by simp) (hb hby d_method_6_40) (by decide) (by decide) (by show some (Value.int (nar .boolean 0)) = _; rw [if_neg (fun q : own_ci p1 p2 => q.elim hc2 (fun u => u.elim (fun r => hc17 r.2) (fun r => own_if0 hc24 r.1)))]; rfl)
        · refine own_iloadN A80 hx (pc' := 28) (hb hby d_method_6_27) rfl rfl ?_
          refine own_iloadN A80 hx (pc' := 29) (hb hby d_method_6_28) rfl rfl ?_
          refine own_bipush A80 hx (pc' := 31) (hb hby d_method_6_29) (z := (32 : Int32)) (by decide) rfl ?_
          refine own_iadd A80 hx (pc' := 32) (hb hby d_method_6_31) (z := (p2 + (32 : Int32))) rfl rfl ?_
          refine own_icmp_ne A80 hx 39 35 (hb hby d_method_6_32) (by decide) (by decide) rfl (fun hc32 => ?_) (fun hc32 => ?_)
          · refine own_iconst A80 hx (pc' := 40) (hb hby d_method_6_39) (z := (0 : Int32)) (by decide) rfl ?_
            exact own_retN K80 hx hlk hret (by simp) (hb hby d_method_6_40) (by decide) (by decide) (by show some (Value.int (nar .boolean 0)) = _; rw [if_neg (fun q : own_ci p1 p2 => q.elim hc2 (fun u => u.elim (fun r => hc17 r.2) (fun r => hc32 r.2)))]; rfl)
          · refine own_iconst A80 hx (pc' := 36) (hb hby d_method_6_35) (z := (1 : Int32)) (by decide) rfl ?_
            refine own_goto A80 hx 40 (hb hby d_method_6_36) (by decide) (by decide) ?_
            exact own_retN K80 hx hlk hret (by simp) (hb hby d_method_6_40) (by decide) (by decide) (by show some (Value.int (nar .boolean 1)) = _; rw [if_pos (show own_ci p1 p2 from Or.inr (Or.inr ⟨own_if1 hc24, hc32⟩))]; rfl)
theorem d_jdk_43_method_3_0 : decode jdk_43_method_3_code 0 = .ok (.iload_n 0, 1) := by decide +kernel
theorem d_jdk_43_method_3_1 : decode jdk_43_method_3_code 1 = .ok (.sipush 255, 3) := by decide +kernel
theorem d_jdk_43_method_3_4 : decode jdk_43_method_3_code 4 = .ok (.if_icmp .gt 7, 3) := by decide +kernel
theorem d_jdk_43_method_3_7 : decode jdk_43_method_3_code 7 = .ok (.iconst 1, 1) := by decide +kernel
theorem d_jdk_43_method_3_8 : decode jdk_43_method_3_code 8 = .ok (.goto 4, 3) := by decide +kernel
theorem d_jdk_43_method_3_12 : decode jdk_43_method_3_code 12 = .ok (.ireturn, 1) := by decide +kernel
theorem ef_rm_can (m : MethodId) (q_0 : Int32)  : entryFrame m #[(.int q_0)] 1 = mkF m 0 #[.val (.int q_0)] [] := by  first | (simp [entryFrame, mkF, argsToLocals, Value.category]; done) | rfl
set_option maxRecDepth 65536 in
set_option maxHeartbeats 40000000 in
theorem rm_can (l : Launch) (Z : State) (a0 : Array Value) (hw : ∀ d ∈ tables_1, d.before a0 Z = true) (more : List Jvm.Cond) (h0 : Heap) (p1 : Int32)  (hle : ¬ (255 : Int32) < p1) :
    own_Met true false consts_1 l Z a0 (⟨"java/lang/StringLatin1", "canEncode", "(C)Z"⟩ : MethodName) jdk_43_method_3_code 1 (some .boolean) more ({ frames := 0, cells := 0, slots := 0, locals := 0 } : Room) #[(.int p1)] h0 [] (fun v h => v = some (.int 1) ∧ h = h0) := by
  refine own_enter (own := "java/lang/StringLatin1") rfl (plainFor_of_name pn_0) ?_
  intro p e s m below meth c T hx hby hml hret hlk hnm K
  rw [ef_rm_can m p1]
  have A := own_here K
  refine own_iloadN A hx (pc' := 1) (hb hby d_jdk_43_method_3_0) rfl rfl ?_
  refine own_sipush A hx (pc' := 4) (hb hby d_jdk_43_method_3_1) (z := (255 : Int32)) (by decide) rfl ?_
  refine own_icmp_gt A hx 11 7 (hb hby d_jdk_43_method_3_4) (by decide) (by decide) rfl (fun hc4 => ?_) (fun hc4 => ?_)
  · exact absurd hc4 hle
  refine own_iconst A hx (pc' := 8) (hb hby d_jdk_43_method_3_7) (z := (1 : Int32)) (by decide) rfl ?_
  refine own_goto A hx 12 (hb hby d_jdk_43_method_3_8) (by decide) (by decide) ?_
  exact own_retN K hx hlk hret (by simp) (hb hby d_jdk_43_method_3_12) (by decide) (by decide) ⟨rfl, rfl⟩
theorem own_i8 (x : Int32) : x.toInt8.toInt32.toInt8.toInt32 = x.toInt8.toInt32 := by rw [Int8.toInt8_toInt32]
theorem d_jdk_43_method_46_0 : decode jdk_43_method_46_code 0 = .ok (.iconst 1, 1) := by decide +kernel
theorem d_jdk_43_method_46_1 : decode jdk_43_method_46_code 1 = .ok (.newarray .byte, 2) := by decide +kernel
theorem d_jdk_43_method_46_3 : decode jdk_43_method_46_code 3 = .ok (.dup, 1) := by decide +kernel
theorem d_jdk_43_method_46_4 : decode jdk_43_method_46_code 4 = .ok (.iconst 0, 1) := by decide +kernel
theorem d_jdk_43_method_46_5 : decode jdk_43_method_46_code 5 = .ok (.iload_n 0, 1) := by decide +kernel
theorem d_jdk_43_method_46_6 : decode jdk_43_method_46_code 6 = .ok (.i2b, 1) := by decide +kernel
theorem d_jdk_43_method_46_7 : decode jdk_43_method_46_code 7 = .ok (.bastore, 1) := by decide +kernel
theorem d_jdk_43_method_46_8 : decode jdk_43_method_46_code 8 = .ok (.areturn, 1) := by decide +kernel
theorem ef_rm_tb (m : MethodId) (q_0 : Int32)  : entryFrame m #[(.int q_0)] 1 = mkF m 0 #[.val (.int q_0)] [] := by  first | (simp [entryFrame, mkF, argsToLocals, Value.category]; done) | rfl
set_option maxRecDepth 65536 in
set_option maxHeartbeats 40000000 in
theorem rm_tb (l : Launch) (Z : State) (a0 : Array Value) (hw : ∀ d ∈ tables_1, d.before a0 Z = true) (more : List Jvm.Cond) (h0 : Heap) (p1 : Int32)   :
    own_Met true false consts_1 l Z a0 (⟨"java/lang/StringLatin1", "toBytes", "(C)[B"⟩ : MethodName) jdk_43_method_46_code 1 (some (.array .byte)) more ({ frames := 0, cells := 1, slots := 1, locals := 0 } : Room) #[(.int p1)] h0 [] (fun v h => ∃ b k, v = some (.ref b) ∧ Arv Z h b k .byte 1 [.int p1.toInt8.toInt32] (.int 0) ∧ h0.size ≤ b) := by
  refine own_enter (own := "java/lang/StringLatin1") rfl (plainFor_of_name pn_0) ?_
  intro p e s m below meth c T hx hby hml hret hlk hnm K
  rw [ef_rm_tb m p1]
  have A := own_here K
  refine own_iconst A hx (pc' := 1) (hb hby d_jdk_43_method_46_0) (z := (1 : Int32)) (by decide) rfl ?_
  refine own_newarr K hx (hw _ (List.mem_of_getElem? (i := 30) rfl)) (hb hby d_jdk_43_method_46_1) (pc' := 3) rfl (by decide) 1 (by decide) (by decide) (by decide) (by decide) ?_
  intro T81 h81 b81 k81 g81 K81 E81 V81
  have A81 := own_here K81
  have V81 : Arv Z h81 b81 k81 .byte (1 : Int32) [(.int (0 : Int32))] (.int (0 : Int32)) := V81.pad (pad_rep [] (.int (0 : Int32)) 1)
  refine own_dup A81 hx (pc' := 4) (hb hby d_jdk_43_method_46_3) rfl rfl ?_
  refine own_iconst A81 hx (pc' := 5) (hb hby d_jdk_43_method_46_4) (z := (0 : Int32)) (by decide) rfl ?_
  refine own_iloadN A81 hx (pc' := 6) (hb hby d_jdk_43_method_46_5) rfl rfl ?_
  refine own_i2b A81 hx (pc' := 7) (hb hby d_jdk_43_method_46_6) (z := (p1.toInt8.toInt32)) rfl rfl ?_
  refine own_stB K81 hx V81 (List.mem_of_getElem? (i := 0) rfl) (by decide) 0 rfl (Nat.le_of_ble_eq_true rfl) (hb hby d_jdk_43_method_46_7) (pc' := 8) rfl ?_
  intro T82 h82 K82 W82 V82
  have A82 := own_here K82
  rw [own_i8] at V82
  exact own_retR K82 hx hlk hret rfl rfl (hb hby d_jdk_43_method_46_8) (by decide) (by decide) ⟨_, _, rfl, V82, by rw [g81]; exact Nat.le_refl _⟩
theorem d_jdk_42_method_139_0 : decode jdk_42_method_139_code 0 = .ok (.getstatic 38, 3) := by decide +kernel
theorem d_jdk_42_method_139_3 : decode jdk_42_method_139_code 3 = .ok (.ifCond .eq 23, 3) := by decide +kernel
theorem d_jdk_42_method_139_6 : decode jdk_42_method_139_code 6 = .ok (.iload_n 0, 1) := by decide +kernel
theorem d_jdk_42_method_139_7 : decode jdk_42_method_139_code 7 = .ok (.invokestatic 1015, 3) := by decide +kernel
theorem d_jdk_42_method_139_10 : decode jdk_42_method_139_code 10 = .ok (.ifCond .eq 16, 3) := by decide +kernel
theorem d_jdk_42_method_139_13 : decode jdk_42_method_139_code 13 = .ok (.new 10, 3) := by decide +kernel
theorem d_jdk_42_method_139_16 : decode jdk_42_method_139_code 16 = .ok (.dup, 1) := by decide +kernel
theorem d_jdk_42_method_139_17 : decode jdk_42_method_139_code 17 = .ok (.iload_n 0, 1) := by decide +kernel
theorem pd_24 : parseMethodDescriptor "(C)[B" = some ⟨[.char], some (.array .byte)⟩ := by decide +kernel
theorem d_jdk_42_method_139_18 : decode jdk_42_method_139_code 18 = .ok (.invokestatic 1018, 3) := by decide +kernel
theorem d_jdk_42_method_139_21 : decode jdk_42_method_139_code 21 = .ok (.iconst 0, 1) := by decide +kernel
theorem d_jdk_42_method_139_22 : decode jdk_42_method_139_code 22 = .ok (.invokespecial 209, 3) := by decide +kernel
theorem d_jdk_42_method_139_25 : decode jdk_42_method_139_code 25 = .ok (.areturn, 1) := by decide +kernel
theorem ef_rm_vof (m : MethodId) (q_0 : Int32)  : entryFrame m #[(.int q_0)] 1 = mkF m 0 #[.val (.int q_0)] [] := by  first | (simp [entryFrame, mkF, argsToLocals, Value.category]; done) | rfl
set_option maxRecDepth 65536 in
set_option maxHeartbeats 40000000 in
theorem rm_vof (l : Launch) (Z : State) (a0 : Array Value) (hw : ∀ d ∈ tables_1, d.before a0 Z = true) (more : List Jvm.Cond) (h0 : Heap) (p1 : Int32)  (G1 : Int32) (O2 : Sta Z Z.heap "java/lang/String" "COMPACT_STRINGS" "Z" (.int G1)) (P5 : ¬ (G1 = (0 : Int32))) (hge : ¬ p1 < 0) (hle : ¬ (255 : Int32) < p1) :
    own_Met true false consts_1 l Z a0 (⟨"java/lang/String", "valueOf", "(C)Ljava/lang/String;"⟩ : MethodName) jdk_42_method_139_code 1 (some (.object "java/lang/String")) more ({ frames := 2, cells := 2, slots := 5, locals := 27 } : Room) #[(.int p1)] h0 [] (fun v h => ∃ a, v = some (.ref a) ∧ own_Str Z h a [p1]) := by
  refine own_enter (own := "java/lang/String") rfl (plainFor_of_name pn_1) ?_
  intro p e s m below meth c T hx hby hml hret hlk hnm K
  rw [ef_rm_vof m p1]
  have A := own_here K
  refine own_getS K hx (host := "") (Or.inl (hw _ (List.mem_of_getElem? (i := 25) rfl))) Via.refl O2 (hb hby d_jdk_42_method_139_0) (pc' := 3) rfl ?_
  intro T83 K83
  have A83 := own_here K83
  refine own_if_eq A83 hx 26 6 (hb hby d_jdk_42_method_139_3) (by decide) (by decide) rfl (fun hc3 => ?_) (fun hc3 => ?_)
  · exact absurd hc3 P5
  refine own_iloadN A83 hx (pc' := 7) (hb hby d_jdk_42_method_139_6) rfl rfl ?_
  refine own_callS K83 hx (by rw [hml]; rfl) (hw _ (List.mem_of_getElem? (i := 98) rfl)) (hw _ (List.mem_of_getElem? (i := 99) rfl)) (hw _ (List.mem_of_getElem? (i := 75) rfl)) (hw _ (List.mem_of_getElem? (i := 100) rfl)) (by decide) (rm_can l Z a0 hw [] h0 p1 hle) (fun _ q => nomatch q) (argsL := [(.int p1)]) (rest := []) (lenOf pd_23 rfl) rfl 0 (Nat.le_of_eq rfl) (hb hby d_jdk_42_method_139_7) (pc' := 10) rfl (by decide) (by decide) (by decide) (by decide) ?_
  intro v84 T84 h84 K84 Kp84 Q84
  obtain ⟨rfl, -⟩ := Q84
  have A84 := own_here K84
  show own_Go p.tables e below _ T84 (mkF m 10 #[.val (.int p1)] [(.int (1 : Int32))])
  refine own_if_eq A84 hx 26 13 (hb hby d_jdk_42_method_139_10) (by decide) (by decide) rfl (fun hc10 => ?_) (fun hc10 => ?_)
  · exact absurd hc10 (by decide)
  refine own_new K84 hx (hw _ (List.mem_of_getElem? (i := 101) rfl)) (hw _ (List.mem_of_getElem? (i := 13) rfl)) (hw _ (List.mem_of_getElem? (i := 14) rfl)) (hb hby d_jdk_42_method_139_13) (pc' := 16) rfl (by decide) (by decide) ?_
  intro T85 h85 b85 g85 K85 E85 X85 D85 U85
  have A85 := own_here K85
  have F_value_b85 := D85 (Or.inr (hw _ (List.mem_of_getElem? (i := 40) rfl))) (ty := (.array .byte)) (by decide)
  have F_coder_b85 := D85 (Or.inr (hw _ (List.mem_of_getElem? (i := 38) rfl))) (ty := .byte) (by decide)
  refine own_dup A85 hx (pc' := 17) (hb hby d_jdk_42_method_139_16) rfl rfl ?_
  have X0_b85 := X85
  refine own_iloadN A85 hx (pc' := 18) (hb hby d_jdk_42_method_139_17) rfl rfl ?_
  refine own_callS K85 hx (by rw [hml]; rfl) (hw _ (List.mem_of_getElem? (i := 102) rfl)) (hw _ (List.mem_of_getElem? (i := 103) rfl)) (hw _ (List.mem_of_getElem? (i := 75) rfl)) (hw _ (List.mem_of_getElem? (i := 104) rfl)) (by decide) (rm_tb l Z a0 hw [] h85 p1) (fun _ q => nomatch q) (argsL := [(.int p1)]) (rest := [(.ref b85), (.ref b85)]) (lenOf pd_24 rfl) rfl 2 (Nat.le_of_eq rfl) (hb hby d_jdk_42_method_139_18) (pc' := 21) rfl (by decide) (by decide) (by decide) (by decide) ?_
  intro v86 T86 h86 K86 Kp86 Q86
  obtain ⟨t86, kt86, rfl, Y86, ge86⟩ := Q86
  have X85 := X85.keep Kp86
  have F_value_b85 := F_value_b85.keep Kp86 nin0
  have F_coder_b85 := F_coder_b85.keep Kp86 nin0
  have A86 := own_here K86
  show own_Go p.tables e below _ T86 (mkF m 21 #[.val (.int p1)] [(.ref t86), (.ref b85), (.ref b85)])
  have ne_t86 : t86 ≠ b85 := fun q => Nat.lt_irrefl _ (Nat.lt_of_lt_of_le X0_b85.lt (q ▸ ge86))
  refine own_iconst A86 hx (pc' := 22) (hb hby d_jdk_42_method_139_21) (z := (0 : Int32)) (by decide) rfl ?_
  refine own_callSp K86 hx (by rw [hml]; rfl) rfl (hw _ (List.mem_of_getElem? (i := 105) rfl)) (hw _ (List.mem_of_getElem? (i := 106) rfl)) (hw _ (List.mem_of_getElem? (i := 14) rfl)) (hw _ (List.mem_of_getElem? (i := 107) rfl)) (by decide) (rm_i2 l Z a0 hw [] h86 b85 t86 _ _ X85 F_value_b85 F_coder_b85) (own_mem1 (List.mem_of_getElem? (i := 0) rfl)) (argsL := [(.ref t86), (.int (0 : Int32))]) (rest := [(.ref b85)]) (lenOf pd_8 rfl) rfl 1 (Nat.le_of_eq rfl) (hb hby d_jdk_42_method_139_22) (pc' := 25) rfl (by decide) (by decide) (by decide) (by decide) ?_
  intro v87 T87 h87 K87 Kp87 Q87
  obtain ⟨rfl, E87, V87, C87⟩ := Q87
  have X85 := X85.keep Kp87
  have Y86 := Y86.keep Kp87 (ninS ne_t86 nin0)
  have A87 := own_here K87
  show own_Go p.tables e below _ T87 (mkF m 25 #[.val (.int p1)] [(.ref b85)])
  exact own_retR K87 hx hlk hret rfl rfl (hb hby d_jdk_42_method_139_25) (by decide) (by decide) ⟨_, rfl, own_Str.of0 E87 V87 C87 Y86 rfl rfl (fun c hc => by cases List.mem_singleton.mp hc; exact ⟨hge, hle⟩) (Nat.le_of_ble_eq_true rfl)⟩
theorem own_d5 {d : Nat} (h : d ≤ 5) : d = 0 ∨ d = 1 ∨ d = 2 ∨ d = 3 ∨ d = 4 ∨ d = 5 := by omega
theorem own_tk1 {cs : List Int32} {i d : Nat} (h : i < cs.length) : (cs.drop i).take (d + 1) = cs.getD i 0 :: (cs.drop (i + 1)).take d := by
  rw [List.drop_eq_getElem_cons h, List.take_succ_cons, List.getD_eq_getElem?_getD, List.getElem?_eq_getElem h]; rfl
theorem own_narG {cs : List Int32} {k : Nat} (hb : ∀ c ∈ cs, ¬ c < 0 ∧ ¬ (65535 : Int32) < c) (h : k < cs.length) : nar .char (cs.getD k 0) = cs.getD k 0 := own_narC (hb _ (own_getD' h)).1 (hb _ (own_getD' h)).2
theorem d_method_8_0 : decode method_8_code 0 = .ok (.iload_n 2, 1) := by decide +kernel
theorem d_method_8_1 : decode method_8_code 1 = .ok (.iload_n 1, 1) := by decide +kernel
theorem d_method_8_2 : decode method_8_code 2 = .ok (.isub, 1) := by decide +kernel
theorem d_method_8_3 : decode method_8_code 3 = .ok (.istore_n 3, 1) := by decide +kernel
theorem d_method_8_4 : decode method_8_code 4 = .ok (.iload_n 3, 1) := by decide +kernel
theorem d_method_8_5 : decode method_8_code 5 = .ok (.ifCond .gt 6, 3) := by decide +kernel
theorem d_method_8_8 : decode method_8_code 8 = .ok (.ldc 31, 2) := by decide +kernel
theorem d_method_8_10 : decode method_8_code 10 = .ok (.areturn, 1) := by decide +kernel
theorem d_method_8_11 : decode method_8_code 11 = .ok (.iload_n 3, 1) := by decide +kernel
theorem d_method_8_12 : decode method_8_code 12 = .ok (.iconst 1, 1) := by decide +kernel
theorem d_method_8_13 : decode method_8_code 13 = .ok (.if_icmp .ne 10, 3) := by decide +kernel
theorem d_method_8_16 : decode method_8_code 16 = .ok (.aload_n 0, 1) := by decide +kernel
theorem d_method_8_17 : decode method_8_code 17 = .ok (.iload_n 1, 1) := by decide +kernel
theorem d_method_8_18 : decode method_8_code 18 = .ok (.caload, 1) := by decide +kernel
theorem pd_25 : parseMethodDescriptor "(C)Ljava/lang/String;" = some ⟨[.char], some (.object "java/lang/String")⟩ := by decide +kernel
theorem d_method_8_19 : decode method_8_code 19 = .ok (.invokestatic 48, 3) := by decide +kernel
theorem d_method_8_22 : decode method_8_code 22 = .ok (.areturn, 1) := by decide +kernel
theorem d_method_8_23 : decode method_8_code 23 = .ok (.iload_n 3, 1) := by decide +kernel
theorem d_method_8_24 : decode method_8_code 24 = .ok (.iconst 2, 1) := by decide +kernel
theorem d_method_8_25 : decode method_8_code 25 = .ok (.if_icmp .ne 28, 3) := by decide +kernel
theorem d_method_8_28 : decode method_8_code 28 = .ok (.new 34, 3) := by decide +kernel
theorem d_method_8_31 : decode method_8_code 31 = .ok (.dup, 1) := by decide +kernel
theorem d_method_8_32 : decode method_8_code 32 = .ok (.iconst 2, 1) := by decide +kernel
theorem d_method_8_33 : decode method_8_code 33 = .ok (.newarray .char, 2) := by decide +kernel
theorem d_method_8_35 : decode method_8_code 35 = .ok (.dup, 1) := by decide +kernel
theorem d_method_8_36 : decode method_8_code 36 = .ok (.iconst 0, 1) := by decide +kernel
theorem d_method_8_37 : decode method_8_code 37 = .ok (.aload_n 0, 1) := by decide +kernel
theorem d_method_8_38 : decode method_8_code 38 = .ok (.iload_n 1, 1) := by decide +kernel
theorem d_method_8_39 : decode method_8_code 39 = .ok (.caload, 1) := by decide +kernel
theorem d_method_8_40 : decode method_8_code 40 = .ok (.castore, 1) := by decide +kernel
theorem d_method_8_41 : decode method_8_code 41 = .ok (.dup, 1) := by decide +kernel
theorem d_method_8_42 : decode method_8_code 42 = .ok (.iconst 1, 1) := by decide +kernel
theorem d_method_8_43 : decode method_8_code 43 = .ok (.aload_n 0, 1) := by decide +kernel
theorem d_method_8_44 : decode method_8_code 44 = .ok (.iload_n 1, 1) := by decide +kernel
theorem d_method_8_45 : decode method_8_code 45 = .ok (.iconst 1, 1) := by decide +kernel
theorem d_method_8_46 : decode method_8_code 46 = .ok (.iadd, 1) := by decide +kernel
theorem d_method_8_47 : decode method_8_code 47 = .ok (.caload, 1) := by decide +kernel
theorem d_method_8_48 : decode method_8_code 48 = .ok (.castore, 1) := by decide +kernel
theorem pd_26 : parseMethodDescriptor "([C)V" = some ⟨[(.array .char)], none⟩ := by decide +kernel
theorem d_method_8_49 : decode method_8_code 49 = .ok (.invokespecial 52, 3) := by decide +kernel
theorem d_method_8_52 : decode method_8_code 52 = .ok (.areturn, 1) := by decide +kernel
theorem d_method_8_53 : decode method_8_code 53 = .ok (.iload_n 3, 1) := by decide +kernel
theorem d_method_8_54 : decode method_8_code 54 = .ok (.iconst 3, 1) := by decide +kernel
theorem d_method_8_55 : decode method_8_code 55 = .ok (.if_icmp .ne 36, 3) := by decide +kernel
theorem d_method_8_58 : decode method_8_code 58 = .ok (.new 34, 3) := by decide +kernel
theorem d_method_8_61 : decode method_8_code 61 = .ok (.dup, 1) := by decide +kernel
theorem d_method_8_62 : decode method_8_code 62 = .ok (.iconst 3, 1) := by decide +kernel
theorem d_method_8_63 : decode method_8_code 63 = .ok (.newarray .char, 2) := by decide +kernel
theorem d_method_8_65 : decode method_8_code 65 = .ok (.dup, 1) := by decide +kernel
theorem d_method_8_66 : decode method_8_code 66 = .ok (.iconst 0, 1) := by decide +kernel
theorem d_method_8_67 : decode method_8_code 67 = .ok (.aload_n 0, 1) := by decide +kernel
theorem d_method_8_68 : decode method_8_code 68 = .ok (.iload_n 1, 1) := by decide +kernel
theorem d_method_8_69 : decode method_8_code 69 = .ok (.caload, 1) := by decide +kernel
theorem d_method_8_70 : decode method_8_code 70 = .ok (.castore, 1) := by decide +kernel
theorem d_method_8_71 : decode method_8_code 71 = .ok (.dup, 1) := by decide +kernel
theorem d_method_8_72 : decode method_8_code 72 = .ok (.iconst 1, 1) := by decide +kernel
theorem d_method_8_73 : decode method_8_code 73 = .ok (.aload_n 0, 1) := by decide +kernel
theorem d_method_8_74 : decode method_8_code 74 = .ok (.iload_n 1, 1) := by decide +kernel
theorem d_method_8_75 : decode method_8_code 75 = .ok (.iconst 1, 1) := by decide +kernel
theorem d_method_8_76 : decode method_8_code 76 = .ok (.iadd, 1) := by decide +kernel
theorem d_method_8_77 : decode method_8_code 77 = .ok (.caload, 1) := by decide +kernel
theorem d_method_8_78 : decode method_8_code 78 = .ok (.castore, 1) := by decide +kernel
theorem d_method_8_79 : decode method_8_code 79 = .ok (.dup, 1) := by decide +kernel
theorem d_method_8_80 : decode method_8_code 80 = .ok (.iconst 2, 1) := by decide +kernel
theorem d_method_8_81 : decode method_8_code 81 = .ok (.aload_n 0, 1) := by decide +kernel
theorem d_method_8_82 : decode method_8_code 82 = .ok (.iload_n 1, 1) := by decide +kernel
theorem d_method_8_83 : decode method_8_code 83 = .ok (.iconst 2, 1) := by decide +kernel
theorem d_method_8_84 : decode method_8_code 84 = .ok (.iadd, 1) := by decide +kernel
theorem d_method_8_85 : decode method_8_code 85 = .ok (.caload, 1) := by decide +kernel
theorem d_method_8_86 : decode method_8_code 86 = .ok (.castore, 1) := by decide +kernel
theorem d_method_8_87 : decode method_8_code 87 = .ok (.invokespecial 52, 3) := by decide +kernel
theorem d_method_8_90 : decode method_8_code 90 = .ok (.areturn, 1) := by decide +kernel
theorem d_method_8_91 : decode method_8_code 91 = .ok (.iload_n 3, 1) := by decide +kernel
theorem d_method_8_92 : decode method_8_code 92 = .ok (.iconst 4, 1) := by decide +kernel
theorem d_method_8_93 : decode method_8_code 93 = .ok (.if_icmp .ne 44, 3) := by decide +kernel
theorem d_method_8_96 : decode method_8_code 96 = .ok (.new 34, 3) := by decide +kernel
theorem d_method_8_99 : decode method_8_code 99 = .ok (.dup, 1) := by decide +kernel
theorem d_method_8_100 : decode method_8_code 100 = .ok (.iconst 4, 1) := by decide +kernel
theorem d_method_8_101 : decode method_8_code 101 = .ok (.newarray .char, 2) := by decide +kernel
theorem d_method_8_103 : decode method_8_code 103 = .ok (.dup, 1) := by decide +kernel
theorem d_method_8_104 : decode method_8_code 104 = .ok (.iconst 0, 1) := by decide +kernel
theorem d_method_8_105 : decode method_8_code 105 = .ok (.aload_n 0, 1) := by decide +kernel
theorem d_method_8_106 : decode method_8_code 106 = .ok (.iload_n 1, 1) := by decide +kernel
theorem d_method_8_107 : decode method_8_code 107 = .ok (.caload, 1) := by decide +kernel
theorem d_method_8_108 : decode method_8_code 108 = .ok (.castore, 1) := by decide +kernel
theorem d_method_8_109 : decode method_8_code 109 = .ok (.dup, 1) := by decide +kernel
theorem d_method_8_110 : decode method_8_code 110 = .ok (.iconst 1, 1) := by decide +kernel
theorem d_method_8_111 : decode method_8_code 111 = .ok (.aload_n 0, 1) := by decide +kernel
theorem d_method_8_112 : decode method_8_code 112 = .ok (.iload_n 1, 1) := by decide +kernel
theorem d_method_8_113 : decode method_8_code 113 = .ok (.iconst 1, 1) := by decide +kernel
theorem d_method_8_114 : decode method_8_code 114 = .ok (.iadd, 1) := by decide +kernel
theorem d_method_8_115 : decode method_8_code 115 = .ok (.caload, 1) := by decide +kernel
theorem d_method_8_116 : decode method_8_code 116 = .ok (.castore, 1) := by decide +kernel
theorem d_method_8_117 : decode method_8_code 117 = .ok (.dup, 1) := by decide +kernel
theorem d_method_8_118 : decode method_8_code 118 = .ok (.iconst 2, 1) := by decide +kernel
theorem d_method_8_119 : decode method_8_code 119 = .ok (.aload_n 0, 1) := by decide +kernel
theorem d_method_8_120 : decode method_8_code 120 = .ok (.iload_n 1, 1) := by decide +kernel
theorem d_method_8_121 : decode method_8_code 121 = .ok (.iconst 2, 1) := by decide +kernel
theorem d_method_8_122 : decode method_8_code 122 = .ok (.iadd, 1) := by decide +kernel
theorem d_method_8_123 : decode method_8_code 123 = .ok (.caload, 1) := by decide +kernel
theorem d_method_8_124 : decode method_8_code 124 = .ok (.castore, 1) := by decide +kernel
theorem d_method_8_125 : decode method_8_code 125 = .ok (.dup, 1) := by decide +kernel
theorem d_method_8_126 : decode method_8_code 126 = .ok (.iconst 3, 1) := by decide +kernel
theorem d_method_8_127 : decode method_8_code 127 = .ok (.aload_n 0, 1) := by decide +kernel
theorem d_method_8_128 : decode method_8_code 128 = .ok (.iload_n 1, 1) := by decide +kernel
theorem d_method_8_129 : decode method_8_code 129 = .ok (.iconst 3, 1) := by decide +kernel
theorem d_method_8_130 : decode method_8_code 130 = .ok (.iadd, 1) := by decide +kernel
theorem d_method_8_131 : decode method_8_code 131 = .ok (.caload, 1) := by decide +kernel
theorem d_method_8_132 : decode method_8_code 132 = .ok (.castore, 1) := by decide +kernel
theorem d_method_8_133 : decode method_8_code 133 = .ok (.invokespecial 52, 3) := by decide +kernel
theorem d_method_8_136 : decode method_8_code 136 = .ok (.areturn, 1) := by decide +kernel
theorem d_method_8_137 : decode method_8_code 137 = .ok (.new 34, 3) := by decide +kernel
theorem d_method_8_140 : decode method_8_code 140 = .ok (.dup, 1) := by decide +kernel
theorem d_method_8_141 : decode method_8_code 141 = .ok (.iconst 5, 1) := by decide +kernel
theorem d_method_8_142 : decode method_8_code 142 = .ok (.newarray .char, 2) := by decide +kernel
theorem d_method_8_144 : decode method_8_code 144 = .ok (.dup, 1) := by decide +kernel
theorem d_method_8_145 : decode method_8_code 145 = .ok (.iconst 0, 1) := by decide +kernel
theorem d_method_8_146 : decode method_8_code 146 = .ok (.aload_n 0, 1) := by decide +kernel
theorem d_method_8_147 : decode method_8_code 147 = .ok (.iload_n 1, 1) := by decide +kernel
theorem d_method_8_148 : decode method_8_code 148 = .ok (.caload, 1) := by decide +kernel
theorem d_method_8_149 : decode method_8_code 149 = .ok (.castore, 1) := by decide +kernel
theorem d_method_8_150 : decode method_8_code 150 = .ok (.dup, 1) := by decide +kernel
theorem d_method_8_151 : decode method_8_code 151 = .ok (.iconst 1, 1) := by decide +kernel
theorem d_method_8_152 : decode method_8_code 152 = .ok (.aload_n 0, 1) := by decide +kernel
theorem d_method_8_153 : decode method_8_code 153 = .ok (.iload_n 1, 1) := by decide +kernel
theorem d_method_8_154 : decode method_8_code 154 = .ok (.iconst 1, 1) := by decide +kernel
theorem d_method_8_155 : decode method_8_code 155 = .ok (.iadd, 1) := by decide +kernel
theorem d_method_8_156 : decode method_8_code 156 = .ok (.caload, 1) := by decide +kernel
theorem d_method_8_157 : decode method_8_code 157 = .ok (.castore, 1) := by decide +kernel
theorem d_method_8_158 : decode method_8_code 158 = .ok (.dup, 1) := by decide +kernel
theorem d_method_8_159 : decode method_8_code 159 = .ok (.iconst 2, 1) := by decide +kernel
theorem d_method_8_160 : decode method_8_code 160 = .ok (.aload_n 0, 1) := by decide +kernel
theorem d_method_8_161 : decode method_8_code 161 = .ok (.iload_n 1, 1) := by decide +kernel
theorem d_method_8_162 : decode method_8_code 162 = .ok (.iconst 2, 1) := by decide +kernel
theorem d_method_8_163 : decode method_8_code 163 = .ok (.iadd, 1) := by decide +kernel
theorem d_method_8_164 : decode method_8_code 164 = .ok (.caload, 1) := by decide +kernel
theorem d_method_8_165 : decode method_8_code 165 = .ok (.castore, 1) := by decide +kernel
theorem d_method_8_166 : decode method_8_code 166 = .ok (.dup, 1) := by decide +kernel
theorem d_method_8_167 : decode method_8_code 167 = .ok (.iconst 3, 1) := by decide +kernel
theorem d_method_8_168 : decode method_8_code 168 = .ok (.aload_n 0, 1) := by decide +kernel
theorem d_method_8_169 : decode method_8_code 169 = .ok (.iload_n 1, 1) := by decide +kernel
theorem d_method_8_170 : decode method_8_code 170 = .ok (.iconst 3, 1) := by decide +kernel
theorem d_method_8_171 : decode method_8_code 171 = .ok (.iadd, 1) := by decide +kernel
theorem d_method_8_172 : decode method_8_code 172 = .ok (.caload, 1) := by decide +kernel
theorem d_method_8_173 : decode method_8_code 173 = .ok (.castore, 1) := by decide +kernel
theorem d_method_8_174 : decode method_8_code 174 = .ok (.dup, 1) := by decide +kernel
theorem d_method_8_175 : decode method_8_code 175 = .ok (.iconst 4, 1) := by decide +kernel
theorem d_method_8_176 : decode method_8_code 176 = .ok (.aload_n 0, 1) := by decide +kernel
theorem d_method_8_177 : decode method_8_code 177 = .ok (.iload_n 1, 1) := by decide +kernel
theorem d_method_8_178 : decode method_8_code 178 = .ok (.iconst 4, 1) := by decide +kernel
theorem d_method_8_179 : decode method_8_code 179 = .ok (.iadd, 1) := by decide +kernel
theorem d_method_8_180 : decode method_8_code 180 = .ok (.caload, 1) := by decide +kernel
theorem d_method_8_181 : decode method_8_code 181 = .ok (.castore, 1) := by decide +kernel
theorem d_method_8_182 : decode method_8_code 182 = .ok (.invokespecial 52, 3) := by decide +kernel
theorem d_method_8_185 : decode method_8_code 185 = .ok (.areturn, 1) := by decide +kernel
theorem ef_rm_sl (m : MethodId) (q_0 : Addr) (q_1 : Int32) (q_2 : Int32)  : entryFrame m #[(.ref q_0), (.int q_1), (.int q_2)] 4 = mkF m 0 #[.val (.ref q_0), .val (.int q_1), .val (.int q_2), .unset] [] := by  first | (simp [entryFrame, mkF, argsToLocals, Value.category]; done) | rfl
set_option maxRecDepth 65536 in
set_option maxHeartbeats 40000000 in
theorem rm_sl (l : Launch) (Z : State) (a0 : Array Value) (hw : ∀ d ∈ tables_1, d.before a0 Z = true) (more : List Jvm.Cond) (h0 : Heap) (b : Addr) (cs : List Int32) (kC : ClassId) (dz : Value) (i j : Nat) (G1 : Int32) (O2 : Sta Z Z.heap "java/lang/String" "COMPACT_STRINGS" "Z" (.int G1)) (P5 : ¬ (G1 = (0 : Int32))) (Ar : Arv Z h0 b kC .char (Int32.ofNat cs.length) (cs.map Value.int) dz) (hlat : ∀ c ∈ cs, ¬ (255 : Int32) < c) (hbc : ∀ c ∈ cs, ¬ c < 0 ∧ ¬ (65535 : Int32) < c) (hij : i ≤ j) (hjn : j ≤ cs.length) (hl5 : cs.length ≤ 5) :
    own_Met true false consts_1 l Z a0 (⟨"com/example/portcullis/portcullis/service/AuthorizationHeaderCredentialsPinLaw", "slice", "([CII)Ljava/lang/String;"⟩ : MethodName) method_8_code 4 (some (.object "java/lang/String")) more ({ frames := 4, cells := 3, slots := 14, locals := 66 } : Room) #[(.ref b), (.int (Int32.ofNat i)), (.int (Int32.ofNat j))] h0 [] (fun v h => ∃ a, v = some (.ref a) ∧ own_Str Z h a ((cs.drop i).take (j - i))) := by
  refine own_enter (own := "com/example/portcullis/portcullis/service/AuthorizationHeaderCredentialsPinLaw") rfl (plainFor_of_name pn_6) ?_
  intro p e s m below meth c T hx hby hml hret hlk hnm K
  rw [ef_rm_sl m b (Int32.ofNat i) (Int32.ofNat j)]
  have A := own_here K
  refine own_iloadN A hx (pc' := 1) (hb hby d_method_8_0) rfl rfl ?_
  refine own_iloadN A hx (pc' := 2) (hb hby d_method_8_1) rfl rfl ?_
  refine own_isub A hx (pc' := 3) (hb hby d_method_8_2) (z := ((Int32.ofNat j) - (Int32.ofNat i))) rfl rfl ?_
  rw [own_natsub (by omega) hij]
  obtain ⟨d, rfl⟩ : ∃ d, j = i + d := ⟨j - i, by omega⟩
  rw [Nat.add_sub_cancel_left]
  rcases own_d5 (d := d) (by omega) with rfl | rfl | rfl | rfl | rfl | rfl
  · show own_Go p.tables e below _ T (mkF m 3 #[.val (.ref b), .val (.int (Int32.ofNat i)), .val (.int (Int32.ofNat (i + 0))), .unset] [(.int (0 : Int32))])
    refine own_istoreN A hx (pc' := 4) #[.val (.ref b), .val (.int (Int32.ofNat i)), .val (.int (Int32.ofNat (i + 0))), .val (.int (0 : Int32))] (hb hby d_method_8_3) rfl rfl ?_
    refine own_iloadN A hx (pc' := 5) (hb hby d_method_8_4) rfl rfl ?_
    refine own_if_gt A hx 11 8 (hb hby d_method_8_5) (by decide) (by decide) rfl (fun hc5 => ?_) (fun hc5 => ?_)
    · exact absurd hc5 (by decide)
    refine own_ldcR (n := 0) (zn := (0 : Int32)) (vs := []) K hx (hw _ (List.mem_of_getElem? (i := 41) rfl)) (own_sa hw) (by decide +kernel) ⟨by decide +kernel, by decide +kernel⟩ (by decide) (by decide) (hb hby d_method_8_8) (pc' := 10) rfl (by decide +kernel) (by decide) (by decide) (by decide) ?_
    intro b88 T88 h88 t88 kt88 K88 E88 X88 C88 V88 Y88 N88
    have Ar := Ar.ext E88
    have A88 := own_here K88
    have S88 := own_Str.of0 (cs := []) X88 V88 C88 Y88 rfl (by decide +kernel) (by decide +kernel) (by decide)
    exact own_retR K88 hx hlk hret rfl rfl (hb hby d_method_8_10) (by decide) (by decide) ⟨_, rfl, by rw [List.take_zero]; exact S88⟩
  · show own_Go p.tables e below _ T (mkF m 3 #[.val (.ref b), .val (.int (Int32.ofNat i)), .val (.int (Int32.ofNat (i + 1))), .unset] [(.int (1 : Int32))])
    refine own_istoreN A hx (pc' := 4) #[.val (.ref b), .val (.int (Int32.ofNat i)), .val (.int (Int32.ofNat (i + 1))), .val (.int (1 : Int32))] (hb hby d_method_8_3) rfl rfl ?_
    refine own_iloadN A hx (pc' := 5) (hb hby d_method_8_4) rfl rfl ?_
    refine own_if_gt A hx 11 8 (hb hby d_method_8_5) (by decide) (by decide) rfl (fun hc5 => ?_) (fun hc5 => ?_)
    rotate_left
    · exact absurd hc5 (by decide)
    refine own_iloadN A hx (pc' := 12) (hb hby d_method_8_11) rfl rfl ?_
    refine own_iconst A hx (pc' := 13) (hb hby d_method_8_12) (z := (1 : Int32)) (by decide) rfl ?_
    refine own_icmp_ne A hx 23 16 (hb hby d_method_8_13) (by decide) (by decide) rfl (fun hc13 => ?_) (fun hc13 => ?_)
    · exact absurd hc13 (by decide)
    refine own_aloadN A hx (pc' := 17) (hb hby d_method_8_16) rfl rfl rfl ?_
    refine own_iloadN A hx (pc' := 18) (hb hby d_method_8_17) rfl rfl ?_
    refine own_ldC K hx Ar (own_natlt (by omega) (by omega)) (by rw [own_natcl (by omega)]; exact own_mapAt _ (by omega)) (hb hby d_method_8_18) (pc' := 19) rfl ?_
    refine own_callS K hx (by rw [hml]; rfl) (hw _ (List.mem_of_getElem? (i := 95) rfl)) (hw _ (List.mem_of_getElem? (i := 96) rfl)) (hw _ (List.mem_of_getElem? (i := 14) rfl)) (hw _ (List.mem_of_getElem? (i := 97) rfl)) (by decide) (rm_vof l Z a0 hw [] h0 (cs.getD i 0) G1 O2 P5 (hbc _ (own_getD' (by omega))).1 (hlat _ (own_getD' (by omega)))) (fun _ q => nomatch q) (argsL := [(.int (cs.getD i 0))]) (rest := []) (lenOf pd_25 rfl) rfl 0 (Nat.le_of_eq rfl) (hb hby d_method_8_19) (pc' := 22) rfl (by decide) (by decide) (by decide) (by decide) ?_
    intro v89 T89 h89 K89 Kp89 Q89
    obtain ⟨a89, rfl, S89⟩ := Q89
    have Ar := Ar.keep Kp89 nin0
    have A89 := own_here K89
    show own_Go p.tables e below _ T89 (mkF m 22 #[.val (.ref b), .val (.int (Int32.ofNat i)), .val (.int (Int32.ofNat (i + 1))), .val (.int (1 : Int32))] [(.ref a89)])
    exact own_retR K89 hx hlk hret rfl rfl (hb hby d_method_8_22) (by decide) (by decide) ⟨_, rfl, by rw [own_tk1 (by omega), List.take_zero]; exact S89⟩
  · show own_Go p.tables e below _ T (mkF m 3 #[.val (.ref b), .val (.int (Int32.ofNat i)), .val (.int (Int32.ofNat (i + 2))), .unset] [(.int (2 : Int32))])
    refine own_istoreN A hx (pc' := 4) #[.val (.ref b), .val (.int (Int32.ofNat i)), .val (.int (Int32.ofNat (i + 2))), .val (.int (2 : Int32))] (hb hby d_method_8_3) rfl rfl ?_
    refine own_iloadN A hx (pc' := 5) (hb hby d_method_8_4) rfl rfl ?_
    refine own_if_gt A hx 11 8 (hb hby d_method_8_5) (by decide) (by decide) rfl (fun hc5 => ?_) (fun hc5 => ?_)
    rotate_left
    · exact absurd hc5 (by decide)
    refine own_iloadN A hx (pc' := 12) (hb hby d_method_8_11) rfl rfl ?_
    refine own_iconst A hx (pc' := 13) (hb hby d_method_8_12) (z := (1 : Int32)) (by decide) rfl ?_
    refine own_icmp_ne A hx 23 16 (hb hby d_method_8_13) (by decide) (by decide) rfl (fun hc13 => ?_) (fun hc13 => ?_)
    rotate_left
    · exact absurd hc13 (by decide)
    refine own_iloadN A hx (pc' := 24) (hb hby d_method_8_23) rfl rfl ?_
    refine own_iconst A hx (pc' := 25) (hb hby d_method_8_24) (z := (2 : Int32)) (by decide) rfl ?_
    refine own_icmp_ne A hx 53 28 (hb hby d_method_8_25) (by decide) (by decide) rfl (fun hc25 => ?_) (fun hc25 => ?_)
    · exact absurd hc25 (by decide)
    refine own_new K hx (hw _ (List.mem_of_getElem? (i := 12) rfl)) (hw _ (List.mem_of_getElem? (i := 13) rfl)) (hw _ (List.mem_of_getElem? (i := 14) rfl)) (hb hby d_method_8_28) (pc' := 31) rfl (by decide) (by decide) ?_
    intro T90 h90 b90 g90 K90 E90 X90 D90 U90
    have ne_b_b90 : b ≠ b90 := by rw [g90]; exact Nat.ne_of_lt Ar.lt
    have Ar := Ar.ext E90
    have A90 := own_here K90
    have F_value_b90 := D90 (Or.inr (hw _ (List.mem_of_getElem? (i := 40) rfl))) (ty := (.array .byte)) (by decide)
    have F_coder_b90 := D90 (Or.inr (hw _ (List.mem_of_getElem? (i := 38) rfl))) (ty := .byte) (by decide)
    refine own_dup A90 hx (pc' := 32) (hb hby d_method_8_31) rfl rfl ?_
    refine own_iconst A90 hx (pc' := 33) (hb hby d_method_8_32) (z := (2 : Int32)) (by decide) rfl ?_
    refine own_newarr K90 hx (hw _ (List.mem_of_getElem? (i := 0) rfl)) (hb hby d_method_8_33) (pc' := 35) rfl (by decide) 2 (by decide) (by decide) (by decide) (by decide) ?_
    intro T91 h91 b91 k91 g91 K91 E91 V91
    have ne_b_b91 : b ≠ b91 := by rw [g91]; exact Nat.ne_of_lt Ar.lt
    have ne_b90_b91 : b90 ≠ b91 := by rw [g91]; exact Nat.ne_of_lt X90.lt
    have Ar := Ar.ext E91
    have X90 := X90.ext E91
    have F_value_b90 := F_value_b90.ext E91
    have F_coder_b90 := F_coder_b90.ext E91
    have A91 := own_here K91
    have V91 : Arv Z h91 b91 k91 .char (2 : Int32) [(.int (0 : Int32)), (.int (0 : Int32))] (.int (0 : Int32)) := V91.pad (pad_rep [] (.int (0 : Int32)) 2)
    refine own_dup A91 hx (pc' := 36) (hb hby d_method_8_35) rfl rfl ?_
    refine own_iconst A91 hx (pc' := 37) (hb hby d_method_8_36) (z := (0 : Int32)) (by decide) rfl ?_
    refine own_aloadN A91 hx (pc' := 38) (hb hby d_method_8_37) rfl rfl rfl ?_
    refine own_iloadN A91 hx (pc' := 39) (hb hby d_method_8_38) rfl rfl ?_
    refine own_ldC K91 hx Ar (own_natlt (by omega) (by omega)) (by rw [own_natcl (by omega)]; exact own_mapAt _ (by omega)) (hb hby d_method_8_39) (pc' := 40) rfl ?_
    refine own_stC K91 hx V91 (List.mem_of_getElem? (i := 0) rfl) (by decide) 0 rfl (Nat.le_of_ble_eq_true rfl) (hb hby d_method_8_40) (pc' := 41) rfl ?_
    intro T92 h92 K92 W92 V92
    have Ar := Ar.other W92 ne_b_b91
    have X90 := X90.wr W92
    have F_value_b90 := F_value_b90.other W92 (Or.inl ne_b90_b91)
    have F_coder_b90 := F_coder_b90.other W92 (Or.inl ne_b90_b91)
    have A92 := own_here K92
    have V92 : Arv Z h92 b91 k91 .char (2 : Int32) [(.int (nar .char (cs.getD i 0))), (.int (0 : Int32))] (.int (0 : Int32)) := V92
    refine own_dup A92 hx (pc' := 42) (hb hby d_method_8_41) rfl rfl ?_
    refine own_iconst A92 hx (pc' := 43) (hb hby d_method_8_42) (z := (1 : Int32)) (by decide) rfl ?_
    refine own_aloadN A92 hx (pc' := 44) (hb hby d_method_8_43) rfl rfl rfl ?_
    refine own_iloadN A92 hx (pc' := 45) (hb hby d_method_8_44) rfl rfl ?_
    refine own_iconst A92 hx (pc' := 46) (hb hby d_method_8_45) (z := (1 : Int32)) (by decide) rfl ?_
    refine own_iadd A92 hx (pc' := 47) (hb hby d_method_8_46) (z := ((Int32.ofNat i) + (1 : Int32))) rfl rfl ?_
    rw [show Int32.ofNat i + (1 : Int32) = Int32.ofNat (i + 1) from own_natadd i 1]
    refine own_ldC K92 hx Ar (own_natlt (by omega) (by omega)) (by rw [own_natcl (by omega)]; exact own_mapAt _ (by omega)) (hb hby d_method_8_47) (pc' := 48) rfl ?_
    refine own_stC K92 hx V92 (List.mem_of_getElem? (i := 0) rfl) (by decide) 1 rfl (Nat.le_of_ble_eq_true rfl) (hb hby d_method_8_48) (pc' := 49) rfl ?_
    intro T93 h93 K93 W93 V93
    have Ar := Ar.other W93 ne_b_b91
    have X90 := X90.wr W93
    have F_value_b90 := F_value_b90.other W93 (Or.inl ne_b90_b91)
    have F_coder_b90 := F_coder_b90.other W93 (Or.inl ne_b90_b91)
    have A93 := own_here K93
    have V93 : Arv Z h93 b91 k91 .char (2 : Int32) [(.int (nar .char (cs.getD i 0))), (.int (nar .char (cs.getD (i + 1) 0)))] (.int (0 : Int32)) := V93
    rw [own_narG hbc (k := i) (by omega), own_narG hbc (k := (i + 1)) (by omega)] at V93
    have hp94 : ∀ c ∈ ([(cs.getD i 0), (cs.getD (i + 1) 0)] : List Int32), ¬ c < 0 ∧ ¬ (255 : Int32) < c := by
      intro c hc
      simp only [List.mem_cons, List.not_mem_nil, or_false] at hc
      rcases hc with rfl | rfl <;> exact ⟨(hbc _ (own_getD' (by omega))).1, hlat _ (own_getD' (by omega))⟩
    refine own_strNew K93 hx (by rw [hml]; rfl) (hw _ (List.mem_of_getElem? (i := 15) rfl)) (hw _ (List.mem_of_getElem? (i := 16) rfl)) (hw _ (List.mem_of_getElem? (i := 17) rfl)) (own_wn hw) (hw _ (List.mem_of_getElem? (i := 13) rfl)) (List.mem_of_getElem? (i := 1) rfl) X90 F_value_b90 F_coder_b90 V93 O2 P5 (cs := [(cs.getD i 0), (cs.getD (i + 1) 0)]) (n := 2) rfl rfl (by decide) (by decide) hp94 (lenOf pd_26 rfl) 1 (Nat.le_of_eq rfl) (hb hby d_method_8_49) (pc' := 52) rfl (by decide) (by decide) (by decide) (by decide) ?_
    intro T94 h94 K94 Kp94 Z94
    have Ar := Ar.keep Kp94 (ninS ne_b_b90 nin0)
    have V93 := V93.keep Kp94 (ninS (Ne.symm ne_b90_b91) nin0)
    have A94 := own_here K94
    exact own_retR K94 hx hlk hret rfl rfl (hb hby d_method_8_52) (by decide) (by decide) ⟨_, rfl, by rw [own_tk1 (by omega), own_tk1 (by omega), List.take_zero]; exact Z94⟩
  · show own_Go p.tables e below _ T (mkF m 3 #[.val (.ref b), .val (.int (Int32.ofNat i)), .val (.int (Int32.ofNat (i + 3))), .unset] [(.int (3 : Int32))])
    refine own_istoreN A hx (pc' := 4) #[.val (.ref b), .val (.int (Int32.ofNat i)), .val (.int (Int32.ofNat (i + 3))), .val (.int (3 : Int32))] (hb hby d_method_8_3) rfl rfl ?_
    refine own_iloadN A hx (pc' := 5) (hb hby d_method_8_4) rfl rfl ?_
    refine own_if_gt A hx 11 8 (hb hby d_method_8_5) (by decide) (by decide) rfl (fun hc5 => ?_) (fun hc5 => ?_)
    rotate_left
    · exact absurd hc5 (by decide)
    refine own_iloadN A hx (pc' := 12) (hb hby d_method_8_11) rfl rfl ?_
    refine own_iconst A hx (pc' := 13) (hb hby d_method_8_12) (z := (1 : Int32)) (by decide) rfl ?_
    refine own_icmp_ne A hx 23 16 (hb hby d_method_8_13) (by decide) (by decide) rfl (fun hc13 => ?_) (fun hc13 => ?_)
    rotate_left
    · exact absurd hc13 (by decide)
    refine own_iloadN A hx (pc' := 24) (hb hby d_method_8_23) rfl rfl ?_
    refine own_iconst A hx (pc' := 25) (hb hby d_method_8_24) (z := (2 : Int32)) (by decide) rfl ?_
    refine own_icmp_ne A hx 53 28 (hb hby d_method_8_25) (by decide) (by decide) rfl (fun hc25 => ?_) (fun hc25 => ?_)
    rotate_left
    · exact absurd hc25 (by decide)
    refine own_iloadN A hx (pc' := 54) (hb hby d_method_8_53) rfl rfl ?_
    refine own_iconst A hx (pc' := 55) (hb hby d_method_8_54) (z := (3 : Int32)) (by decide) rfl ?_
    refine own_icmp_ne A hx 91 58 (hb hby d_method_8_55) (by decide) (by decide) rfl (fun hc55 => ?_) (fun hc55 => ?_)
    · exact absurd hc55 (by decide)
    refine own_new K hx (hw _ (List.mem_of_getElem? (i := 12) rfl)) (hw _ (List.mem_of_getElem? (i := 13) rfl)) (hw _ (List.mem_of_getElem? (i := 14) rfl)) (hb hby d_method_8_58) (pc' := 61) rfl (by decide) (by decide) ?_
    intro T95 h95 b95 g95 K95 E95 X95 D95 U95
    have ne_b_b95 : b ≠ b95 := by rw [g95]; exact Nat.ne_of_lt Ar.lt
    have Ar := Ar.ext E95
    have A95 := own_here K95
    have F_value_b95 := D95 (Or.inr (hw _ (List.mem_of_getElem? (i := 40) rfl))) (ty := (.array .byte)) (by decide)
    have F_coder_b95 := D95 (Or.inr (hw _ (List.mem_of_getElem? (i := 38) rfl))) (ty := .byte) (by decide)
    refine own_dup A95 hx (pc' := 62) (hb hby d_method_8_61) rfl rfl ?_
    refine own_iconst A95 hx (pc' := 63) (hb hby d_method_8_62) (z := (3 : Int32)) (by decide) rfl ?_
    refine own_newarr K95 hx (hw _ (List.mem_of_getElem? (i := 0) rfl)) (hb hby d_method_8_63) (pc' := 65) rfl (by decide) 3 (by decide) (by decide) (by decide) (by decide) ?_
    intro T96 h96 b96 k96 g96 K96 E96 V96
    have ne_b_b96 : b ≠ b96 := by rw [g96]; exact Nat.ne_of_lt Ar.lt
    have ne_b95_b96 : b95 ≠ b96 := by rw [g96]; exact Nat.ne_of_lt X95.lt
    have Ar := Ar.ext E96
    have X95 := X95.ext E96
    have F_value_b95 := F_value_b95.ext E96
    have F_coder_b95 := F_coder_b95.ext E96
    have A96 := own_here K96
    have V96 : Arv Z h96 b96 k96 .char (3 : Int32) [(.int (0 : Int32)), (.int (0 : Int32)), (.int (0 : Int32))] (.int (0 : Int32)) := V96.pad (pad_rep [] (.int (0 : Int32)) 3)
    refine own_dup A96 hx (pc' := 66) (hb hby d_method_8_65) rfl rfl ?_
    refine own_iconst A96 hx (pc' := 67) (hb hby d_method_8_66) (z := (0 : Int32)) (by decide) rfl ?_
    refine own_aloadN A96 hx (pc' := 68) (hb hby d_method_8_67) rfl rfl rfl ?_
    refine own_iloadN A96 hx (pc' := 69) (hb hby d_method_8_68) rfl rfl ?_
    refine own_ldC K96 hx Ar (own_natlt (by omega) (by omega)) (by rw [own_natcl (by omega)]; exact own_mapAt _ (by omega)) (hb hby d_method_8_69) (pc' := 70) rfl ?_
    refine own_stC K96 hx V96 (List.mem_of_getElem? (i := 0) rfl) (by decide) 0 rfl (Nat.le_of_ble_eq_true rfl) (hb hby d_method_8_70) (pc' := 71) rfl ?_
    intro T97 h97 K97 W97 V97
    have Ar := Ar.other W97 ne_b_b96
    have X95 := X95.wr W97
    have F_value_b95 := F_value_b95.other W97 (Or.inl ne_b95_b96)
    have F_coder_b95 := F_coder_b95.other W97 (Or.inl ne_b95_b96)
    have A97 := own_here K97
    have V97 : Arv Z h97 b96 k96 .char (3 : Int32) [(.int (nar .char (cs.getD i 0))), (.int (0 : Int32)), (.int (0 : Int32))] (.int (0 : Int32)) := V97
    refine own_dup A97 hx (pc' := 72) (hb hby d_method_8_71) rfl rfl ?_
    refine own_iconst A97 hx (pc' := 73) (hb hby d_method_8_72) (z := (1 : Int32)) (by decide) rfl ?_
    refine own_aloadN A97 hx (pc' := 74) (hb hby d_method_8_73) rfl rfl rfl ?_
    refine own_iloadN A97 hx (pc' := 75) (hb hby d_method_8_74) rfl rfl ?_
    refine own_iconst A97 hx (pc' := 76) (hb hby d_method_8_75) (z := (1 : Int32)) (by decide) rfl ?_
    refine own_iadd A97 hx (pc' := 77) (hb hby d_method_8_76) (z := ((Int32.ofNat i) + (1 : Int32))) rfl rfl ?_
    rw [show Int32.ofNat i + (1 : Int32) = Int32.ofNat (i + 1) from own_natadd i 1]
    refine own_ldC K97 hx Ar (own_natlt (by omega) (by omega)) (by rw [own_natcl (by omega)]; exact own_mapAt _ (by omega)) (hb hby d_method_8_77) (pc' := 78) rfl ?_
    refine own_stC K97 hx V97 (List.mem_of_getElem? (i := 0) rfl) (by decide) 1 rfl (Nat.le_of_ble_eq_true rfl) (hb hby d_method_8_78) (pc' := 79) rfl ?_
    intro T98 h98 K98 W98 V98
    have Ar := Ar.other W98 ne_b_b96
    have X95 := X95.wr W98
    have F_value_b95 := F_value_b95.other W98 (Or.inl ne_b95_b96)
    have F_coder_b95 := F_coder_b95.other W98 (Or.inl ne_b95_b96)
    have A98 := own_here K98
    have V98 : Arv Z h98 b96 k96 .char (3 : Int32) [(.int (nar .char (cs.getD i 0))), (.int (nar .char (cs.getD (i + 1) 0))), (.int (0 : Int32))] (.int (0 : Int32)) := V98
    refine own_dup A98 hx (pc' := 80) (hb hby d_method_8_79) rfl rfl ?_
    refine own_iconst A98 hx (pc' := 81) (hb hby d_method_8_80) (z := (2 : Int32)) (by decide) rfl ?_
    refine own_aloadN A98 hx (pc' := 82) (hb hby d_method_8_81) rfl rfl rfl ?_
    refine own_iloadN A98 hx (pc' := 83) (hb hby d_method_8_82) rfl rfl ?_
    refine own_iconst A98 hx (pc' := 84) (hb hby d_method_8_83) (z := (2 : Int32)) (by decide) rfl ?_
    refine own_iadd A98 hx (pc' := 85) (hb hby d_method_8_84) (z := ((Int32.ofNat i) + (2 : Int32))) rfl rfl ?_
    rw [show Int32.ofNat i + (2 : Int32) = Int32.ofNat (i + 2) from own_natadd i 2]
    refine own_ldC K98 hx Ar (own_natlt (by omega) (by omega)) (by rw [own_natcl (by omega)]; exact own_mapAt _ (by omega)) (hb hby d_method_8_85) (pc' := 86) rfl ?_
    refine own_stC K98 hx V98 (List.mem_of_getElem? (i := 0) rfl) (by decide) 2 rfl (Nat.le_of_ble_eq_true rfl) (hb hby d_method_8_86) (pc' := 87) rfl ?_
    intro T99 h99 K99 W99 V99
    have Ar := Ar.other W99 ne_b_b96
    have X95 := X95.wr W99
    have F_value_b95 := F_value_b95.other W99 (Or.inl ne_b95_b96)
    have F_coder_b95 := F_coder_b95.other W99 (Or.inl ne_b95_b96)
    have A99 := own_here K99
    have V99 : Arv Z h99 b96 k96 .char (3 : Int32) [(.int (nar .char (cs.getD i 0))), (.int (nar .char (cs.getD (i + 1) 0))), (.int (nar .char (cs.getD (i + 2) 0)))] (.int (0 : Int32)) := V99
    rw [own_narG hbc (k := i) (by omega), own_narG hbc (k := (i + 1)) (by omega), own_narG hbc (k := (i + 2)) (by omega)] at V99
    have hp100 : ∀ c ∈ ([(cs.getD i 0), (cs.getD (i + 1) 0), (cs.getD (i + 2) 0)] : List Int32), ¬ c < 0 ∧ ¬ (255 : Int32) < c := by
      intro c hc
      simp only [List.mem_cons, List.not_mem_nil, or_false] at hc
      rcases hc with rfl | rfl | rfl <;> exact ⟨(hbc _ (own_getD' (by omega))).1, hlat _ (own_getD' (by omega))⟩
    refine own_strNew K99 hx (by rw [hml]; rfl) (hw _ (List.mem_of_getElem? (i := 15) rfl)) (hw _ (List.mem_of_getElem? (i := 16) rfl)) (hw _ (List.mem_of_getElem? (i := 17) rfl)) (own_wn hw) (hw _ (List.mem_of_getElem? (i := 13) rfl)) (List.mem_of_getElem? (i := 1) rfl) X95 F_value_b95 F_coder_b95 V99 O2 P5 (cs := [(cs.getD i 0), (cs.getD (i + 1) 0), (cs.getD (i + 2) 0)]) (n := 3) rfl rfl (by decide) (by decide) hp100 (lenOf pd_26 rfl) 1 (Nat.le_of_eq rfl) (hb hby d_method_8_87) (pc' := 90) rfl (by decide) (by decide) (by decide) (by decide) ?_
    intro T100 h100 K100 Kp100 Z100
    have Ar := Ar.keep Kp100 (ninS ne_b_b95 nin0)
    have V99 := V99.keep Kp100 (ninS (Ne.symm ne_b95_b96) nin0)
    have A100 := own_here K100
    exact own_retR K100 hx hlk hret rfl rfl (hb hby d_method_8_90) (by decide) (by decide) ⟨_, rfl, by rw [own_tk1 (by omega), own_tk1 (by omega), own_tk1 (by omega), List.take_zero]; exact Z100⟩
  · show own_Go p.tables e below _ T (mkF m 3 #[.val (.ref b), .val (.int (Int32.ofNat i)), .val (.int (Int32.ofNat (i + 4))), .unset] [(.int (4 : Int32))])
    refine own_istoreN A hx (pc' := 4) #[.val (.ref b), .val (.int (Int32.ofNat i)), .val (.int (Int32.ofNat (i + 4))), .val (.int (4 : Int32))] (hb hby d_method_8_3) rfl rfl ?_
    refine own_iloadN A hx (pc' := 5) (hb hby d_method_8_4) rfl rfl ?_
    refine own_if_gt A hx 11 8 (hb hby d_method_8_5) (by decide) (by decide) rfl (fun hc5 => ?_) (fun hc5 => ?_)
    rotate_left
    · exact absurd hc5 (by decide)
    refine own_iloadN A hx (pc' := 12) (hb hby d_method_8_11) rfl rfl ?_
    refine own_iconst A hx (pc' := 13) (hb hby d_method_8_12) (z := (1 : Int32)) (by decide) rfl ?_
    refine own_icmp_ne A hx 23 16 (hb hby d_method_8_13) (by decide) (by decide) rfl (fun hc13 => ?_) (fun hc13 => ?_)
    rotate_left
    · exact absurd hc13 (by decide)
    refine own_iloadN A hx (pc' := 24) (hb hby d_method_8_23) rfl rfl ?_
    refine own_iconst A hx (pc' := 25) (hb hby d_method_8_24) (z := (2 : Int32)) (by decide) rfl ?_
    refine own_icmp_ne A hx 53 28 (hb hby d_method_8_25) (by decide) (by decide) rfl (fun hc25 => ?_) (fun hc25 => ?_)
    rotate_left
    · exact absurd hc25 (by decide)
    refine own_iloadN A hx (pc' := 54) (hb hby d_method_8_53) rfl rfl ?_
    refine own_iconst A hx (pc' := 55) (hb hby d_method_8_54) (z := (3 : Int32)) (by decide) rfl ?_
    refine own_icmp_ne A hx 91 58 (hb hby d_method_8_55) (by decide) (by decide) rfl (fun hc55 => ?_) (fun hc55 => ?_)
    rotate_left
    · exact absurd hc55 (by decide)
    refine own_iloadN A hx (pc' := 92) (hb hby d_method_8_91) rfl rfl ?_
    refine own_iconst A hx (pc' := 93) (hb hby d_method_8_92) (z := (4 : Int32)) (by decide) rfl ?_
    refine own_icmp_ne A hx 137 96 (hb hby d_method_8_93) (by decide) (by decide) rfl (fun hc93 => ?_) (fun hc93 => ?_)
    · exact absurd hc93 (by decide)
    refine own_new K hx (hw _ (List.mem_of_getElem? (i := 12) rfl)) (hw _ (List.mem_of_getElem? (i := 13) rfl)) (hw _ (List.mem_of_getElem? (i := 14) rfl)) (hb hby d_method_8_96) (pc' := 99) rfl (by decide) (by decide) ?_
    intro T101 h101 b101 g101 K101 E101 X101 D101 U101
    have ne_b_b101 : b ≠ b101 := by rw [g101]; exact Nat.ne_of_lt Ar.lt
    have Ar := Ar.ext E101
    have A101 := own_here K101
    have F_value_b101 := D101 (Or.inr (hw _ (List.mem_of_getElem? (i := 40) rfl))) (ty := (.array .byte)) (by decide)
    have F_coder_b101 := D101 (Or.inr (hw _ (List.mem_of_getElem? (i := 38) rfl))) (ty := .byte) (by decide)
    refine own_dup A101 hx (pc' := 100) (hb hby d_method_8_99) rfl rfl ?_
    refine own_iconst A101 hx (pc' := 101) (hb hby d_method_8_100) (z := (4 : Int32)) (by decide) rfl ?_
    refine own_newarr K101 hx (hw _ (List.mem_of_getElem? (i := 0) rfl)) (hb hby d_method_8_101) (pc' := 103) rfl (by decide) 4 (by decide) (by decide) (by decide) (by decide) ?_
    intro T102 h102 b102 k102 g102 K102 E102 V102
    have ne_b_b102 : b ≠ b102 := by rw [g102]; exact Nat.ne_of_lt Ar.lt
    have ne_b101_b102 : b101 ≠ b102 := by rw [g102]; exact Nat.ne_of_lt X101.lt
    have Ar := Ar.ext E102
    have X101 := X101.ext E102
    have F_value_b101 := F_value_b101.ext E102
    have F_coder_b101 := F_coder_b101.ext E102
    have A102 := own_here K102
    have V102 : Arv Z h102 b102 k102 .char (4 : Int32) [(.int (0 : Int32)), (.int (0 : Int32)), (.int (0 : Int32)), (.int (0 : Int32))] (.int (0 : Int32)) := V102.pad (pad_rep [] (.int (0 : Int32)) 4)
    refine own_dup A102 hx (pc' := 104) (hb hby d_method_8_103) rfl rfl ?_
    refine own_iconst A102 hx (pc' := 105) (hb hby d_method_8_104) (z := (0 : Int32)) (by decide) rfl ?_
    refine own_aloadN A102 hx (pc' := 106) (hb hby d_method_8_105) rfl rfl rfl ?_
    refine own_iloadN A102 hx (pc' := 107) (hb hby d_method_8_106) rfl rfl ?_
    refine own_ldC K102 hx Ar (own_natlt (by omega) (by omega)) (by rw [own_natcl (by omega)]; exact own_mapAt _ (by omega)) (hb hby d_method_8_107) (pc' := 108) rfl ?_
    refine own_stC K102 hx V102 (List.mem_of_getElem? (i := 0) rfl) (by decide) 0 rfl (Nat.le_of_ble_eq_true rfl) (hb hby d_method_8_108) (pc' := 109) rfl ?_
    intro T103 h103 K103 W103 V103
    have Ar := Ar.other W103 ne_b_b102
    have X101 := X101.wr W103
    have F_value_b101 := F_value_b101.other W103 (Or.inl ne_b101_b102)
    have F_coder_b101 := F_coder_b101.other W103 (Or.inl ne_b101_b102)
    have A103 := own_here K103
    have V103 : Arv Z h103 b102 k102 .char (4 : Int32) [(.int (nar .char (cs.getD i 0))), (.int (0 : Int32)), (.int (0 : Int32)), (.int (0 : Int32))] (.int (0 : Int32)) := V103
    refine own_dup A103 hx (pc' := 110) (hb hby d_method_8_109) rfl rfl ?_
    refine own_iconst A103 hx (pc' := 111) (hb hby d_method_8_110) (z := (1 : Int32)) (by decide) rfl ?_
    refine own_aloadN A103 hx (pc' := 112) (hb hby d_method_8_111) rfl rfl rfl ?_
    refine own_iloadN A103 hx (pc' := 113) (hb hby d_method_8_112) rfl rfl ?_
    refine own_iconst A103 hx (pc' := 114) (hb hby d_method_8_113) (z := (1 : Int32)) (by decide) rfl ?_
    refine own_iadd A103 hx (pc' := 115) (hb hby d_method_8_114) (z := ((Int32.ofNat i) + (1 : Int32))) rfl rfl ?_
    rw [show Int32.ofNat i + (1 : Int32) = Int32.ofNat (i + 1) from own_natadd i 1]
    refine own_ldC K103 hx Ar (own_natlt (by omega) (by omega)) (by rw [own_natcl (by omega)]; exact own_mapAt _ (by omega)) (hb hby d_method_8_115) (pc' := 116) rfl ?_
    refine own_stC K103 hx V103 (List.mem_of_getElem? (i := 0) rfl) (by decide) 1 rfl (Nat.le_of_ble_eq_true rfl) (hb hby d_method_8_116) (pc' := 117) rfl ?_
    intro T104 h104 K104 W104 V104
    have Ar := Ar.other W104 ne_b_b102
    have X101 := X101.wr W104
    have F_value_b101 := F_value_b101.other W104 (Or.inl ne_b101_b102)
    have F_coder_b101 := F_coder_b101.other W104 (Or.inl ne_b101_b102)
    have A104 := own_here K104
    have V104 : Arv Z h104 b102 k102 .char (4 : Int32) [(.int (nar .char (cs.getD i 0))), (.int (nar .char (cs.getD (i + 1) 0))), (.int (0 : Int32)), (.int (0 : Int32))] (.int (0 : Int32)) := V104
    refine own_dup A104 hx (pc' := 118) (hb hby d_method_8_117) rfl rfl ?_
    refine own_iconst A104 hx (pc' := 119) (hb hby d_method_8_118) (z := (2 : Int32)) (by decide) rfl ?_
    refine own_aloadN A104 hx (pc' := 120) (hb hby d_method_8_119) rfl rfl rfl ?_
    refine own_iloadN A104 hx (pc' := 121) (hb hby d_method_8_120) rfl rfl ?_
    refine own_iconst A104 hx (pc' := 122) (hb hby d_method_8_121) (z := (2 : Int32)) (by decide) rfl ?_
    refine own_iadd A104 hx (pc' := 123) (hb hby d_method_8_122) (z := ((Int32.ofNat i) + (2 : Int32))) rfl rfl ?_
    rw [show Int32.ofNat i + (2 : Int32) = Int32.ofNat (i + 2) from own_natadd i 2]
    refine own_ldC K104 hx Ar (own_natlt (by omega) (by omega)) (by rw [own_natcl (by omega)]; exact own_mapAt _ (by omega)) (hb hby d_method_8_123) (pc' := 124) rfl ?_
    refine own_stC K104 hx V104 (List.mem_of_getElem? (i := 0) rfl) (by decide) 2 rfl (Nat.le_of_ble_eq_true rfl) (hb hby d_method_8_124) (pc' := 125) rfl ?_
    intro T105 h105 K105 W105 V105
    have Ar := Ar.other W105 ne_b_b102
    have X101 := X101.wr W105
    have F_value_b101 := F_value_b101.other W105 (Or.inl ne_b101_b102)
    have F_coder_b101 := F_coder_b101.other W105 (Or.inl ne_b101_b102)
    have A105 := own_here K105
    have V105 : Arv Z h105 b102 k102 .char (4 : Int32) [(.int (nar .char (cs.getD i 0))), (.int (nar .char (cs.getD (i + 1) 0))), (.int (nar .char (cs.getD (i + 2) 0))), (.int (0 : Int32))] (.int (0 : Int32)) := V105
    refine own_dup A105 hx (pc' := 126) (hb hby d_method_8_125) rfl rfl ?_
    refine own_iconst A105 hx (pc' := 127) (hb hby d_method_8_126) (z := (3 : Int32)) (by decide) rfl ?_
    refine own_aloadN A105 hx (pc' := 128) (hb hby d_method_8_127) rfl rfl rfl ?_
    refine own_iloadN A105 hx (pc' := 129) (hb hby d_method_8_128) rfl rfl ?_
    refine own_iconst A105 hx (pc' := 130) (hb hby d_method_8_129) (z := (3 : Int32)) (by decide) rfl ?_
    refine own_iadd A105 hx (pc' := 131) (hb hby d_method_8_130) (z := ((Int32.ofNat i) + (3 : Int32))) rfl rfl ?_
    rw [show Int32.ofNat i + (3 : Int32) = Int32.ofNat (i + 3) from own_natadd i 3]
    refine own_ldC K105 hx Ar (own_natlt (by omega) (by omega)) (by rw [own_natcl (by omega)]; exact own_mapAt _ (by omega)) (hb hby d_method_8_131) (pc' := 132) rfl ?_
    refine own_stC K105 hx V105 (List.mem_of_getElem? (i := 0) rfl) (by decide) 3 rfl (Nat.le_of_ble_eq_true rfl) (hb hby d_method_8_132) (pc' := 133) rfl ?_
    intro T106 h106 K106 W106 V106
    have Ar := Ar.other W106 ne_b_b102
    have X101 := X101.wr W106
    have F_value_b101 := F_value_b101.other W106 (Or.inl ne_b101_b102)
    have F_coder_b101 := F_coder_b101.other W106 (Or.inl ne_b101_b102)
    have A106 := own_here K106
    have V106 : Arv Z h106 b102 k102 .char (4 : Int32) [(.int (nar .char (cs.getD i 0))), (.int (nar .char (cs.getD (i + 1) 0))), (.int (nar .char (cs.getD (i + 2) 0))), (.int (nar .char (cs.getD (i + 3) 0)))] (.int (0 : Int32)) := V106
    rw [own_narG hbc (k := i) (by omega), own_narG hbc (k := (i + 1)) (by omega), own_narG hbc (k := (i + 2)) (by omega), own_narG hbc (k := (i + 3)) (by omega)] at V106
    have hp107 : ∀ c ∈ ([(cs.getD i 0), (cs.getD (i + 1) 0), (cs.getD (i + 2) 0), (cs.getD (i + 3) 0)] : List Int32), ¬ c < 0 ∧ ¬ (255 : Int32) < c := by
      intro c hc
      simp only [List.mem_cons, List.not_mem_nil, or_false] at hc
      rcases hc with rfl | rfl | rfl | rfl <;> exact ⟨(hbc _ (own_getD' (by omega))).1, hlat _ (own_getD' (by omega))⟩
    refine own_strNew K106 hx (by rw [hml]; rfl) (hw _ (List.mem_of_getElem? (i := 15) rfl)) (hw _ (List.mem_of_getElem? (i := 16) rfl)) (hw _ (List.mem_of_getElem? (i := 17) rfl)) (own_wn hw) (hw _ (List.mem_of_getElem? (i := 13) rfl)) (List.mem_of_getElem? (i := 1) rfl) X101 F_value_b101 F_coder_b101 V106 O2 P5 (cs := [(cs.getD i 0), (cs.getD (i + 1) 0), (cs.getD (i + 2) 0), (cs.getD (i + 3) 0)]) (n := 4) rfl rfl (by decide) (by decide) hp107 (lenOf pd_26 rfl) 1 (Nat.le_of_eq rfl) (hb hby d_method_8_133) (pc' := 136) rfl (by decide) (by decide) (by decide) (by decide) ?_
    intro T107 h107 K107 Kp107 Z107
    have Ar := Ar.keep Kp107 (ninS ne_b_b101 nin0)
    have V106 := V106.keep Kp107 (ninS (Ne.symm ne_b101_b102) nin0)
    have A107 := own_here K107
    exact own_retR K107 hx hlk hret rfl rfl (hb hby d_method_8_136) (by decide) (by decide) ⟨_, rfl, by rw [own_tk1 (by omega), own_tk1 (by omega), own_tk1 (by omega), own_tk1 (by omega), List.take_zero]; exact Z107⟩
  · show own_Go p.tables e below _ T (mkF m 3 #[.val (.ref b), .val (.int (Int32.ofNat i)), .val (.int (Int32.ofNat (i + 5))), .unset] [(.int (5 : Int32))])
    refine own_istoreN A hx (pc' := 4) #[.val (.ref b), .val (.int (Int32.ofNat i)), .val (.int (Int32.ofNat (i + 5))), .val (.int (5 : Int32))] (hb hby d_method_8_3) rfl rfl ?_
    refine own_iloadN A hx (pc' := 5) (hb hby d_method_8_4) rfl rfl ?_
    refine own_if_gt A hx 11 8 (hb hby d_method_8_5) (by decide) (by decide) rfl (fun hc5 => ?_) (fun hc5 => ?_)
    rotate_left
    · exact absurd hc5 (by decide)
    refine own_iloadN A hx (pc' := 12) (hb hby d_method_8_11) rfl rfl ?_
    refine own_iconst A hx (pc' := 13) (hb hby d_method_8_12) (z := (1 : Int32)) (by decide) rfl ?_
    refine own_icmp_ne A hx 23 16 (hb hby d_method_8_13) (by decide) (by decide) rfl (fun hc13 => ?_) (fun hc13 => ?_)
    rotate_left
    · exact absurd hc13 (by decide)
    refine own_iloadN A hx (pc' := 24) (hb hby d_method_8_23) rfl rfl ?_
    refine own_iconst A hx (pc' := 25) (hb hby d_method_8_24) (z := (2 : Int32)) (by decide) rfl ?_
    refine own_icmp_ne A hx 53 28 (hb hby d_method_8_25) (by decide) (by decide) rfl (fun hc25 => ?_) (fun hc25 => ?_)
    rotate_left
    · exact absurd hc25 (by decide)
    refine own_iloadN A hx (pc' := 54) (hb hby d_method_8_53) rfl rfl ?_
    refine own_iconst A hx (pc' := 55) (hb hby d_method_8_54) (z := (3 : Int32)) (by decide) rfl ?_
    refine own_icmp_ne A hx 91 58 (hb hby d_method_8_55) (by decide) (by decide) rfl (fun hc55 => ?_) (fun hc55 => ?_)
    rotate_left
    · exact absurd hc55 (by decide)
    refine own_iloadN A hx (pc' := 92) (hb hby d_method_8_91) rfl rfl ?_
    refine own_iconst A hx (pc' := 93) (hb hby d_method_8_92) (z := (4 : Int32)) (by decide) rfl ?_
    refine own_icmp_ne A hx 137 96 (hb hby d_method_8_93) (by decide) (by decide) rfl (fun hc93 => ?_) (fun hc93 => ?_)
    rotate_left
    · exact absurd hc93 (by decide)
    refine own_new K hx (hw _ (List.mem_of_getElem? (i := 12) rfl)) (hw _ (List.mem_of_getElem? (i := 13) rfl)) (hw _ (List.mem_of_getElem? (i := 14) rfl)) (hb hby d_method_8_137) (pc' := 140) rfl (by decide) (by decide) ?_
    intro T108 h108 b108 g108 K108 E108 X108 D108 U108
    have ne_b_b108 : b ≠ b108 := by rw [g108]; exact Nat.ne_of_lt Ar.lt
    have Ar := Ar.ext E108
    have A108 := own_here K108
    have F_value_b108 := D108 (Or.inr (hw _ (List.mem_of_getElem? (i := 40) rfl))) (ty := (.array .byte)) (by decide)
    have F_coder_b108 := D108 (Or.inr (hw _ (List.mem_of_getElem? (i := 38) rfl))) (ty := .byte) (by decide)
    refine own_dup A108 hx (pc' := 141) (hb hby d_method_8_140) rfl rfl ?_
    refine own_iconst A108 hx (pc' := 142) (hb hby d_method_8_141) (z := (5 : Int32)) (by decide) rfl ?_
    refine own_newarr K108 hx (hw _ (List.mem_of_getElem? (i := 0) rfl)) (hb hby d_method_8_142) (pc' := 144) rfl (by decide) 5 (by decide) (by decide) (by decide) (by decide) ?_
    intro T109 h109 b109 k109 g109 K109 E109 V109
    have ne_b_b109 : b ≠ b109 := by rw [g109]; exact Nat.ne_of_lt Ar.lt
    have ne_b108_b109 : b108 ≠ b109 := by rw [g109]; exact Nat.ne_of_lt X108.lt
    have Ar := Ar.ext E109
    have X108 := X108.ext E109
    have F_value_b108 := F_value_b108.ext E109
    have F_coder_b108 := F_coder_b108.ext E109
    have A109 := own_here K109
    have V109 : Arv Z h109 b109 k109 .char (5 : Int32) [(.int (0 : Int32)), (.int (0 : Int32)), (.int (0 : Int32)), (.int (0 : Int32)), (.int (0 : Int32))] (.int (0 : Int32)) := V109.pad (pad_rep [] (.int (0 : Int32)) 5)
    refine own_dup A109 hx (pc' := 145) (hb hby d_method_8_144) rfl rfl ?_
    refine own_iconst A109 hx (pc' := 146) (hb hby d_method_8_145) (z := (0 : Int32)) (by decide) rfl ?_
    refine own_aloadN A109 hx (pc' := 147) (hb hby d_method_8_146) rfl rfl rfl ?_
    refine own_iloadN A109 hx (pc' := 148) (hb hby d_method_8_147) rfl rfl ?_
    refine own_ldC K109 hx Ar (own_natlt (by omega) (by omega)) (by rw [own_natcl (by omega)]; exact own_mapAt _ (by omega)) (hb hby d_method_8_148) (pc' := 149) rfl ?_
    refine own_stC K109 hx V109 (List.mem_of_getElem? (i := 0) rfl) (by decide) 0 rfl (Nat.le_of_ble_eq_true rfl) (hb hby d_method_8_149) (pc' := 150) rfl ?_
    intro T110 h110 K110 W110 V110
    have Ar := Ar.other W110 ne_b_b109
    have X108 := X108.wr W110
    have F_value_b108 := F_value_b108.other W110 (Or.inl ne_b108_b109)
    have F_coder_b108 := F_coder_b108.other W110 (Or.inl ne_b108_b109)
    have A110 := own_here K110
    have V110 : Arv Z h110 b109 k109 .char (5 : Int32) [(.int (nar .char (cs.getD i 0))), (.int (0 : Int32)), (.int (0 : Int32)), (.int (0 : Int32)), (.int (0 : Int32))] (.int (0 : Int32)) := V110
    refine own_dup A110 hx (pc' := 151) (hb hby d_method_8_150) rfl rfl ?_
    refine own_iconst A110 hx (pc' := 152) (hb hby d_method_8_151) (z := (1 : Int32)) (by decide) rfl ?_
    refine own_aloadN A110 hx (pc' := 153) (hb hby d_method_8_152) rfl rfl rfl ?_
    refine own_iloadN A110 hx (pc' := 154) (hb hby d_method_8_153) rfl rfl ?_
    refine own_iconst A110 hx (pc' := 155) (hb hby d_method_8_154) (z := (1 : Int32)) (by decide) rfl ?_
    refine own_iadd A110 hx (pc' := 156) (hb hby d_method_8_155) (z := ((Int32.ofNat i) + (1 : Int32))) rfl rfl ?_
    rw [show Int32.ofNat i + (1 : Int32) = Int32.ofNat (i + 1) from own_natadd i 1]
    refine own_ldC K110 hx Ar (own_natlt (by omega) (by omega)) (by rw [own_natcl (by omega)]; exact own_mapAt _ (by omega)) (hb hby d_method_8_156) (pc' := 157) rfl ?_
    refine own_stC K110 hx V110 (List.mem_of_getElem? (i := 0) rfl) (by decide) 1 rfl (Nat.le_of_ble_eq_true rfl) (hb hby d_method_8_157) (pc' := 158) rfl ?_
    intro T111 h111 K111 W111 V111
    have Ar := Ar.other W111 ne_b_b109
    have X108 := X108.wr W111
    have F_value_b108 := F_value_b108.other W111 (Or.inl ne_b108_b109)
    have F_coder_b108 := F_coder_b108.other W111 (Or.inl ne_b108_b109)
    have A111 := own_here K111
    have V111 : Arv Z h111 b109 k109 .char (5 : Int32) [(.int (nar .char (cs.getD i 0))), (.int (nar .char (cs.getD (i + 1) 0))), (.int (0 : Int32)), (.int (0 : Int32)), (.int (0 : Int32))] (.int (0 : Int32)) := V111
    refine own_dup A111 hx (pc' := 159) (hb hby d_method_8_158) rfl rfl ?_
    refine own_iconst A111 hx (pc' := 160) (hb hby d_method_8_159) (z := (2 : Int32)) (by decide) rfl ?_
    refine own_aloadN A111 hx (pc' := 161) (hb hby d_method_8_160) rfl rfl rfl ?_
    refine own_iloadN A111 hx (pc' := 162) (hb hby d_method_8_161) rfl rfl ?_
    refine own_iconst A111 hx (pc' := 163) (hb hby d_method_8_162) (z := (2 : Int32)) (by decide) rfl ?_
    refine own_iadd A111 hx (pc' := 164) (hb hby d_method_8_163) (z := ((Int32.ofNat i) + (2 : Int32))) rfl rfl ?_
    rw [show Int32.ofNat i + (2 : Int32) = Int32.ofNat (i + 2) from own_natadd i 2]
    refine own_ldC K111 hx Ar (own_natlt (by omega) (by omega)) (by rw [own_natcl (by omega)]; exact own_mapAt _ (by omega)) (hb hby d_method_8_164) (pc' := 165) rfl ?_
    refine own_stC K111 hx V111 (List.mem_of_getElem? (i := 0) rfl) (by decide) 2 rfl (Nat.le_of_ble_eq_true rfl) (hb hby d_method_8_165) (pc' := 166) rfl ?_
    intro T112 h112 K112 W112 V112
    have Ar := Ar.other W112 ne_b_b109
    have X108 := X108.wr W112
    have F_value_b108 := F_value_b108.other W112 (Or.inl ne_b108_b109)
    have F_coder_b108 := F_coder_b108.other W112 (Or.inl ne_b108_b109)
    have A112 := own_here K112
    have V112 : Arv Z h112 b109 k109 .char (5 : Int32) [(.int (nar .char (cs.getD i 0))), (.int (nar .char (cs.getD (i + 1) 0))), (.int (nar .char (cs.getD (i + 2) 0))), (.int (0 : Int32)), (.int (0 : Int32))] (.int (0 : Int32)) := V112
    refine own_dup A112 hx (pc' := 167) (hb hby d_method_8_166) rfl rfl ?_
    refine own_iconst A112 hx (pc' := 168) (hb hby d_method_8_167) (z := (3 : Int32)) (by decide) rfl ?_
    refine own_aloadN A112 hx (pc' := 169) (hb hby d_method_8_168) rfl rfl rfl ?_
    refine own_iloadN A112 hx (pc' := 170) (hb hby d_method_8_169) rfl rfl ?_
    refine own_iconst A112 hx (pc' := 171) (hb hby d_method_8_170) (z := (3 : Int32)) (by decide) rfl ?_
    refine own_iadd A112 hx (pc' := 172) (hb hby d_method_8_171) (z := ((Int32.ofNat i) + (3 : Int32))) rfl rfl ?_
    rw [show Int32.ofNat i + (3 : Int32) = Int32.ofNat (i + 3) from own_natadd i 3]
    refine own_ldC K112 hx Ar (own_natlt (by omega) (by omega)) (by rw [own_natcl (by omega)]; exact own_mapAt _ (by omega)) (hb hby d_method_8_172) (pc' := 173) rfl ?_
    refine own_stC K112 hx V112 (List.mem_of_getElem? (i := 0) rfl) (by decide) 3 rfl (Nat.le_of_ble_eq_true rfl) (hb hby d_method_8_173) (pc' := 174) rfl ?_
    intro T113 h113 K113 W113 V113
    have Ar := Ar.other W113 ne_b_b109
    have X108 := X108.wr W113
    have F_value_b108 := F_value_b108.other W113 (Or.inl ne_b108_b109)
    have F_coder_b108 := F_coder_b108.other W113 (Or.inl ne_b108_b109)
    have A113 := own_here K113
    have V113 : Arv Z h113 b109 k109 .char (5 : Int32) [(.int (nar .char (cs.getD i 0))), (.int (nar .char (cs.getD (i + 1) 0))), (.int (nar .char (cs.getD (i + 2) 0))), (.int (nar .char (cs.getD (i + 3) 0))), (.int (0 : Int32))] (.int (0 : Int32)) := V113
    refine own_dup A113 hx (pc' := 175) (hb hby d_method_8_174) rfl rfl ?_
    refine own_iconst A113 hx (pc' := 176) (hb hby d_method_8_175) (z := (4 : Int32)) (by decide) rfl ?_
    refine own_aloadN A113 hx (pc' := 177) (hb hby d_method_8_176) rfl rfl rfl ?_
    refine own_iloadN A113 hx (pc' := 178) (hb hby d_method_8_177) rfl rfl ?_
    refine own_iconst A113 hx (pc' := 179) (hb hby d_method_8_178) (z := (4 : Int32)) (by decide) rfl ?_
    refine own_iadd A113 hx (pc' := 180) (hb hby d_method_8_179) (z := ((Int32.ofNat i) + (4 : Int32))) rfl rfl ?_
    rw [show Int32.ofNat i + (4 : Int32) = Int32.ofNat (i + 4) from own_natadd i 4]
    refine own_ldC K113 hx Ar (own_natlt (by omega) (by omega)) (by rw [own_natcl (by omega)]; exact own_mapAt _ (by omega)) (hb hby d_method_8_180) (pc' := 181) rfl ?_
    refine own_stC K113 hx V113 (List.mem_of_getElem? (i := 0) rfl) (by decide) 4 rfl (Nat.le_of_ble_eq_true rfl) (hb hby d_method_8_181) (pc' := 182) rfl ?_
    intro T114 h114 K114 W114 V114
    have Ar := Ar.other W114 ne_b_b109
    have X108 := X108.wr W114
    have F_value_b108 := F_value_b108.other W114 (Or.inl ne_b108_b109)
    have F_coder_b108 := F_coder_b108.other W114 (Or.inl ne_b108_b109)
    have A114 := own_here K114
    have V114 : Arv Z h114 b109 k109 .char (5 : Int32) [(.int (nar .char (cs.getD i 0))), (.int (nar .char (cs.getD (i + 1) 0))), (.int (nar .char (cs.getD (i + 2) 0))), (.int (nar .char (cs.getD (i + 3) 0))), (.int (nar .char (cs.getD (i + 4) 0)))] (.int (0 : Int32)) := V114
    rw [own_narG hbc (k := i) (by omega), own_narG hbc (k := (i + 1)) (by omega), own_narG hbc (k := (i + 2)) (by omega), own_narG hbc (k := (i + 3)) (by omega), own_narG hbc (k := (i + 4)) (by omega)] at V114
    have hp115 : ∀ c ∈ ([(cs.getD i 0), (cs.getD (i + 1) 0), (cs.getD (i + 2) 0), (cs.getD (i + 3) 0), (cs.getD (i + 4) 0)] : List Int32), ¬ c < 0 ∧ ¬ (255 : Int32) < c := by
      intro c hc
      simp only [List.mem_cons, List.not_mem_nil, or_false] at hc
      rcases hc with rfl | rfl | rfl | rfl | rfl <;> exact ⟨(hbc _ (own_getD' (by omega))).1, hlat _ (own_getD' (by omega))⟩
    refine own_strNew K114 hx (by rw [hml]; rfl) (hw _ (List.mem_of_getElem? (i := 15) rfl)) (hw _ (List.mem_of_getElem? (i := 16) rfl)) (hw _ (List.mem_of_getElem? (i := 17) rfl)) (own_wn hw) (hw _ (List.mem_of_getElem? (i := 13) rfl)) (List.mem_of_getElem? (i := 1) rfl) X108 F_value_b108 F_coder_b108 V114 O2 P5 (cs := [(cs.getD i 0), (cs.getD (i + 1) 0), (cs.getD (i + 2) 0), (cs.getD (i + 3) 0), (cs.getD (i + 4) 0)]) (n := 5) rfl rfl (by decide) (by decide) hp115 (lenOf pd_26 rfl) 1 (Nat.le_of_eq rfl) (hb hby d_method_8_182) (pc' := 185) rfl (by decide) (by decide) (by decide) (by decide) ?_
    intro T115 h115 K115 Kp115 Z115
    have Ar := Ar.keep Kp115 (ninS ne_b_b108 nin0)
    have V114 := V114.keep Kp115 (ninS (Ne.symm ne_b108_b109) nin0)
    have A115 := own_here K115
    exact own_retR K115 hx hlk hret rfl rfl (hb hby d_method_8_185) (by decide) (by decide) ⟨_, rfl, by rw [own_tk1 (by omega), own_tk1 (by omega), own_tk1 (by omega), own_tk1 (by omega), own_tk1 (by omega), List.take_zero]; exact Z115⟩
theorem own_m255 (x : Int32) : ¬ (x &&& (255 : Int32)) < 0 ∧ ¬ (255 : Int32) < (x &&& (255 : Int32)) := by
  have h : (x &&& 255).toBitVec.toNat < 256 := by
    simp only [Int32.toBitVec_and, BitVec.toNat_and]
    exact Nat.lt_succ_of_le Nat.and_le_right
  have t : ∀ k : Fin 256, ¬ (Int32.ofNat k.val) < 0 ∧ ¬ (255 : Int32) < (Int32.ofNat k.val) := by decide +kernel
  have e : (x &&& 255) = Int32.ofNat (x &&& 255).toBitVec.toNat := by
    apply Int32.toBitVec_inj.mp
    show _ = BitVec.ofNat 32 _
    rw [BitVec.ofNat_toNat]; simp
  rw [e]
  exact t ⟨_, h⟩
theorem own_c255 (x : Int32) : ¬ ((x &&& (255 : Int32)).toUInt32.toUInt16.toUInt32.toInt32) < 0 ∧ ¬ (255 : Int32) < ((x &&& (255 : Int32)).toUInt32.toUInt16.toUInt32.toInt32) := by
  rw [i2c_mask]; exact own_m255 x
theorem own_n255 (x : Int32) : nar .char ((x &&& (255 : Int32)).toUInt32.toUInt16.toUInt32.toInt32) = ((x &&& (255 : Int32)).toUInt32.toUInt16.toUInt32.toInt32) := by simp only [nar, UInt32.toUInt32_toInt32, UInt16.toUInt16_toUInt32]
theorem own_and255 (x : Int32) : ¬ nar .char ((x &&& (255 : Int32)).toUInt32.toUInt16.toUInt32.toInt32) < 0 ∧ ¬ (255 : Int32) < nar .char ((x &&& (255 : Int32)).toUInt32.toUInt16.toUInt32.toInt32) := by
  rw [own_n255]; exact own_c255 x
theorem own_l255 (x : Int64) : ¬ (x &&& (255 : Int64)).toInt32 < 0 ∧ ¬ (255 : Int32) < (x &&& (255 : Int64)).toInt32 := by
  rw [Int64.toInt32_and]; exact own_m255 _
theorem own_i2cI {x : Int32} (h : ¬ x < 0 ∧ ¬ (255 : Int32) < x) : nar .char (x.toUInt32.toUInt16.toUInt32.toInt32) = x := by
  obtain ⟨k, rfl⟩ := own_u8 h
  exact (by decide +kernel : ∀ k : Fin 256, nar .char ((Int32.ofNat k.val).toUInt32.toUInt16.toUInt32.toInt32) = Int32.ofNat k.val) k
theorem own_x32 {x y : Int32} (h : ¬ x < 0 ∧ ¬ (255 : Int32) < x) : ¬ (x ^^^ ((y &&& 1) <<< ((5 : Int32) &&& 31))) < 0 ∧ ¬ (255 : Int32) < (x ^^^ ((y &&& 1) <<< ((5 : Int32) &&& 31))) := by
  obtain ⟨k, rfl⟩ := own_u8 h
  have q : y &&& 1 = 0 ∨ y &&& 1 = 1 := by
    have hb : (y &&& 1).toBitVec.toNat < 2 := by
      simp only [Int32.toBitVec_and, BitVec.toNat_and]
      exact Nat.lt_succ_of_le Nat.and_le_right
    have e : (y &&& 1) = Int32.ofNat (y &&& 1).toBitVec.toNat := by
      apply Int32.toBitVec_inj.mp
      show _ = BitVec.ofNat 32 _
      rw [BitVec.ofNat_toNat]; simp
    rw [e]
    exact (by decide +kernel : ∀ k : Fin 2, Int32.ofNat k.val = 0 ∨ Int32.ofNat k.val = 1) ⟨_, hb⟩
  rcases q with q | q <;> rw [q]
  · exact (by decide +kernel : ∀ k : Fin 256, ¬ (Int32.ofNat k.val ^^^ ((0 : Int32) <<< ((5 : Int32) &&& 31))) < 0 ∧ ¬ (255 : Int32) < (Int32.ofNat k.val ^^^ ((0 : Int32) <<< ((5 : Int32) &&& 31)))) k
  · exact (by decide +kernel : ∀ k : Fin 256, ¬ (Int32.ofNat k.val ^^^ ((1 : Int32) <<< ((5 : Int32) &&& 31))) < 0 ∧ ¬ (255 : Int32) < (Int32.ofNat k.val ^^^ ((1 : Int32) <<< ((5 : Int32) &&& 31)))) k
theorem d_method_3_0 : decode method_3_code 0 = .ok (.iload_n 2, 1) := by decide +kernel
theorem d_method_3_1 : decode method_3_code 1 = .ok (.iconst 3, 1) := by decide +kernel
theorem d_method_3_2 : decode method_3_code 2 = .ok (.iload_n 3, 1) := by decide +kernel
theorem d_method_3_3 : decode method_3_code 3 = .ok (.iadd, 1) := by decide +kernel
theorem d_method_3_4 : decode method_3_code 4 = .ok (.iushr, 1) := by decide +kernel
theorem d_method_3_5 : decode method_3_code 5 = .ok (.iconst 1, 1) := by decide +kernel
theorem d_method_3_6 : decode method_3_code 6 = .ok (.iand, 1) := by decide +kernel
theorem d_method_3_7 : decode method_3_code 7 = .ok (.ifCond .eq 6, 3) := by decide +kernel
theorem d_method_3_13 : decode method_3_code 13 = .ok (.lload_n 0, 1) := by decide +kernel
theorem d_method_3_14 : decode method_3_code 14 = .ok (.bipush 8, 2) := by decide +kernel
theorem d_method_3_16 : decode method_3_code 16 = .ok (.iload_n 3, 1) := by decide +kernel
theorem d_method_3_17 : decode method_3_code 17 = .ok (.imul, 1) := by decide +kernel
theorem d_method_3_18 : decode method_3_code 18 = .ok (.lushr, 1) := by decide +kernel
theorem d_method_3_19 : decode method_3_code 19 = .ok (.ldc2_w 43, 3) := by decide +kernel
theorem d_method_3_22 : decode method_3_code 22 = .ok (.land, 1) := by decide +kernel
theorem d_method_3_23 : decode method_3_code 23 = .ok (.l2i, 1) := by decide +kernel
theorem d_method_3_24 : decode method_3_code 24 = .ok (.i2c, 1) := by decide +kernel
theorem d_method_3_25 : decode method_3_code 25 = .ok (.ireturn, 1) := by decide +kernel
theorem d_method_3_10 : decode method_3_code 10 = .ok (.bipush 32, 2) := by decide +kernel
theorem d_method_3_12 : decode method_3_code 12 = .ok (.ireturn, 1) := by decide +kernel
theorem ef_rm_hch (m : MethodId) (q_0 : Int64) (q_1 : Int32) (q_2 : Int32)  : entryFrame m #[(.long q_0), (.int q_1), (.int q_2)] 4 = mkF m 0 #[.val (.long q_0), .second, .val (.int q_1), .val (.int q_2)] [] := by  first | (simp [entryFrame, mkF, argsToLocals, Value.category]; done) | rfl
set_option maxRecDepth 65536 in
set_option maxHeartbeats 40000000 in
theorem rm_hch (l : Launch) (Z : State) (a0 : Array Value) (hw : ∀ d ∈ tables_1, d.before a0 Z = true) (more : List Jvm.Cond) (h0 : Heap) (p1 : Int64) (p2 : Int32) (p3 : Int32)   :
    own_Met true false consts_1 l Z a0 (⟨"com/example/portcullis/portcullis/service/AuthorizationHeaderCredentialsPinLaw", "hch", "(JII)C"⟩ : MethodName) method_3_code 4 (some .char) more ({ frames := 0, cells := 0, slots := 0, locals := 0 } : Room) #[(.long p1), (.int p2), (.int p3)] h0 [] (fun v h => ∃ r, v = some (.int r) ∧ (¬ r < 0 ∧ ¬ (255 : Int32) < r) ∧ h = h0) := by
  refine own_enter (own := "com/example/portcullis/portcullis/service/AuthorizationHeaderCredentialsPinLaw") rfl (plainFor_of_name pn_6) ?_
  intro p e s m below meth c T hx hby hml hret hlk hnm K
  rw [ef_rm_hch m p1 p2 p3]
  have A := own_here K
  refine own_iloadN A hx (pc' := 1) (hb hby d_method_3_0) rfl rfl ?_
  refine own_iconst A hx (pc' := 2) (hb hby d_method_3_1) (z := (3 : Int32)) (by decide) rfl ?_
  refine own_iloadN A hx (pc' := 3) (hb hby d_method_3_2) rfl rfl ?_
  refine own_iadd A hx (pc' := 4) (hb hby d_method_3_3) (z := ((3 : Int32) + p3)) rfl rfl ?_
  refine own_iushr A hx (pc' := 5) (hb hby d_method_3_4) (z := ((p2.toUInt32 >>> (((3 : Int32) + p3) &&& 31).toUInt32).toInt32)) rfl rfl ?_
  refine own_iconst A hx (pc' := 6) (hb hby d_method_3_5) (z := (1 : Int32)) (by decide) rfl ?_
  refine own_iand A hx (pc' := 7) (hb hby d_method_3_6) (z := (((p2.toUInt32 >>> (((3 : Int32) + p3) &&& 31).toUInt32).toInt32) &&& (1 : Int32))) rfl rfl ?_
  refine own_if_eq A hx 13 10 (hb hby d_method_3_7) (by decide) (by decide) rfl (fun hc7 => ?_) (fun hc7 => ?_)
  · refine own_lloadN A hx (pc' := 14) (hb hby d_method_3_13) rfl rfl ?_
    refine own_bipush A hx (pc' := 16) (hb hby d_method_3_14) (z := (8 : Int32)) (by decide) rfl ?_
    refine own_iloadN A hx (pc' := 17) (hb hby d_method_3_16) rfl rfl ?_
    refine own_imul A hx (pc' := 18) (hb hby d_method_3_17) (z := ((8 : Int32) * p3)) rfl rfl ?_
    refine own_lushr A hx (pc' := 19) (hb hby d_method_3_18) (z := ((p1.toUInt64 >>> (((8 : Int32) * p3) &&& 0x3f).toInt64.toUInt64).toInt64)) rfl rfl ?_
    refine own_ldc2 K hx (hw _ (List.mem_of_getElem? (i := 5) rfl)) (hb hby d_method_3_19) (pc' := 22) rfl ?_
    refine own_land A hx (pc' := 23) (hb hby d_method_3_22) (z := (((p1.toUInt64 >>> (((8 : Int32) * p3) &&& 0x3f).toInt64.toUInt64).toInt64) &&& (255 : Int64))) rfl rfl ?_
    refine own_l2i A hx (pc' := 24) (hb hby d_method_3_23) (z := ((((p1.toUInt64 >>> (((8 : Int32) * p3) &&& 0x3f).toInt64.toUInt64).toInt64) &&& (255 : Int64)).toInt32)) rfl rfl ?_
    refine own_i2c A hx (pc' := 25) (hb hby d_method_3_24) (z := (((((p1.toUInt64 >>> (((8 : Int32) * p3) &&& 0x3f).toInt64.toUInt64).toInt64) &&& (255 : Int64)).toInt32).toUInt32.toUInt16.toUInt32.toInt32)) rfl rfl ?_
    exact own_retN K hx hlk hret (by simp) (hb hby d_method_3_25) (by decide) (by decide) ⟨_, by rw [own_i2cI (own_l255 _)], own_l255 _, rfl⟩
  · refine own_bipush A hx (pc' := 12) (hb hby d_method_3_10) (z := (32 : Int32)) (by decide) rfl ?_
    exact own_retN K hx hlk hret (by simp) (hb hby d_method_3_12) (by decide) (by decide) ⟨32, rfl, by decide, rfl⟩
theorem d_method_4_0 : decode method_4_code 0 = .ok (.iload_n 2, 1) := by decide +kernel
theorem d_method_4_1 : decode method_4_code 1 = .ok (.iconst 2, 1) := by decide +kernel
theorem d_method_4_2 : decode method_4_code 2 = .ok (.iload 4, 2) := by decide +kernel
theorem d_method_4_4 : decode method_4_code 4 = .ok (.iadd, 1) := by decide +kernel
theorem d_method_4_5 : decode method_4_code 5 = .ok (.iushr, 1) := by decide +kernel
theorem d_method_4_6 : decode method_4_code 6 = .ok (.iconst 1, 1) := by decide +kernel
theorem d_method_4_7 : decode method_4_code 7 = .ok (.iand, 1) := by decide +kernel
theorem d_method_4_8 : decode method_4_code 8 = .ok (.ifCond .eq 20, 3) := by decide +kernel
theorem d_method_4_28 : decode method_4_code 28 = .ok (.lload_n 0, 1) := by decide +kernel
theorem d_method_4_29 : decode method_4_code 29 = .ok (.bipush 8, 2) := by decide +kernel
theorem d_method_4_31 : decode method_4_code 31 = .ok (.iload 4, 2) := by decide +kernel
theorem d_method_4_33 : decode method_4_code 33 = .ok (.imul, 1) := by decide +kernel
theorem d_method_4_34 : decode method_4_code 34 = .ok (.lushr, 1) := by decide +kernel
theorem d_method_4_35 : decode method_4_code 35 = .ok (.ldc2_w 43, 3) := by decide +kernel
theorem d_method_4_38 : decode method_4_code 38 = .ok (.land, 1) := by decide +kernel
theorem d_method_4_39 : decode method_4_code 39 = .ok (.l2i, 1) := by decide +kernel
theorem d_method_4_40 : decode method_4_code 40 = .ok (.i2c, 1) := by decide +kernel
theorem d_method_4_41 : decode method_4_code 41 = .ok (.ireturn, 1) := by decide +kernel
theorem d_method_4_11 : decode method_4_code 11 = .ok (.aload_n 3, 1) := by decide +kernel
theorem d_method_4_12 : decode method_4_code 12 = .ok (.iload 4, 2) := by decide +kernel
theorem d_method_4_14 : decode method_4_code 14 = .ok (.caload, 1) := by decide +kernel
theorem d_method_4_15 : decode method_4_code 15 = .ok (.iload_n 2, 1) := by decide +kernel
theorem d_method_4_16 : decode method_4_code 16 = .ok (.iconst 5, 1) := by decide +kernel
theorem d_method_4_17 : decode method_4_code 17 = .ok (.iload 4, 2) := by decide +kernel
theorem d_method_4_19 : decode method_4_code 19 = .ok (.iadd, 1) := by decide +kernel
theorem d_method_4_20 : decode method_4_code 20 = .ok (.iushr, 1) := by decide +kernel
theorem d_method_4_21 : decode method_4_code 21 = .ok (.iconst 1, 1) := by decide +kernel
theorem d_method_4_22 : decode method_4_code 22 = .ok (.iand, 1) := by decide +kernel
theorem d_method_4_23 : decode method_4_code 23 = .ok (.iconst 5, 1) := by decide +kernel
theorem d_method_4_24 : decode method_4_code 24 = .ok (.ishl, 1) := by decide +kernel
theorem d_method_4_25 : decode method_4_code 25 = .ok (.ixor, 1) := by decide +kernel
theorem d_method_4_26 : decode method_4_code 26 = .ok (.i2c, 1) := by decide +kernel
theorem d_method_4_27 : decode method_4_code 27 = .ok (.ireturn, 1) := by decide +kernel
theorem ef_rm_sch (m : MethodId) (q_0 : Int64) (q_1 : Int32) (q_2 : Addr) (q_3 : Int32)  : entryFrame m #[(.long q_0), (.int q_1), (.ref q_2), (.int q_3)] 5 = mkF m 0 #[.val (.long q_0), .second, .val (.int q_1), .val (.ref q_2), .val (.int q_3)] [] := by  first | (simp [entryFrame, mkF, argsToLocals, Value.category]; done) | rfl
set_option maxRecDepth 65536 in
set_option maxHeartbeats 40000000 in
theorem rm_sch (l : Launch) (Z : State) (a0 : Array Value) (hw : ∀ d ∈ tables_1, d.before a0 Z = true) (more : List Jvm.Cond) (h0 : Heap) (p1 : Int64) (p2 : Int32) (b : Addr) (cs : List Int32) (kC : ClassId) (dz : Value) (i : Nat) (Ar : Arv Z h0 b kC .char (Int32.ofNat cs.length) (cs.map Value.int) dz) (hlat : ∀ c ∈ cs, ¬ (255 : Int32) < c) (hbc : ∀ c ∈ cs, ¬ c < 0 ∧ ¬ (65535 : Int32) < c) (hi : i < cs.length) (hl5 : cs.length ≤ 5) :
    own_Met true false consts_1 l Z a0 (⟨"com/example/portcullis/portcullis/service/AuthorizationHeaderCredentialsPinLaw", "sch", "(JI[CI)C"⟩ : MethodName) method_4_code 5 (some .char) more ({ frames := 0, cells := 0, slots := 0, locals := 0 } : Room) #[(.long p1), (.int p2), (.ref b), (.int (Int32.ofNat i))] h0 [] (fun v h => ∃ r, v = some (.int r) ∧ (¬ r < 0 ∧ ¬ (255 : Int32) < r) ∧ h = h0) := by
  refine own_enter (own := "com/example/portcullis/portcullis/service/AuthorizationHeaderCredentialsPinLaw") rfl (plainFor_of_name pn_6) ?_
  intro p e s m below meth c T hx hby hml hret hlk hnm K
  rw [ef_rm_sch m p1 p2 b (Int32.ofNat i)]
  have A := own_here K
  refine own_iloadN A hx (pc' := 1) (hb hby d_method_4_0) rfl rfl ?_
  refine own_iconst A hx (pc' := 2) (hb hby d_method_4_1) (z := (2 : Int32)) (by decide) rfl ?_
  refine own_iload A hx (pc' := 4) (hb hby d_method_4_2) rfl rfl ?_
  refine own_iadd A hx (pc' := 5) (hb hby d_method_4_4) (z := ((2 : Int32) + (Int32.ofNat i))) rfl rfl ?_
  refine own_iushr A hx (pc' := 6) (hb hby d_method_4_5) (z := ((p2.toUInt32 >>> (((2 : Int32) + (Int32.ofNat i)) &&& 31).toUInt32).toInt32)) rfl rfl ?_
  refine own_iconst A hx (pc' := 7) (hb hby d_method_4_6) (z := (1 : Int32)) (by decide) rfl ?_
  refine own_iand A hx (pc' := 8) (hb hby d_method_4_7) (z := (((p2.toUInt32 >>> (((2 : Int32) + (Int32.ofNat i)) &&& 31).toUInt32).toInt32) &&& (1 : Int32))) rfl rfl ?_
  refine own_if_eq A hx 28 11 (hb hby d_method_4_8) (by decide) (by decide) rfl (fun hc8 => ?_) (fun hc8 => ?_)
  · refine own_lloadN A hx (pc' := 29) (hb hby d_method_4_28) rfl rfl ?_
    refine own_bipush A hx (pc' := 31) (hb hby d_method_4_29) (z := (8 : Int32)) (by decide) rfl ?_
    refine own_iload A hx (pc' := 33) (hb hby d_method_4_31) rfl rfl ?_
    refine own_imul A hx (pc' := 34) (hb hby d_method_4_33) (z := ((8 : Int32) * (Int32.ofNat i))) rfl rfl ?_
    refine own_lushr A hx (pc' := 35) (hb hby d_method_4_34) (z := ((p1.toUInt64 >>> (((8 : Int32) * (Int32.ofNat i)) &&& 0x3f).toInt64.toUInt64).toInt64)) rfl rfl ?_
    refine own_ldc2 K hx (hw _ (List.mem_of_getElem? (i := 5) rfl)) (hb hby d_method_4_35) (pc' := 38) rfl ?_
    refine own_land A hx (pc' := 39) (hb hby d_method_4_38) (z := (((p1.toUInt64 >>> (((8 : Int32) * (Int32.ofNat i)) &&& 0x3f).toInt64.toUInt64).toInt64) &&& (255 : Int64))) rfl rfl ?_
    refine own_l2i A hx (pc' := 40) (hb hby d_method_4_39) (z := ((((p1.toUInt64 >>> (((8 : Int32) * (Int32.ofNat i)) &&& 0x3f).toInt64.toUInt64).toInt64) &&& (255 : Int64)).toInt32)) rfl rfl ?_
    refine own_i2c A hx (pc' := 41) (hb hby d_method_4_40) (z := (((((p1.toUInt64 >>> (((8 : Int32) * (Int32.ofNat i)) &&& 0x3f).toInt64.toUInt64).toInt64) &&& (255 : Int64)).toInt32).toUInt32.toUInt16.toUInt32.toInt32)) rfl rfl ?_
    exact own_retN K hx hlk hret (by simp) (hb hby d_method_4_41) (by decide) (by decide) ⟨_, by rw [own_i2cI (own_l255 _)], own_l255 _, rfl⟩
  · refine own_aloadN A hx (pc' := 12) (hb hby d_method_4_11) rfl rfl rfl ?_
    refine own_iload A hx (pc' := 14) (hb hby d_method_4_12) rfl rfl ?_
    refine own_ldC K hx Ar (own_natlt (by omega) hi) (by rw [own_natcl (by omega)]; exact own_mapAt _ hi) (hb hby d_method_4_14) (pc' := 15) rfl ?_
    refine own_iloadN A hx (pc' := 16) (hb hby d_method_4_15) rfl rfl ?_
    refine own_iconst A hx (pc' := 17) (hb hby d_method_4_16) (z := (5 : Int32)) (by decide) rfl ?_
    refine own_iload A hx (pc' := 19) (hb hby d_method_4_17) rfl rfl ?_
    refine own_iadd A hx (pc' := 20) (hb hby d_method_4_19) (z := ((5 : Int32) + (Int32.ofNat i))) rfl rfl ?_
    refine own_iushr A hx (pc' := 21) (hb hby d_method_4_20) (z := ((p2.toUInt32 >>> (((5 : Int32) + (Int32.ofNat i)) &&& 31).toUInt32).toInt32)) rfl rfl ?_
    refine own_iconst A hx (pc' := 22) (hb hby d_method_4_21) (z := (1 : Int32)) (by decide) rfl ?_
    refine own_iand A hx (pc' := 23) (hb hby d_method_4_22) (z := (((p2.toUInt32 >>> (((5 : Int32) + (Int32.ofNat i)) &&& 31).toUInt32).toInt32) &&& (1 : Int32))) rfl rfl ?_
    refine own_iconst A hx (pc' := 24) (hb hby d_method_4_23) (z := (5 : Int32)) (by decide) rfl ?_
    refine own_ishl A hx (pc' := 25) (hb hby d_method_4_24) (z := ((((p2.toUInt32 >>> (((5 : Int32) + (Int32.ofNat i)) &&& 31).toUInt32).toInt32) &&& (1 : Int32)) <<< ((5 : Int32) &&& 31))) rfl rfl ?_
    refine own_ixor A hx (pc' := 26) (hb hby d_method_4_25) (z := ((cs.getD i 0) ^^^ ((((p2.toUInt32 >>> (((5 : Int32) + (Int32.ofNat i)) &&& 31).toUInt32).toInt32) &&& (1 : Int32)) <<< ((5 : Int32) &&& 31)))) rfl rfl ?_
    refine own_i2c A hx (pc' := 27) (hb hby d_method_4_26) (z := (((cs.getD i 0) ^^^ ((((p2.toUInt32 >>> (((5 : Int32) + (Int32.ofNat i)) &&& 31).toUInt32).toInt32) &&& (1 : Int32)) <<< ((5 : Int32) &&& 31))).toUInt32.toUInt16.toUInt32.toInt32)) rfl rfl ?_
    exact own_retN K hx hlk hret (by simp) (hb hby d_method_4_27) (by decide) (by decide) ⟨_, by rw [own_i2cI (own_x32 ⟨(hbc _ (own_getD' hi)).1, hlat _ (own_getD' hi)⟩)], own_x32 ⟨(hbc _ (own_getD' hi)).1, hlat _ (own_getD' hi)⟩, rfl⟩
theorem own_rem {x y : Int32} {n : Nat} (h0 : ¬ x < 0) (hy : y.toInt = n) (hn : 0 < n) : ∃ k, k < n ∧ x % y = Int32.ofNat k := by
  rw [Int32.lt_iff_toInt_lt] at h0
  have e0 : (0 : Int32).toInt = 0 := rfl
  have e : (x % y).toInt = x.toInt % n := by rw [Int32.toInt_mod, hy, Int.tmod_eq_emod_of_nonneg (by omega)]
  have a := Int.emod_nonneg x.toInt (show (n : Int) ≠ 0 by omega)
  have b := Int.emod_lt_of_pos x.toInt (show 0 < (n : Int) by omega)
  have hb := (x % y).toInt_lt
  refine ⟨(x % y).toInt.toNat, by omega, ?_⟩
  apply Int32.toInt_inj.mp
  rw [Int32.toInt_ofNat_small (by show (x % y).toInt.toNat < 2 ^ 31; omega)]
  show (x % y).toInt = (((x % y).toInt.toNat : Nat) : Int)
  omega
theorem own_masked {n : Nat} (x : Int32) (hn : n < 2 ^ 31) : ∃ k, k ≤ n ∧ x &&& Int32.ofNat n = Int32.ofNat k := by
  have h : (x &&& Int32.ofNat n).toBitVec.toNat ≤ n := by
    simp only [Int32.toBitVec_and, BitVec.toNat_and]
    refine Nat.le_trans Nat.and_le_right ?_
    show (BitVec.ofNat 32 n).toNat ≤ n
    rw [BitVec.toNat_ofNat]; omega
  refine ⟨_, h, ?_⟩
  apply Int32.toBitVec_inj.mp
  show _ = BitVec.ofNat 32 _
  rw [BitVec.ofNat_toNat]; simp
theorem own_hl (x : Int32) : ∃ n, n ≤ 5 ∧ (x &&& (7 : Int32)) % (6 : Int32) = Int32.ofNat n := by
  obtain ⟨k, hk, e⟩ := own_masked (n := 7) x (by decide)
  have e' : x &&& (7 : Int32) = Int32.ofNat k := e
  obtain ⟨r, hr, e2⟩ := own_rem (x := x &&& 7) (y := 6) (n := 6) (by rw [e']; exact own_nat0 (by omega)) rfl (by decide)
  exact ⟨r, by omega, e2⟩
theorem own_sl (x : Int32) : ∃ n, n ≤ 3 ∧ x &&& (3 : Int32) = Int32.ofNat n := own_masked (n := 3) x (by decide)
theorem own_nar255 {r : Int32} (h : ¬ r < 0 ∧ ¬ (255 : Int32) < r) : nar .char r = r := by
  obtain ⟨k, rfl⟩ := own_u8 h
  exact (by decide +kernel : ∀ k : Fin 256, nar .char (Int32.ofNat k.val) = Int32.ofNat k.val) k
theorem own_w16 {r : Int32} (h : ¬ (255 : Int32) < r) : ¬ (65535 : Int32) < r := by
  rw [Int32.lt_iff_toInt_lt] at h ⊢
  have e0 : (255 : Int32).toInt = 255 := rfl
  have e1 : (65535 : Int32).toInt = 65535 := rfl
  omega
theorem own_nl {a b : Nat} (ha : a < 2 ^ 31) (hb : b < 2 ^ 31) : Int32.ofNat a < Int32.ofNat b ↔ a < b := by
  rw [Int32.lt_iff_toInt_lt, Int32.toInt_ofNat_small ha, Int32.toInt_ofNat_small hb]; omega
def own_P (H : List Int32) (n i : Nat) (sp : Int32) : Prop := (sp = -1 ∧ ∀ j, i ≤ j → j < n → ¬ H.getD j 0 = 32) ∨ (∃ k, sp = Int32.ofNat k ∧ i ≤ k ∧ k < n ∧ H.getD k 0 = 32 ∧ ∀ j, i ≤ j → j < k → ¬ H.getD j 0 = 32)
section
variable {H : List Int32} {n i : Nat} {sp : Int32}
theorem own_P5 (h : n ≤ 5) : own_P H n 5 (-1) := Or.inl ⟨rfl, fun j a b => absurd b (by omega)⟩
theorem own_Pskip (p : own_P H n (i + 1) sp) (h : n ≤ i) : own_P H n i sp := by
  rcases p with ⟨e, f⟩ | ⟨k, e, a, b, c, d⟩
  · exact Or.inl ⟨e, fun j x y => absurd y (by omega)⟩
  · exact absurd b (by omega)
theorem own_Phit (h : i < n) (e : H.getD i 0 = 32) : own_P H n i (Int32.ofNat i) := Or.inr ⟨i, rfl, Nat.le_refl _, h, e, fun j a b => absurd b (by omega)⟩
theorem own_Pmiss (p : own_P H n (i + 1) sp) (h : ¬ H.getD i 0 = 32) : own_P H n i sp := by
  rcases p with ⟨e, f⟩ | ⟨k, e, a, b, c, d⟩
  · refine Or.inl ⟨e, fun j x y => ?_⟩
    rcases Nat.lt_or_eq_of_le x with q | rfl
    · exact f j q y
    · exact h
  · refine Or.inr ⟨k, e, by omega, b, c, fun j x y => ?_⟩
    rcases Nat.lt_or_eq_of_le x with q | rfl
    · exact d j q y
    · exact h
theorem own_tlen (hn : n ≤ H.length) : (H.take n).length = n := by rw [List.length_take]; omega
theorem own_tget {j : Nat} (hj : j < n) : (H.take n).getD j 0 = H.getD j 0 := by
  rw [List.getD_eq_getElem?_getD, List.getD_eq_getElem?_getD, List.getElem?_take, if_pos hj]
theorem own_dget {b j : Nat} : (H.drop b).getD j 0 = H.getD (b + j) 0 := by
  rw [List.getD_eq_getElem?_getD, List.getD_eq_getElem?_getD, List.getElem?_drop]
theorem own_Pfin (p : own_P H n 0 sp) (hn : n ≤ H.length) : sp = own_spI (H.take n) := by
  have hl := own_tlen hn
  rcases p with ⟨e, f⟩ | ⟨k, e, -, b, c, d⟩
  · have q := own_sp_no (H.take n) (fun j hj => by rw [hl] at hj; rw [own_tget hj]; exact f j (Nat.zero_le _) hj)
    rw [own_spI, if_neg (by omega)]; exact e
  · have q := own_sp_at (H.take n) k (by omega) (fun j hj => by rw [own_tget (by omega)]; exact d j (Nat.zero_le _) hj) (by rw [own_tget b]; exact c)
    rw [own_spI, q, if_pos (by omega)]; exact e
theorem own_mt {D : List Int32} {s k : Nat} (hs : s ≤ n) (hn : n ≤ H.length) (hk : k ≤ D.length) (hk3 : k ≤ 3) : own_eqi ((H.take n).take s) (D.take k) ↔ s = k ∧ (k < 1 ∨ own_ci (H.getD 0 0) (D.getD 0 0)) ∧ (k < 2 ∨ own_ci (H.getD 1 0) (D.getD 1 0)) ∧ (k < 3 ∨ own_ci (H.getD 2 0) (D.getD 2 0)) := by
  have l1 : ((H.take n).take s).length = s := by rw [List.length_take, own_tlen hn]; omega
  have l2 := own_tlen hk
  have g : ∀ j, j < s → ((H.take n).take s).getD j 0 = H.getD j 0 := fun j hj => by rw [own_tget hj, own_tget (by omega)]
  unfold own_eqi
  rw [l1, l2]
  constructor
  · rintro ⟨rfl, h⟩
    have f : ∀ j, s < j + 1 ∨ own_ci (H.getD j 0) (D.getD j 0) := fun j => by
      by_cases q : j < s
      · right; have := h j q; rwa [g j q, own_tget q] at this
      · left; omega
    exact ⟨rfl, f 0, f 1, f 2⟩
  · rintro ⟨rfl, h0, h1, h2⟩
    refine ⟨rfl, fun j hj => ?_⟩
    rw [g j hj, own_tget hj]
    have : j = 0 ∨ j = 1 ∨ j = 2 := by omega
    rcases this with rfl | rfl | rfl
    · exact h0.resolve_left (by omega)
    · exact h1.resolve_left (by omega)
    · exact h2.resolve_left (by omega)
def own_A (H : List Int32) (b n i : Nat) (lo : Int32) : Prop := ∃ a, lo = Int32.ofNat a ∧ b ≤ a ∧ a ≤ n ∧ (∀ j, b ≤ j → j < a → own_ws (H.getD j 0)) ∧ (a = b + i ∨ a = n ∨ ¬ own_ws (H.getD a 0))
def own_B (H : List Int32) (a n i : Nat) (hi : Int32) : Prop := ∃ c, hi = Int32.ofNat c ∧ a ≤ c ∧ c ≤ n ∧ (∀ j, c ≤ j → j < n → own_ws (H.getD j 0)) ∧ (c + i = n ∨ c = a ∨ ¬ own_ws (H.getD (c - 1) 0))
theorem own_fin {b a c : Nat} (hn : n ≤ H.length) (h1 : b ≤ a) (h2 : a ≤ n) (h3 : ∀ j, b ≤ j → j < a → own_ws (H.getD j 0)) (h4 : a = n ∨ ¬ own_ws (H.getD a 0)) (g1 : a ≤ c) (g2 : c ≤ n) (g3 : ∀ j, c ≤ j → j < n → own_ws (H.getD j 0)) (g4 : c = a ∨ ¬ own_ws (H.getD (c - 1) 0)) {us : List Int32} (ht : own_trim ((H.take n).drop b) us) : us = (H.drop a).take (c - a) := by
  obtain ⟨q, r, rfl, hqr⟩ := ht
  have hl : ((H.take n).drop b).length = n - b := by rw [List.length_drop, own_tlen hn]
  have gd : ∀ j, j < n - b → ((H.take n).drop b).getD j 0 = H.getD (b + j) 0 := fun j hj => by rw [own_dget, own_tget (by omega)]
  have Q : own_qr ((H.take n).drop b) (a - b) (c - b) := by
    refine ⟨by rw [hl]; omega, fun j hj => ?_, fun hq => ?_⟩
    · rw [gd j (by omega)]; exact h3 _ (by omega) (by omega)
    · rw [hl] at hq
      have na : ¬ own_ws (H.getD a 0) := h4.resolve_left (by omega)
      have ca : a < c := Nat.lt_of_not_le fun e => na (g3 a e (by omega))
      refine ⟨by rw [gd _ hq, show b + (a - b) = a by omega]; exact na, by omega, by rw [hl]; omega, fun j x y => ?_, ?_⟩
      · rw [hl] at y; rw [gd j y]; exact g3 _ (by omega) (by omega)
      · rw [gd _ (by omega), show b + (c - b - 1) = c - 1 by omega]; exact g4.resolve_left (by omega)
  rw [own_qr_uniq hqr Q, List.drop_drop, show b + (a - b) = a by omega, List.drop_take, List.take_take, show min (c - b - (a - b)) (n - a) = c - a by omega]
end
def own_Cred (Z : State) (h : Heap) (v : Value) (cs ds : List Int32) : Prop := (¬ own_eqi (cs.take (own_spN cs)) ds ∧ v = .null) ∨ (own_eqi (cs.take (own_spN cs)) ds ∧ ¬ own_spN cs < cs.length ∧ ∃ a, v = .ref a ∧ own_Str Z h a []) ∨ (own_eqi (cs.take (own_spN cs)) ds ∧ own_spN cs < cs.length ∧ ∃ a us, v = .ref a ∧ own_Str Z h a us ∧ own_trim (cs.drop (own_spN cs + 1)) us)
theorem own_Cred.keep {Z : State} {h h' : Heap} {v : Value} {cs ds : List Int32} (F : own_Cred Z h v cs ds) (K : Keep h h' []) : own_Cred Z h' v cs ds := by
  rcases F with F | ⟨a, b, x, e, S⟩ | ⟨a, b, x, us, e, S, t⟩
  · exact Or.inl F
  · exact Or.inr (Or.inl ⟨a, b, x, e, S.keep K own_off0⟩)
  · exact Or.inr (Or.inr ⟨a, b, x, us, e, S.keep K own_off0, t⟩)
theorem own_Cred.ext {Z : State} {h h' : Heap} {v : Value} {cs ds : List Int32} (F : own_Cred Z h v cs ds) (E : Ext h h') : own_Cred Z h' v cs ds := F.keep ((Keep.refl h []).ext E)
theorem own_natsubp {c : Nat} (h : 0 < c) : Int32.ofNat c - (1 : Int32) = Int32.ofNat (c - 1) := by
  have e : c = (c - 1) + 1 := by omega
  rw [e]; exact own_natsub1 (c - 1)
theorem own_natdecp {c : Nat} (h : 0 < c) : Int32.ofNat c + Int32.ofInt (-1) = Int32.ofNat (c - 1) := by
  have e : c = (c - 1) + 1 := by omega
  rw [e]; exact own_natdec (c - 1)
theorem own_Cred.ref {Z : State} {h : Heap} {v : Value} {cs ds : List Int32} (F : own_Cred Z h v cs ds) : v.isRef = true := by
  rcases F with ⟨-, rfl⟩ | ⟨-, -, x, rfl, -⟩ | ⟨-, -, x, us, rfl, -, -⟩ <;> rfl
theorem pd_27 : parseMethodDescriptor "(JII)C" = some ⟨[.long, .int, .int], some .char⟩ := by decide +kernel
theorem pd_28 : parseMethodDescriptor "(JI[CI)C" = some ⟨[.long, .int, (.array .char), .int], some .char⟩ := by decide +kernel
theorem pd_29 : parseMethodDescriptor "([CII)Ljava/lang/String;" = some ⟨[(.array .char), .int, .int], some (.object "java/lang/String")⟩ := by decide +kernel
theorem pd_30 : parseMethodDescriptor "(Ljava/lang/String;Ljava/lang/String;)Ljava/lang/String;" = some ⟨[(.object "java/lang/String"), (.object "java/lang/String")], some (.object "java/lang/String")⟩ := by decide +kernel
theorem pd_31 : parseMethodDescriptor "(Ljava/lang/Object;)Z" = some ⟨[(.object "java/lang/Object")], some .boolean⟩ := by decide +kernel
theorem pd_32 : parseMethodDescriptor "(CC)Z" = some ⟨[.char, .char], some .boolean⟩ := by decide +kernel
theorem ef_rm_law (m : MethodId) (q_0 : Int64) (q_1 : Int32) (q_2 : Int64) (q_3 : Int32)  : entryFrame m #[(.long q_0), (.int q_1), (.long q_2), (.int q_3)] maxLocals = mkF m 0 #[.val (.long q_0), .second, .val (.int q_1), .val (.long q_2), .second, .val (.int q_3), .unset, .unset, .unset, .unset, .unset, .unset, .unset, .unset, .unset, .unset, .unset, .unset] [] := by  first | (simp [entryFrame, mkF, argsToLocals, Value.category, maxLocals]; done) | rfl
set_option maxRecDepth 65536 in
set_option maxHeartbeats 40000000 in
theorem rm_law (l : Launch) (Z : State) (a0 : Array Value) (hw : ∀ d ∈ tables_1, d.before a0 Z = true) (more : List Jvm.Cond) (h0 : Heap) (i0 : Int64) (i1 : Int32) (i2 : Int64) (i3 : Int32)  (G1 : Int32) (O2 : Sta Z Z.heap "java/lang/String" "COMPACT_STRINGS" "Z" (.int G1)) (P5 : ¬ (G1 = (0 : Int32))) (G3 : Value) (O4 : Sta Z Z.heap "jdk/internal/util/Preconditions" "SIOOBE_FORMATTER" "Ljava/util/function/BiFunction;" G3) (hr_G3 : G3.isRef = true) (aA : Addr) (kA : ClassId) (SA : Sta Z Z.heap "java/lang/CharacterDataLatin1" "A" "[I" (.ref aA)) (TA : Arv Z Z.heap aA kA .int (Int32.ofNat 256) (own_tab.map Value.int) (.int 0)) (aI : Addr) (SI : Sta Z Z.heap "java/lang/CharacterDataLatin1" "instance" "Ljava/lang/CharacterDataLatin1;" (.ref aI)) (XI : Exa Z Z.heap aI "java/lang/CharacterDataLatin1") :
    own_Met true false consts_1 l Z a0 x code maxLocals ret more room_1 #[(.long i0), (.int i1), (.long i2), (.int i3)] h0 [] (fun v h => v = some (.int 1)) := by
  refine own_enter (own := "com/example/portcullis/portcullis/service/AuthorizationHeaderCredentialsPinLaw") rfl (plainFor_of_name pn_6) ?_
  intro p e s m below meth c T hx hby hml hret hlk hnm K
  rw [ef_rm_law m i0 i1 i2 i3]
  have A := own_here K
  refine own_iconst A hx (pc' := 1) (hb hby at_0) (z := (5 : Int32)) (by decide) rfl ?_
  refine own_newarr K hx (hw _ (List.mem_of_getElem? (i := 0) rfl)) (hb hby at_1) (pc' := 3) rfl (by decide) 5 (by decide) (by decide) (by decide) (by decide) ?_
  intro T116 h116 b116 k116 g116 K116 E116 V116
  have A116 := own_here K116
  have V116 : Arv Z h116 b116 k116 .char (5 : Int32) [(.int (0 : Int32)), (.int (0 : Int32)), (.int (0 : Int32)), (.int (0 : Int32)), (.int (0 : Int32))] (.int (0 : Int32)) := V116.pad (pad_rep [] (.int (0 : Int32)) 5)
  refine own_astore A116 hx (pc' := 5) #[.val (.long i0), .second, .val (.int i1), .val (.long i2), .second, .val (.int i3), .val (.ref b116), .unset, .unset, .unset, .unset, .unset, .unset, .unset, .unset, .unset, .unset, .unset] (hb hby at_3) rfl rfl rfl ?_
  refine own_aload A116 hx (pc' := 7) (hb hby at_5) rfl rfl rfl ?_
  refine own_iconst A116 hx (pc' := 8) (hb hby at_7) (z := (0 : Int32)) (by decide) rfl ?_
  refine own_lloadN A116 hx (pc' := 9) (hb hby at_8) rfl rfl ?_
  refine own_iloadN A116 hx (pc' := 10) (hb hby at_9) rfl rfl ?_
  refine own_iconst A116 hx (pc' := 11) (hb hby at_10) (z := (0 : Int32)) (by decide) rfl ?_
  refine own_callS K116 hx (by rw [hml]; rfl) (hw _ (List.mem_of_getElem? (i := 1) rfl)) (hw _ (List.mem_of_getElem? (i := 2) rfl)) (hw _ (List.mem_of_getElem? (i := 3) rfl)) (hw _ (List.mem_of_getElem? (i := 4) rfl)) (by decide) (rm_hch l Z a0 hw [] h116 i0 i1 (0 : Int32)) (fun _ q => nomatch q) (argsL := [(.long i0), (.int i1), (.int (0 : Int32))]) (rest := [(.int (0 : Int32)), (.ref b116)]) (lenOf pd_27 rfl) rfl 2 (Nat.le_of_eq rfl) (hb hby at_11) (pc' := 14) rfl (by decide) (by decide) (by decide) (by decide) ?_
  intro v117 T117 h117 K117 Kp117 Q117
  obtain ⟨r117, rfl, hr117, -⟩ := Q117
  have V116 := V116.keep Kp117 nin0
  have A117 := own_here K117
  show own_Go p.tables e below _ T117 (mkF m 14 #[.val (.long i0), .second, .val (.int i1), .val (.long i2), .second, .val (.int i3), .val (.ref b116), .unset, .unset, .unset, .unset, .unset, .unset, .unset, .unset, .unset, .unset, .unset] [(.int r117), (.int (0 : Int32)), (.ref b116)])
  refine own_stC K117 hx V116 (List.mem_of_getElem? (i := 0) rfl) (by decide) 0 rfl (Nat.le_of_ble_eq_true rfl) (hb hby at_14) (pc' := 15) rfl ?_
  intro T118 h118 K118 W118 V118
  have A118 := own_here K118
  have V118 : Arv Z h118 b116 k116 .char (5 : Int32) [(.int (nar .char r117)), (.int (0 : Int32)), (.int (0 : Int32)), (.int (0 : Int32)), (.int (0 : Int32))] (.int (0 : Int32)) := V118
  refine own_aload A118 hx (pc' := 17) (hb hby at_15) rfl rfl rfl ?_
  refine own_iconst A118 hx (pc' := 18) (hb hby at_17) (z := (1 : Int32)) (by decide) rfl ?_
  refine own_lloadN A118 hx (pc' := 19) (hb hby at_18) rfl rfl ?_
  refine own_iloadN A118 hx (pc' := 20) (hb hby at_19) rfl rfl ?_
  refine own_iconst A118 hx (pc' := 21) (hb hby at_20) (z := (1 : Int32)) (by decide) rfl ?_
  refine own_callS K118 hx (by rw [hml]; rfl) (hw _ (List.mem_of_getElem? (i := 1) rfl)) (hw _ (List.mem_of_getElem? (i := 2) rfl)) (hw _ (List.mem_of_getElem? (i := 3) rfl)) (hw _ (List.mem_of_getElem? (i := 4) rfl)) (by decide) (rm_hch l Z a0 hw [] h118 i0 i1 (1 : Int32)) (fun _ q => nomatch q) (argsL := [(.long i0), (.int i1), (.int (1 : Int32))]) (rest := [(.int (1 : Int32)), (.ref b116)]) (lenOf pd_27 rfl) rfl 2 (Nat.le_of_eq rfl) (hb hby at_21) (pc' := 24) rfl (by decide) (by decide) (by decide) (by decide) ?_
  intro v119 T119 h119 K119 Kp119 Q119
  obtain ⟨r119, rfl, hr119, -⟩ := Q119
  have V118 := V118.keep Kp119 nin0
  have A119 := own_here K119
  show own_Go p.tables e below _ T119 (mkF m 24 #[.val (.long i0), .second, .val (.int i1), .val (.long i2), .second, .val (.int i3), .val (.ref b116), .unset, .unset, .unset, .unset, .unset, .unset, .unset, .unset, .unset, .unset, .unset] [(.int r119), (.int (1 : Int32)), (.ref b116)])
  refine own_stC K119 hx V118 (List.mem_of_getElem? (i := 0) rfl) (by decide) 1 rfl (Nat.le_of_ble_eq_true rfl) (hb hby at_24) (pc' := 25) rfl ?_
  intro T120 h120 K120 W120 V120
  have A120 := own_here K120
  have V120 : Arv Z h120 b116 k116 .char (5 : Int32) [(.int (nar .char r117)), (.int (nar .char r119)), (.int (0 : Int32)), (.int (0 : Int32)), (.int (0 : Int32))] (.int (0 : Int32)) := V120
  refine own_aload A120 hx (pc' := 27) (hb hby at_25) rfl rfl rfl ?_
  refine own_iconst A120 hx (pc' := 28) (hb hby at_27) (z := (2 : Int32)) (by decide) rfl ?_
  refine own_lloadN A120 hx (pc' := 29) (hb hby at_28) rfl rfl ?_
  refine own_iloadN A120 hx (pc' := 30) (hb hby at_29) rfl rfl ?_
  refine own_iconst A120 hx (pc' := 31) (hb hby at_30) (z := (2 : Int32)) (by decide) rfl ?_
  refine own_callS K120 hx (by rw [hml]; rfl) (hw _ (List.mem_of_getElem? (i := 1) rfl)) (hw _ (List.mem_of_getElem? (i := 2) rfl)) (hw _ (List.mem_of_getElem? (i := 3) rfl)) (hw _ (List.mem_of_getElem? (i := 4) rfl)) (by decide) (rm_hch l Z a0 hw [] h120 i0 i1 (2 : Int32)) (fun _ q => nomatch q) (argsL := [(.long i0), (.int i1), (.int (2 : Int32))]) (rest := [(.int (2 : Int32)), (.ref b116)]) (lenOf pd_27 rfl) rfl 2 (Nat.le_of_eq rfl) (hb hby at_31) (pc' := 34) rfl (by decide) (by decide) (by decide) (by decide) ?_
  intro v121 T121 h121 K121 Kp121 Q121
  obtain ⟨r121, rfl, hr121, -⟩ := Q121
  have V120 := V120.keep Kp121 nin0
  have A121 := own_here K121
  show own_Go p.tables e below _ T121 (mkF m 34 #[.val (.long i0), .second, .val (.int i1), .val (.long i2), .second, .val (.int i3), .val (.ref b116), .unset, .unset, .unset, .unset, .unset, .unset, .unset, .unset, .unset, .unset, .unset] [(.int r121), (.int (2 : Int32)), (.ref b116)])
  refine own_stC K121 hx V120 (List.mem_of_getElem? (i := 0) rfl) (by decide) 2 rfl (Nat.le_of_ble_eq_true rfl) (hb hby at_34) (pc' := 35) rfl ?_
  intro T122 h122 K122 W122 V122
  have A122 := own_here K122
  have V122 : Arv Z h122 b116 k116 .char (5 : Int32) [(.int (nar .char r117)), (.int (nar .char r119)), (.int (nar .char r121)), (.int (0 : Int32)), (.int (0 : Int32))] (.int (0 : Int32)) := V122
  refine own_aload A122 hx (pc' := 37) (hb hby at_35) rfl rfl rfl ?_
  refine own_iconst A122 hx (pc' := 38) (hb hby at_37) (z := (3 : Int32)) (by decide) rfl ?_
  refine own_lloadN A122 hx (pc' := 39) (hb hby at_38) rfl rfl ?_
  refine own_iloadN A122 hx (pc' := 40) (hb hby at_39) rfl rfl ?_
  refine own_iconst A122 hx (pc' := 41) (hb hby at_40) (z := (3 : Int32)) (by decide) rfl ?_
  refine own_callS K122 hx (by rw [hml]; rfl) (hw _ (List.mem_of_getElem? (i := 1) rfl)) (hw _ (List.mem_of_getElem? (i := 2) rfl)) (hw _ (List.mem_of_getElem? (i := 3) rfl)) (hw _ (List.mem_of_getElem? (i := 4) rfl)) (by decide) (rm_hch l Z a0 hw [] h122 i0 i1 (3 : Int32)) (fun _ q => nomatch q) (argsL := [(.long i0), (.int i1), (.int (3 : Int32))]) (rest := [(.int (3 : Int32)), (.ref b116)]) (lenOf pd_27 rfl) rfl 2 (Nat.le_of_eq rfl) (hb hby at_41) (pc' := 44) rfl (by decide) (by decide) (by decide) (by decide) ?_
  intro v123 T123 h123 K123 Kp123 Q123
  obtain ⟨r123, rfl, hr123, -⟩ := Q123
  have V122 := V122.keep Kp123 nin0
  have A123 := own_here K123
  show own_Go p.tables e below _ T123 (mkF m 44 #[.val (.long i0), .second, .val (.int i1), .val (.long i2), .second, .val (.int i3), .val (.ref b116), .unset, .unset, .unset, .unset, .unset, .unset, .unset, .unset, .unset, .unset, .unset] [(.int r123), (.int (3 : Int32)), (.ref b116)])
  refine own_stC K123 hx V122 (List.mem_of_getElem? (i := 0) rfl) (by decide) 3 rfl (Nat.le_of_ble_eq_true rfl) (hb hby at_44) (pc' := 45) rfl ?_
  intro T124 h124 K124 W124 V124
  have A124 := own_here K124
  have V124 : Arv Z h124 b116 k116 .char (5 : Int32) [(.int (nar .char r117)), (.int (nar .char r119)), (.int (nar .char r121)), (.int (nar .char r123)), (.int (0 : Int32))] (.int (0 : Int32)) := V124
  refine own_aload A124 hx (pc' := 47) (hb hby at_45) rfl rfl rfl ?_
  refine own_iconst A124 hx (pc' := 48) (hb hby at_47) (z := (4 : Int32)) (by decide) rfl ?_
  refine own_lloadN A124 hx (pc' := 49) (hb hby at_48) rfl rfl ?_
  refine own_iloadN A124 hx (pc' := 50) (hb hby at_49) rfl rfl ?_
  refine own_iconst A124 hx (pc' := 51) (hb hby at_50) (z := (4 : Int32)) (by decide) rfl ?_
  refine own_callS K124 hx (by rw [hml]; rfl) (hw _ (List.mem_of_getElem? (i := 1) rfl)) (hw _ (List.mem_of_getElem? (i := 2) rfl)) (hw _ (List.mem_of_getElem? (i := 3) rfl)) (hw _ (List.mem_of_getElem? (i := 4) rfl)) (by decide) (rm_hch l Z a0 hw [] h124 i0 i1 (4 : Int32)) (fun _ q => nomatch q) (argsL := [(.long i0), (.int i1), (.int (4 : Int32))]) (rest := [(.int (4 : Int32)), (.ref b116)]) (lenOf pd_27 rfl) rfl 2 (Nat.le_of_eq rfl) (hb hby at_51) (pc' := 54) rfl (by decide) (by decide) (by decide) (by decide) ?_
  intro v125 T125 h125 K125 Kp125 Q125
  obtain ⟨r125, rfl, hr125, -⟩ := Q125
  have V124 := V124.keep Kp125 nin0
  have A125 := own_here K125
  show own_Go p.tables e below _ T125 (mkF m 54 #[.val (.long i0), .second, .val (.int i1), .val (.long i2), .second, .val (.int i3), .val (.ref b116), .unset, .unset, .unset, .unset, .unset, .unset, .unset, .unset, .unset, .unset, .unset] [(.int r125), (.int (4 : Int32)), (.ref b116)])
  refine own_stC K125 hx V124 (List.mem_of_getElem? (i := 0) rfl) (by decide) 4 rfl (Nat.le_of_ble_eq_true rfl) (hb hby at_54) (pc' := 55) rfl ?_
  intro T126 h126 K126 W126 V126
  have A126 := own_here K126
  have V126 : Arv Z h126 b116 k116 .char (5 : Int32) [(.int (nar .char r117)), (.int (nar .char r119)), (.int (nar .char r121)), (.int (nar .char r123)), (.int (nar .char r125))] (.int (0 : Int32)) := V126
  rw [own_nar255 hr117, own_nar255 hr119, own_nar255 hr121, own_nar255 hr123, own_nar255 hr125] at V126
  obtain ⟨H, eH⟩ : ∃ l : List Int32, l = [r117, r119, r121, r123, r125] := ⟨_, rfl⟩
  have AH : Arv Z h126 b116 k116 .char (Int32.ofNat H.length) (H.map Value.int) (.int (0 : Int32)) := by rw [eH]; exact V126
  have hHl : H.length = 5 := by rw [eH]; rfl
  have hH : ∀ c ∈ H, ¬ c < 0 ∧ ¬ (255 : Int32) < c := by rw [eH]; intro c hc; simp only [List.mem_cons, List.not_mem_nil, or_false] at hc; rcases hc with rfl | rfl | rfl | rfl | rfl <;> assumption
  have hHa : ∀ c ∈ H, ¬ (255 : Int32) < c := fun c hc => (hH c hc).2
  have hHb : ∀ c ∈ H, ¬ c < 0 ∧ ¬ (65535 : Int32) < c := fun c hc => ⟨(hH c hc).1, own_w16 (hH c hc).2⟩
  refine own_iloadN A126 hx (pc' := 56) (hb hby at_55) rfl rfl ?_
  refine own_bipush A126 hx (pc' := 58) (hb hby at_56) (z := (7 : Int32)) (by decide) rfl ?_
  refine own_iand A126 hx (pc' := 59) (hb hby at_58) (z := (i1 &&& (7 : Int32))) rfl rfl ?_
  refine own_bipush A126 hx (pc' := 61) (hb hby at_59) (z := (6 : Int32)) (by decide) rfl ?_
  refine own_irem K126 hx (z := ((i1 &&& (7 : Int32)) % (6 : Int32))) (pc' := 62) (by decide) rfl (hb hby at_61) rfl ?_
  obtain ⟨hlN, hl5, ehl⟩ := own_hl i1
  rw [ehl]
  refine own_istore A126 hx (pc' := 64) #[.val (.long i0), .second, .val (.int i1), .val (.long i2), .second, .val (.int i3), .val (.ref b116), .val (.int (Int32.ofNat hlN)), .unset, .unset, .unset, .unset, .unset, .unset, .unset, .unset, .unset, .unset] (hb hby at_62) rfl rfl ?_
  refine own_iconst A126 hx (pc' := 65) (hb hby at_64) (z := (3 : Int32)) (by decide) rfl ?_
  refine own_newarr K126 hx (hw _ (List.mem_of_getElem? (i := 0) rfl)) (hb hby at_65) (pc' := 67) rfl (by decide) 3 (by decide) (by decide) (by decide) (by decide) ?_
  intro T127 h127 b127 k127 g127 K127 E127 V127
  have ne_b116_b127 : b116 ≠ b127 := by rw [g127]; exact Nat.ne_of_lt AH.lt
  have AH := AH.ext E127
  have A127 := own_here K127
  have V127 : Arv Z h127 b127 k127 .char (3 : Int32) [(.int (0 : Int32)), (.int (0 : Int32)), (.int (0 : Int32))] (.int (0 : Int32)) := V127.pad (pad_rep [] (.int (0 : Int32)) 3)
  refine own_astore A127 hx (pc' := 69) #[.val (.long i0), .second, .val (.int i1), .val (.long i2), .second, .val (.int i3), .val (.ref b116), .val (.int (Int32.ofNat hlN)), .val (.ref b127), .unset, .unset, .unset, .unset, .unset, .unset, .unset, .unset, .unset] (hb hby at_67) rfl rfl rfl ?_
  refine own_aload A127 hx (pc' := 71) (hb hby at_69) rfl rfl rfl ?_
  refine own_iconst A127 hx (pc' := 72) (hb hby at_71) (z := (0 : Int32)) (by decide) rfl ?_
  refine own_lloadN A127 hx (pc' := 73) (hb hby at_72) rfl rfl ?_
  refine own_iload A127 hx (pc' := 75) (hb hby at_73) rfl rfl ?_
  refine own_aload A127 hx (pc' := 77) (hb hby at_75) rfl rfl rfl ?_
  refine own_iconst A127 hx (pc' := 78) (hb hby at_77) (z := (0 : Int32)) (by decide) rfl ?_
  refine own_callS K127 hx (by rw [hml]; rfl) (hw _ (List.mem_of_getElem? (i := 6) rfl)) (hw _ (List.mem_of_getElem? (i := 7) rfl)) (hw _ (List.mem_of_getElem? (i := 3) rfl)) (hw _ (List.mem_of_getElem? (i := 8) rfl)) (by decide) (rm_sch l Z a0 hw [] h127 i2 i3 b116 H k116 _ 0 AH hHa hHb (by omega) (by omega)) (fun _ q => nomatch q) (argsL := [(.long i2), (.int i3), (.ref b116), (.int (0 : Int32))]) (rest := [(.int (0 : Int32)), (.ref b127)]) (lenOf pd_28 rfl) rfl 2 (Nat.le_of_eq rfl) (hb hby at_78) (pc' := 81) rfl (by decide) (by decide) (by decide) (by decide) ?_
  intro v128 T128 h128 K128 Kp128 Q128
  obtain ⟨r128, rfl, hr128, -⟩ := Q128
  have AH := AH.keep Kp128 nin0
  have V127 := V127.keep Kp128 nin0
  have A128 := own_here K128
  show own_Go p.tables e below _ T128 (mkF m 81 #[.val (.long i0), .second, .val (.int i1), .val (.long i2), .second, .val (.int i3), .val (.ref b116), .val (.int (Int32.ofNat hlN)), .val (.ref b127), .unset, .unset, .unset, .unset, .unset, .unset, .unset, .unset, .unset] [(.int r128), (.int (0 : Int32)), (.ref b127)])
  refine own_stC K128 hx V127 (List.mem_of_getElem? (i := 0) rfl) (by decide) 0 rfl (Nat.le_of_ble_eq_true rfl) (hb hby at_81) (pc' := 82) rfl ?_
  intro T129 h129 K129 W129 V129
  have AH := AH.other W129 ne_b116_b127
  have A129 := own_here K129
  have V129 : Arv Z h129 b127 k127 .char (3 : Int32) [(.int (nar .char r128)), (.int (0 : Int32)), (.int (0 : Int32))] (.int (0 : Int32)) := V129
  refine own_aload A129 hx (pc' := 84) (hb hby at_82) rfl rfl rfl ?_
  refine own_iconst A129 hx (pc' := 85) (hb hby at_84) (z := (1 : Int32)) (by decide) rfl ?_
  refine own_lloadN A129 hx (pc' := 86) (hb hby at_85) rfl rfl ?_
  refine own_iload A129 hx (pc' := 88) (hb hby at_86) rfl rfl ?_
  refine own_aload A129 hx (pc' := 90) (hb hby at_88) rfl rfl rfl ?_
  refine own_iconst A129 hx (pc' := 91) (hb hby at_90) (z := (1 : Int32)) (by decide) rfl ?_
  refine own_callS K129 hx (by rw [hml]; rfl) (hw _ (List.mem_of_getElem? (i := 6) rfl)) (hw _ (List.mem_of_getElem? (i := 7) rfl)) (hw _ (List.mem_of_getElem? (i := 3) rfl)) (hw _ (List.mem_of_getElem? (i := 8) rfl)) (by decide) (rm_sch l Z a0 hw [] h129 i2 i3 b116 H k116 _ 1 AH hHa hHb (by omega) (by omega)) (fun _ q => nomatch q) (argsL := [(.long i2), (.int i3), (.ref b116), (.int (1 : Int32))]) (rest := [(.int (1 : Int32)), (.ref b127)]) (lenOf pd_28 rfl) rfl 2 (Nat.le_of_eq rfl) (hb hby at_91) (pc' := 94) rfl (by decide) (by decide) (by decide) (by decide) ?_
  intro v130 T130 h130 K130 Kp130 Q130
  obtain ⟨r130, rfl, hr130, -⟩ := Q130
  have AH := AH.keep Kp130 nin0
  have V129 := V129.keep Kp130 nin0
  have A130 := own_here K130
  show own_Go p.tables e below _ T130 (mkF m 94 #[.val (.long i0), .second, .val (.int i1), .val (.long i2), .second, .val (.int i3), .val (.ref b116), .val (.int (Int32.ofNat hlN)), .val (.ref b127), .unset, .unset, .unset, .unset, .unset, .unset, .unset, .unset, .unset] [(.int r130), (.int (1 : Int32)), (.ref b127)])
  refine own_stC K130 hx V129 (List.mem_of_getElem? (i := 0) rfl) (by decide) 1 rfl (Nat.le_of_ble_eq_true rfl) (hb hby at_94) (pc' := 95) rfl ?_
  intro T131 h131 K131 W131 V131
  have AH := AH.other W131 ne_b116_b127
  have A131 := own_here K131
  have V131 : Arv Z h131 b127 k127 .char (3 : Int32) [(.int (nar .char r128)), (.int (nar .char r130)), (.int (0 : Int32))] (.int (0 : Int32)) := V131
  refine own_aload A131 hx (pc' := 97) (hb hby at_95) rfl rfl rfl ?_
  refine own_iconst A131 hx (pc' := 98) (hb hby at_97) (z := (2 : Int32)) (by decide) rfl ?_
  refine own_lloadN A131 hx (pc' := 99) (hb hby at_98) rfl rfl ?_
  refine own_iload A131 hx (pc' := 101) (hb hby at_99) rfl rfl ?_
  refine own_aload A131 hx (pc' := 103) (hb hby at_101) rfl rfl rfl ?_
  refine own_iconst A131 hx (pc' := 104) (hb hby at_103) (z := (2 : Int32)) (by decide) rfl ?_
  refine own_callS K131 hx (by rw [hml]; rfl) (hw _ (List.mem_of_getElem? (i := 6) rfl)) (hw _ (List.mem_of_getElem? (i := 7) rfl)) (hw _ (List.mem_of_getElem? (i := 3) rfl)) (hw _ (List.mem_of_getElem? (i := 8) rfl)) (by decide) (rm_sch l Z a0 hw [] h131 i2 i3 b116 H k116 _ 2 AH hHa hHb (by omega) (by omega)) (fun _ q => nomatch q) (argsL := [(.long i2), (.int i3), (.ref b116), (.int (2 : Int32))]) (rest := [(.int (2 : Int32)), (.ref b127)]) (lenOf pd_28 rfl) rfl 2 (Nat.le_of_eq rfl) (hb hby at_104) (pc' := 107) rfl (by decide) (by decide) (by decide) (by decide) ?_
  intro v132 T132 h132 K132 Kp132 Q132
  obtain ⟨r132, rfl, hr132, -⟩ := Q132
  have AH := AH.keep Kp132 nin0
  have V131 := V131.keep Kp132 nin0
  have A132 := own_here K132
  show own_Go p.tables e below _ T132 (mkF m 107 #[.val (.long i0), .second, .val (.int i1), .val (.long i2), .second, .val (.int i3), .val (.ref b116), .val (.int (Int32.ofNat hlN)), .val (.ref b127), .unset, .unset, .unset, .unset, .unset, .unset, .unset, .unset, .unset] [(.int r132), (.int (2 : Int32)), (.ref b127)])
  refine own_stC K132 hx V131 (List.mem_of_getElem? (i := 0) rfl) (by decide) 2 rfl (Nat.le_of_ble_eq_true rfl) (hb hby at_107) (pc' := 108) rfl ?_
  intro T133 h133 K133 W133 V133
  have AH := AH.other W133 ne_b116_b127
  have A133 := own_here K133
  have V133 : Arv Z h133 b127 k127 .char (3 : Int32) [(.int (nar .char r128)), (.int (nar .char r130)), (.int (nar .char r132))] (.int (0 : Int32)) := V133
  rw [own_nar255 hr128, own_nar255 hr130, own_nar255 hr132] at V133
  obtain ⟨D, eD⟩ : ∃ l : List Int32, l = [r128, r130, r132] := ⟨_, rfl⟩
  have AD : Arv Z h133 b127 k127 .char (Int32.ofNat D.length) (D.map Value.int) (.int (0 : Int32)) := by rw [eD]; exact V133
  have hDl : D.length = 3 := by rw [eD]; rfl
  have hD : ∀ c ∈ D, ¬ c < 0 ∧ ¬ (255 : Int32) < c := by rw [eD]; intro c hc; simp only [List.mem_cons, List.not_mem_nil, or_false] at hc; rcases hc with rfl | rfl | rfl <;> assumption
  have hDa : ∀ c ∈ D, ¬ (255 : Int32) < c := fun c hc => (hD c hc).2
  have hDb : ∀ c ∈ D, ¬ c < 0 ∧ ¬ (65535 : Int32) < c := fun c hc => ⟨(hD c hc).1, own_w16 (hD c hc).2⟩
  refine own_iload A133 hx (pc' := 110) (hb hby at_108) rfl rfl ?_
  refine own_iconst A133 hx (pc' := 111) (hb hby at_110) (z := (3 : Int32)) (by decide) rfl ?_
  refine own_iand A133 hx (pc' := 112) (hb hby at_111) (z := (i3 &&& (3 : Int32))) rfl rfl ?_
  obtain ⟨slN, sl3, esl⟩ := own_sl i3
  rw [esl]
  refine own_istore A133 hx (pc' := 114) #[.val (.long i0), .second, .val (.int i1), .val (.long i2), .second, .val (.int i3), .val (.ref b116), .val (.int (Int32.ofNat hlN)), .val (.ref b127), .val (.int (Int32.ofNat slN)), .unset, .unset, .unset, .unset, .unset, .unset, .unset, .unset] (hb hby at_112) rfl rfl ?_
  refine own_aload A133 hx (pc' := 116) (hb hby at_114) rfl rfl rfl ?_
  refine own_iconst A133 hx (pc' := 117) (hb hby at_116) (z := (0 : Int32)) (by decide) rfl ?_
  refine own_iload A133 hx (pc' := 119) (hb hby at_117) rfl rfl ?_
  refine own_callS K133 hx (by rw [hml]; rfl) (hw _ (List.mem_of_getElem? (i := 9) rfl)) (hw _ (List.mem_of_getElem? (i := 10) rfl)) (hw _ (List.mem_of_getElem? (i := 3) rfl)) (hw _ (List.mem_of_getElem? (i := 11) rfl)) (by decide) (rm_sl l Z a0 hw [] h133 b116 H k116 _ 0 hlN G1 O2 P5 AH hHa hHb (by omega) (by omega) (by omega)) (fun _ q => nomatch q) (argsL := [(.ref b116), (.int (0 : Int32)), (.int (Int32.ofNat hlN))]) (rest := []) (lenOf pd_29 rfl) rfl 0 (Nat.le_of_eq rfl) (hb hby at_119) (pc' := 122) rfl (by decide) (by decide) (by decide) (by decide) ?_
  intro v134 T134 h134 K134 Kp134 Q134
  obtain ⟨a134, rfl, S134⟩ := Q134
  have AH := AH.keep Kp134 nin0
  have AD := AD.keep Kp134 nin0
  have A134 := own_here K134
  show own_Go p.tables e below _ T134 (mkF m 122 #[.val (.long i0), .second, .val (.int i1), .val (.long i2), .second, .val (.int i3), .val (.ref b116), .val (.int (Int32.ofNat hlN)), .val (.ref b127), .val (.int (Int32.ofNat slN)), .unset, .unset, .unset, .unset, .unset, .unset, .unset, .unset] [(.ref a134)])
  rw [List.drop_zero, Nat.sub_zero] at S134
  refine own_astore A134 hx (pc' := 124) #[.val (.long i0), .second, .val (.int i1), .val (.long i2), .second, .val (.int i3), .val (.ref b116), .val (.int (Int32.ofNat hlN)), .val (.ref b127), .val (.int (Int32.ofNat slN)), .val (.ref a134), .unset, .unset, .unset, .unset, .unset, .unset, .unset] (hb hby at_122) rfl rfl rfl ?_
  refine own_aload A134 hx (pc' := 126) (hb hby at_124) rfl rfl rfl ?_
  refine own_iconst A134 hx (pc' := 127) (hb hby at_126) (z := (0 : Int32)) (by decide) rfl ?_
  refine own_iload A134 hx (pc' := 129) (hb hby at_127) rfl rfl ?_
  refine own_callS K134 hx (by rw [hml]; rfl) (hw _ (List.mem_of_getElem? (i := 9) rfl)) (hw _ (List.mem_of_getElem? (i := 10) rfl)) (hw _ (List.mem_of_getElem? (i := 3) rfl)) (hw _ (List.mem_of_getElem? (i := 11) rfl)) (by decide) (rm_sl l Z a0 hw [] h134 b127 D k127 _ 0 slN G1 O2 P5 AD hDa hDb (by omega) (by omega) (by omega)) (fun _ q => nomatch q) (argsL := [(.ref b127), (.int (0 : Int32)), (.int (Int32.ofNat slN))]) (rest := []) (lenOf pd_29 rfl) rfl 0 (Nat.le_of_eq rfl) (hb hby at_129) (pc' := 132) rfl (by decide) (by decide) (by decide) (by decide) ?_
  intro v135 T135 h135 K135 Kp135 Q135
  obtain ⟨a135, rfl, S135⟩ := Q135
  have AH := AH.keep Kp135 nin0
  have AD := AD.keep Kp135 nin0
  have S134 := S134.keep Kp135 own_off0
  have A135 := own_here K135
  show own_Go p.tables e below _ T135 (mkF m 132 #[.val (.long i0), .second, .val (.int i1), .val (.long i2), .second, .val (.int i3), .val (.ref b116), .val (.int (Int32.ofNat hlN)), .val (.ref b127), .val (.int (Int32.ofNat slN)), .val (.ref a134), .unset, .unset, .unset, .unset, .unset, .unset, .unset] [(.ref a135)])
  rw [List.drop_zero, Nat.sub_zero] at S135
  refine own_astore A135 hx (pc' := 134) #[.val (.long i0), .second, .val (.int i1), .val (.long i2), .second, .val (.int i3), .val (.ref b116), .val (.int (Int32.ofNat hlN)), .val (.ref b127), .val (.int (Int32.ofNat slN)), .val (.ref a134), .val (.ref a135), .unset, .unset, .unset, .unset, .unset, .unset] (hb hby at_132) rfl rfl rfl ?_
  refine own_aload A135 hx (pc' := 136) (hb hby at_134) rfl rfl rfl ?_
  refine own_aload A135 hx (pc' := 138) (hb hby at_136) rfl rfl rfl ?_
  refine own_callS K135 hx (by rw [hml]; rfl) (hw _ (List.mem_of_getElem? (i := 44) rfl)) (hw _ (List.mem_of_getElem? (i := 45) rfl)) (hw _ (List.mem_of_getElem? (i := 46) rfl)) (hw _ (List.mem_of_getElem? (i := 47) rfl)) (by decide) (rm_cred l Z a0 hw [] h135 a134 a135 (H.take hlN) (D.take slN) G1 O2 P5 G3 O4 hr_G3 aA kA SA TA aI SI XI S134 (own_latT _ hHa) S135 (own_latT _ hDa) (by rw [List.length_take]; omega)) (fun _ q => nomatch q) (argsL := [(.ref a134), (.ref a135)]) (rest := []) (lenOf pd_30 rfl) rfl 0 (Nat.le_of_eq rfl) (hb hby at_138) (pc' := 141) rfl (by decide) (by decide) (by decide) (by decide) ?_
  intro v136 T136 h136 K136 Kp136 Q136
  have AH := AH.keep Kp136 nin0
  have AD := AD.keep Kp136 nin0
  have S134 := S134.keep Kp136 own_off0
  have S135 := S135.keep Kp136 own_off0
  have A136 := own_here K136
  obtain ⟨rv, ev, CR⟩ : ∃ rv, v136 = some rv ∧ own_Cred Z h136 rv (H.take hlN) (D.take slN) := by
    rcases Q136 with ⟨q1, rfl⟩ | ⟨q1, q2, q3, rfl, q4⟩ | ⟨q1, q2, q3, q4, rfl, q5, q6⟩
    · exact ⟨_, rfl, Or.inl ⟨q1, rfl⟩⟩
    · exact ⟨_, rfl, Or.inr (Or.inl ⟨q1, q2, q3, rfl, q4⟩)⟩
    · exact ⟨_, rfl, Or.inr (Or.inr ⟨q1, q2, q3, q4, rfl, q5, q6⟩)⟩
  subst ev
  have hr_rv := CR.ref
  show own_Go p.tables e below _ T136 (mkF m 141 #[.val (.long i0), .second, .val (.int i1), .val (.long i2), .second, .val (.int i3), .val (.ref b116), .val (.int (Int32.ofNat hlN)), .val (.ref b127), .val (.int (Int32.ofNat slN)), .val (.ref a134), .val (.ref a135), .unset, .unset, .unset, .unset, .unset, .unset] [rv])
  refine own_astore A136 hx (pc' := 143) #[.val (.long i0), .second, .val (.int i1), .val (.long i2), .second, .val (.int i3), .val (.ref b116), .val (.int (Int32.ofNat hlN)), .val (.ref b127), .val (.int (Int32.ofNat slN)), .val (.ref a134), .val (.ref a135), .val rv, .unset, .unset, .unset, .unset, .unset] (hb hby at_141) hr_rv (by rcases ref_cases hr_rv with rfl | ⟨_, rfl⟩ <;> rfl) rfl ?_
  refine own_iconst A136 hx (pc' := 144) (hb hby at_143) (z := (-1 : Int32)) (by decide) rfl ?_
  refine own_istore A136 hx (pc' := 146) #[.val (.long i0), .second, .val (.int i1), .val (.long i2), .second, .val (.int i3), .val (.ref b116), .val (.int (Int32.ofNat hlN)), .val (.ref b127), .val (.int (Int32.ofNat slN)), .val (.ref a134), .val (.ref a135), .val rv, .val (.int (-1 : Int32)), .unset, .unset, .unset, .unset] (hb hby at_144) rfl rfl ?_
  have J164_137 : ∀ (T137 : State) (h137 : Heap) (sp4 : Int32), own_S true false consts_1 p l e room_1 s m #[(.long i0), (.int i1), (.long i2), (.int i3)] below meth c Z a0 "com/example/portcullis/portcullis/service/AuthorizationHeaderCredentialsPinLaw" h0 [] T137 h137 [b127, b116] 14 63 → Arv Z h137 b116 k116 .char (Int32.ofNat H.length) (H.map Value.int) (.int (0 : Int32)) → Arv Z h137 b127 k127 .char (Int32.ofNat D.length) (D.map Value.int) (.int (0 : Int32)) → own_Cred Z h137 rv (H.take hlN) (D.take slN) → own_P H hlN 4 sp4 → own_Go p.tables e below (own_Post true consts_1 Z room_1 h0 [] (fun v h => v = some (.int 1)) s) T137 (mkF m 164 #[.val (.long i0), .second, .val (.int i1), .val (.long i2), .second, .val (.int i3), .val (.ref b116), .val (.int (Int32.ofNat hlN)), .val (.ref b127), .val (.int (Int32.ofNat slN)), .val (.ref a134), .val (.ref a135), .val rv, .val (.int sp4), .unset, .unset, .unset, .unset] []) := by
    intro T137 h137 sp4 K137 AH AD CR hP4
    have A137 := own_here K137
    have J182_138 : ∀ (T138 : State) (h138 : Heap) (sp3 : Int32), own_S true false consts_1 p l e room_1 s m #[(.long i0), (.int i1), (.long i2), (.int i3)] below meth c Z a0 "com/example/portcullis/portcullis/service/AuthorizationHeaderCredentialsPinLaw" h0 [] T138 h138 [b127, b116] 14 63 → Arv Z h138 b116 k116 .char (Int32.ofNat H.length) (H.map Value.int) (.int (0 : Int32)) → Arv Z h138 b127 k127 .char (Int32.ofNat D.length) (D.map Value.int) (.int (0 : Int32)) → own_Cred Z h138 rv (H.take hlN) (D.take slN) → own_P H hlN 3 sp3 → own_Go p.tables e below (own_Post true consts_1 Z room_1 h0 [] (fun v h => v = some (.int 1)) s) T138 (mkF m 182 #[.val (.long i0), .second, .val (.int i1), .val (.long i2), .second, .val (.int i3), .val (.ref b116), .val (.int (Int32.ofNat hlN)), .val (.ref b127), .val (.int (Int32.ofNat slN)), .val (.ref a134), .val (.ref a135), .val rv, .val (.int sp3), .unset, .unset, .unset, .unset] []) := by
      intro T138 h138 sp3 K138 AH AD CR hP3
      have A138 := own_here K138
      have J200_139 : ∀ (T139 : State) (h139 : Heap) (sp2 : Int32), own_S true false consts_1 p l e room_1 s m #[(.long i0), (.int i1), (.long i2), (.int i3)] below meth c Z a0 "com/example/portcullis/portcullis/service/AuthorizationHeaderCredentialsPinLaw" h0 [] T139 h139 [b127, b116] 14 63 → Arv Z h139 b116 k116 .char (Int32.ofNat H.length) (H.map Value.int) (.int (0 : Int32)) → Arv Z h139 b127 k127 .char (Int32.ofNat D.length) (D.map Value.int) (.int (0 : Int32)) → own_Cred Z h139 rv (H.take hlN) (D.take slN) → own_P H hlN 2 sp2 → own_Go p.tables e below (own_Post true consts_1 Z room_1 h0 [] (fun v h => v = some (.int 1)) s) T139 (mkF m 200 #[.val (.long i0), .second, .val (.int i1), .val (.long i2), .second, .val (.int i3), .val (.ref b116), .val (.int (Int32.ofNat hlN)), .val (.ref b127), .val (.int (Int32.ofNat slN)), .val (.ref a134), .val (.ref a135), .val rv, .val (.int sp2), .unset, .unset, .unset, .unset] []) := by
        intro T139 h139 sp2 K139 AH AD CR hP2
        have A139 := own_here K139
        have J218_140 : ∀ (T140 : State) (h140 : Heap) (sp1 : Int32), own_S true false consts_1 p l e room_1 s m #[(.long i0), (.int i1), (.long i2), (.int i3)] below meth c Z a0 "com/example/portcullis/portcullis/service/AuthorizationHeaderCredentialsPinLaw" h0 [] T140 h140 [b127, b116] 14 63 → Arv Z h140 b116 k116 .char (Int32.ofNat H.length) (H.map Value.int) (.int (0 : Int32)) → Arv Z h140 b127 k127 .char (Int32.ofNat D.length) (D.map Value.int) (.int (0 : Int32)) → own_Cred Z h140 rv (H.take hlN) (D.take slN) → own_P H hlN 1 sp1 → own_Go p.tables e below (own_Post true consts_1 Z room_1 h0 [] (fun v h => v = some (.int 1)) s) T140 (mkF m 218 #[.val (.long i0), .second, .val (.int i1), .val (.long i2), .second, .val (.int i3), .val (.ref b116), .val (.int (Int32.ofNat hlN)), .val (.ref b127), .val (.int (Int32.ofNat slN)), .val (.ref a134), .val (.ref a135), .val rv, .val (.int sp1), .unset, .unset, .unset, .unset] []) := by
          intro T140 h140 sp1 K140 AH AD CR hP1
          have A140 := own_here K140
          have J235_141 : ∀ (T141 : State) (h141 : Heap) (sp0 : Int32), own_S true false consts_1 p l e room_1 s m #[(.long i0), (.int i1), (.long i2), (.int i3)] below meth c Z a0 "com/example/portcullis/portcullis/service/AuthorizationHeaderCredentialsPinLaw" h0 [] T141 h141 [b127, b116] 14 63 → Arv Z h141 b116 k116 .char (Int32.ofNat H.length) (H.map Value.int) (.int (0 : Int32)) → Arv Z h141 b127 k127 .char (Int32.ofNat D.length) (D.map Value.int) (.int (0 : Int32)) → own_Cred Z h141 rv (H.take hlN) (D.take slN) → own_P H hlN 0 sp0 → own_Go p.tables e below (own_Post true consts_1 Z room_1 h0 [] (fun v h => v = some (.int 1)) s) T141 (mkF m 235 #[.val (.long i0), .second, .val (.int i1), .val (.long i2), .second, .val (.int i3), .val (.ref b116), .val (.int (Int32.ofNat hlN)), .val (.ref b127), .val (.int (Int32.ofNat slN)), .val (.ref a134), .val (.ref a135), .val rv, .val (.int sp0), .unset, .unset, .unset, .unset] []) := by
            intro T141 h141 sp0 K141 AH AD CR hP0
            have A141 := own_here K141
            have eSp := own_Pfin hP0 (by omega)
            subst eSp
            have hct := own_tlen (H := H) (n := hlN) (by omega)
            have hsn := own_sp_le (H.take hlN)
            by_cases hsp : own_spN (H.take hlN) < (H.take hlN).length
            · rw [own_spI, if_pos hsp]
              refine own_iload A141 hx (pc' := 237) (hb hby at_235) rfl rfl ?_
              refine own_if_ge A141 hx 245 240 (hb hby at_237) (by decide) (by decide) rfl (fun hc237 => ?_) (fun hc237 => ?_)
              rotate_left
              · exact absurd hc237 (own_nat0 (by omega))
              refine own_iload A141 hx (pc' := 247) (hb hby at_245) rfl rfl ?_
              refine own_istore A141 hx (pc' := 249) #[.val (.long i0), .second, .val (.int i1), .val (.long i2), .second, .val (.int i3), .val (.ref b116), .val (.int (Int32.ofNat hlN)), .val (.ref b127), .val (.int (Int32.ofNat slN)), .val (.ref a134), .val (.ref a135), .val rv, .val (.int (Int32.ofNat (own_spN (H.take hlN)))), .val (.int (Int32.ofNat (own_spN (H.take hlN)))), .unset, .unset, .unset] (hb hby at_247) rfl rfl ?_
              have J321_142 : ∀ (T142 : State) (h142 : Heap) (mt : Int32), own_S true false consts_1 p l e room_1 s m #[(.long i0), (.int i1), (.long i2), (.int i3)] below meth c Z a0 "com/example/portcullis/portcullis/service/AuthorizationHeaderCredentialsPinLaw" h0 [] T142 h142 [b127, b116] 14 63 → Arv Z h142 b116 k116 .char (Int32.ofNat H.length) (H.map Value.int) (.int (0 : Int32)) → Arv Z h142 b127 k127 .char (Int32.ofNat D.length) (D.map Value.int) (.int (0 : Int32)) → own_Cred Z h142 rv (H.take hlN) (D.take slN) → (mt = if own_eqi ((H.take hlN).take (own_spN (H.take hlN))) (D.take slN) then (1 : Int32) else 0) → own_Go p.tables e below (own_Post true consts_1 Z room_1 h0 [] (fun v h => v = some (.int 1)) s) T142 (mkF m 321 #[.val (.long i0), .second, .val (.int i1), .val (.long i2), .second, .val (.int i3), .val (.ref b116), .val (.int (Int32.ofNat hlN)), .val (.ref b127), .val (.int (Int32.ofNat slN)), .val (.ref a134), .val (.ref a135), .val rv, .val (.int (Int32.ofNat (own_spN (H.take hlN)))), .val (.int (Int32.ofNat (own_spN (H.take hlN)))), .unset, .unset, .unset] [(.int mt)]) := by
                intro T142 h142 mt K142 AH AD CR hmt
                have A142 := own_here K142
                refine own_istore A142 hx (pc' := 323) #[.val (.long i0), .second, .val (.int i1), .val (.long i2), .second, .val (.int i3), .val (.ref b116), .val (.int (Int32.ofNat hlN)), .val (.ref b127), .val (.int (Int32.ofNat slN)), .val (.ref a134), .val (.ref a135), .val rv, .val (.int (Int32.ofNat (own_spN (H.take hlN)))), .val (.int (Int32.ofNat (own_spN (H.take hlN)))), .val (.int mt), .unset, .unset] (hb hby at_321) rfl rfl ?_
                rcases CR with ⟨c1, rfl⟩ | ⟨c1, c2, ra, rfl, Sr⟩ | ⟨c1, c2, ra, us, rfl, Sr, htr⟩
                · obtain rfl : mt = 0 := hmt.trans (if_neg c1)
                  show own_Go p.tables e below _ T142 (mkF m 323 #[.val (.long i0), .second, .val (.int i1), .val (.long i2), .second, .val (.int i3), .val (.ref b116), .val (.int (Int32.ofNat hlN)), .val (.ref b127), .val (.int (Int32.ofNat slN)), .val (.ref a134), .val (.ref a135), .val .null, .val (.int (Int32.ofNat (own_spN (H.take hlN)))), .val (.int (Int32.ofNat (own_spN (H.take hlN)))), .val (.int (0 : Int32)), .unset, .unset] [])
                  refine own_iload A142 hx (pc' := 325) (hb hby at_323) rfl rfl ?_
                  refine own_if_ne A142 hx 339 328 (hb hby at_325) (by decide) (by decide) rfl (fun hc325 => ?_) (fun hc325 => ?_)
                  · exact absurd hc325 (by decide)
                  refine own_aload A142 hx (pc' := 330) (hb hby at_328) rfl rfl rfl ?_
                  refine own_ifnonnull_f A142 hx 333 (hb hby at_330) rfl ?_
                  refine own_iconst A142 hx (pc' := 334) (hb hby at_333) (z := (1 : Int32)) (by decide) rfl ?_
                  refine own_goto A142 hx 338 (hb hby at_334) (by decide) (by decide) ?_
                  exact own_retN K142 hx hlk hret (by simp) (hb hby at_338) (by decide) (by decide) rfl
                · exact absurd hsp c2
                · obtain rfl : mt = 1 := hmt.trans (if_pos c1)
                  show own_Go p.tables e below _ T142 (mkF m 323 #[.val (.long i0), .second, .val (.int i1), .val (.long i2), .second, .val (.int i3), .val (.ref b116), .val (.int (Int32.ofNat hlN)), .val (.ref b127), .val (.int (Int32.ofNat slN)), .val (.ref a134), .val (.ref a135), .val (.ref ra), .val (.int (Int32.ofNat (own_spN (H.take hlN)))), .val (.int (Int32.ofNat (own_spN (H.take hlN)))), .val (.int (1 : Int32)), .unset, .unset] [])
                  refine own_iload A142 hx (pc' := 325) (hb hby at_323) rfl rfl ?_
                  refine own_if_ne A142 hx 339 328 (hb hby at_325) (by decide) (by decide) rfl (fun hc325 => ?_) (fun hc325 => ?_)
                  rotate_left
                  · exact absurd hc325 (by decide)
                  refine own_iload A142 hx (pc' := 341) (hb hby at_339) rfl rfl ?_
                  refine own_if_ge A142 hx 352 344 (hb hby at_341) (by decide) (by decide) rfl (fun hc341 => ?_) (fun hc341 => ?_)
                  rotate_left
                  · exact absurd hc341 (own_nat0 (by omega))
                  refine own_iload A142 hx (pc' := 354) (hb hby at_352) rfl rfl ?_
                  refine own_iconst A142 hx (pc' := 355) (hb hby at_354) (z := (1 : Int32)) (by decide) rfl ?_
                  refine own_iadd A142 hx (pc' := 356) (hb hby at_355) (z := ((Int32.ofNat (own_spN (H.take hlN))) + (1 : Int32))) rfl rfl ?_
                  rw [own_natinc']
                  refine own_istore A142 hx (pc' := 358) #[.val (.long i0), .second, .val (.int i1), .val (.long i2), .second, .val (.int i3), .val (.ref b116), .val (.int (Int32.ofNat hlN)), .val (.ref b127), .val (.int (Int32.ofNat slN)), .val (.ref a134), .val (.ref a135), .val (.ref ra), .val (.int (Int32.ofNat (own_spN (H.take hlN)))), .val (.int (Int32.ofNat (own_spN (H.take hlN)))), .val (.int (1 : Int32)), .val (.int (Int32.ofNat ((own_spN (H.take hlN)) + 1))), .unset] (hb hby at_356) rfl rfl ?_
                  refine own_iload A142 hx (pc' := 360) (hb hby at_358) rfl rfl ?_
                  refine own_istore A142 hx (pc' := 362) #[.val (.long i0), .second, .val (.int i1), .val (.long i2), .second, .val (.int i3), .val (.ref b116), .val (.int (Int32.ofNat hlN)), .val (.ref b127), .val (.int (Int32.ofNat slN)), .val (.ref a134), .val (.ref a135), .val (.ref ra), .val (.int (Int32.ofNat (own_spN (H.take hlN)))), .val (.int (Int32.ofNat (own_spN (H.take hlN)))), .val (.int (1 : Int32)), .val (.int (Int32.ofNat ((own_spN (H.take hlN)) + 1))), .val (.int (Int32.ofNat hlN))] (hb hby at_360) rfl rfl ?_
                  have x1 : ((own_spN (H.take hlN)) + 1) ≤ ((own_spN (H.take hlN)) + 1) := Nat.le_refl _
                  have x2 : ((own_spN (H.take hlN)) + 1) ≤ hlN := by omega
                  have x3 : ∀ j, ((own_spN (H.take hlN)) + 1) ≤ j → j < ((own_spN (H.take hlN)) + 1) → own_ws (H.getD j 0) := fun j p q => absurd q (by omega)
                  have x4 : ((own_spN (H.take hlN)) + 1) = ((own_spN (H.take hlN)) + 1) + 0 ∨ ((own_spN (H.take hlN)) + 1) = hlN ∨ ¬ own_ws (H.getD ((own_spN (H.take hlN)) + 1) 0) := Or.inl rfl
                  have J383_143 : ∀ (T143 : State) (h143 : Heap) (lo1 : Int32), own_S true false consts_1 p l e room_1 s m #[(.long i0), (.int i1), (.long i2), (.int i3)] below meth c Z a0 "com/example/portcullis/portcullis/service/AuthorizationHeaderCredentialsPinLaw" h0 [] T143 h143 [b127, b116] 14 63 → Arv Z h143 b116 k116 .char (Int32.ofNat H.length) (H.map Value.int) (.int (0 : Int32)) → Arv Z h143 b127 k127 .char (Int32.ofNat D.length) (D.map Value.int) (.int (0 : Int32)) → own_Str Z h143 ra us → own_A H ((own_spN (H.take hlN)) + 1) hlN 1 lo1 → own_Go p.tables e below (own_Post true consts_1 Z room_1 h0 [] (fun v h => v = some (.int 1)) s) T143 (mkF m 383 #[.val (.long i0), .second, .val (.int i1), .val (.long i2), .second, .val (.int i3), .val (.ref b116), .val (.int (Int32.ofNat hlN)), .val (.ref b127), .val (.int (Int32.ofNat slN)), .val (.ref a134), .val (.ref a135), .val (.ref ra), .val (.int (Int32.ofNat (own_spN (H.take hlN)))), .val (.int (Int32.ofNat (own_spN (H.take hlN)))), .val (.int (1 : Int32)), .val (.int lo1), .val (.int (Int32.ofNat hlN))] []) := by
                    intro T143 h143 lo1 K143 AH AD Sr hA1
                    have A143 := own_here K143
                    obtain ⟨a1, rfl, x1, x2, x3, x4⟩ := hA1
                    have J404_144 : ∀ (T144 : State) (h144 : Heap) (lo2 : Int32), own_S true false consts_1 p l e room_1 s m #[(.long i0), (.int i1), (.long i2), (.int i3)] below meth c Z a0 "com/example/portcullis/portcullis/service/AuthorizationHeaderCredentialsPinLaw" h0 [] T144 h144 [b127, b116] 14 63 → Arv Z h144 b116 k116 .char (Int32.ofNat H.length) (H.map Value.int) (.int (0 : Int32)) → Arv Z h144 b127 k127 .char (Int32.ofNat D.length) (D.map Value.int) (.int (0 : Int32)) → own_Str Z h144 ra us → own_A H ((own_spN (H.take hlN)) + 1) hlN 2 lo2 → own_Go p.tables e below (own_Post true consts_1 Z room_1 h0 [] (fun v h => v = some (.int 1)) s) T144 (mkF m 404 #[.val (.long i0), .second, .val (.int i1), .val (.long i2), .second, .val (.int i3), .val (.ref b116), .val (.int (Int32.ofNat hlN)), .val (.ref b127), .val (.int (Int32.ofNat slN)), .val (.ref a134), .val (.ref a135), .val (.ref ra), .val (.int (Int32.ofNat (own_spN (H.take hlN)))), .val (.int (Int32.ofNat (own_spN (H.take hlN)))), .val (.int (1 : Int32)), .val (.int lo2), .val (.int (Int32.ofNat hlN))] []) := by
                      intro T144 h144 lo2 K144 AH AD Sr hA2
                      have A144 := own_here K144
                      obtain ⟨a2, rfl, x1, x2, x3, x4⟩ := hA2
                      have J425_145 : ∀ (T145 : State) (h145 : Heap) (lo3 : Int32), own_S true false consts_1 p l e room_1 s m #[(.long i0), (.int i1), (.long i2), (.int i3)] below meth c Z a0 "com/example/portcullis/portcullis/service/AuthorizationHeaderCredentialsPinLaw" h0 [] T145 h145 [b127, b116] 14 63 → Arv Z h145 b116 k116 .char (Int32.ofNat H.length) (H.map Value.int) (.int (0 : Int32)) → Arv Z h145 b127 k127 .char (Int32.ofNat D.length) (D.map Value.int) (.int (0 : Int32)) → own_Str Z h145 ra us → own_A H ((own_spN (H.take hlN)) + 1) hlN 3 lo3 → own_Go p.tables e below (own_Post true consts_1 Z room_1 h0 [] (fun v h => v = some (.int 1)) s) T145 (mkF m 425 #[.val (.long i0), .second, .val (.int i1), .val (.long i2), .second, .val (.int i3), .val (.ref b116), .val (.int (Int32.ofNat hlN)), .val (.ref b127), .val (.int (Int32.ofNat slN)), .val (.ref a134), .val (.ref a135), .val (.ref ra), .val (.int (Int32.ofNat (own_spN (H.take hlN)))), .val (.int (Int32.ofNat (own_spN (H.take hlN)))), .val (.int (1 : Int32)), .val (.int lo3), .val (.int (Int32.ofNat hlN))] []) := by
                        intro T145 h145 lo3 K145 AH AD Sr hA3
                        have A145 := own_here K145
                        obtain ⟨a3, rfl, x1, x2, x3, x4⟩ := hA3
                        have J446_146 : ∀ (T146 : State) (h146 : Heap) (lo4 : Int32), own_S true false consts_1 p l e room_1 s m #[(.long i0), (.int i1), (.long i2), (.int i3)] below meth c Z a0 "com/example/portcullis/portcullis/service/AuthorizationHeaderCredentialsPinLaw" h0 [] T146 h146 [b127, b116] 14 63 → Arv Z h146 b116 k116 .char (Int32.ofNat H.length) (H.map Value.int) (.int (0 : Int32)) → Arv Z h146 b127 k127 .char (Int32.ofNat D.length) (D.map Value.int) (.int (0 : Int32)) → own_Str Z h146 ra us → own_A H ((own_spN (H.take hlN)) + 1) hlN 4 lo4 → own_Go p.tables e below (own_Post true consts_1 Z room_1 h0 [] (fun v h => v = some (.int 1)) s) T146 (mkF m 446 #[.val (.long i0), .second, .val (.int i1), .val (.long i2), .second, .val (.int i3), .val (.ref b116), .val (.int (Int32.ofNat hlN)), .val (.ref b127), .val (.int (Int32.ofNat slN)), .val (.ref a134), .val (.ref a135), .val (.ref ra), .val (.int (Int32.ofNat (own_spN (H.take hlN)))), .val (.int (Int32.ofNat (own_spN (H.take hlN)))), .val (.int (1 : Int32)), .val (.int lo4), .val (.int (Int32.ofNat hlN))] []) := by
                          intro T146 h146 lo4 K146 AH AD Sr hA4
                          have A146 := own_here K146
                          obtain ⟨a4, rfl, x1, x2, x3, x4⟩ := hA4
                          have y1 : a4 ≤ hlN := x2
                          have y2 : hlN ≤ hlN := Nat.le_refl _
                          have y3 : ∀ j, hlN ≤ j → j < hlN → own_ws (H.getD j 0) := fun j p q => absurd q (by omega)
                          have y4 : hlN + 0 = hlN ∨ hlN = a4 ∨ ¬ own_ws (H.getD (hlN - 1) 0) := Or.inl rfl
                          have J469_147 : ∀ (T147 : State) (h147 : Heap) (hi1 : Int32), own_S true false consts_1 p l e room_1 s m #[(.long i0), (.int i1), (.long i2), (.int i3)] below meth c Z a0 "com/example/portcullis/portcullis/service/AuthorizationHeaderCredentialsPinLaw" h0 [] T147 h147 [b127, b116] 14 63 → Arv Z h147 b116 k116 .char (Int32.ofNat H.length) (H.map Value.int) (.int (0 : Int32)) → Arv Z h147 b127 k127 .char (Int32.ofNat D.length) (D.map Value.int) (.int (0 : Int32)) → own_Str Z h147 ra us → own_B H a4 hlN 1 hi1 → own_Go p.tables e below (own_Post true consts_1 Z room_1 h0 [] (fun v h => v = some (.int 1)) s) T147 (mkF m 469 #[.val (.long i0), .second, .val (.int i1), .val (.long i2), .second, .val (.int i3), .val (.ref b116), .val (.int (Int32.ofNat hlN)), .val (.ref b127), .val (.int (Int32.ofNat slN)), .val (.ref a134), .val (.ref a135), .val (.ref ra), .val (.int (Int32.ofNat (own_spN (H.take hlN)))), .val (.int (Int32.ofNat (own_spN (H.take hlN)))), .val (.int (1 : Int32)), .val (.int (Int32.ofNat a4)), .val (.int hi1)] []) := by
                            intro T147 h147 hi1 K147 AH AD Sr hB1
                            have A147 := own_here K147
                            obtain ⟨c1n, rfl, y1, y2, y3, y4⟩ := hB1
                            have J492_148 : ∀ (T148 : State) (h148 : Heap) (hi2 : Int32), own_S true false consts_1 p l e room_1 s m #[(.long i0), (.int i1), (.long i2), (.int i3)] below meth c Z a0 "com/example/portcullis/portcullis/service/AuthorizationHeaderCredentialsPinLaw" h0 [] T148 h148 [b127, b116] 14 63 → Arv Z h148 b116 k116 .char (Int32.ofNat H.length) (H.map Value.int) (.int (0 : Int32)) → Arv Z h148 b127 k127 .char (Int32.ofNat D.length) (D.map Value.int) (.int (0 : Int32)) → own_Str Z h148 ra us → own_B H a4 hlN 2 hi2 → own_Go p.tables e below (own_Post true consts_1 Z room_1 h0 [] (fun v h => v = some (.int 1)) s) T148 (mkF m 492 #[.val (.long i0), .second, .val (.int i1), .val (.long i2), .second, .val (.int i3), .val (.ref b116), .val (.int (Int32.ofNat hlN)), .val (.ref b127), .val (.int (Int32.ofNat slN)), .val (.ref a134), .val (.ref a135), .val (.ref ra), .val (.int (Int32.ofNat (own_spN (H.take hlN)))), .val (.int (Int32.ofNat (own_spN (H.take hlN)))), .val (.int (1 : Int32)), .val (.int (Int32.ofNat a4)), .val (.int hi2)] []) := by
                              intro T148 h148 hi2 K148 AH AD Sr hB2
                              have A148 := own_here K148
                              obtain ⟨c2n, rfl, y1, y2, y3, y4⟩ := hB2
                              have J515_149 : ∀ (T149 : State) (h149 : Heap) (hi3 : Int32), own_S true false consts_1 p l e room_1 s m #[(.long i0), (.int i1), (.long i2), (.int i3)] below meth c Z a0 "com/example/portcullis/portcullis/service/AuthorizationHeaderCredentialsPinLaw" h0 [] T149 h149 [b127, b116] 14 63 → Arv Z h149 b116 k116 .char (Int32.ofNat H.length) (H.map Value.int) (.int (0 : Int32)) → Arv Z h149 b127 k127 .char (Int32.ofNat D.length) (D.map Value.int) (.int (0 : Int32)) → own_Str Z h149 ra us → own_B H a4 hlN 3 hi3 → own_Go p.tables e below (own_Post true consts_1 Z room_1 h0 [] (fun v h => v = some (.int 1)) s) T149 (mkF m 515 #[.val (.long i0), .second, .val (.int i1), .val (.long i2), .second, .val (.int i3), .val (.ref b116), .val (.int (Int32.ofNat hlN)), .val (.ref b127), .val (.int (Int32.ofNat slN)), .val (.ref a134), .val (.ref a135), .val (.ref ra), .val (.int (Int32.ofNat (own_spN (H.take hlN)))), .val (.int (Int32.ofNat (own_spN (H.take hlN)))), .val (.int (1 : Int32)), .val (.int (Int32.ofNat a4)), .val (.int hi3)] []) := by
                                intro T149 h149 hi3 K149 AH AD Sr hB3
                                have A149 := own_here K149
                                obtain ⟨c3n, rfl, y1, y2, y3, y4⟩ := hB3
                                have J538_150 : ∀ (T150 : State) (h150 : Heap) (hi4 : Int32), own_S true false consts_1 p l e room_1 s m #[(.long i0), (.int i1), (.long i2), (.int i3)] below meth c Z a0 "com/example/portcullis/portcullis/service/AuthorizationHeaderCredentialsPinLaw" h0 [] T150 h150 [b127, b116] 14 63 → Arv Z h150 b116 k116 .char (Int32.ofNat H.length) (H.map Value.int) (.int (0 : Int32)) → Arv Z h150 b127 k127 .char (Int32.ofNat D.length) (D.map Value.int) (.int (0 : Int32)) → own_Str Z h150 ra us → own_B H a4 hlN 4 hi4 → own_Go p.tables e below (own_Post true consts_1 Z room_1 h0 [] (fun v h => v = some (.int 1)) s) T150 (mkF m 538 #[.val (.long i0), .second, .val (.int i1), .val (.long i2), .second, .val (.int i3), .val (.ref b116), .val (.int (Int32.ofNat hlN)), .val (.ref b127), .val (.int (Int32.ofNat slN)), .val (.ref a134), .val (.ref a135), .val (.ref ra), .val (.int (Int32.ofNat (own_spN (H.take hlN)))), .val (.int (Int32.ofNat (own_spN (H.take hlN)))), .val (.int (1 : Int32)), .val (.int (Int32.ofNat a4)), .val (.int hi4)] []) := by
                                  intro T150 h150 hi4 K150 AH AD Sr hB4
                                  have A150 := own_here K150
                                  obtain ⟨c4n, rfl, y1, y2, y3, y4⟩ := hB4
                                  refine own_aload A150 hx (pc' := 540) (hb hby at_538) rfl rfl rfl ?_
                                  refine own_iload A150 hx (pc' := 542) (hb hby at_540) rfl rfl ?_
                                  refine own_iload A150 hx (pc' := 544) (hb hby at_542) rfl rfl ?_
                                  refine own_callS K150 hx (by rw [hml]; rfl) (hw _ (List.mem_of_getElem? (i := 9) rfl)) (hw _ (List.mem_of_getElem? (i := 10) rfl)) (hw _ (List.mem_of_getElem? (i := 3) rfl)) (hw _ (List.mem_of_getElem? (i := 11) rfl)) (by decide) (rm_sl l Z a0 hw [] h150 b116 H k116 _ a4 c4n G1 O2 P5 AH hHa hHb (by omega) (by omega) (by omega)) (fun _ q => nomatch q) (argsL := [(.ref b116), (.int (Int32.ofNat a4)), (.int (Int32.ofNat c4n))]) (rest := []) (lenOf pd_29 rfl) rfl 0 (Nat.le_of_eq rfl) (hb hby at_544) (pc' := 547) rfl (by decide) (by decide) (by decide) (by decide) ?_
                                  intro v151 T151 h151 K151 Kp151 Q151
                                  obtain ⟨a151, rfl, S151⟩ := Q151
                                  have AH := AH.keep Kp151 nin0
                                  have AD := AD.keep Kp151 nin0
                                  have Sr := Sr.keep Kp151 own_off0
                                  have A151 := own_here K151
                                  show own_Go p.tables e below _ T151 (mkF m 547 #[.val (.long i0), .second, .val (.int i1), .val (.long i2), .second, .val (.int i3), .val (.ref b116), .val (.int (Int32.ofNat hlN)), .val (.ref b127), .val (.int (Int32.ofNat slN)), .val (.ref a134), .val (.ref a135), .val (.ref ra), .val (.int (Int32.ofNat (own_spN (H.take hlN)))), .val (.int (Int32.ofNat (own_spN (H.take hlN)))), .val (.int (1 : Int32)), .val (.int (Int32.ofNat a4)), .val (.int (Int32.ofNat c4n))] [(.ref a151)])
                                  refine own_aload A151 hx (pc' := 549) (hb hby at_547) rfl rfl rfl ?_
                                  refine own_strEq K151 hx (by rw [hml]; rfl) (hw _ (List.mem_of_getElem? (i := 161) rfl)) (hw _ (List.mem_of_getElem? (i := 162) rfl)) (hw _ (List.mem_of_getElem? (i := 164) rfl)) (hw _ (List.mem_of_getElem? (i := 163) rfl)) (own_we hw) (hw _ (List.mem_of_getElem? (i := 13) rfl)) S151 Sr O2 P5 (lenOf pd_31 rfl) 0 (Nat.le_of_eq rfl) (hb hby at_549) (pc' := 552) rfl (by decide) (by decide) (by decide) (by decide) ?_
                                  intro T152 K152
                                  have A152 := own_here K152
                                  exact own_retN K152 hx hlk hret (by simp) (hb hby at_552) (by decide) (by decide) (by show some (Value.int (nar .boolean _)) = _; rw [if_pos (own_fin (H := H) (n := hlN) (b := ((own_spN (H.take hlN)) + 1)) (by omega) x1 x2 x3 (x4.elim (fun e => Or.inl (by omega)) id) y1 y2 y3 (y4.elim (fun e => Or.inl (by omega)) id) htr).symm]; rfl)
                                refine own_iload A149 hx (pc' := 517) (hb hby at_515) rfl rfl ?_
                                refine own_iload A149 hx (pc' := 519) (hb hby at_517) rfl rfl ?_
                                refine own_icmp_le A149 hx 538 522 (hb hby at_519) (by decide) (by decide) rfl (fun hc519 => ?_) (fun hc519 => ?_)
                                · exact J538_150 T149 h149 (Int32.ofNat c3n) (own_more K149 (by decide) (by decide)) AH AD Sr ⟨c3n, rfl, y1, y2, y3, Or.inr (Or.inl (by have := own_natnlt (i := a4) (j := c3n) (by omega) (by omega) hc519; omega))⟩
                                · refine own_aload A149 hx (pc' := 524) (hb hby at_522) rfl rfl rfl ?_
                                  refine own_iload A149 hx (pc' := 526) (hb hby at_524) rfl rfl ?_
                                  refine own_iconst A149 hx (pc' := 527) (hb hby at_526) (z := (1 : Int32)) (by decide) rfl ?_
                                  refine own_isub A149 hx (pc' := 528) (hb hby at_527) (z := ((Int32.ofNat c3n) - (1 : Int32))) rfl rfl ?_
                                  rw [own_natsubp (c := c3n) (by have := (own_nl (a := a4) (b := c3n) (by omega) (by omega)).mp hc519; omega)]
                                  refine own_ldC K149 hx AH (own_natlt (i := (c3n - 1)) (by omega) (by omega)) (by rw [own_natcl (i := (c3n - 1)) (by omega)]; exact own_mapAt _ (by omega)) (hb hby at_528) (pc' := 529) rfl ?_
                                  refine own_callS K149 hx (by rw [hml]; rfl) (hw _ (List.mem_of_getElem? (i := 202) rfl)) (hw _ (List.mem_of_getElem? (i := 203) rfl)) (hw _ (List.mem_of_getElem? (i := 3) rfl)) (hw _ (List.mem_of_getElem? (i := 204) rfl)) (by decide) (rm_ws l Z a0 hw [] h149 (H.getD (c3n - 1) 0)) (fun _ q => nomatch q) (argsL := [(.int (H.getD (c3n - 1) 0))]) (rest := []) (lenOf pd_23 rfl) rfl 0 (Nat.le_of_eq rfl) (hb hby at_529) (pc' := 532) rfl (by decide) (by decide) (by decide) (by decide) ?_
                                  intro v153 T153 h153 K153 Kp153 Q153
                                  obtain ⟨rfl, -⟩ := Q153
                                  have AH := AH.keep Kp153 nin0
                                  have AD := AD.keep Kp153 nin0
                                  have Sr := Sr.keep Kp153 own_off0
                                  have A153 := own_here K153
                                  show own_Go p.tables e below _ T153 (mkF m 532 #[.val (.long i0), .second, .val (.int i1), .val (.long i2), .second, .val (.int i3), .val (.ref b116), .val (.int (Int32.ofNat hlN)), .val (.ref b127), .val (.int (Int32.ofNat slN)), .val (.ref a134), .val (.ref a135), .val (.ref ra), .val (.int (Int32.ofNat (own_spN (H.take hlN)))), .val (.int (Int32.ofNat (own_spN (H.take hlN)))), .val (.int (1 : Int32)), .val (.int (Int32.ofNat a4)), .val (.int (Int32.ofNat c3n))] [(.int (if own_ws (H.getD (c3n - 1) 0) then (1 : Int32) else 0))])
                                  refine own_if_eq A153 hx 538 535 (hb hby at_532) (by decide) (by decide) rfl (fun hc532 => ?_) (fun hc532 => ?_)
                                  · exact J538_150 T153 h153 (Int32.ofNat c3n) (own_more K153 (by decide) (by decide)) AH AD Sr ⟨c3n, rfl, y1, y2, y3, Or.inr (Or.inr (own_if0 hc532))⟩
                                  · refine own_iinc A153 hx (pc' := 538) #[.val (.long i0), .second, .val (.int i1), .val (.long i2), .second, .val (.int i3), .val (.ref b116), .val (.int (Int32.ofNat hlN)), .val (.ref b127), .val (.int (Int32.ofNat slN)), .val (.ref a134), .val (.ref a135), .val (.ref ra), .val (.int (Int32.ofNat (own_spN (H.take hlN)))), .val (.int (Int32.ofNat (own_spN (H.take hlN)))), .val (.int (1 : Int32)), .val (.int (Int32.ofNat a4)), .val (.int (Int32.ofNat (c3n - 1)))] (hb hby at_535) rfl (by rw [own_natdecp (c := c3n) (by have := (own_nl (a := a4) (b := c3n) (by omega) (by omega)).mp hc519; omega)]; rfl) rfl ?_
                                    exact J538_150 T153 h153 (Int32.ofNat (c3n - 1)) (own_more K153 (by decide) (by decide)) AH AD Sr ⟨c3n - 1, rfl, by have := (own_nl (a := a4) (b := c3n) (by omega) (by omega)).mp hc519; omega, by omega, (fun j p q => by by_cases z : c3n ≤ j; exact y3 j z q; rw [show j = c3n - 1 by omega]; exact own_if1 hc532), (by have hac := (own_nl (a := a4) (b := c3n) (by omega) (by omega)).mp hc519; exact y4.elim (fun e => Or.inl (by omega)) (fun e => e.elim (fun e => absurd hac (by omega)) (fun e => absurd (own_if1 hc532) e)))⟩
                              refine own_iload A148 hx (pc' := 494) (hb hby at_492) rfl rfl ?_
                              refine own_iload A148 hx (pc' := 496) (hb hby at_494) rfl rfl ?_
                              refine own_icmp_le A148 hx 515 499 (hb hby at_496) (by decide) (by decide) rfl (fun hc496 => ?_) (fun hc496 => ?_)
                              · exact J515_149 T148 h148 (Int32.ofNat c2n) (own_more K148 (by decide) (by decide)) AH AD Sr ⟨c2n, rfl, y1, y2, y3, Or.inr (Or.inl (by have := own_natnlt (i := a4) (j := c2n) (by omega) (by omega) hc496; omega))⟩
                              · refine own_aload A148 hx (pc' := 501) (hb hby at_499) rfl rfl rfl ?_
                                refine own_iload A148 hx (pc' := 503) (hb hby at_501) rfl rfl ?_
                                refine own_iconst A148 hx (pc' := 504) (hb hby at_503) (z := (1 : Int32)) (by decide) rfl ?_
                                refine own_isub A148 hx (pc' := 505) (hb hby at_504) (z := ((Int32.ofNat c2n) - (1 : Int32))) rfl rfl ?_
                                rw [own_natsubp (c := c2n) (by have := (own_nl (a := a4) (b := c2n) (by omega) (by omega)).mp hc496; omega)]
                                refine own_ldC K148 hx AH (own_natlt (i := (c2n - 1)) (by omega) (by omega)) (by rw [own_natcl (i := (c2n - 1)) (by omega)]; exact own_mapAt _ (by omega)) (hb hby at_505) (pc' := 506) rfl ?_
                                refine own_callS K148 hx (by rw [hml]; rfl) (hw _ (List.mem_of_getElem? (i := 202) rfl)) (hw _ (List.mem_of_getElem? (i := 203) rfl)) (hw _ (List.mem_of_getElem? (i := 3) rfl)) (hw _ (List.mem_of_getElem? (i := 204) rfl)) (by decide) (rm_ws l Z a0 hw [] h148 (H.getD (c2n - 1) 0)) (fun _ q => nomatch q) (argsL := [(.int (H.getD (c2n - 1) 0))]) (rest := []) (lenOf pd_23 rfl) rfl 0 (Nat.le_of_eq rfl) (hb hby at_506) (pc' := 509) rfl (by decide) (by decide) (by decide) (by decide) ?_
                                intro v154 T154 h154 K154 Kp154 Q154
                                obtain ⟨rfl, -⟩ := Q154
                                have AH := AH.keep Kp154 nin0
                                have AD := AD.keep Kp154 nin0
                                have Sr := Sr.keep Kp154 own_off0
                                have A154 := own_here K154
                                show own_Go p.tables e below _ T154 (mkF m 509 #[.val (.long i0), .second, .val (.int i1), .val (.long i2), .second, .val (.int i3), .val (.ref b116), .val (.int (Int32.ofNat hlN)), .val (.ref b127), .val (.int (Int32.ofNat slN)), .val (.ref a134), .val (.ref a135), .val (.ref ra), .val (.int (Int32.ofNat (own_spN (H.take hlN)))), .val (.int (Int32.ofNat (own_spN (H.take hlN)))), .val (.int (1 : Int32)), .val (.int (Int32.ofNat a4)), .val (.int (Int32.ofNat c2n))] [(.int (if own_ws (H.getD (c2n - 1) 0) then (1 : Int32) else 0))])
                                refine own_if_eq A154 hx 515 512 (hb hby at_509) (by decide) (by decide) rfl (fun hc509 => ?_) (fun hc509 => ?_)
                                · exact J515_149 T154 h154 (Int32.ofNat c2n) (own_more K154 (by decide) (by decide)) AH AD Sr ⟨c2n, rfl, y1, y2, y3, Or.inr (Or.inr (own_if0 hc509))⟩
                                · refine own_iinc A154 hx (pc' := 515) #[.val (.long i0), .second, .val (.int i1), .val (.long i2), .second, .val (.int i3), .val (.ref b116), .val (.int (Int32.ofNat hlN)), .val (.ref b127), .val (.int (Int32.ofNat slN)), .val (.ref a134), .val (.ref a135), .val (.ref ra), .val (.int (Int32.ofNat (own_spN (H.take hlN)))), .val (.int (Int32.ofNat (own_spN (H.take hlN)))), .val (.int (1 : Int32)), .val (.int (Int32.ofNat a4)), .val (.int (Int32.ofNat (c2n - 1)))] (hb hby at_512) rfl (by rw [own_natdecp (c := c2n) (by have := (own_nl (a := a4) (b := c2n) (by omega) (by omega)).mp hc496; omega)]; rfl) rfl ?_
                                  exact J515_149 T154 h154 (Int32.ofNat (c2n - 1)) (own_more K154 (by decide) (by decide)) AH AD Sr ⟨c2n - 1, rfl, by have := (own_nl (a := a4) (b := c2n) (by omega) (by omega)).mp hc496; omega, by omega, (fun j p q => by by_cases z : c2n ≤ j; exact y3 j z q; rw [show j = c2n - 1 by omega]; exact own_if1 hc509), (by have hac := (own_nl (a := a4) (b := c2n) (by omega) (by omega)).mp hc496; exact y4.elim (fun e => Or.inl (by omega)) (fun e => e.elim (fun e => absurd hac (by omega)) (fun e => absurd (own_if1 hc509) e)))⟩
                            refine own_iload A147 hx (pc' := 471) (hb hby at_469) rfl rfl ?_
                            refine own_iload A147 hx (pc' := 473) (hb hby at_471) rfl rfl ?_
                            refine own_icmp_le A147 hx 492 476 (hb hby at_473) (by decide) (by decide) rfl (fun hc473 => ?_) (fun hc473 => ?_)
                            · exact J492_148 T147 h147 (Int32.ofNat c1n) (own_more K147 (by decide) (by decide)) AH AD Sr ⟨c1n, rfl, y1, y2, y3, Or.inr (Or.inl (by have := own_natnlt (i := a4) (j := c1n) (by omega) (by omega) hc473; omega))⟩
                            · refine own_aload A147 hx (pc' := 478) (hb hby at_476) rfl rfl rfl ?_
                              refine own_iload A147 hx (pc' := 480) (hb hby at_478) rfl rfl ?_
                              refine own_iconst A147 hx (pc' := 481) (hb hby at_480) (z := (1 : Int32)) (by decide) rfl ?_
                              refine own_isub A147 hx (pc' := 482) (hb hby at_481) (z := ((Int32.ofNat c1n) - (1 : Int32))) rfl rfl ?_
                              rw [own_natsubp (c := c1n) (by have := (own_nl (a := a4) (b := c1n) (by omega) (by omega)).mp hc473; omega)]
                              refine own_ldC K147 hx AH (own_natlt (i := (c1n - 1)) (by omega) (by omega)) (by rw [own_natcl (i := (c1n - 1)) (by omega)]; exact own_mapAt _ (by omega)) (hb hby at_482) (pc' := 483) rfl ?_
                              refine own_callS K147 hx (by rw [hml]; rfl) (hw _ (List.mem_of_getElem? (i := 202) rfl)) (hw _ (List.mem_of_getElem? (i := 203) rfl)) (hw _ (List.mem_of_getElem? (i := 3) rfl)) (hw _ (List.mem_of_getElem? (i := 204) rfl)) (by decide) (rm_ws l Z a0 hw [] h147 (H.getD (c1n - 1) 0)) (fun _ q => nomatch q) (argsL := [(.int (H.getD (c1n - 1) 0))]) (rest := []) (lenOf pd_23 rfl) rfl 0 (Nat.le_of_eq rfl) (hb hby at_483) (pc' := 486) rfl (by decide) (by decide) (by decide) (by decide) ?_
                              intro v155 T155 h155 K155 Kp155 Q155
                              obtain ⟨rfl, -⟩ := Q155
                              have AH := AH.keep Kp155 nin0
                              have AD := AD.keep Kp155 nin0
                              have Sr := Sr.keep Kp155 own_off0
                              have A155 := own_here K155
                              show own_Go p.tables e below _ T155 (mkF m 486 #[.val (.long i0), .second, .val (.int i1), .val (.long i2), .second, .val (.int i3), .val (.ref b116), .val (.int (Int32.ofNat hlN)), .val (.ref b127), .val (.int (Int32.ofNat slN)), .val (.ref a134), .val (.ref a135), .val (.ref ra), .val (.int (Int32.ofNat (own_spN (H.take hlN)))), .val (.int (Int32.ofNat (own_spN (H.take hlN)))), .val (.int (1 : Int32)), .val (.int (Int32.ofNat a4)), .val (.int (Int32.ofNat c1n))] [(.int (if own_ws (H.getD (c1n - 1) 0) then (1 : Int32) else 0))])
                              refine own_if_eq A155 hx 492 489 (hb hby at_486) (by decide) (by decide) rfl (fun hc486 => ?_) (fun hc486 => ?_)
                              · exact J492_148 T155 h155 (Int32.ofNat c1n) (own_more K155 (by decide) (by decide)) AH AD Sr ⟨c1n, rfl, y1, y2, y3, Or.inr (Or.inr (own_if0 hc486))⟩
                              · refine own_iinc A155 hx (pc' := 492) #[.val (.long i0), .second, .val (.int i1), .val (.long i2), .second, .val (.int i3), .val (.ref b116), .val (.int (Int32.ofNat hlN)), .val (.ref b127), .val (.int (Int32.ofNat slN)), .val (.ref a134), .val (.ref a135), .val (.ref ra), .val (.int (Int32.ofNat (own_spN (H.take hlN)))), .val (.int (Int32.ofNat (own_spN (H.take hlN)))), .val (.int (1 : Int32)), .val (.int (Int32.ofNat a4)), .val (.int (Int32.ofNat (c1n - 1)))] (hb hby at_489) rfl (by rw [own_natdecp (c := c1n) (by have := (own_nl (a := a4) (b := c1n) (by omega) (by omega)).mp hc473; omega)]; rfl) rfl ?_
                                exact J492_148 T155 h155 (Int32.ofNat (c1n - 1)) (own_more K155 (by decide) (by decide)) AH AD Sr ⟨c1n - 1, rfl, by have := (own_nl (a := a4) (b := c1n) (by omega) (by omega)).mp hc473; omega, by omega, (fun j p q => by by_cases z : c1n ≤ j; exact y3 j z q; rw [show j = c1n - 1 by omega]; exact own_if1 hc486), (by have hac := (own_nl (a := a4) (b := c1n) (by omega) (by omega)).mp hc473; exact y4.elim (fun e => Or.inl (by omega)) (fun e => e.elim (fun e => absurd hac (by omega)) (fun e => absurd (own_if1 hc486) e)))⟩
                          refine own_iload A146 hx (pc' := 448) (hb hby at_446) rfl rfl ?_
                          refine own_iload A146 hx (pc' := 450) (hb hby at_448) rfl rfl ?_
                          refine own_icmp_le A146 hx 469 453 (hb hby at_450) (by decide) (by decide) rfl (fun hc450 => ?_) (fun hc450 => ?_)
                          · exact J469_147 T146 h146 (Int32.ofNat hlN) (own_more K146 (by decide) (by decide)) AH AD Sr ⟨hlN, rfl, y1, y2, y3, Or.inr (Or.inl (by have := own_natnlt (i := a4) (j := hlN) (by omega) (by omega) hc450; omega))⟩
                          · refine own_aload A146 hx (pc' := 455) (hb hby at_453) rfl rfl rfl ?_
                            refine own_iload A146 hx (pc' := 457) (hb hby at_455) rfl rfl ?_
                            refine own_iconst A146 hx (pc' := 458) (hb hby at_457) (z := (1 : Int32)) (by decide) rfl ?_
                            refine own_isub A146 hx (pc' := 459) (hb hby at_458) (z := ((Int32.ofNat hlN) - (1 : Int32))) rfl rfl ?_
                            rw [own_natsubp (c := hlN) (by have := (own_nl (a := a4) (b := hlN) (by omega) (by omega)).mp hc450; omega)]
                            refine own_ldC K146 hx AH (own_natlt (i := (hlN - 1)) (by omega) (by omega)) (by rw [own_natcl (i := (hlN - 1)) (by omega)]; exact own_mapAt _ (by omega)) (hb hby at_459) (pc' := 460) rfl ?_
                            refine own_callS K146 hx (by rw [hml]; rfl) (hw _ (List.mem_of_getElem? (i := 202) rfl)) (hw _ (List.mem_of_getElem? (i := 203) rfl)) (hw _ (List.mem_of_getElem? (i := 3) rfl)) (hw _ (List.mem_of_getElem? (i := 204) rfl)) (by decide) (rm_ws l Z a0 hw [] h146 (H.getD (hlN - 1) 0)) (fun _ q => nomatch q) (argsL := [(.int (H.getD (hlN - 1) 0))]) (rest := []) (lenOf pd_23 rfl) rfl 0 (Nat.le_of_eq rfl) (hb hby at_460) (pc' := 463) rfl (by decide) (by decide) (by decide) (by decide) ?_
                            intro v156 T156 h156 K156 Kp156 Q156
                            obtain ⟨rfl, -⟩ := Q156
                            have AH := AH.keep Kp156 nin0
                            have AD := AD.keep Kp156 nin0
                            have Sr := Sr.keep Kp156 own_off0
                            have A156 := own_here K156
                            show own_Go p.tables e below _ T156 (mkF m 463 #[.val (.long i0), .second, .val (.int i1), .val (.long i2), .second, .val (.int i3), .val (.ref b116), .val (.int (Int32.ofNat hlN)), .val (.ref b127), .val (.int (Int32.ofNat slN)), .val (.ref a134), .val (.ref a135), .val (.ref ra), .val (.int (Int32.ofNat (own_spN (H.take hlN)))), .val (.int (Int32.ofNat (own_spN (H.take hlN)))), .val (.int (1 : Int32)), .val (.int (Int32.ofNat a4)), .val (.int (Int32.ofNat hlN))] [(.int (if own_ws (H.getD (hlN - 1) 0) then (1 : Int32) else 0))])
                            refine own_if_eq A156 hx 469 466 (hb hby at_463) (by decide) (by decide) rfl (fun hc463 => ?_) (fun hc463 => ?_)
                            · exact J469_147 T156 h156 (Int32.ofNat hlN) (own_more K156 (by decide) (by decide)) AH AD Sr ⟨hlN, rfl, y1, y2, y3, Or.inr (Or.inr (own_if0 hc463))⟩
                            · refine own_iinc A156 hx (pc' := 469) #[.val (.long i0), .second, .val (.int i1), .val (.long i2), .second, .val (.int i3), .val (.ref b116), .val (.int (Int32.ofNat hlN)), .val (.ref b127), .val (.int (Int32.ofNat slN)), .val (.ref a134), .val (.ref a135), .val (.ref ra), .val (.int (Int32.ofNat (own_spN (H.take hlN)))), .val (.int (Int32.ofNat (own_spN (H.take hlN)))), .val (.int (1 : Int32)), .val (.int (Int32.ofNat a4)), .val (.int (Int32.ofNat (hlN - 1)))] (hb hby at_466) rfl (by rw [own_natdecp (c := hlN) (by have := (own_nl (a := a4) (b := hlN) (by omega) (by omega)).mp hc450; omega)]; rfl) rfl ?_
                              exact J469_147 T156 h156 (Int32.ofNat (hlN - 1)) (own_more K156 (by decide) (by decide)) AH AD Sr ⟨hlN - 1, rfl, by have := (own_nl (a := a4) (b := hlN) (by omega) (by omega)).mp hc450; omega, by omega, (fun j p q => by by_cases z : hlN ≤ j; exact y3 j z q; rw [show j = hlN - 1 by omega]; exact own_if1 hc463), (by have hac := (own_nl (a := a4) (b := hlN) (by omega) (by omega)).mp hc450; exact y4.elim (fun e => Or.inl (by omega)) (fun e => e.elim (fun e => absurd hac (by omega)) (fun e => absurd (own_if1 hc463) e)))⟩
                        refine own_iload A145 hx (pc' := 427) (hb hby at_425) rfl rfl ?_
                        refine own_iload A145 hx (pc' := 429) (hb hby at_427) rfl rfl ?_
                        refine own_icmp_ge A145 hx 446 432 (hb hby at_429) (by decide) (by decide) rfl (fun hc429 => ?_) (fun hc429 => ?_)
                        · exact J446_146 T145 h145 (Int32.ofNat a3) (own_more K145 (by decide) (by decide)) AH AD Sr ⟨a3, rfl, x1, x2, x3, Or.inr (Or.inl (by have := own_natnlt (i := a3) (j := hlN) (by omega) (by omega) hc429; omega))⟩
                        · refine own_aload A145 hx (pc' := 434) (hb hby at_432) rfl rfl rfl ?_
                          refine own_iload A145 hx (pc' := 436) (hb hby at_434) rfl rfl ?_
                          have hlt_ := (own_nl (a := a3) (b := hlN) (by omega) (by omega)).mp hc429
                          refine own_ldC K145 hx AH (own_natlt (i := a3) (by omega) (by omega)) (by rw [own_natcl (i := a3) (by omega)]; exact own_mapAt _ (by omega)) (hb hby at_436) (pc' := 437) rfl ?_
                          refine own_callS K145 hx (by rw [hml]; rfl) (hw _ (List.mem_of_getElem? (i := 202) rfl)) (hw _ (List.mem_of_getElem? (i := 203) rfl)) (hw _ (List.mem_of_getElem? (i := 3) rfl)) (hw _ (List.mem_of_getElem? (i := 204) rfl)) (by decide) (rm_ws l Z a0 hw [] h145 (H.getD a3 0)) (fun _ q => nomatch q) (argsL := [(.int (H.getD a3 0))]) (rest := []) (lenOf pd_23 rfl) rfl 0 (Nat.le_of_eq rfl) (hb hby at_437) (pc' := 440) rfl (by decide) (by decide) (by decide) (by decide) ?_
                          intro v157 T157 h157 K157 Kp157 Q157
                          obtain ⟨rfl, -⟩ := Q157
                          have AH := AH.keep Kp157 nin0
                          have AD := AD.keep Kp157 nin0
                          have Sr := Sr.keep Kp157 own_off0
                          have A157 := own_here K157
                          show own_Go p.tables e below _ T157 (mkF m 440 #[.val (.long i0), .second, .val (.int i1), .val (.long i2), .second, .val (.int i3), .val (.ref b116), .val (.int (Int32.ofNat hlN)), .val (.ref b127), .val (.int (Int32.ofNat slN)), .val (.ref a134), .val (.ref a135), .val (.ref ra), .val (.int (Int32.ofNat (own_spN (H.take hlN)))), .val (.int (Int32.ofNat (own_spN (H.take hlN)))), .val (.int (1 : Int32)), .val (.int (Int32.ofNat a3)), .val (.int (Int32.ofNat hlN))] [(.int (if own_ws (H.getD a3 0) then (1 : Int32) else 0))])
                          refine own_if_eq A157 hx 446 443 (hb hby at_440) (by decide) (by decide) rfl (fun hc440 => ?_) (fun hc440 => ?_)
                          · exact J446_146 T157 h157 (Int32.ofNat a3) (own_more K157 (by decide) (by decide)) AH AD Sr ⟨a3, rfl, x1, x2, x3, Or.inr (Or.inr (own_if0 hc440))⟩
                          · refine own_iinc A157 hx (pc' := 446) #[.val (.long i0), .second, .val (.int i1), .val (.long i2), .second, .val (.int i3), .val (.ref b116), .val (.int (Int32.ofNat hlN)), .val (.ref b127), .val (.int (Int32.ofNat slN)), .val (.ref a134), .val (.ref a135), .val (.ref ra), .val (.int (Int32.ofNat (own_spN (H.take hlN)))), .val (.int (Int32.ofNat (own_spN (H.take hlN)))), .val (.int (1 : Int32)), .val (.int (Int32.ofNat (a3 + 1))), .val (.int (Int32.ofNat hlN))] (hb hby at_443) rfl (by rw [own_natinc]; rfl) rfl ?_
                            exact J446_146 T157 h157 (Int32.ofNat (a3 + 1)) (own_more K157 (by decide) (by decide)) AH AD Sr ⟨a3 + 1, rfl, by omega, (own_nl (by omega) (by omega)).mp hc429, (fun j p q => by rcases Nat.lt_or_eq_of_le (Nat.lt_succ_iff.mp q) with z | rfl; exact x3 j p z; exact own_if1 hc440), x4.elim (fun e => Or.inl (by omega)) (fun e => e.elim (fun e => absurd ((own_nl (by omega) (by omega)).mp hc429) (by omega)) (fun e => absurd (own_if1 hc440) e))⟩
                      refine own_iload A144 hx (pc' := 406) (hb hby at_404) rfl rfl ?_
                      refine own_iload A144 hx (pc' := 408) (hb hby at_406) rfl rfl ?_
                      refine own_icmp_ge A144 hx 425 411 (hb hby at_408) (by decide) (by decide) rfl (fun hc408 => ?_) (fun hc408 => ?_)
                      · exact J425_145 T144 h144 (Int32.ofNat a2) (own_more K144 (by decide) (by decide)) AH AD Sr ⟨a2, rfl, x1, x2, x3, Or.inr (Or.inl (by have := own_natnlt (i := a2) (j := hlN) (by omega) (by omega) hc408; omega))⟩
                      · refine own_aload A144 hx (pc' := 413) (hb hby at_411) rfl rfl rfl ?_
                        refine own_iload A144 hx (pc' := 415) (hb hby at_413) rfl rfl ?_
                        have hlt_ := (own_nl (a := a2) (b := hlN) (by omega) (by omega)).mp hc408
                        refine own_ldC K144 hx AH (own_natlt (i := a2) (by omega) (by omega)) (by rw [own_natcl (i := a2) (by omega)]; exact own_mapAt _ (by omega)) (hb hby at_415) (pc' := 416) rfl ?_
                        refine own_callS K144 hx (by rw [hml]; rfl) (hw _ (List.mem_of_getElem? (i := 202) rfl)) (hw _ (List.mem_of_getElem? (i := 203) rfl)) (hw _ (List.mem_of_getElem? (i := 3) rfl)) (hw _ (List.mem_of_getElem? (i := 204) rfl)) (by decide) (rm_ws l Z a0 hw [] h144 (H.getD a2 0)) (fun _ q => nomatch q) (argsL := [(.int (H.getD a2 0))]) (rest := []) (lenOf pd_23 rfl) rfl 0 (Nat.le_of_eq rfl) (hb hby at_416) (pc' := 419) rfl (by decide) (by decide) (by decide) (by decide) ?_
                        intro v158 T158 h158 K158 Kp158 Q158
                        obtain ⟨rfl, -⟩ := Q158
                        have AH := AH.keep Kp158 nin0
                        have AD := AD.keep Kp158 nin0
                        have Sr := Sr.keep Kp158 own_off0
                        have A158 := own_here K158
                        show own_Go p.tables e below _ T158 (mkF m 419 #[.val (.long i0), .second, .val (.int i1), .val (.long i2), .second, .val (.int i3), .val (.ref b116), .val (.int (Int32.ofNat hlN)), .val (.ref b127), .val (.int (Int32.ofNat slN)), .val (.ref a134), .val (.ref a135), .val (.ref ra), .val (.int (Int32.ofNat (own_spN (H.take hlN)))), .val (.int (Int32.ofNat (own_spN (H.take hlN)))), .val (.int (1 : Int32)), .val (.int (Int32.ofNat a2)), .val (.int (Int32.ofNat hlN))] [(.int (if own_ws (H.getD a2 0) then (1 : Int32) else 0))])
                        refine own_if_eq A158 hx 425 422 (hb hby at_419) (by decide) (by decide) rfl (fun hc419 => ?_) (fun hc419 => ?_)
                        · exact J425_145 T158 h158 (Int32.ofNat a2) (own_more K158 (by decide) (by decide)) AH AD Sr ⟨a2, rfl, x1, x2, x3, Or.inr (Or.inr (own_if0 hc419))⟩
                        · refine own_iinc A158 hx (pc' := 425) #[.val (.long i0), .second, .val (.int i1), .val (.long i2), .second, .val (.int i3), .val (.ref b116), .val (.int (Int32.ofNat hlN)), .val (.ref b127), .val (.int (Int32.ofNat slN)), .val (.ref a134), .val (.ref a135), .val (.ref ra), .val (.int (Int32.ofNat (own_spN (H.take hlN)))), .val (.int (Int32.ofNat (own_spN (H.take hlN)))), .val (.int (1 : Int32)), .val (.int (Int32.ofNat (a2 + 1))), .val (.int (Int32.ofNat hlN))] (hb hby at_422) rfl (by rw [own_natinc]; rfl) rfl ?_
                          exact J425_145 T158 h158 (Int32.ofNat (a2 + 1)) (own_more K158 (by decide) (by decide)) AH AD Sr ⟨a2 + 1, rfl, by omega, (own_nl (by omega) (by omega)).mp hc408, (fun j p q => by rcases Nat.lt_or_eq_of_le (Nat.lt_succ_iff.mp q) with z | rfl; exact x3 j p z; exact own_if1 hc419), x4.elim (fun e => Or.inl (by omega)) (fun e => e.elim (fun e => absurd ((own_nl (by omega) (by omega)).mp hc408) (by omega)) (fun e => absurd (own_if1 hc419) e))⟩
                    refine own_iload A143 hx (pc' := 385) (hb hby at_383) rfl rfl ?_
                    refine own_iload A143 hx (pc' := 387) (hb hby at_385) rfl rfl ?_
                    refine own_icmp_ge A143 hx 404 390 (hb hby at_387) (by decide) (by decide) rfl (fun hc387 => ?_) (fun hc387 => ?_)
                    · exact J404_144 T143 h143 (Int32.ofNat a1) (own_more K143 (by decide) (by decide)) AH AD Sr ⟨a1, rfl, x1, x2, x3, Or.inr (Or.inl (by have := own_natnlt (i := a1) (j := hlN) (by omega) (by omega) hc387; omega))⟩
                    · refine own_aload A143 hx (pc' := 392) (hb hby at_390) rfl rfl rfl ?_
                      refine own_iload A143 hx (pc' := 394) (hb hby at_392) rfl rfl ?_
                      have hlt_ := (own_nl (a := a1) (b := hlN) (by omega) (by omega)).mp hc387
                      refine own_ldC K143 hx AH (own_natlt (i := a1) (by omega) (by omega)) (by rw [own_natcl (i := a1) (by omega)]; exact own_mapAt _ (by omega)) (hb hby at_394) (pc' := 395) rfl ?_
                      refine own_callS K143 hx (by rw [hml]; rfl) (hw _ (List.mem_of_getElem? (i := 202) rfl)) (hw _ (List.mem_of_getElem? (i := 203) rfl)) (hw _ (List.mem_of_getElem? (i := 3) rfl)) (hw _ (List.mem_of_getElem? (i := 204) rfl)) (by decide) (rm_ws l Z a0 hw [] h143 (H.getD a1 0)) (fun _ q => nomatch q) (argsL := [(.int (H.getD a1 0))]) (rest := []) (lenOf pd_23 rfl) rfl 0 (Nat.le_of_eq rfl) (hb hby at_395) (pc' := 398) rfl (by decide) (by decide) (by decide) (by decide) ?_
                      intro v159 T159 h159 K159 Kp159 Q159
                      obtain ⟨rfl, -⟩ := Q159
                      have AH := AH.keep Kp159 nin0
                      have AD := AD.keep Kp159 nin0
                      have Sr := Sr.keep Kp159 own_off0
                      have A159 := own_here K159
                      show own_Go p.tables e below _ T159 (mkF m 398 #[.val (.long i0), .second, .val (.int i1), .val (.long i2), .second, .val (.int i3), .val (.ref b116), .val (.int (Int32.ofNat hlN)), .val (.ref b127), .val (.int (Int32.ofNat slN)), .val (.ref a134), .val (.ref a135), .val (.ref ra), .val (.int (Int32.ofNat (own_spN (H.take hlN)))), .val (.int (Int32.ofNat (own_spN (H.take hlN)))), .val (.int (1 : Int32)), .val (.int (Int32.ofNat a1)), .val (.int (Int32.ofNat hlN))] [(.int (if own_ws (H.getD a1 0) then (1 : Int32) else 0))])
                      refine own_if_eq A159 hx 404 401 (hb hby at_398) (by decide) (by decide) rfl (fun hc398 => ?_) (fun hc398 => ?_)
                      · exact J404_144 T159 h159 (Int32.ofNat a1) (own_more K159 (by decide) (by decide)) AH AD Sr ⟨a1, rfl, x1, x2, x3, Or.inr (Or.inr (own_if0 hc398))⟩
                      · refine own_iinc A159 hx (pc' := 404) #[.val (.long i0), .second, .val (.int i1), .val (.long i2), .second, .val (.int i3), .val (.ref b116), .val (.int (Int32.ofNat hlN)), .val (.ref b127), .val (.int (Int32.ofNat slN)), .val (.ref a134), .val (.ref a135), .val (.ref ra), .val (.int (Int32.ofNat (own_spN (H.take hlN)))), .val (.int (Int32.ofNat (own_spN (H.take hlN)))), .val (.int (1 : Int32)), .val (.int (Int32.ofNat (a1 + 1))), .val (.int (Int32.ofNat hlN))] (hb hby at_401) rfl (by rw [own_natinc]; rfl) rfl ?_
                        exact J404_144 T159 h159 (Int32.ofNat (a1 + 1)) (own_more K159 (by decide) (by decide)) AH AD Sr ⟨a1 + 1, rfl, by omega, (own_nl (by omega) (by omega)).mp hc387, (fun j p q => by rcases Nat.lt_or_eq_of_le (Nat.lt_succ_iff.mp q) with z | rfl; exact x3 j p z; exact own_if1 hc398), x4.elim (fun e => Or.inl (by omega)) (fun e => e.elim (fun e => absurd ((own_nl (by omega) (by omega)).mp hc387) (by omega)) (fun e => absurd (own_if1 hc398) e))⟩
                  refine own_iload A142 hx (pc' := 364) (hb hby at_362) rfl rfl ?_
                  refine own_iload A142 hx (pc' := 366) (hb hby at_364) rfl rfl ?_
                  refine own_icmp_ge A142 hx 383 369 (hb hby at_366) (by decide) (by decide) rfl (fun hc366 => ?_) (fun hc366 => ?_)
                  · exact J383_143 T142 h142 (Int32.ofNat ((own_spN (H.take hlN)) + 1)) (own_more K142 (by decide) (by decide)) AH AD Sr ⟨((own_spN (H.take hlN)) + 1), rfl, x1, x2, x3, Or.inr (Or.inl (by have := own_natnlt (i := ((own_spN (H.take hlN)) + 1)) (j := hlN) (by omega) (by omega) hc366; omega))⟩
                  · refine own_aload A142 hx (pc' := 371) (hb hby at_369) rfl rfl rfl ?_
                    refine own_iload A142 hx (pc' := 373) (hb hby at_371) rfl rfl ?_
                    have hlt_ := (own_nl (a := ((own_spN (H.take hlN)) + 1)) (b := hlN) (by omega) (by omega)).mp hc366
                    refine own_ldC K142 hx AH (own_natlt (i := ((own_spN (H.take hlN)) + 1)) (by omega) (by omega)) (by rw [own_natcl (i := ((own_spN (H.take hlN)) + 1)) (by omega)]; exact own_mapAt _ (by omega)) (hb hby at_373) (pc' := 374) rfl ?_
                    refine own_callS K142 hx (by rw [hml]; rfl) (hw _ (List.mem_of_getElem? (i := 202) rfl)) (hw _ (List.mem_of_getElem? (i := 203) rfl)) (hw _ (List.mem_of_getElem? (i := 3) rfl)) (hw _ (List.mem_of_getElem? (i := 204) rfl)) (by decide) (rm_ws l Z a0 hw [] h142 (H.getD ((own_spN (H.take hlN)) + 1) 0)) (fun _ q => nomatch q) (argsL := [(.int (H.getD ((own_spN (H.take hlN)) + 1) 0))]) (rest := []) (lenOf pd_23 rfl) rfl 0 (Nat.le_of_eq rfl) (hb hby at_374) (pc' := 377) rfl (by decide) (by decide) (by decide) (by decide) ?_
                    intro v160 T160 h160 K160 Kp160 Q160
                    obtain ⟨rfl, -⟩ := Q160
                    have AH := AH.keep Kp160 nin0
                    have AD := AD.keep Kp160 nin0
                    have Sr := Sr.keep Kp160 own_off0
                    have A160 := own_here K160
                    show own_Go p.tables e below _ T160 (mkF m 377 #[.val (.long i0), .second, .val (.int i1), .val (.long i2), .second, .val (.int i3), .val (.ref b116), .val (.int (Int32.ofNat hlN)), .val (.ref b127), .val (.int (Int32.ofNat slN)), .val (.ref a134), .val (.ref a135), .val (.ref ra), .val (.int (Int32.ofNat (own_spN (H.take hlN)))), .val (.int (Int32.ofNat (own_spN (H.take hlN)))), .val (.int (1 : Int32)), .val (.int (Int32.ofNat ((own_spN (H.take hlN)) + 1))), .val (.int (Int32.ofNat hlN))] [(.int (if own_ws (H.getD ((own_spN (H.take hlN)) + 1) 0) then (1 : Int32) else 0))])
                    refine own_if_eq A160 hx 383 380 (hb hby at_377) (by decide) (by decide) rfl (fun hc377 => ?_) (fun hc377 => ?_)
                    · exact J383_143 T160 h160 (Int32.ofNat ((own_spN (H.take hlN)) + 1)) (own_more K160 (by decide) (by decide)) AH AD Sr ⟨((own_spN (H.take hlN)) + 1), rfl, x1, x2, x3, Or.inr (Or.inr (own_if0 hc377))⟩
                    · refine own_iinc A160 hx (pc' := 383) #[.val (.long i0), .second, .val (.int i1), .val (.long i2), .second, .val (.int i3), .val (.ref b116), .val (.int (Int32.ofNat hlN)), .val (.ref b127), .val (.int (Int32.ofNat slN)), .val (.ref a134), .val (.ref a135), .val (.ref ra), .val (.int (Int32.ofNat (own_spN (H.take hlN)))), .val (.int (Int32.ofNat (own_spN (H.take hlN)))), .val (.int (1 : Int32)), .val (.int (Int32.ofNat (((own_spN (H.take hlN)) + 1) + 1))), .val (.int (Int32.ofNat hlN))] (hb hby at_380) rfl (by rw [own_natinc]; rfl) rfl ?_
                      exact J383_143 T160 h160 (Int32.ofNat (((own_spN (H.take hlN)) + 1) + 1)) (own_more K160 (by decide) (by decide)) AH AD Sr ⟨((own_spN (H.take hlN)) + 1) + 1, rfl, by omega, (own_nl (by omega) (by omega)).mp hc366, (fun j p q => by rcases Nat.lt_or_eq_of_le (Nat.lt_succ_iff.mp q) with z | rfl; exact x3 j p z; exact own_if1 hc377), x4.elim (fun e => Or.inl (by omega)) (fun e => e.elim (fun e => absurd ((own_nl (by omega) (by omega)).mp hc366) (by omega)) (fun e => absurd (own_if1 hc377) e))⟩
              refine own_iload A141 hx (pc' := 251) (hb hby at_249) rfl rfl ?_
              refine own_iload A141 hx (pc' := 253) (hb hby at_251) rfl rfl ?_
              refine own_icmp_ne A141 hx 320 256 (hb hby at_253) (by decide) (by decide) rfl (fun hc253 => ?_) (fun hc253 => ?_)
              · refine own_iconst A141 hx (pc' := 321) (hb hby at_320) (z := (0 : Int32)) (by decide) rfl ?_
                exact J321_142 T141 h141 (0 : Int32) (own_more K141 (by decide) (by decide)) AH AD CR (by rw [if_neg (fun p => by have q := (own_mt (H := H) (n := hlN) (D := D) (s := (own_spN (H.take hlN))) (k := slN) (by omega) (by omega) (by omega) sl3).mp p; exact hc253 (congrArg Int32.ofNat q.1))])
              · refine own_iload A141 hx (pc' := 258) (hb hby at_256) rfl rfl ?_
                refine own_iconst A141 hx (pc' := 259) (hb hby at_258) (z := (1 : Int32)) (by decide) rfl ?_
                refine own_icmp_lt A141 hx 276 262 (hb hby at_259) (by decide) (by decide) rfl (fun hc259 => ?_) (fun hc259 => ?_)
                · refine own_iload A141 hx (pc' := 278) (hb hby at_276) rfl rfl ?_
                  refine own_iconst A141 hx (pc' := 279) (hb hby at_278) (z := (2 : Int32)) (by decide) rfl ?_
                  refine own_icmp_lt A141 hx 296 282 (hb hby at_279) (by decide) (by decide) rfl (fun hc279 => ?_) (fun hc279 => ?_)
                  · refine own_iload A141 hx (pc' := 298) (hb hby at_296) rfl rfl ?_
                    refine own_iconst A141 hx (pc' := 299) (hb hby at_298) (z := (3 : Int32)) (by decide) rfl ?_
                    refine own_icmp_lt A141 hx 316 302 (hb hby at_299) (by decide) (by decide) rfl (fun hc299 => ?_) (fun hc299 => ?_)
                    · refine own_iconst A141 hx (pc' := 317) (hb hby at_316) (z := (1 : Int32)) (by decide) rfl ?_
                      refine own_goto A141 hx 321 (hb hby at_317) (by decide) (by decide) ?_
                      exact J321_142 T141 h141 (1 : Int32) (own_more K141 (by decide) (by decide)) AH AD CR (by rw [if_pos ((own_mt (H := H) (n := hlN) (D := D) (s := (own_spN (H.take hlN))) (k := slN) (by omega) (by omega) (by omega) sl3).mpr ⟨own_natinj (by omega) (by omega) hc253, Or.inl ((own_nl (a := slN) (b := 1) (by omega) (by decide)).mp hc259), Or.inl ((own_nl (a := slN) (b := 2) (by omega) (by decide)).mp hc279), Or.inl ((own_nl (a := slN) (b := 3) (by omega) (by decide)).mp hc299)⟩)])
                    · refine own_aload A141 hx (pc' := 304) (hb hby at_302) rfl rfl rfl ?_
                      refine own_iconst A141 hx (pc' := 305) (hb hby at_304) (z := (2 : Int32)) (by decide) rfl ?_
                      refine own_ldC K141 hx AH (own_natlt (i := 2) (by omega) (by omega)) (by rw [show (2 : Int32).toNatClampNeg = 2 from rfl]; exact own_mapAt _ (by omega)) (hb hby at_305) (pc' := 306) rfl ?_
                      refine own_aload A141 hx (pc' := 308) (hb hby at_306) rfl rfl rfl ?_
                      refine own_iconst A141 hx (pc' := 309) (hb hby at_308) (z := (2 : Int32)) (by decide) rfl ?_
                      refine own_ldC K141 hx AD (own_natlt (i := 2) (by omega) (by omega)) (by rw [show (2 : Int32).toNatClampNeg = 2 from rfl]; exact own_mapAt _ (by omega)) (hb hby at_309) (pc' := 310) rfl ?_
                      refine own_callS K141 hx (by rw [hml]; rfl) (hw _ (List.mem_of_getElem? (i := 154) rfl)) (hw _ (List.mem_of_getElem? (i := 155) rfl)) (hw _ (List.mem_of_getElem? (i := 3) rfl)) (hw _ (List.mem_of_getElem? (i := 156) rfl)) (by decide) (rm_ci l Z a0 hw [] h141 (H.getD 2 0) (D.getD 2 0)) (fun _ q => nomatch q) (argsL := [(.int (H.getD 2 0)), (.int (D.getD 2 0))]) (rest := []) (lenOf pd_32 rfl) rfl 0 (Nat.le_of_eq rfl) (hb hby at_310) (pc' := 313) rfl (by decide) (by decide) (by decide) (by decide) ?_
                      intro v161 T161 h161 K161 Kp161 Q161
                      obtain rfl := Q161
                      have AH := AH.keep Kp161 nin0
                      have AD := AD.keep Kp161 nin0
                      have CR := CR.keep Kp161
                      have A161 := own_here K161
                      show own_Go p.tables e below _ T161 (mkF m 313 #[.val (.long i0), .second, .val (.int i1), .val (.long i2), .second, .val (.int i3), .val (.ref b116), .val (.int (Int32.ofNat hlN)), .val (.ref b127), .val (.int (Int32.ofNat slN)), .val (.ref a134), .val (.ref a135), .val rv, .val (.int (Int32.ofNat (own_spN (H.take hlN)))), .val (.int (Int32.ofNat (own_spN (H.take hlN)))), .unset, .unset, .unset] [(.int (if own_ci (H.getD 2 0) (D.getD 2 0) then (1 : Int32) else 0))])
                      refine own_if_eq A161 hx 320 316 (hb hby at_313) (by decide) (by decide) rfl (fun hc313 => ?_) (fun hc313 => ?_)
                      · refine own_iconst A161 hx (pc' := 321) (hb hby at_320) (z := (0 : Int32)) (by decide) rfl ?_
                        exact J321_142 T161 h161 (0 : Int32) (own_more K161 (by decide) (by decide)) AH AD CR (by rw [if_neg (fun p => by have q := (own_mt (H := H) (n := hlN) (D := D) (s := (own_spN (H.take hlN))) (k := slN) (by omega) (by omega) (by omega) sl3).mp p; exact q.2.2.2.elim (fun z => hc299 ((own_nl (a := slN) (b := 3) (by omega) (by decide)).mpr z)) (own_if0 hc313))])
                      · refine own_iconst A161 hx (pc' := 317) (hb hby at_316) (z := (1 : Int32)) (by decide) rfl ?_
                        refine own_goto A161 hx 321 (hb hby at_317) (by decide) (by decide) ?_
                        exact J321_142 T161 h161 (1 : Int32) (own_more K161 (by decide) (by decide)) AH AD CR (by rw [if_pos ((own_mt (H := H) (n := hlN) (D := D) (s := (own_spN (H.take hlN))) (k := slN) (by omega) (by omega) (by omega) sl3).mpr ⟨own_natinj (by omega) (by omega) hc253, Or.inl ((own_nl (a := slN) (b := 1) (by omega) (by decide)).mp hc259), Or.inl ((own_nl (a := slN) (b := 2) (by omega) (by decide)).mp hc279), Or.inr (own_if1 hc313)⟩)])
                  · refine own_aload A141 hx (pc' := 284) (hb hby at_282) rfl rfl rfl ?_
                    refine own_iconst A141 hx (pc' := 285) (hb hby at_284) (z := (1 : Int32)) (by decide) rfl ?_
                    refine own_ldC K141 hx AH (own_natlt (i := 1) (by omega) (by omega)) (by rw [show (1 : Int32).toNatClampNeg = 1 from rfl]; exact own_mapAt _ (by omega)) (hb hby at_285) (pc' := 286) rfl ?_
                    refine own_aload A141 hx (pc' := 288) (hb hby at_286) rfl rfl rfl ?_
                    refine own_iconst A141 hx (pc' := 289) (hb hby at_288) (z := (1 : Int32)) (by decide) rfl ?_
                    refine own_ldC K141 hx AD (own_natlt (i := 1) (by omega) (by omega)) (by rw [show (1 : Int32).toNatClampNeg = 1 from rfl]; exact own_mapAt _ (by omega)) (hb hby at_289) (pc' := 290) rfl ?_
                    refine own_callS K141 hx (by rw [hml]; rfl) (hw _ (List.mem_of_getElem? (i := 154) rfl)) (hw _ (List.mem_of_getElem? (i := 155) rfl)) (hw _ (List.mem_of_getElem? (i := 3) rfl)) (hw _ (List.mem_of_getElem? (i := 156) rfl)) (by decide) (rm_ci l Z a0 hw [] h141 (H.getD 1 0) (D.getD 1 0)) (fun _ q => nomatch q) (argsL := [(.int (H.getD 1 0)), (.int (D.getD 1 0))]) (rest := []) (lenOf pd_32 rfl) rfl 0 (Nat.le_of_eq rfl) (hb hby at_290) (pc' := 293) rfl (by decide) (by decide) (by decide) (by decide) ?_
                    intro v162 T162 h162 K162 Kp162 Q162
                    obtain rfl := Q162
                    have AH := AH.keep Kp162 nin0
                    have AD := AD.keep Kp162 nin0
                    have CR := CR.keep Kp162
                    have A162 := own_here K162
                    show own_Go p.tables e below _ T162 (mkF m 293 #[.val (.long i0), .second, .val (.int i1), .val (.long i2), .second, .val (.int i3), .val (.ref b116), .val (.int (Int32.ofNat hlN)), .val (.ref b127), .val (.int (Int32.ofNat slN)), .val (.ref a134), .val (.ref a135), .val rv, .val (.int (Int32.ofNat (own_spN (H.take hlN)))), .val (.int (Int32.ofNat (own_spN (H.take hlN)))), .unset, .unset, .unset] [(.int (if own_ci (H.getD 1 0) (D.getD 1 0) then (1 : Int32) else 0))])
                    refine own_if_eq A162 hx 320 296 (hb hby at_293) (by decide) (by decide) rfl (fun hc293 => ?_) (fun hc293 => ?_)
                    · refine own_iconst A162 hx (pc' := 321) (hb hby at_320) (z := (0 : Int32)) (by decide) rfl ?_
                      exact J321_142 T162 h162 (0 : Int32) (own_more K162 (by decide) (by decide)) AH AD CR (by rw [if_neg (fun p => by have q := (own_mt (H := H) (n := hlN) (D := D) (s := (own_spN (H.take hlN))) (k := slN) (by omega) (by omega) (by omega) sl3).mp p; exact q.2.2.1.elim (fun z => hc279 ((own_nl (a := slN) (b := 2) (by omega) (by decide)).mpr z)) (own_if0 hc293))])
                    · refine own_iload A162 hx (pc' := 298) (hb hby at_296) rfl rfl ?_
                      refine own_iconst A162 hx (pc' := 299) (hb hby at_298) (z := (3 : Int32)) (by decide) rfl ?_
                      refine own_icmp_lt A162 hx 316 302 (hb hby at_299) (by decide) (by decide) rfl (fun hc299 => ?_) (fun hc299 => ?_)
                      · refine own_iconst A162 hx (pc' := 317) (hb hby at_316) (z := (1 : Int32)) (by decide) rfl ?_
                        refine own_goto A162 hx 321 (hb hby at_317) (by decide) (by decide) ?_
                        exact J321_142 T162 h162 (1 : Int32) (own_more K162 (by decide) (by decide)) AH AD CR (by rw [if_pos ((own_mt (H := H) (n := hlN) (D := D) (s := (own_spN (H.take hlN))) (k := slN) (by omega) (by omega) (by omega) sl3).mpr ⟨own_natinj (by omega) (by omega) hc253, Or.inl ((own_nl (a := slN) (b := 1) (by omega) (by decide)).mp hc259), Or.inr (own_if1 hc293), Or.inl ((own_nl (a := slN) (b := 3) (by omega) (by decide)).mp hc299)⟩)])
                      · refine own_aload A162 hx (pc' := 304) (hb hby at_302) rfl rfl rfl ?_
                        refine own_iconst A162 hx (pc' := 305) (hb hby at_304) (z := (2 : Int32)) (by decide) rfl ?_
                        refine own_ldC K162 hx AH (own_natlt (i := 2) (by omega) (by omega)) (by rw [show (2 : Int32).toNatClampNeg = 2 from rfl]; exact own_mapAt _ (by omega)) (hb hby at_305) (pc' := 306) rfl ?_
                        refine own_aload A162 hx (pc' := 308) (hb hby at_306) rfl rfl rfl ?_
                        refine own_iconst A162 hx (pc' := 309) (hb hby at_308) (z := (2 : Int32)) (by decide) rfl ?_
                        refine own_ldC K162 hx AD (own_natlt (i := 2) (by omega) (by omega)) (by rw [show (2 : Int32).toNatClampNeg = 2 from rfl]; exact own_mapAt _ (by omega)) (hb hby at_309) (pc' := 310) rfl ?_
                        refine own_callS K162 hx (by rw [hml]; rfl) (hw _ (List.mem_of_getElem? (i := 154) rfl)) (hw _ (List.mem_of_getElem? (i := 155) rfl)) (hw _ (List.mem_of_getElem? (i := 3) rfl)) (hw _ (List.mem_of_getElem? (i := 156) rfl)) (by decide) (rm_ci l Z a0 hw [] h162 (H.getD 2 0) (D.getD 2 0)) (fun _ q => nomatch q) (argsL := [(.int (H.getD 2 0)), (.int (D.getD 2 0))]) (rest := []) (lenOf pd_32 rfl) rfl 0 (Nat.le_of_eq rfl) (hb hby at_310) (pc' := 313) rfl (by decide) (by decide) (by decide) (by decide) ?_
                        intro v163 T163 h163 K163 Kp163 Q163
                        obtain rfl := Q163
                        have AH := AH.keep Kp163 nin0
                        have AD := AD.keep Kp163 nin0
                        have CR := CR.keep Kp163
                        have A163 := own_here K163
                        show own_Go p.tables e below _ T163 (mkF m 313 #[.val (.long i0), .second, .val (.int i1), .val (.long i2), .second, .val (.int i3), .val (.ref b116), .val (.int (Int32.ofNat hlN)), .val (.ref b127), .val (.int (Int32.ofNat slN)), .val (.ref a134), .val (.ref a135), .val rv, .val (.int (Int32.ofNat (own_spN (H.take hlN)))), .val (.int (Int32.ofNat (own_spN (H.take hlN)))), .unset, .unset, .unset] [(.int (if own_ci (H.getD 2 0) (D.getD 2 0) then (1 : Int32) else 0))])
                        refine own_if_eq A163 hx 320 316 (hb hby at_313) (by decide) (by decide) rfl (fun hc313 => ?_) (fun hc313 => ?_)
                        · refine own_iconst A163 hx (pc' := 321) (hb hby at_320) (z := (0 : Int32)) (by decide) rfl ?_
                          exact J321_142 T163 h163 (0 : Int32) (own_more K163 (by decide) (by decide)) AH AD CR (by rw [if_neg (fun p => by have q := (own_mt (H := H) (n := hlN) (D := D) (s := (own_spN (H.take hlN))) (k := slN) (by omega) (by omega) (by omega) sl3).mp p; exact q.2.2.2.elim (fun z => hc299 ((own_nl (a := slN) (b := 3) (by omega) (by decide)).mpr z)) (own_if0 hc313))])
                        · refine own_iconst A163 hx (pc' := 317) (hb hby at_316) (z := (1 : Int32)) (by decide) rfl ?_
                          refine own_goto A163 hx 321 (hb hby at_317) (by decide) (by decide) ?_
                          exact J321_142 T163 h163 (1 : Int32) (own_more K163 (by decide) (by decide)) AH AD CR (by rw [if_pos ((own_mt (H := H) (n := hlN) (D := D) (s := (own_spN (H.take hlN))) (k := slN) (by omega) (by omega) (by omega) sl3).mpr ⟨own_natinj (by omega) (by omega) hc253, Or.inl ((own_nl (a := slN) (b := 1) (by omega) (by decide)).mp hc259), Or.inr (own_if1 hc293), Or.inr (own_if1 hc313)⟩)])
                · refine own_aload A141 hx (pc' := 264) (hb hby at_262) rfl rfl rfl ?_
                  refine own_iconst A141 hx (pc' := 265) (hb hby at_264) (z := (0 : Int32)) (by decide) rfl ?_
                  refine own_ldC K141 hx AH (own_natlt (i := 0) (by omega) (by omega)) (by rw [show (0 : Int32).toNatClampNeg = 0 from rfl]; exact own_mapAt _ (by omega)) (hb hby at_265) (pc' := 266) rfl ?_
                  refine own_aload A141 hx (pc' := 268) (hb hby at_266) rfl rfl rfl ?_
                  refine own_iconst A141 hx (pc' := 269) (hb hby at_268) (z := (0 : Int32)) (by decide) rfl ?_
                  refine own_ldC K141 hx AD (own_natlt (i := 0) (by omega) (by omega)) (by rw [show (0 : Int32).toNatClampNeg = 0 from rfl]; exact own_mapAt _ (by omega)) (hb hby at_269) (pc' := 270) rfl ?_
                  refine own_callS K141 hx (by rw [hml]; rfl) (hw _ (List.mem_of_getElem? (i := 154) rfl)) (hw _ (List.mem_of_getElem? (i := 155) rfl)) (hw _ (List.mem_of_getElem? (i := 3) rfl)) (hw _ (List.mem_of_getElem? (i := 156) rfl)) (by decide) (rm_ci l Z a0 hw [] h141 (H.getD 0 0) (D.getD 0 0)) (fun _ q => nomatch q) (argsL := [(.int (H.getD 0 0)), (.int (D.getD 0 0))]) (rest := []) (lenOf pd_32 rfl) rfl 0 (Nat.le_of_eq rfl) (hb hby at_270) (pc' := 273) rfl (by decide) (by decide) (by decide) (by decide) ?_
                  intro v164 T164 h164 K164 Kp164 Q164
                  obtain rfl := Q164
                  have AH := AH.keep Kp164 nin0
                  have AD := AD.keep Kp164 nin0
                  have CR := CR.keep Kp164
                  have A164 := own_here K164
                  show own_Go p.tables e below _ T164 (mkF m 273 #[.val (.long i0), .second, .val (.int i1), .val (.long i2), .second, .val (.int i3), .val (.ref b116), .val (.int (Int32.ofNat hlN)), .val (.ref b127), .val (.int (Int32.ofNat slN)), .val (.ref a134), .val (.ref a135), .val rv, .val (.int (Int32.ofNat (own_spN (H.take hlN)))), .val (.int (Int32.ofNat (own_spN (H.take hlN)))), .unset, .unset, .unset] [(.int (if own_ci (H.getD 0 0) (D.getD 0 0) then (1 : Int32) else 0))])
                  refine own_if_eq A164 hx 320 276 (hb hby at_273) (by decide) (by decide) rfl (fun hc273 => ?_) (fun hc273 => ?_)
                  · refine own_iconst A164 hx (pc' := 321) (hb hby at_320) (z := (0 : Int32)) (by decide) rfl ?_
                    exact J321_142 T164 h164 (0 : Int32) (own_more K164 (by decide) (by decide)) AH AD CR (by rw [if_neg (fun p => by have q := (own_mt (H := H) (n := hlN) (D := D) (s := (own_spN (H.take hlN))) (k := slN) (by omega) (by omega) (by omega) sl3).mp p; exact q.2.1.elim (fun z => hc259 ((own_nl (a := slN) (b := 1) (by omega) (by decide)).mpr z)) (own_if0 hc273))])
                  · refine own_iload A164 hx (pc' := 278) (hb hby at_276) rfl rfl ?_
                    refine own_iconst A164 hx (pc' := 279) (hb hby at_278) (z := (2 : Int32)) (by decide) rfl ?_
                    refine own_icmp_lt A164 hx 296 282 (hb hby at_279) (by decide) (by decide) rfl (fun hc279 => ?_) (fun hc279 => ?_)
                    · refine own_iload A164 hx (pc' := 298) (hb hby at_296) rfl rfl ?_
                      refine own_iconst A164 hx (pc' := 299) (hb hby at_298) (z := (3 : Int32)) (by decide) rfl ?_
                      refine own_icmp_lt A164 hx 316 302 (hb hby at_299) (by decide) (by decide) rfl (fun hc299 => ?_) (fun hc299 => ?_)
                      · refine own_iconst A164 hx (pc' := 317) (hb hby at_316) (z := (1 : Int32)) (by decide) rfl ?_
                        refine own_goto A164 hx 321 (hb hby at_317) (by decide) (by decide) ?_
                        exact J321_142 T164 h164 (1 : Int32) (own_more K164 (by decide) (by decide)) AH AD CR (by rw [if_pos ((own_mt (H := H) (n := hlN) (D := D) (s := (own_spN (H.take hlN))) (k := slN) (by omega) (by omega) (by omega) sl3).mpr ⟨own_natinj (by omega) (by omega) hc253, Or.inr (own_if1 hc273), Or.inl ((own_nl (a := slN) (b := 2) (by omega) (by decide)).mp hc279), Or.inl ((own_nl (a := slN) (b := 3) (by omega) (by decide)).mp hc299)⟩)])
                      · refine own_aload A164 hx (pc' := 304) (hb hby at_302) rfl rfl rfl ?_
                        refine own_iconst A164 hx (pc' := 305) (hb hby at_304) (z := (2 : Int32)) (by decide) rfl ?_
                        refine own_ldC K164 hx AH (own_natlt (i := 2) (by omega) (by omega)) (by rw [show (2 : Int32).toNatClampNeg = 2 from rfl]; exact own_mapAt _ (by omega)) (hb hby at_305) (pc' := 306) rfl ?_
                        refine own_aload A164 hx (pc' := 308) (hb hby at_306) rfl rfl rfl ?_
                        refine own_iconst A164 hx (pc' := 309) (hb hby at_308) (z := (2 : Int32)) (by decide) rfl ?_
                        refine own_ldC K164 hx AD (own_natlt (i := 2) (by omega) (by omega)) (by rw [show (2 : Int32).toNatClampNeg = 2 from rfl]; exact own_mapAt _ (by omega)) (hb hby at_309) (pc' := 310) rfl ?_
                        refine own_callS K164 hx (by rw [hml]; rfl) (hw _ (List.mem_of_getElem? (i := 154) rfl)) (hw _ (List.mem_of_getElem? (i := 155) rfl)) (hw _ (List.mem_of_getElem? (i := 3) rfl)) (hw _ (List.mem_of_getElem? (i := 156) rfl)) (by decide) (rm_ci l Z a0 hw [] h164 (H.getD 2 0) (D.getD 2 0)) (fun _ q => nomatch q) (argsL := [(.int (H.getD 2 0)), (.int (D.getD 2 0))]) (rest := []) (lenOf pd_32 rfl) rfl 0 (Nat.le_of_eq rfl) (hb hby at_310) (pc' := 313) rfl (by decide) (by decide) (by decide) (by decide) ?_
                        intro v165 T165 h165 K165 Kp165 Q165
                        obtain rfl := Q165
                        have AH := AH.keep Kp165 nin0
                        have AD := AD.keep Kp165 nin0
                        have CR := CR.keep Kp165
                        have A165 := own_here K165
                        show own_Go p.tables e below _ T165 (mkF m 313 #[.val (.long i0), .second, .val (.int i1), .val (.long i2), .second, .val (.int i3), .val (.ref b116), .val (.int (Int32.ofNat hlN)), .val (.ref b127), .val (.int (Int32.ofNat slN)), .val (.ref a134), .val (.ref a135), .val rv, .val (.int (Int32.ofNat (own_spN (H.take hlN)))), .val (.int (Int32.ofNat (own_spN (H.take hlN)))), .unset, .unset, .unset] [(.int (if own_ci (H.getD 2 0) (D.getD 2 0) then (1 : Int32) else 0))])
                        refine own_if_eq A165 hx 320 316 (hb hby at_313) (by decide) (by decide) rfl (fun hc313 => ?_) (fun hc313 => ?_)
                        · refine own_iconst A165 hx (pc' := 321) (hb hby at_320) (z := (0 : Int32)) (by decide) rfl ?_
                          exact J321_142 T165 h165 (0 : Int32) (own_more K165 (by decide) (by decide)) AH AD CR (by rw [if_neg (fun p => by have q := (own_mt (H := H) (n := hlN) (D := D) (s := (own_spN (H.take hlN))) (k := slN) (by omega) (by omega) (by omega) sl3).mp p; exact q.2.2.2.elim (fun z => hc299 ((own_nl (a := slN) (b := 3) (by omega) (by decide)).mpr z)) (own_if0 hc313))])
                        · refine own_iconst A165 hx (pc' := 317) (hb hby at_316) (z := (1 : Int32)) (by decide) rfl ?_
                          refine own_goto A165 hx 321 (hb hby at_317) (by decide) (by decide) ?_
                          exact J321_142 T165 h165 (1 : Int32) (own_more K165 (by decide) (by decide)) AH AD CR (by rw [if_pos ((own_mt (H := H) (n := hlN) (D := D) (s := (own_spN (H.take hlN))) (k := slN) (by omega) (by omega) (by omega) sl3).mpr ⟨own_natinj (by omega) (by omega) hc253, Or.inr (own_if1 hc273), Or.inl ((own_nl (a := slN) (b := 2) (by omega) (by decide)).mp hc279), Or.inr (own_if1 hc313)⟩)])
                    · refine own_aload A164 hx (pc' := 284) (hb hby at_282) rfl rfl rfl ?_
                      refine own_iconst A164 hx (pc' := 285) (hb hby at_284) (z := (1 : Int32)) (by decide) rfl ?_
                      refine own_ldC K164 hx AH (own_natlt (i := 1) (by omega) (by omega)) (by rw [show (1 : Int32).toNatClampNeg = 1 from rfl]; exact own_mapAt _ (by omega)) (hb hby at_285) (pc' := 286) rfl ?_
                      refine own_aload A164 hx (pc' := 288) (hb hby at_286) rfl rfl rfl ?_
                      refine own_iconst A164 hx (pc' := 289) (hb hby at_288) (z := (1 : Int32)) (by decide) rfl ?_
                      refine own_ldC K164 hx AD (own_natlt (i := 1) (by omega) (by omega)) (by rw [show (1 : Int32).toNatClampNeg = 1 from rfl]; exact own_mapAt _ (by omega)) (hb hby at_289) (pc' := 290) rfl ?_
                      refine own_callS K164 hx (by rw [hml]; rfl) (hw _ (List.mem_of_getElem? (i := 154) rfl)) (hw _ (List.mem_of_getElem? (i := 155) rfl)) (hw _ (List.mem_of_getElem? (i := 3) rfl)) (hw _ (List.mem_of_getElem? (i := 156) rfl)) (by decide) (rm_ci l Z a0 hw [] h164 (H.getD 1 0) (D.getD 1 0)) (fun _ q => nomatch q) (argsL := [(.int (H.getD 1 0)), (.int (D.getD 1 0))]) (rest := []) (lenOf pd_32 rfl) rfl 0 (Nat.le_of_eq rfl) (hb hby at_290) (pc' := 293) rfl (by decide) (by decide) (by decide) (by decide) ?_
                      intro v166 T166 h166 K166 Kp166 Q166
                      obtain rfl := Q166
                      have AH := AH.keep Kp166 nin0
                      have AD := AD.keep Kp166 nin0
                      have CR := CR.keep Kp166
                      have A166 := own_here K166
                      show own_Go p.tables e below _ T166 (mkF m 293 #[.val (.long i0), .second, .val (.int i1), .val (.long i2), .second, .val (.int i3), .val (.ref b116), .val (.int (Int32.ofNat hlN)), .val (.ref b127), .val (.int (Int32.ofNat slN)), .val (.ref a134), .val (.ref a135), .val rv, .val (.int (Int32.ofNat (own_spN (H.take hlN)))), .val (.int (Int32.ofNat (own_spN (H.take hlN)))), .unset, .unset, .unset] [(.int (if own_ci (H.getD 1 0) (D.getD 1 0) then (1 : Int32) else 0))])
                      refine own_if_eq A166 hx 320 296 (hb hby at_293) (by decide) (by decide) rfl (fun hc293 => ?_) (fun hc293 => ?_)
                      · refine own_iconst A166 hx (pc' := 321) (hb hby at_320) (z := (0 : Int32)) (by decide) rfl ?_
                        exact J321_142 T166 h166 (0 : Int32) (own_more K166 (by decide) (by decide)) AH AD CR (by rw [if_neg (fun p => by have q := (own_mt (H := H) (n := hlN) (D := D) (s := (own_spN (H.take hlN))) (k := slN) (by omega) (by omega) (by omega) sl3).mp p; exact q.2.2.1.elim (fun z => hc279 ((own_nl (a := slN) (b := 2) (by omega) (by decide)).mpr z)) (own_if0 hc293))])
                      · refine own_iload A166 hx (pc' := 298) (hb hby at_296) rfl rfl ?_
                        refine own_iconst A166 hx (pc' := 299) (hb hby at_298) (z := (3 : Int32)) (by decide) rfl ?_
                        refine own_icmp_lt A166 hx 316 302 (hb hby at_299) (by decide) (by decide) rfl (fun hc299 => ?_) (fun hc299 => ?_)
                        · refine own_iconst A166 hx (pc' := 317) (hb hby at_316) (z := (1 : Int32)) (by decide) rfl ?_
                          refine own_goto A166 hx 321 (hb hby at_317) (by decide) (by decide) ?_
                          exact J321_142 T166 h166 (1 : Int32) (own_more K166 (by decide) (by decide)) AH AD CR (by rw [if_pos ((own_mt (H := H) (n := hlN) (D := D) (s := (own_spN (H.take hlN))) (k := slN) (by omega) (by omega) (by omega) sl3).mpr ⟨own_natinj (by omega) (by omega) hc253, Or.inr (own_if1 hc273), Or.inr (own_if1 hc293), Or.inl ((own_nl (a := slN) (b := 3) (by omega) (by decide)).mp hc299)⟩)])
                        · refine own_aload A166 hx (pc' := 304) (hb hby at_302) rfl rfl rfl ?_
                          refine own_iconst A166 hx (pc' := 305) (hb hby at_304) (z := (2 : Int32)) (by decide) rfl ?_
                          refine own_ldC K166 hx AH (own_natlt (i := 2) (by omega) (by omega)) (by rw [show (2 : Int32).toNatClampNeg = 2 from rfl]; exact own_mapAt _ (by omega)) (hb hby at_305) (pc' := 306) rfl ?_
                          refine own_aload A166 hx (pc' := 308) (hb hby at_306) rfl rfl rfl ?_
                          refine own_iconst A166 hx (pc' := 309) (hb hby at_308) (z := (2 : Int32)) (by decide) rfl ?_
                          refine own_ldC K166 hx AD (own_natlt (i := 2) (by omega) (by omega)) (by rw [show (2 : Int32).toNatClampNeg = 2 from rfl]; exact own_mapAt _ (by omega)) (hb hby at_309) (pc' := 310) rfl ?_
                          refine own_callS K166 hx (by rw [hml]; rfl) (hw _ (List.mem_of_getElem? (i := 154) rfl)) (hw _ (List.mem_of_getElem? (i := 155) rfl)) (hw _ (List.mem_of_getElem? (i := 3) rfl)) (hw _ (List.mem_of_getElem? (i := 156) rfl)) (by decide) (rm_ci l Z a0 hw [] h166 (H.getD 2 0) (D.getD 2 0)) (fun _ q => nomatch q) (argsL := [(.int (H.getD 2 0)), (.int (D.getD 2 0))]) (rest := []) (lenOf pd_32 rfl) rfl 0 (Nat.le_of_eq rfl) (hb hby at_310) (pc' := 313) rfl (by decide) (by decide) (by decide) (by decide) ?_
                          intro v167 T167 h167 K167 Kp167 Q167
                          obtain rfl := Q167
                          have AH := AH.keep Kp167 nin0
                          have AD := AD.keep Kp167 nin0
                          have CR := CR.keep Kp167
                          have A167 := own_here K167
                          show own_Go p.tables e below _ T167 (mkF m 313 #[.val (.long i0), .second, .val (.int i1), .val (.long i2), .second, .val (.int i3), .val (.ref b116), .val (.int (Int32.ofNat hlN)), .val (.ref b127), .val (.int (Int32.ofNat slN)), .val (.ref a134), .val (.ref a135), .val rv, .val (.int (Int32.ofNat (own_spN (H.take hlN)))), .val (.int (Int32.ofNat (own_spN (H.take hlN)))), .unset, .unset, .unset] [(.int (if own_ci (H.getD 2 0) (D.getD 2 0) then (1 : Int32) else 0))])
                          refine own_if_eq A167 hx 320 316 (hb hby at_313) (by decide) (by decide) rfl (fun hc313 => ?_) (fun hc313 => ?_)
                          · refine own_iconst A167 hx (pc' := 321) (hb hby at_320) (z := (0 : Int32)) (by decide) rfl ?_
                            exact J321_142 T167 h167 (0 : Int32) (own_more K167 (by decide) (by decide)) AH AD CR (by rw [if_neg (fun p => by have q := (own_mt (H := H) (n := hlN) (D := D) (s := (own_spN (H.take hlN))) (k := slN) (by omega) (by omega) (by omega) sl3).mp p; exact q.2.2.2.elim (fun z => hc299 ((own_nl (a := slN) (b := 3) (by omega) (by decide)).mpr z)) (own_if0 hc313))])
                          · refine own_iconst A167 hx (pc' := 317) (hb hby at_316) (z := (1 : Int32)) (by decide) rfl ?_
                            refine own_goto A167 hx 321 (hb hby at_317) (by decide) (by decide) ?_
                            exact J321_142 T167 h167 (1 : Int32) (own_more K167 (by decide) (by decide)) AH AD CR (by rw [if_pos ((own_mt (H := H) (n := hlN) (D := D) (s := (own_spN (H.take hlN))) (k := slN) (by omega) (by omega) (by omega) sl3).mpr ⟨own_natinj (by omega) (by omega) hc253, Or.inr (own_if1 hc273), Or.inr (own_if1 hc293), Or.inr (own_if1 hc313)⟩)])
            · rw [own_spI, if_neg hsp]
              have hnl : own_spN (H.take hlN) = hlN := by omega
              refine own_iload A141 hx (pc' := 237) (hb hby at_235) rfl rfl ?_
              refine own_if_ge A141 hx 245 240 (hb hby at_237) (by decide) (by decide) rfl (fun hc237 => ?_) (fun hc237 => ?_)
              · exact absurd hc237 (by decide)
              refine own_iload A141 hx (pc' := 242) (hb hby at_240) rfl rfl ?_
              refine own_goto A141 hx 247 (hb hby at_242) (by decide) (by decide) ?_
              refine own_istore A141 hx (pc' := 249) #[.val (.long i0), .second, .val (.int i1), .val (.long i2), .second, .val (.int i3), .val (.ref b116), .val (.int (Int32.ofNat hlN)), .val (.ref b127), .val (.int (Int32.ofNat slN)), .val (.ref a134), .val (.ref a135), .val rv, .val (.int (-1 : Int32)), .val (.int (Int32.ofNat hlN)), .unset, .unset, .unset] (hb hby at_247) rfl rfl ?_
              have J321_168 : ∀ (T168 : State) (h168 : Heap) (mt : Int32), own_S true false consts_1 p l e room_1 s m #[(.long i0), (.int i1), (.long i2), (.int i3)] below meth c Z a0 "com/example/portcullis/portcullis/service/AuthorizationHeaderCredentialsPinLaw" h0 [] T168 h168 [b127, b116] 14 63 → Arv Z h168 b116 k116 .char (Int32.ofNat H.length) (H.map Value.int) (.int (0 : Int32)) → Arv Z h168 b127 k127 .char (Int32.ofNat D.length) (D.map Value.int) (.int (0 : Int32)) → own_Cred Z h168 rv (H.take hlN) (D.take slN) → (mt = if own_eqi ((H.take hlN).take (own_spN (H.take hlN))) (D.take slN) then (1 : Int32) else 0) → own_Go p.tables e below (own_Post true consts_1 Z room_1 h0 [] (fun v h => v = some (.int 1)) s) T168 (mkF m 321 #[.val (.long i0), .second, .val (.int i1), .val (.long i2), .second, .val (.int i3), .val (.ref b116), .val (.int (Int32.ofNat hlN)), .val (.ref b127), .val (.int (Int32.ofNat slN)), .val (.ref a134), .val (.ref a135), .val rv, .val (.int (-1 : Int32)), .val (.int (Int32.ofNat hlN)), .unset, .unset, .unset] [(.int mt)]) := by
                intro T168 h168 mt K168 AH AD CR hmt
                have A168 := own_here K168
                refine own_istore A168 hx (pc' := 323) #[.val (.long i0), .second, .val (.int i1), .val (.long i2), .second, .val (.int i3), .val (.ref b116), .val (.int (Int32.ofNat hlN)), .val (.ref b127), .val (.int (Int32.ofNat slN)), .val (.ref a134), .val (.ref a135), .val rv, .val (.int (-1 : Int32)), .val (.int (Int32.ofNat hlN)), .val (.int mt), .unset, .unset] (hb hby at_321) rfl rfl ?_
                rcases CR with ⟨c1, rfl⟩ | ⟨c1, c2, ra, rfl, Sr⟩ | ⟨c1, c2, ra, us, rfl, Sr, htr⟩
                · obtain rfl : mt = 0 := hmt.trans (if_neg c1)
                  show own_Go p.tables e below _ T168 (mkF m 323 #[.val (.long i0), .second, .val (.int i1), .val (.long i2), .second, .val (.int i3), .val (.ref b116), .val (.int (Int32.ofNat hlN)), .val (.ref b127), .val (.int (Int32.ofNat slN)), .val (.ref a134), .val (.ref a135), .val .null, .val (.int (-1 : Int32)), .val (.int (Int32.ofNat hlN)), .val (.int (0 : Int32)), .unset, .unset] [])
                  refine own_iload A168 hx (pc' := 325) (hb hby at_323) rfl rfl ?_
                  refine own_if_ne A168 hx 339 328 (hb hby at_325) (by decide) (by decide) rfl (fun hc325 => ?_) (fun hc325 => ?_)
                  · exact absurd hc325 (by decide)
                  refine own_aload A168 hx (pc' := 330) (hb hby at_328) rfl rfl rfl ?_
                  refine own_ifnonnull_f A168 hx 333 (hb hby at_330) rfl ?_
                  refine own_iconst A168 hx (pc' := 334) (hb hby at_333) (z := (1 : Int32)) (by decide) rfl ?_
                  refine own_goto A168 hx 338 (hb hby at_334) (by decide) (by decide) ?_
                  exact own_retN K168 hx hlk hret (by simp) (hb hby at_338) (by decide) (by decide) rfl
                · obtain rfl : mt = 1 := hmt.trans (if_pos c1)
                  show own_Go p.tables e below _ T168 (mkF m 323 #[.val (.long i0), .second, .val (.int i1), .val (.long i2), .second, .val (.int i3), .val (.ref b116), .val (.int (Int32.ofNat hlN)), .val (.ref b127), .val (.int (Int32.ofNat slN)), .val (.ref a134), .val (.ref a135), .val (.ref ra), .val (.int (-1 : Int32)), .val (.int (Int32.ofNat hlN)), .val (.int (1 : Int32)), .unset, .unset] [])
                  refine own_iload A168 hx (pc' := 325) (hb hby at_323) rfl rfl ?_
                  refine own_if_ne A168 hx 339 328 (hb hby at_325) (by decide) (by decide) rfl (fun hc325 => ?_) (fun hc325 => ?_)
                  rotate_left
                  · exact absurd hc325 (by decide)
                  refine own_iload A168 hx (pc' := 341) (hb hby at_339) rfl rfl ?_
                  refine own_if_ge A168 hx 352 344 (hb hby at_341) (by decide) (by decide) rfl (fun hc341 => ?_) (fun hc341 => ?_)
                  · exact absurd hc341 (by decide)
                  refine own_ldcR (n := 0) (zn := (0 : Int32)) (vs := []) K168 hx (hw _ (List.mem_of_getElem? (i := 41) rfl)) (own_sa hw) (by decide +kernel) ⟨by decide +kernel, by decide +kernel⟩ (by decide) (by decide) (hb hby at_344) (pc' := 346) rfl (by decide +kernel) (by decide) (by decide) (by decide) ?_
                  intro b169 T169 h169 t169 kt169 K169 E169 X169 C169 V169 Y169 N169
                  have AH := AH.ext E169
                  have AD := AD.ext E169
                  have Sr := Sr.ext E169
                  have A169 := own_here K169
                  have S169 := own_Str.of0 (cs := []) X169 V169 C169 Y169 rfl (by decide +kernel) (by decide +kernel) (by decide)
                  refine own_aload A169 hx (pc' := 348) (hb hby at_346) rfl rfl rfl ?_
                  refine own_strEq K169 hx (by rw [hml]; rfl) (hw _ (List.mem_of_getElem? (i := 161) rfl)) (hw _ (List.mem_of_getElem? (i := 162) rfl)) (hw _ (List.mem_of_getElem? (i := 164) rfl)) (hw _ (List.mem_of_getElem? (i := 163) rfl)) (own_we hw) (hw _ (List.mem_of_getElem? (i := 13) rfl)) S169 Sr O2 P5 (lenOf pd_31 rfl) 0 (Nat.le_of_eq rfl) (hb hby at_348) (pc' := 351) rfl (by decide) (by decide) (by decide) (by decide) ?_
                  intro T170 K170
                  have A170 := own_here K170
                  exact own_retN K170 hx hlk hret (by simp) (hb hby at_351) (by decide) (by decide) (by show some (Value.int (nar .boolean _)) = _; rw [if_pos rfl]; rfl)
                · exact absurd c2 hsp
              refine own_iload A141 hx (pc' := 251) (hb hby at_249) rfl rfl ?_
              refine own_iload A141 hx (pc' := 253) (hb hby at_251) rfl rfl ?_
              refine own_icmp_ne A141 hx 320 256 (hb hby at_253) (by decide) (by decide) rfl (fun hc253 => ?_) (fun hc253 => ?_)
              · refine own_iconst A141 hx (pc' := 321) (hb hby at_320) (z := (0 : Int32)) (by decide) rfl ?_
                exact J321_168 T141 h141 (0 : Int32) (own_more K141 (by decide) (by decide)) AH AD CR (by rw [if_neg (fun p => by have q := (own_mt (H := H) (n := hlN) (D := D) (s := (own_spN (H.take hlN))) (k := slN) (by omega) (by omega) (by omega) sl3).mp p; exact hc253 (congrArg Int32.ofNat (hnl.symm.trans q.1)))])
              · refine own_iload A141 hx (pc' := 258) (hb hby at_256) rfl rfl ?_
                refine own_iconst A141 hx (pc' := 259) (hb hby at_258) (z := (1 : Int32)) (by decide) rfl ?_
                refine own_icmp_lt A141 hx 276 262 (hb hby at_259) (by decide) (by decide) rfl (fun hc259 => ?_) (fun hc259 => ?_)
                · refine own_iload A141 hx (pc' := 278) (hb hby at_276) rfl rfl ?_
                  refine own_iconst A141 hx (pc' := 279) (hb hby at_278) (z := (2 : Int32)) (by decide) rfl ?_
                  refine own_icmp_lt A141 hx 296 282 (hb hby at_279) (by decide) (by decide) rfl (fun hc279 => ?_) (fun hc279 => ?_)
                  · refine own_iload A141 hx (pc' := 298) (hb hby at_296) rfl rfl ?_
                    refine own_iconst A141 hx (pc' := 299) (hb hby at_298) (z := (3 : Int32)) (by decide) rfl ?_
                    refine own_icmp_lt A141 hx 316 302 (hb hby at_299) (by decide) (by decide) rfl (fun hc299 => ?_) (fun hc299 => ?_)
                    · refine own_iconst A141 hx (pc' := 317) (hb hby at_316) (z := (1 : Int32)) (by decide) rfl ?_
                      refine own_goto A141 hx 321 (hb hby at_317) (by decide) (by decide) ?_
                      exact J321_168 T141 h141 (1 : Int32) (own_more K141 (by decide) (by decide)) AH AD CR (by rw [if_pos ((own_mt (H := H) (n := hlN) (D := D) (s := (own_spN (H.take hlN))) (k := slN) (by omega) (by omega) (by omega) sl3).mpr ⟨hnl.trans (own_natinj (by omega) (by omega) hc253), Or.inl ((own_nl (a := slN) (b := 1) (by omega) (by decide)).mp hc259), Or.inl ((own_nl (a := slN) (b := 2) (by omega) (by decide)).mp hc279), Or.inl ((own_nl (a := slN) (b := 3) (by omega) (by decide)).mp hc299)⟩)])
                    · refine own_aload A141 hx (pc' := 304) (hb hby at_302) rfl rfl rfl ?_
                      refine own_iconst A141 hx (pc' := 305) (hb hby at_304) (z := (2 : Int32)) (by decide) rfl ?_
                      refine own_ldC K141 hx AH (own_natlt (i := 2) (by omega) (by omega)) (by rw [show (2 : Int32).toNatClampNeg = 2 from rfl]; exact own_mapAt _ (by omega)) (hb hby at_305) (pc' := 306) rfl ?_
                      refine own_aload A141 hx (pc' := 308) (hb hby at_306) rfl rfl rfl ?_
                      refine own_iconst A141 hx (pc' := 309) (hb hby at_308) (z := (2 : Int32)) (by decide) rfl ?_
                      refine own_ldC K141 hx AD (own_natlt (i := 2) (by omega) (by omega)) (by rw [show (2 : Int32).toNatClampNeg = 2 from rfl]; exact own_mapAt _ (by omega)) (hb hby at_309) (pc' := 310) rfl ?_
                      refine own_callS K141 hx (by rw [hml]; rfl) (hw _ (List.mem_of_getElem? (i := 154) rfl)) (hw _ (List.mem_of_getElem? (i := 155) rfl)) (hw _ (List.mem_of_getElem? (i := 3) rfl)) (hw _ (List.mem_of_getElem? (i := 156) rfl)) (by decide) (rm_ci l Z a0 hw [] h141 (H.getD 2 0) (D.getD 2 0)) (fun _ q => nomatch q) (argsL := [(.int (H.getD 2 0)), (.int (D.getD 2 0))]) (rest := []) (lenOf pd_32 rfl) rfl 0 (Nat.le_of_eq rfl) (hb hby at_310) (pc' := 313) rfl (by decide) (by decide) (by decide) (by decide) ?_
                      intro v171 T171 h171 K171 Kp171 Q171
                      obtain rfl := Q171
                      have AH := AH.keep Kp171 nin0
                      have AD := AD.keep Kp171 nin0
                      have CR := CR.keep Kp171
                      have A171 := own_here K171
                      show own_Go p.tables e below _ T171 (mkF m 313 #[.val (.long i0), .second, .val (.int i1), .val (.long i2), .second, .val (.int i3), .val (.ref b116), .val (.int (Int32.ofNat hlN)), .val (.ref b127), .val (.int (Int32.ofNat slN)), .val (.ref a134), .val (.ref a135), .val rv, .val (.int (-1 : Int32)), .val (.int (Int32.ofNat hlN)), .unset, .unset, .unset] [(.int (if own_ci (H.getD 2 0) (D.getD 2 0) then (1 : Int32) else 0))])
                      refine own_if_eq A171 hx 320 316 (hb hby at_313) (by decide) (by decide) rfl (fun hc313 => ?_) (fun hc313 => ?_)
                      · refine own_iconst A171 hx (pc' := 321) (hb hby at_320) (z := (0 : Int32)) (by decide) rfl ?_
                        exact J321_168 T171 h171 (0 : Int32) (own_more K171 (by decide) (by decide)) AH AD CR (by rw [if_neg (fun p => by have q := (own_mt (H := H) (n := hlN) (D := D) (s := (own_spN (H.take hlN))) (k := slN) (by omega) (by omega) (by omega) sl3).mp p; exact q.2.2.2.elim (fun z => hc299 ((own_nl (a := slN) (b := 3) (by omega) (by decide)).mpr z)) (own_if0 hc313))])
                      · refine own_iconst A171 hx (pc' := 317) (hb hby at_316) (z := (1 : Int32)) (by decide) rfl ?_
                        refine own_goto A171 hx 321 (hb hby at_317) (by decide) (by decide) ?_
                        exact J321_168 T171 h171 (1 : Int32) (own_more K171 (by decide) (by decide)) AH AD CR (by rw [if_pos ((own_mt (H := H) (n := hlN) (D := D) (s := (own_spN (H.take hlN))) (k := slN) (by omega) (by omega) (by omega) sl3).mpr ⟨hnl.trans (own_natinj (by omega) (by omega) hc253), Or.inl ((own_nl (a := slN) (b := 1) (by omega) (by decide)).mp hc259), Or.inl ((own_nl (a := slN) (b := 2) (by omega) (by decide)).mp hc279), Or.inr (own_if1 hc313)⟩)])
                  · refine own_aload A141 hx (pc' := 284) (hb hby at_282) rfl rfl rfl ?_
                    refine own_iconst A141 hx (pc' := 285) (hb hby at_284) (z := (1 : Int32)) (by decide) rfl ?_
                    refine own_ldC K141 hx AH (own_natlt (i := 1) (by omega) (by omega)) (by rw [show (1 : Int32).toNatClampNeg = 1 from rfl]; exact own_mapAt _ (by omega)) (hb hby at_285) (pc' := 286) rfl ?_
                    refine own_aload A141 hx (pc' := 288) (hb hby at_286) rfl rfl rfl ?_
                    refine own_iconst A141 hx (pc' := 289) (hb hby at_288) (z := (1 : Int32)) (by decide) rfl ?_
                    refine own_ldC K141 hx AD (own_natlt (i := 1) (by omega) (by omega)) (by rw [show (1 : Int32).toNatClampNeg = 1 from rfl]; exact own_mapAt _ (by omega)) (hb hby at_289) (pc' := 290) rfl ?_
                    refine own_callS K141 hx (by rw [hml]; rfl) (hw _ (List.mem_of_getElem? (i := 154) rfl)) (hw _ (List.mem_of_getElem? (i := 155) rfl)) (hw _ (List.mem_of_getElem? (i := 3) rfl)) (hw _ (List.mem_of_getElem? (i := 156) rfl)) (by decide) (rm_ci l Z a0 hw [] h141 (H.getD 1 0) (D.getD 1 0)) (fun _ q => nomatch q) (argsL := [(.int (H.getD 1 0)), (.int (D.getD 1 0))]) (rest := []) (lenOf pd_32 rfl) rfl 0 (Nat.le_of_eq rfl) (hb hby at_290) (pc' := 293) rfl (by decide) (by decide) (by decide) (by decide) ?_
                    intro v172 T172 h172 K172 Kp172 Q172
                    obtain rfl := Q172
                    have AH := AH.keep Kp172 nin0
                    have AD := AD.keep Kp172 nin0
                    have CR := CR.keep Kp172
                    have A172 := own_here K172
                    show own_Go p.tables e below _ T172 (mkF m 293 #[.val (.long i0), .second, .val (.int i1), .val (.long i2), .second, .val (.int i3), .val (.ref b116), .val (.int (Int32.ofNat hlN)), .val (.ref b127), .val (.int (Int32.ofNat slN)), .val (.ref a134), .val (.ref a135), .val rv, .val (.int (-1 : Int32)), .val (.int (Int32.ofNat hlN)), .unset, .unset, .unset] [(.int (if own_ci (H.getD 1 0) (D.getD 1 0) then (1 : Int32) else 0))])
                    refine own_if_eq A172 hx 320 296 (hb hby at_293) (by decide) (by decide) rfl (fun hc293 => ?_) (fun hc293 => ?_)
                    · refine own_iconst A172 hx (pc' := 321) (hb hby at_320) (z := (0 : Int32)) (by decide) rfl ?_
                      exact J321_168 T172 h172 (0 : Int32) (own_more K172 (by decide) (by decide)) AH AD CR (by rw [if_neg (fun p => by have q := (own_mt (H := H) (n := hlN) (D := D) (s := (own_spN (H.take hlN))) (k := slN) (by omega) (by omega) (by omega) sl3).mp p; exact q.2.2.1.elim (fun z => hc279 ((own_nl (a := slN) (b := 2) (by omega) (by decide)).mpr z)) (own_if0 hc293))])
                    · refine own_iload A172 hx (pc' := 298) (hb hby at_296) rfl rfl ?_
                      refine own_iconst A172 hx (pc' := 299) (hb hby at_298) (z := (3 : Int32)) (by decide) rfl ?_
                      refine own_icmp_lt A172 hx 316 302 (hb hby at_299) (by decide) (by decide) rfl (fun hc299 => ?_) (fun hc299 => ?_)
                      · refine own_iconst A172 hx (pc' := 317) (hb hby at_316) (z := (1 : Int32)) (by decide) rfl ?_
                        refine own_goto A172 hx 321 (hb hby at_317) (by decide) (by decide) ?_
                        exact J321_168 T172 h172 (1 : Int32) (own_more K172 (by decide) (by decide)) AH AD CR (by rw [if_pos ((own_mt (H := H) (n := hlN) (D := D) (s := (own_spN (H.take hlN))) (k := slN) (by omega) (by omega) (by omega) sl3).mpr ⟨hnl.trans (own_natinj (by omega) (by omega) hc253), Or.inl ((own_nl (a := slN) (b := 1) (by omega) (by decide)).mp hc259), Or.inr (own_if1 hc293), Or.inl ((own_nl (a := slN) (b := 3) (by omega) (by decide)).mp hc299)⟩)])
                      · refine own_aload A172 hx (pc' := 304) (hb hby at_302) rfl rfl rfl ?_
                        refine own_iconst A172 hx (pc' := 305) (hb hby at_304) (z := (2 : Int32)) (by decide) rfl ?_
                        refine own_ldC K172 hx AH (own_natlt (i := 2) (by omega) (by omega)) (by rw [show (2 : Int32).toNatClampNeg = 2 from rfl]; exact own_mapAt _ (by omega)) (hb hby at_305) (pc' := 306) rfl ?_
                        refine own_aload A172 hx (pc' := 308) (hb hby at_306) rfl rfl rfl ?_
                        refine own_iconst A172 hx (pc' := 309) (hb hby at_308) (z := (2 : Int32)) (by decide) rfl ?_
                        refine own_ldC K172 hx AD (own_natlt (i := 2) (by omega) (by omega)) (by rw [show (2 : Int32).toNatClampNeg = 2 from rfl]; exact own_mapAt _ (by omega)) (hb hby at_309) (pc' := 310) rfl ?_
                        refine own_callS K172 hx (by rw [hml]; rfl) (hw _ (List.mem_of_getElem? (i := 154) rfl)) (hw _ (List.mem_of_getElem? (i := 155) rfl)) (hw _ (List.mem_of_getElem? (i := 3) rfl)) (hw _ (List.mem_of_getElem? (i := 156) rfl)) (by decide) (rm_ci l Z a0 hw [] h172 (H.getD 2 0) (D.getD 2 0)) (fun _ q => nomatch q) (argsL := [(.int (H.getD 2 0)), (.int (D.getD 2 0))]) (rest := []) (lenOf pd_32 rfl) rfl 0 (Nat.le_of_eq rfl) (hb hby at_310) (pc' := 313) rfl (by decide) (by decide) (by decide) (by decide) ?_
                        intro v173 T173 h173 K173 Kp173 Q173
                        obtain rfl := Q173
                        have AH := AH.keep Kp173 nin0
                        have AD := AD.keep Kp173 nin0
                        have CR := CR.keep Kp173
                        have A173 := own_here K173
                        show own_Go p.tables e below _ T173 (mkF m 313 #[.val (.long i0), .second, .val (.int i1), .val (.long i2), .second, .val (.int i3), .val (.ref b116), .val (.int (Int32.ofNat hlN)), .val (.ref b127), .val (.int (Int32.ofNat slN)), .val (.ref a134), .val (.ref a135), .val rv, .val (.int (-1 : Int32)), .val (.int (Int32.ofNat hlN)), .unset, .unset, .unset] [(.int (if own_ci (H.getD 2 0) (D.getD 2 0) then (1 : Int32) else 0))])
                        refine own_if_eq A173 hx 320 316 (hb hby at_313) (by decide) (by decide) rfl (fun hc313 => ?_) (fun hc313 => ?_)
                        · refine own_iconst A173 hx (pc' := 321) (hb hby at_320) (z := (0 : Int32)) (by decide) rfl ?_
                          exact J321_168 T173 h173 (0 : Int32) (own_more K173 (by decide) (by decide)) AH AD CR (by rw [if_neg (fun p => by have q := (own_mt (H := H) (n := hlN) (D := D) (s := (own_spN (H.take hlN))) (k := slN) (by omega) (by omega) (by omega) sl3).mp p; exact q.2.2.2.elim (fun z => hc299 ((own_nl (a := slN) (b := 3) (by omega) (by decide)).mpr z)) (own_if0 hc313))])
                        · refine own_iconst A173 hx (pc' := 317) (hb hby at_316) (z := (1 : Int32)) (by decide) rfl ?_
                          refine own_goto A173 hx 321 (hb hby at_317) (by decide) (by decide) ?_
                          exact J321_168 T173 h173 (1 : Int32) (own_more K173 (by decide) (by decide)) AH AD CR (by rw [if_pos ((own_mt (H := H) (n := hlN) (D := D) (s := (own_spN (H.take hlN))) (k := slN) (by omega) (by omega) (by omega) sl3).mpr ⟨hnl.trans (own_natinj (by omega) (by omega) hc253), Or.inl ((own_nl (a := slN) (b := 1) (by omega) (by decide)).mp hc259), Or.inr (own_if1 hc293), Or.inr (own_if1 hc313)⟩)])
                · refine own_aload A141 hx (pc' := 264) (hb hby at_262) rfl rfl rfl ?_
                  refine own_iconst A141 hx (pc' := 265) (hb hby at_264) (z := (0 : Int32)) (by decide) rfl ?_
                  refine own_ldC K141 hx AH (own_natlt (i := 0) (by omega) (by omega)) (by rw [show (0 : Int32).toNatClampNeg = 0 from rfl]; exact own_mapAt _ (by omega)) (hb hby at_265) (pc' := 266) rfl ?_
                  refine own_aload A141 hx (pc' := 268) (hb hby at_266) rfl rfl rfl ?_
                  refine own_iconst A141 hx (pc' := 269) (hb hby at_268) (z := (0 : Int32)) (by decide) rfl ?_
                  refine own_ldC K141 hx AD (own_natlt (i := 0) (by omega) (by omega)) (by rw [show (0 : Int32).toNatClampNeg = 0 from rfl]; exact own_mapAt _ (by omega)) (hb hby at_269) (pc' := 270) rfl ?_
                  refine own_callS K141 hx (by rw [hml]; rfl) (hw _ (List.mem_of_getElem? (i := 154) rfl)) (hw _ (List.mem_of_getElem? (i := 155) rfl)) (hw _ (List.mem_of_getElem? (i := 3) rfl)) (hw _ (List.mem_of_getElem? (i := 156) rfl)) (by decide) (rm_ci l Z a0 hw [] h141 (H.getD 0 0) (D.getD 0 0)) (fun _ q => nomatch q) (argsL := [(.int (H.getD 0 0)), (.int (D.getD 0 0))]) (rest := []) (lenOf pd_32 rfl) rfl 0 (Nat.le_of_eq rfl) (hb hby at_270) (pc' := 273) rfl (by decide) (by decide) (by decide) (by decide) ?_
                  intro v174 T174 h174 K174 Kp174 Q174
                  obtain rfl := Q174
                  have AH := AH.keep Kp174 nin0
                  have AD := AD.keep Kp174 nin0
                  have CR := CR.keep Kp174
                  have A174 := own_here K174
                  show own_Go p.tables e below _ T174 (mkF m 273 #[.val (.long i0), .second, .val (.int i1), .val (.long i2), .second, .val (.int i3), .val (.ref b116), .val (.int (Int32.ofNat hlN)), .val (.ref b127), .val (.int (Int32.ofNat slN)), .val (.ref a134), .val (.ref a135), .val rv, .val (.int (-1 : Int32)), .val (.int (Int32.ofNat hlN)), .unset, .unset, .unset] [(.int (if own_ci (H.getD 0 0) (D.getD 0 0) then (1 : Int32) else 0))])
                  refine own_if_eq A174 hx 320 276 (hb hby at_273) (by decide) (by decide) rfl (fun hc273 => ?_) (fun hc273 => ?_)
                  · refine own_iconst A174 hx (pc' := 321) (hb hby at_320) (z := (0 : Int32)) (by decide) rfl ?_
                    exact J321_168 T174 h174 (0 : Int32) (own_more K174 (by decide) (by decide)) AH AD CR (by rw [if_neg (fun p => by have q := (own_mt (H := H) (n := hlN) (D := D) (s := (own_spN (H.take hlN))) (k := slN) (by omega) (by omega) (by omega) sl3).mp p; exact q.2.1.elim (fun z => hc259 ((own_nl (a := slN) (b := 1) (by omega) (by decide)).mpr z)) (own_if0 hc273))])
                  · refine own_iload A174 hx (pc' := 278) (hb hby at_276) rfl rfl ?_
                    refine own_iconst A174 hx (pc' := 279) (hb hby at_278) (z := (2 : Int32)) (by decide) rfl ?_
                    refine own_icmp_lt A174 hx 296 282 (hb hby at_279) (by decide) (by decide) rfl (fun hc279 => ?_) (fun hc279 => ?_)
                    · refine own_iload A174 hx (pc' := 298) (hb hby at_296) rfl rfl ?_
                      refine own_iconst A174 hx (pc' := 299) (hb hby at_298) (z := (3 : Int32)) (by decide) rfl ?_
                      refine own_icmp_lt A174 hx 316 302 (hb hby at_299) (by decide) (by decide) rfl (fun hc299 => ?_) (fun hc299 => ?_)
                      · refine own_iconst A174 hx (pc' := 317) (hb hby at_316) (z := (1 : Int32)) (by decide) rfl ?_
                        refine own_goto A174 hx 321 (hb hby at_317) (by decide) (by decide) ?_
                        exact J321_168 T174 h174 (1 : Int32) (own_more K174 (by decide) (by decide)) AH AD CR (by rw [if_pos ((own_mt (H := H) (n := hlN) (D := D) (s := (own_spN (H.take hlN))) (k := slN) (by omega) (by omega) (by omega) sl3).mpr ⟨hnl.trans (own_natinj (by omega) (by omega) hc253), Or.inr (own_if1 hc273), Or.inl ((own_nl (a := slN) (b := 2) (by omega) (by decide)).mp hc279), Or.inl ((own_nl (a := slN) (b := 3) (by omega) (by decide)).mp hc299)⟩)])
                      · refine own_aload A174 hx (pc' := 304) (hb hby at_302) rfl rfl rfl ?_
                        refine own_iconst A174 hx (pc' := 305) (hb hby at_304) (z := (2 : Int32)) (by decide) rfl ?_
                        refine own_ldC K174 hx AH (own_natlt (i := 2) (by omega) (by omega)) (by rw [show (2 : Int32).toNatClampNeg = 2 from rfl]; exact own_mapAt _ (by omega)) (hb hby at_305) (pc' := 306) rfl ?_
                        refine own_aload A174 hx (pc' := 308) (hb hby at_306) rfl rfl rfl ?_
                        refine own_iconst A174 hx (pc' := 309) (hb hby at_308) (z := (2 : Int32)) (by decide) rfl ?_
                        refine own_ldC K174 hx AD (own_natlt (i := 2) (by omega) (by omega)) (by rw [show (2 : Int32).toNatClampNeg = 2 from rfl]; exact own_mapAt _ (by omega)) (hb hby at_309) (pc' := 310) rfl ?_
                        refine own_callS K174 hx (by rw [hml]; rfl) (hw _ (List.mem_of_getElem? (i := 154) rfl)) (hw _ (List.mem_of_getElem? (i := 155) rfl)) (hw _ (List.mem_of_getElem? (i := 3) rfl)) (hw _ (List.mem_of_getElem? (i := 156) rfl)) (by decide) (rm_ci l Z a0 hw [] h174 (H.getD 2 0) (D.getD 2 0)) (fun _ q => nomatch q) (argsL := [(.int (H.getD 2 0)), (.int (D.getD 2 0))]) (rest := []) (lenOf pd_32 rfl) rfl 0 (Nat.le_of_eq rfl) (hb hby at_310) (pc' := 313) rfl (by decide) (by decide) (by decide) (by decide) ?_
                        intro v175 T175 h175 K175 Kp175 Q175
                        obtain rfl := Q175
                        have AH := AH.keep Kp175 nin0
                        have AD := AD.keep Kp175 nin0
                        have CR := CR.keep Kp175
                        have A175 := own_here K175
                        show own_Go p.tables e below _ T175 (mkF m 313 #[.val (.long i0), .second, .val (.int i1), .val (.long i2), .second, .val (.int i3), .val (.ref b116), .val (.int (Int32.ofNat hlN)), .val (.ref b127), .val (.int (Int32.ofNat slN)), .val (.ref a134), .val (.ref a135), .val rv, .val (.int (-1 : Int32)), .val (.int (Int32.ofNat hlN)), .unset, .unset, .unset] [(.int (if own_ci (H.getD 2 0) (D.getD 2 0) then (1 : Int32) else 0))])
                        refine own_if_eq A175 hx 320 316 (hb hby at_313) (by decide) (by decide) rfl (fun hc313 => ?_) (fun hc313 => ?_)
                        · refine own_iconst A175 hx (pc' := 321) (hb hby at_320) (z := (0 : Int32)) (by decide) rfl ?_
                          exact J321_168 T175 h175 (0 : Int32) (own_more K175 (by decide) (by decide)) AH AD CR (by rw [if_neg (fun p => by have q := (own_mt (H := H) (n := hlN) (D := D) (s := (own_spN (H.take hlN))) (k := slN) (by omega) (by omega) (by omega) sl3).mp p; exact q.2.2.2.elim (fun z => hc299 ((own_nl (a := slN) (b := 3) (by omega) (by decide)).mpr z)) (own_if0 hc313))])
                        · refine own_iconst A175 hx (pc' := 317) (hb hby at_316) (z := (1 : Int32)) (by decide) rfl ?_
                          refine own_goto A175 hx 321 (hb hby at_317) (by decide) (by decide) ?_
                          exact J321_168 T175 h175 (1 : Int32) (own_more K175 (by decide) (by decide)) AH AD CR (by rw [if_pos ((own_mt (H := H) (n := hlN) (D := D) (s := (own_spN (H.take hlN))) (k := slN) (by omega) (by omega) (by omega) sl3).mpr ⟨hnl.trans (own_natinj (by omega) (by omega) hc253), Or.inr (own_if1 hc273), Or.inl ((own_nl (a := slN) (b := 2) (by omega) (by decide)).mp hc279), Or.inr (own_if1 hc313)⟩)])
                    · refine own_aload A174 hx (pc' := 284) (hb hby at_282) rfl rfl rfl ?_
                      refine own_iconst A174 hx (pc' := 285) (hb hby at_284) (z := (1 : Int32)) (by decide) rfl ?_
                      refine own_ldC K174 hx AH (own_natlt (i := 1) (by omega) (by omega)) (by rw [show (1 : Int32).toNatClampNeg = 1 from rfl]; exact own_mapAt _ (by omega)) (hb hby at_285) (pc' := 286) rfl ?_
                      refine own_aload A174 hx (pc' := 288) (hb hby at_286) rfl rfl rfl ?_
                      refine own_iconst A174 hx (pc' := 289) (hb hby at_288) (z := (1 : Int32)) (by decide) rfl ?_
                      refine own_ldC K174 hx AD (own_natlt (i := 1) (by omega) (by omega)) (by rw [show (1 : Int32).toNatClampNeg = 1 from rfl]; exact own_mapAt _ (by omega)) (hb hby at_289) (pc' := 290) rfl ?_
                      refine own_callS K174 hx (by rw [hml]; rfl) (hw _ (List.mem_of_getElem? (i := 154) rfl)) (hw _ (List.mem_of_getElem? (i := 155) rfl)) (hw _ (List.mem_of_getElem? (i := 3) rfl)) (hw _ (List.mem_of_getElem? (i := 156) rfl)) (by decide) (rm_ci l Z a0 hw [] h174 (H.getD 1 0) (D.getD 1 0)) (fun _ q => nomatch q) (argsL := [(.int (H.getD 1 0)), (.int (D.getD 1 0))]) (rest := []) (lenOf pd_32 rfl) rfl 0 (Nat.le_of_eq rfl) (hb hby at_290) (pc' := 293) rfl (by decide) (by decide) (by decide) (by decide) ?_
                      intro v176 T176 h176 K176 Kp176 Q176
                      obtain rfl := Q176
                      have AH := AH.keep Kp176 nin0
                      have AD := AD.keep Kp176 nin0
                      have CR := CR.keep Kp176
                      have A176 := own_here K176
                      show own_Go p.tables e below _ T176 (mkF m 293 #[.val (.long i0), .second, .val (.int i1), .val (.long i2), .second, .val (.int i3), .val (.ref b116), .val (.int (Int32.ofNat hlN)), .val (.ref b127), .val (.int (Int32.ofNat slN)), .val (.ref a134), .val (.ref a135), .val rv, .val (.int (-1 : Int32)), .val (.int (Int32.ofNat hlN)), .unset, .unset, .unset] [(.int (if own_ci (H.getD 1 0) (D.getD 1 0) then (1 : Int32) else 0))])
                      refine own_if_eq A176 hx 320 296 (hb hby at_293) (by decide) (by decide) rfl (fun hc293 => ?_) (fun hc293 => ?_)
                      · refine own_iconst A176 hx (pc' := 321) (hb hby at_320) (z := (0 : Int32)) (by decide) rfl ?_
                        exact J321_168 T176 h176 (0 : Int32) (own_more K176 (by decide) (by decide)) AH AD CR (by rw [if_neg (fun p => by have q := (own_mt (H := H) (n := hlN) (D := D) (s := (own_spN (H.take hlN))) (k := slN) (by omega) (by omega) (by omega) sl3).mp p; exact q.2.2.1.elim (fun z => hc279 ((own_nl (a := slN) (b := 2) (by omega) (by decide)).mpr z)) (own_if0 hc293))])
                      · refine own_iload A176 hx (pc' := 298) (hb hby at_296) rfl rfl ?_
                        refine own_iconst A176 hx (pc' := 299) (hb hby at_298) (z := (3 : Int32)) (by decide) rfl ?_
                        refine own_icmp_lt A176 hx 316 302 (hb hby at_299) (by decide) (by decide) rfl (fun hc299 => ?_) (fun hc299 => ?_)
                        · refine own_iconst A176 hx (pc' := 317) (hb hby at_316) (z := (1 : Int32)) (by decide) rfl ?_
                          refine own_goto A176 hx 321 (hb hby at_317) (by decide) (by decide) ?_
                          exact J321_168 T176 h176 (1 : Int32) (own_more K176 (by decide) (by decide)) AH AD CR (by rw [if_pos ((own_mt (H := H) (n := hlN) (D := D) (s := (own_spN (H.take hlN))) (k := slN) (by omega) (by omega) (by omega) sl3).mpr ⟨hnl.trans (own_natinj (by omega) (by omega) hc253), Or.inr (own_if1 hc273), Or.inr (own_if1 hc293), Or.inl ((own_nl (a := slN) (b := 3) (by omega) (by decide)).mp hc299)⟩)])
                        · refine own_aload A176 hx (pc' := 304) (hb hby at_302) rfl rfl rfl ?_
                          refine own_iconst A176 hx (pc' := 305) (hb hby at_304) (z := (2 : Int32)) (by decide) rfl ?_
                          refine own_ldC K176 hx AH (own_natlt (i := 2) (by omega) (by omega)) (by rw [show (2 : Int32).toNatClampNeg = 2 from rfl]; exact own_mapAt _ (by omega)) (hb hby at_305) (pc' := 306) rfl ?_
                          refine own_aload A176 hx (pc' := 308) (hb hby at_306) rfl rfl rfl ?_
                          refine own_iconst A176 hx (pc' := 309) (hb hby at_308) (z := (2 : Int32)) (by decide) rfl ?_
                          refine own_ldC K176 hx AD (own_natlt (i := 2) (by omega) (by omega)) (by rw [show (2 : Int32).toNatClampNeg = 2 from rfl]; exact own_mapAt _ (by omega)) (hb hby at_309) (pc' := 310) rfl ?_
                          refine own_callS K176 hx (by rw [hml]; rfl) (hw _ (List.mem_of_getElem? (i := 154) rfl)) (hw _ (List.mem_of_getElem? (i := 155) rfl)) (hw _ (List.mem_of_getElem? (i := 3) rfl)) (hw _ (List.mem_of_getElem? (i := 156) rfl)) (by decide) (rm_ci l Z a0 hw [] h176 (H.getD 2 0) (D.getD 2 0)) (fun _ q => nomatch q) (argsL := [(.int (H.getD 2 0)), (.int (D.getD 2 0))]) (rest := []) (lenOf pd_32 rfl) rfl 0 (Nat.le_of_eq rfl) (hb hby at_310) (pc' := 313) rfl (by decide) (by decide) (by decide) (by decide) ?_
                          intro v177 T177 h177 K177 Kp177 Q177
                          obtain rfl := Q177
                          have AH := AH.keep Kp177 nin0
                          have AD := AD.keep Kp177 nin0
                          have CR := CR.keep Kp177
                          have A177 := own_here K177
                          show own_Go p.tables e below _ T177 (mkF m 313 #[.val (.long i0), .second, .val (.int i1), .val (.long i2), .second, .val (.int i3), .val (.ref b116), .val (.int (Int32.ofNat hlN)), .val (.ref b127), .val (.int (Int32.ofNat slN)), .val (.ref a134), .val (.ref a135), .val rv, .val (.int (-1 : Int32)), .val (.int (Int32.ofNat hlN)), .unset, .unset, .unset] [(.int (if own_ci (H.getD 2 0) (D.getD 2 0) then (1 : Int32) else 0))])
                          refine own_if_eq A177 hx 320 316 (hb hby at_313) (by decide) (by decide) rfl (fun hc313 => ?_) (fun hc313 => ?_)
                          · refine own_iconst A177 hx (pc' := 321) (hb hby at_320) (z := (0 : Int32)) (by decide) rfl ?_
                            exact J321_168 T177 h177 (0 : Int32) (own_more K177 (by decide) (by decide)) AH AD CR (by rw [if_neg (fun p => by have q := (own_mt (H := H) (n := hlN) (D := D) (s := (own_spN (H.take hlN))) (k := slN) (by omega) (by omega) (by omega) sl3).mp p; exact q.2.2.2.elim (fun z => hc299 ((own_nl (a := slN) (b := 3) (by omega) (by decide)).mpr z)) (own_if0 hc313))])
                          · refine own_iconst A177 hx (pc' := 317) (hb hby at_316) (z := (1 : Int32)) (by decide) rfl ?_
                            refine own_goto A177 hx 321 (hb hby at_317) (by decide) (by decide) ?_
                            exact J321_168 T177 h177 (1 : Int32) (own_more K177 (by decide) (by decide)) AH AD CR (by rw [if_pos ((own_mt (H := H) (n := hlN) (D := D) (s := (own_spN (H.take hlN))) (k := slN) (by omega) (by omega) (by omega) sl3).mpr ⟨hnl.trans (own_natinj (by omega) (by omega) hc253), Or.inr (own_if1 hc273), Or.inr (own_if1 hc293), Or.inr (own_if1 hc313)⟩)])
          refine own_iload A140 hx (pc' := 220) (hb hby at_218) rfl rfl ?_
          refine own_if_le A140 hx 235 223 (hb hby at_220) (by decide) (by decide) rfl (fun hc220 => ?_) (fun hc220 => ?_)
          · exact J235_141 T140 h140 sp1 (own_more K140 (by decide) (by decide)) AH AD CR (own_Pskip hP1 (own_natnlt (i := 0) (j := hlN) (by decide) (by omega) hc220))
          · refine own_aload A140 hx (pc' := 225) (hb hby at_223) rfl rfl rfl ?_
            refine own_iconst A140 hx (pc' := 226) (hb hby at_225) (z := (0 : Int32)) (by decide) rfl ?_
            refine own_ldC K140 hx AH (own_natlt (i := 0) (by omega) (by omega)) (by rw [show (0 : Int32).toNatClampNeg = 0 from rfl]; exact own_mapAt _ (by omega)) (hb hby at_226) (pc' := 227) rfl ?_
            refine own_bipush A140 hx (pc' := 229) (hb hby at_227) (z := (32 : Int32)) (by decide) rfl ?_
            refine own_icmp_ne A140 hx 235 232 (hb hby at_229) (by decide) (by decide) rfl (fun hc229 => ?_) (fun hc229 => ?_)
            · exact J235_141 T140 h140 sp1 (own_more K140 (by decide) (by decide)) AH AD CR (own_Pmiss hP1 hc229)
            · refine own_iconst A140 hx (pc' := 233) (hb hby at_232) (z := (0 : Int32)) (by decide) rfl ?_
              refine own_istore A140 hx (pc' := 235) #[.val (.long i0), .second, .val (.int i1), .val (.long i2), .second, .val (.int i3), .val (.ref b116), .val (.int (Int32.ofNat hlN)), .val (.ref b127), .val (.int (Int32.ofNat slN)), .val (.ref a134), .val (.ref a135), .val rv, .val (.int (0 : Int32)), .unset, .unset, .unset, .unset] (hb hby at_233) rfl rfl ?_
              exact J235_141 T140 h140 (0 : Int32) (own_more K140 (by decide) (by decide)) AH AD CR (own_Phit (i := 0) ((own_nl (a := 0) (b := hlN) (by decide) (by omega)).mp hc220) hc229)
        refine own_iload A139 hx (pc' := 202) (hb hby at_200) rfl rfl ?_
        refine own_iconst A139 hx (pc' := 203) (hb hby at_202) (z := (1 : Int32)) (by decide) rfl ?_
        refine own_icmp_le A139 hx 218 206 (hb hby at_203) (by decide) (by decide) rfl (fun hc203 => ?_) (fun hc203 => ?_)
        · exact J218_140 T139 h139 sp2 (own_more K139 (by decide) (by decide)) AH AD CR (own_Pskip hP2 (own_natnlt (i := 1) (j := hlN) (by decide) (by omega) hc203))
        · refine own_aload A139 hx (pc' := 208) (hb hby at_206) rfl rfl rfl ?_
          refine own_iconst A139 hx (pc' := 209) (hb hby at_208) (z := (1 : Int32)) (by decide) rfl ?_
          refine own_ldC K139 hx AH (own_natlt (i := 1) (by omega) (by omega)) (by rw [show (1 : Int32).toNatClampNeg = 1 from rfl]; exact own_mapAt _ (by omega)) (hb hby at_209) (pc' := 210) rfl ?_
          refine own_bipush A139 hx (pc' := 212) (hb hby at_210) (z := (32 : Int32)) (by decide) rfl ?_
          refine own_icmp_ne A139 hx 218 215 (hb hby at_212) (by decide) (by decide) rfl (fun hc212 => ?_) (fun hc212 => ?_)
          · exact J218_140 T139 h139 sp2 (own_more K139 (by decide) (by decide)) AH AD CR (own_Pmiss hP2 hc212)
          · refine own_iconst A139 hx (pc' := 216) (hb hby at_215) (z := (1 : Int32)) (by decide) rfl ?_
            refine own_istore A139 hx (pc' := 218) #[.val (.long i0), .second, .val (.int i1), .val (.long i2), .second, .val (.int i3), .val (.ref b116), .val (.int (Int32.ofNat hlN)), .val (.ref b127), .val (.int (Int32.ofNat slN)), .val (.ref a134), .val (.ref a135), .val rv, .val (.int (1 : Int32)), .unset, .unset, .unset, .unset] (hb hby at_216) rfl rfl ?_
            exact J218_140 T139 h139 (1 : Int32) (own_more K139 (by decide) (by decide)) AH AD CR (own_Phit (i := 1) ((own_nl (a := 1) (b := hlN) (by decide) (by omega)).mp hc203) hc212)
      refine own_iload A138 hx (pc' := 184) (hb hby at_182) rfl rfl ?_
      refine own_iconst A138 hx (pc' := 185) (hb hby at_184) (z := (2 : Int32)) (by decide) rfl ?_
      refine own_icmp_le A138 hx 200 188 (hb hby at_185) (by decide) (by decide) rfl (fun hc185 => ?_) (fun hc185 => ?_)
      · exact J200_139 T138 h138 sp3 (own_more K138 (by decide) (by decide)) AH AD CR (own_Pskip hP3 (own_natnlt (i := 2) (j := hlN) (by decide) (by omega) hc185))
      · refine own_aload A138 hx (pc' := 190) (hb hby at_188) rfl rfl rfl ?_
        refine own_iconst A138 hx (pc' := 191) (hb hby at_190) (z := (2 : Int32)) (by decide) rfl ?_
        refine own_ldC K138 hx AH (own_natlt (i := 2) (by omega) (by omega)) (by rw [show (2 : Int32).toNatClampNeg = 2 from rfl]; exact own_mapAt _ (by omega)) (hb hby at_191) (pc' := 192) rfl ?_
        refine own_bipush A138 hx (pc' := 194) (hb hby at_192) (z := (32 : Int32)) (by decide) rfl ?_
        refine own_icmp_ne A138 hx 200 197 (hb hby at_194) (by decide) (by decide) rfl (fun hc194 => ?_) (fun hc194 => ?_)
        · exact J200_139 T138 h138 sp3 (own_more K138 (by decide) (by decide)) AH AD CR (own_Pmiss hP3 hc194)
        · refine own_iconst A138 hx (pc' := 198) (hb hby at_197) (z := (2 : Int32)) (by decide) rfl ?_
          refine own_istore A138 hx (pc' := 200) #[.val (.long i0), .second, .val (.int i1), .val (.long i2), .second, .val (.int i3), .val (.ref b116), .val (.int (Int32.ofNat hlN)), .val (.ref b127), .val (.int (Int32.ofNat slN)), .val (.ref a134), .val (.ref a135), .val rv, .val (.int (2 : Int32)), .unset, .unset, .unset, .unset] (hb hby at_198) rfl rfl ?_
          exact J200_139 T138 h138 (2 : Int32) (own_more K138 (by decide) (by decide)) AH AD CR (own_Phit (i := 2) ((own_nl (a := 2) (b := hlN) (by decide) (by omega)).mp hc185) hc194)
    refine own_iload A137 hx (pc' := 166) (hb hby at_164) rfl rfl ?_
    refine own_iconst A137 hx (pc' := 167) (hb hby at_166) (z := (3 : Int32)) (by decide) rfl ?_
    refine own_icmp_le A137 hx 182 170 (hb hby at_167) (by decide) (by decide) rfl (fun hc167 => ?_) (fun hc167 => ?_)
    · exact J182_138 T137 h137 sp4 (own_more K137 (by decide) (by decide)) AH AD CR (own_Pskip hP4 (own_natnlt (i := 3) (j := hlN) (by decide) (by omega) hc167))
    · refine own_aload A137 hx (pc' := 172) (hb hby at_170) rfl rfl rfl ?_
      refine own_iconst A137 hx (pc' := 173) (hb hby at_172) (z := (3 : Int32)) (by decide) rfl ?_
      refine own_ldC K137 hx AH (own_natlt (i := 3) (by omega) (by omega)) (by rw [show (3 : Int32).toNatClampNeg = 3 from rfl]; exact own_mapAt _ (by omega)) (hb hby at_173) (pc' := 174) rfl ?_
      refine own_bipush A137 hx (pc' := 176) (hb hby at_174) (z := (32 : Int32)) (by decide) rfl ?_
      refine own_icmp_ne A137 hx 182 179 (hb hby at_176) (by decide) (by decide) rfl (fun hc176 => ?_) (fun hc176 => ?_)
      · exact J182_138 T137 h137 sp4 (own_more K137 (by decide) (by decide)) AH AD CR (own_Pmiss hP4 hc176)
      · refine own_iconst A137 hx (pc' := 180) (hb hby at_179) (z := (3 : Int32)) (by decide) rfl ?_
        refine own_istore A137 hx (pc' := 182) #[.val (.long i0), .second, .val (.int i1), .val (.long i2), .second, .val (.int i3), .val (.ref b116), .val (.int (Int32.ofNat hlN)), .val (.ref b127), .val (.int (Int32.ofNat slN)), .val (.ref a134), .val (.ref a135), .val rv, .val (.int (3 : Int32)), .unset, .unset, .unset, .unset] (hb hby at_180) rfl rfl ?_
        exact J182_138 T137 h137 (3 : Int32) (own_more K137 (by decide) (by decide)) AH AD CR (own_Phit (i := 3) ((own_nl (a := 3) (b := hlN) (by decide) (by omega)).mp hc167) hc176)
  refine own_iload A136 hx (pc' := 148) (hb hby at_146) rfl rfl ?_
  refine own_iconst A136 hx (pc' := 149) (hb hby at_148) (z := (4 : Int32)) (by decide) rfl ?_
  refine own_icmp_le A136 hx 164 152 (hb hby at_149) (by decide) (by decide) rfl (fun hc149 => ?_) (fun hc149 => ?_)
  · exact J164_137 T136 h136 (-1 : Int32) (own_more K136 (by decide) (by decide)) AH AD CR (own_Pskip (own_P5 hl5) (own_natnlt (i := 4) (j := hlN) (by decide) (by omega) hc149))
  · refine own_aload A136 hx (pc' := 154) (hb hby at_152) rfl rfl rfl ?_
    refine own_iconst A136 hx (pc' := 155) (hb hby at_154) (z := (4 : Int32)) (by decide) rfl ?_
    refine own_ldC K136 hx AH (own_natlt (i := 4) (by omega) (by omega)) (by rw [show (4 : Int32).toNatClampNeg = 4 from rfl]; exact own_mapAt _ (by omega)) (hb hby at_155) (pc' := 156) rfl ?_
    refine own_bipush A136 hx (pc' := 158) (hb hby at_156) (z := (32 : Int32)) (by decide) rfl ?_
    refine own_icmp_ne A136 hx 164 161 (hb hby at_158) (by decide) (by decide) rfl (fun hc158 => ?_) (fun hc158 => ?_)
    · exact J164_137 T136 h136 (-1 : Int32) (own_more K136 (by decide) (by decide)) AH AD CR (own_Pmiss (own_P5 hl5) hc158)
    · refine own_iconst A136 hx (pc' := 162) (hb hby at_161) (z := (4 : Int32)) (by decide) rfl ?_
      refine own_istore A136 hx (pc' := 164) #[.val (.long i0), .second, .val (.int i1), .val (.long i2), .second, .val (.int i3), .val (.ref b116), .val (.int (Int32.ofNat hlN)), .val (.ref b127), .val (.int (Int32.ofNat slN)), .val (.ref a134), .val (.ref a135), .val rv, .val (.int (4 : Int32)), .unset, .unset, .unset, .unset] (hb hby at_162) rfl rfl ?_
      exact J164_137 T136 h136 (4 : Int32) (own_more K136 (by decide) (by decide)) AH AD CR (own_Phit (i := 4) ((own_nl (a := 4) (b := hlN) (by decide) (by omega)).mp hc149) hc158)
set_option maxRecDepth 65536 in
set_option maxHeartbeats 40000000 in
theorem comes_1 {Post : Tables → Env → Array Value → State → Outcome → State → Prop} (hpost : ∀ tb e args s v u, (limb_1_1.after args s (.returned v) u = true ∧ limb_1_2.after args s (.returned v) u = true ∧ True) → own_End true s (.returned v) u (Jvm.fieldLocs frame_1_writes args s ++ Jvm.arrayLocs frame_1_arrays args s ++ Jvm.staticLocs frame_1_statics s) 48 3264 → Post tb e args s (.returned v) u) :
    ArmFor flags0 classFile x code maxLocals ret World_1 tables_1 room_1 Calls_1 rest_1 Pre_1 Post := by
  intro l hfl _ _ p e ha hc hk s m args below hf hA hF happ hP
  obtain ⟨hcalls, hrest, hpre⟩ := hP
  obtain ⟨-, -, -, hnamed, -, -, -, hat⟩ := (Spec.applies_iff hf).mp happ
  obtain ⟨hg, hn⟩ := and_e (Cond.before_iff.mp (show (Jvm.Cond.and given_1 narrow_1).before args s = true from hpre))
  obtain ⟨g_c, g_r0⟩ := and_e hg
  obtain ⟨g_0, g_r1⟩ := and_e g_r0
  obtain ⟨g_1, g_r2⟩ := and_e g_r1
  obtain ⟨g_2, g_r3⟩ := and_e g_r2
  obtain ⟨w0, w1, w2, w3, rfl⟩ : ∃ w0 w1 w2 w3 : Value, args = #[w0, w1, w2, w3] := by
    have hs : args.size = 4 := by simpa [Cond.value, given_1] using g_c
    obtain ⟨L⟩ := args
    match L, hs with
    | [w0, w1, w2, w3], _ => exact ⟨w0, w1, w2, w3, rfl⟩
  have hw := fun d (hd : d ∈ tables_1) => atoms_spec (ws := Jvm.Cond.code x code maxLocals ret :: tables_1) hat d (List.mem_cons_of_mem _ hd)
  have hfit : Fit s := fun {y c} hc i hi => by
    obtain ⟨ha, rfl⟩ := Array.getElem?_eq_some_iff.mp hc
    have q := List.all_eq_true.mp ((Array.all_eq_true_iff_forall_mem.mp hF) _ (Array.getElem_mem ha)) i (List.mem_range.mpr hi)
    simpa [Array.getElem?_eq_getElem hi] using q
  obtain ⟨hsets, hown0⟩ := atoms_of _ (rest_1_c_eq ▸ (show rest_1_c.before _ s = true from hrest))
  obtain ⟨i0, ei0⟩ := isL_v g_0
  obtain rfl : w0 = (.long i0) := Option.some.inj ei0
  obtain ⟨i1, ei1⟩ := is_v g_1
  obtain rfl : w1 = (.int i1) := Option.some.inj ei1
  obtain ⟨i2, ei2⟩ := isL_v g_2
  obtain rfl : w2 = (.long i2) := Option.some.inj ei2
  obtain ⟨i3, ei3⟩ := is_v g_r3
  obtain rfl : w3 = (.int i3) := Option.some.inj ei3
  have n5 := not_v (Cond.before_iff.mp (hsets _ (List.mem_of_getElem? (i := 2) rfl)))
  obtain ⟨z1, ez1⟩ := is_v (Cond.before_iff.mp (hsets _ (List.mem_of_getElem? (i := 1) rfl)))
  have S12 : Sta s s.heap "java/lang/String" "COMPACT_STRINGS" "Z" (.int z1) := Sta.start ez1 (Or.inl (hsets _ (List.mem_of_getElem? (i := 0) rfl)))
  have c17 : ¬ (z1 = (0 : Int32)) := gotF (Cond.eq_ints ez1 (Term.int_eval (0))) n5
  obtain ⟨v13, e14, r15⟩ := isR_v (Cond.before_iff.mp (hsets _ (List.mem_of_getElem? (i := 8) rfl)))
  have S16 : Sta s s.heap "jdk/internal/util/Preconditions" "SIOOBE_FORMATTER" "Ljava/util/function/BiFunction;" v13 := Sta.start e14 (Or.inl (hsets _ (List.mem_of_getElem? (i := 7) rfl)))
  obtain ⟨aA, kA, SA, TA⟩ := own_tabA hsets
  have wI := Cond.before_iff.mp (hsets _ (List.mem_of_getElem? (i := 11) rfl))
  obtain ⟨aI, eI⟩ := exa_v wI
  have SI := Sta.start eI (Or.inl (hsets _ (List.mem_of_getElem? (i := 10) rfl)))
  have XI := Exa.start eI wI
  have hEW : EW s _ consts_1 := (EW.cons (hw _ (List.mem_of_getElem? (i := 160) rfl)) (by decide +kernel) (EW.cons (hw _ (List.mem_of_getElem? (i := 41) rfl)) (by decide +kernel) (EW.cons (hw _ (List.mem_of_getElem? (i := 124) rfl)) (by decide +kernel) EW.nil)))
  have hCH : CHv s consts_1 s.vm s.heap := CHv.start hEW (fun p hp => hcalls.1 p hp) (hsets _ (List.mem_of_getElem? (i := 2) rfl)) (hw _ (List.mem_of_getElem? (i := 30) rfl)) (hw _ (List.mem_of_getElem? (i := 13) rfl))
  obtain ⟨n, o, h1, h2, h3, v, L, rfl, rfl, hKp, N, hCH, hE⟩ := rm_law l s _ hw tables_1 s.heap i0 i1 i2 i3 z1 S12 c17 v13 S16 r15 aA kA SA TA aI SI XI p e ha hc hk s m _ below hf ((Spec.applies_iff_loose hf).mp happ).1 ⟨rfl, State.Warmed39.refl s, rfl, ⟨Nat.le_refl _, fun _ _ q => q⟩, hEW, hCH, fun _ q => nomatch q⟩ (fun q => by cases q)
  refine ⟨n, _, h1, h2, h3, hpost _ _ _ _ _ _ ⟨Cond.after_iff.mpr rfl, Cond.after_iff.mpr (eq_i res_at (Term.int_eval (1)) rfl), trivial⟩ ⟨fun _ => ⟨(hE.1 rfl).1, (hE.1 rfl).2.1, (hE.1 rfl).2.2.1, ((hE.1 rfl).2.2.2.sift fun y hy => Or.inr (N y hy)).mono (by decide) (by decide)⟩, (fun q => by cases q)⟩⟩
theorem main_1_1 : Claimed_1_1 := comes_1 fun _ _ _ _ _ _ h hF => ⟨h.1, hF.1 rfl⟩
theorem main_1_2 : Claimed_1_2 := comes_1 fun _ _ _ _ _ _ h hF => ⟨h.2.1, hF.1 rfl⟩

end Jvm.Pilot.@@N@@
namespace Jvm.Pilot.@@N@@
open Jvm Jvm.ClassFile Sem Op Lib Jvm.Free Jvm.Stand Jvm.Pilot.@@N@@.Jvm.D
/-! MADE BY PROGRAM (witnessworld.py) out of the Statement's table words and the real class files: 24 classes; the members and pool entries that the words name. The judged class is class 1, her method 1. -/
namespace start1
open Jvm.ClassFile
def u (s : String) : CpInfo := .utf8 (stringToUtf16 s)
/-- a pool by its gaps: so many unusable entries, then the entry; so many at the end -/
def gap : Nat → List CpInfo → List CpInfo
  | 0, r => r
  | n + 1, r => .unusable :: gap n r
def poolList (es : List (Nat × CpInfo)) (last : Nat) : List CpInfo := es.foldr (fun e r => gap e.1 (e.2 :: r)) (gap last [])
def pool (es : List (Nat × CpInfo)) (last : Nat) : Array CpInfo := ⟨poolList es last⟩
def fileOf (pool : Array CpInfo) (this : Nat) (attrs : Array Attribute := #[]) (ms : Array MethodInfo := #[]) (fl : Nat := 33) (sup : Nat := 0) (ifs : Array Nat := #[]) (fds : Array FieldInfo := #[]) : ClassFile where
  minorVersion := 0
  majorVersion := 65
  constantPool := pool
  accessFlags := fl
  thisClass := this
  superClass := sup
  interfaces := ifs
  fields := fds
  methods := ms
  attributes := attrs
def plain (name : String) (sup : Option ClassId) : Class where
  name := name
  kind := .ordinary
  loader := none
  accessFlags := 33
  super := sup
  interfaces := #[]
  cf := none
  fields := #[]
  methods := #[]
  instanceTypes := #[]
  staticTypes := #[]
  resolved := #[]
  callSites := []
  init := .initialized
  statics := none
  mirror := none

def pool0 : Array CpInfo := pool [(5, u "<init>"), (0, u "()V"), (1, .class_ 10), (1, u "java/lang/Object")] 113

def k0c0 : Code := { maxStack := 0, maxLocals := 1, code := object_method_1_code, exceptionTable := #[], attributes := #[] }
def k0m0 : Method := { name := "<init>", desc := "()V", sig := { parameters := [], returnType := none }, accessFlags := 1, code := some k0c0 }
/-- java/lang/Object -/
def k0 : Class := { plain "java/lang/Object" none with
  accessFlags := 33
  interfaces := #[]
  cf := some (fileOf pool0 8 #[] #[{ accessFlags := 1, nameIndex := 5, descriptorIndex := 6, attributes := #[] }] 33 0 #[] #[])
  fields := #[]
  methods := #[k0m0]
  instanceTypes := #[]
  staticTypes := #[]
  resolved := Array.replicate 124 none
  statics := none }

def pool1 : Array CpInfo := pool [(2, .class_ 4), (1, u "java/lang/Object"), (0, u "<init>"), (0, u "()V"), (0, .methodref 8 9), (0, .class_ 10), (0, .nameAndType 11 12), (0, u "com/example/portcullis/portcullis/service/AuthorizationHeaderCredentialsPinLaw"), (0, u "hch"), (0, u "(JII)C"), (0, .methodref 8 14), (0, .nameAndType 15 16), (0, u "sch"), (0, u "(JI[CI)C"), (0, .methodref 8 18), (0, .nameAndType 19 20), (0, u "slice"), (0, u "([CII)Ljava/lang/String;"), (0, .methodref 22 23), (0, .class_ 24), (0, .nameAndType 25 26), (0, u "com/example/portcullis/portcullis/service/AuthorizationHeader"), (0, u "credentials"), (0, u "(Ljava/lang/String;Ljava/lang/String;)Ljava/lang/String;"), (0, .methodref 8 28), (0, .nameAndType 29 30), (0, u "ci"), (0, u "(CC)Z"), (0, .string 32), (0, u ""), (0, .methodref 34 35), (0, .class_ 36), (0, .nameAndType 37 38), (0, u "java/lang/String"), (0, u "equals"), (0, u "(Ljava/lang/Object;)Z"), (0, .methodref 8 40), (0, .nameAndType 41 42), (0, u "ws"), (0, u "(C)Z"), (0, .long 255), (1, .methodref 8 46), (0, .nameAndType 47 42), (0, u "up"), (0, .methodref 34 49), (0, .nameAndType 50 51), (0, u "valueOf"), (0, u "(C)Ljava/lang/String;"), (0, .methodref 34 53), (0, .nameAndType 5 54), (0, u "([C)V"), (2, u "law"), (0, u "(JIJI)Z")] 5

def k1m0 : Method := { name := "<init>", desc := "()V", sig := { parameters := [], returnType := none }, accessFlags := 2, code := none }
def k1c1 : Code := { maxStack := 7, maxLocals := 18, code := code, exceptionTable := #[], attributes := #[] }
def k1m1 : Method := { name := "law", desc := "(JIJI)Z", sig := { parameters := [.long, .int, .long, .int], returnType := some .boolean }, accessFlags := 9, code := some k1c1 }
def k1c2 : Code := { maxStack := 4, maxLocals := 4, code := method_3_code, exceptionTable := #[], attributes := #[] }
def k1m2 : Method := { name := "hch", desc := "(JII)C", sig := { parameters := [.long, .int, .int], returnType := some .char }, accessFlags := 10, code := some k1c2 }
def k1c3 : Code := { maxStack := 4, maxLocals := 5, code := method_4_code, exceptionTable := #[], attributes := #[] }
def k1m3 : Method := { name := "sch", desc := "(JI[CI)C", sig := { parameters := [.long, .int, (.array .char), .int], returnType := some .char }, accessFlags := 10, code := some k1c3 }
def k1c4 : Code := { maxStack := 2, maxLocals := 1, code := method_5_code, exceptionTable := #[], attributes := #[] }
def k1m4 : Method := { name := "up", desc := "(C)Z", sig := { parameters := [.char], returnType := some .boolean }, accessFlags := 10, code := some k1c4 }
def k1c5 : Code := { maxStack := 3, maxLocals := 2, code := method_6_code, exceptionTable := #[], attributes := #[] }
def k1m5 : Method := { name := "ci", desc := "(CC)Z", sig := { parameters := [.char, .char], returnType := some .boolean }, accessFlags := 10, code := some k1c5 }
def k1c6 : Code := { maxStack := 2, maxLocals := 1, code := method_7_code, exceptionTable := #[], attributes := #[] }
def k1m6 : Method := { name := "ws", desc := "(C)Z", sig := { parameters := [.char], returnType := some .boolean }, accessFlags := 10, code := some k1c6 }
def k1c7 : Code := { maxStack := 8, maxLocals := 4, code := method_8_code, exceptionTable := #[], attributes := #[] }
def k1m7 : Method := { name := "slice", desc := "([CII)Ljava/lang/String;", sig := { parameters := [(.array .char), .int, .int], returnType := some (.object "java/lang/String") }, accessFlags := 10, code := some k1c7 }
/-- com/example/portcullis/portcullis/service/AuthorizationHeaderCredentialsPinLaw -/
def k1 : Class := { plain "com/example/portcullis/portcullis/service/AuthorizationHeaderCredentialsPinLaw" (some 0) with
  accessFlags := 49
  interfaces := #[]
  cf := some (fileOf pool1 8 #[] #[{ accessFlags := 2, nameIndex := 5, descriptorIndex := 6, attributes := #[] }, { accessFlags := 9, nameIndex := 57, descriptorIndex := 58, attributes := #[] }, { accessFlags := 10, nameIndex := 11, descriptorIndex := 12, attributes := #[] }, { accessFlags := 10, nameIndex := 15, descriptorIndex := 16, attributes := #[] }, { accessFlags := 10, nameIndex := 47, descriptorIndex := 42, attributes := #[] }, { accessFlags := 10, nameIndex := 29, descriptorIndex := 30, attributes := #[] }, { accessFlags := 10, nameIndex := 41, descriptorIndex := 42, attributes := #[] }, { accessFlags := 10, nameIndex := 19, descriptorIndex := 20, attributes := #[] }] 49 2 #[] #[])
  fields := #[]
  methods := #[k1m0, k1m1, k1m2, k1m3, k1m4, k1m5, k1m6, k1m7]
  instanceTypes := #[]
  staticTypes := #[]
  resolved := Array.replicate 64 none
  statics := none }

def pool2 : Array CpInfo := pool [(1, .class_ 2), (0, u "java/io/Serializable"), (0, .class_ 4), (0, u "java/lang/Object")] 2

/-- java/io/Serializable -/
def k2 : Class := { plain "java/io/Serializable" (some 0) with
  accessFlags := 1537
  interfaces := #[]
  cf := some (fileOf pool2 1 #[] #[] 1537 3 #[] #[])
  fields := #[]
  methods := #[]
  instanceTypes := #[]
  staticTypes := #[]
  resolved := Array.replicate 7 none
  statics := none }

def pool3 : Array CpInfo := pool [(1, .class_ 2), (0, u "java/lang/Comparable"), (0, .class_ 4), (0, u "java/lang/Object")] 7

/-- java/lang/Comparable -/
def k3 : Class := { plain "java/lang/Comparable" (some 0) with
  accessFlags := 1537
  interfaces := #[]
  cf := some (fileOf pool3 1 #[] #[] 1537 3 #[] #[])
  fields := #[]
  methods := #[]
  instanceTypes := #[]
  staticTypes := #[]
  resolved := Array.replicate 12 none
  statics := none }

def pool4 : Array CpInfo := pool [(2, .class_ 4), (1, u "java/lang/CharSequence"), (42, .class_ 48), (0, u "java/lang/CharSequence$1CodePointIterator"), (10, .class_ 60), (0, u "java/lang/CharSequence$1CharIterator"), (5, .class_ 67), (0, u "java/lang/Object")] 63

/-- java/lang/CharSequence -/
def k4 : Class := { plain "java/lang/CharSequence" (some 0) with
  accessFlags := 1537
  interfaces := #[]
  cf := some (fileOf pool4 2 #[.nestMembers #[47, 59]] #[] 1537 66 #[] #[])
  fields := #[]
  methods := #[]
  instanceTypes := #[]
  staticTypes := #[]
  resolved := Array.replicate 131 none
  statics := none }

def pool5 : Array CpInfo := pool [(1, .class_ 2), (0, u "java/lang/constant/Constable"), (0, .class_ 4), (0, u "java/lang/Object")] 6

/-- java/lang/constant/Constable -/
def k5 : Class := { plain "java/lang/constant/Constable" (some 0) with
  accessFlags := 1537
  interfaces := #[]
  cf := some (fileOf pool5 1 #[] #[] 1537 3 #[] #[])
  fields := #[]
  methods := #[]
  instanceTypes := #[]
  staticTypes := #[]
  resolved := Array.replicate 11 none
  statics := none }

def pool6 : Array CpInfo := pool [(1, .class_ 2), (0, u "java/lang/constant/ConstantDesc"), (0, .class_ 4), (0, u "java/lang/Object")] 32

/-- java/lang/constant/ConstantDesc -/
def k6 : Class := { plain "java/lang/constant/ConstantDesc" (some 0) with
  accessFlags := 1537
  interfaces := #[]
  cf := some (fileOf pool6 1 #[] #[] 1537 3 #[] #[])
  fields := #[]
  methods := #[]
  instanceTypes := #[]
  staticTypes := #[]
  resolved := Array.replicate 37 none
  statics := none }

def pool7 : Array CpInfo := pool [(1, .methodref 2 3), (0, .class_ 4), (0, .nameAndType 5 6), (0, u "java/lang/Object"), (0, u "<init>"), (0, u "()V"), (2, .fieldref 10 11), (0, .class_ 12), (0, .nameAndType 13 14), (0, u "java/lang/String"), (0, u "value"), (0, u "[B"), (0, .fieldref 10 16), (0, .nameAndType 17 18), (0, u "coder"), (0, u "B"), (2, u "hash"), (0, u "I"), (2, u "hashIsZero"), (0, u "Z"), (0, .methodref 10 28), (0, .nameAndType 5 29), (0, u "([CIILjava/lang/Void;)V"), (8, .fieldref 10 39), (0, .nameAndType 40 26), (0, u "COMPACT_STRINGS"), (1, .class_ 44), (1, u "java/lang/StringUTF16"), (0, u "compress"), (1, .methodref 42 48), (0, .nameAndType 49 50), (0, u "coderFromArrayLen"), (0, u "([BI)B"), (2, u "toBytes"), (53, .class_ 109), (1, u "java/lang/StringLatin1"), (32, u "()Z"), (34, .methodref 42 178), (0, .nameAndType 45 179), (0, u "([CII)[B"), (29, .methodref 10 210), (0, .nameAndType 5 211), (0, u "([BB)V"), (122, u "()I"), (0, .methodref 10 336), (0, .nameAndType 17 337), (0, u "()B"), (31, u "(C)Z"), (94, u "()Ljava/lang/String;"), (27, .methodref 10 493), (0, .nameAndType 494 142), (0, u "isLatin1"), (10, .methodref 10 506), (0, .nameAndType 507 334), (0, u "length"), (5, u "checkFromToIndex"), (7, .methodref 10 522), (0, .nameAndType 523 524), (0, u "checkBoundsBeginEnd"), (0, u "(III)V"), (16, .methodref 107 542), (0, .nameAndType 543 544), (0, u "equals"), (0, u "([B[B)Z"), (28, u "(Ljava/lang/Object;)Z"), (1, .class_ 576), (0, u "java/lang/CharSequence"), (5, .methodref 10 583), (0, .nameAndType 584 585), (0, u "regionMatches"), (0, u "(ZILjava/lang/String;II)Z"), (13, u "CASE_INSENSITIVE_ORDER"), (0, u "Ljava/util/Comparator;"), (12, .methodref 107 614), (0, .nameAndType 615 616), (0, u "regionMatchesCI"), (0, u "([BI[BII)Z"), (16, .methodref 10 634), (0, .nameAndType 635 636), (0, u "indexOf"), (0, u "(II)I"), (0, .methodref 107 638), (0, .nameAndType 635 639), (0, u "([BIII)I"), (41, .methodref 10 682), (0, .nameAndType 683 684), (0, u "substring"), (0, u "(II)Ljava/lang/String;"), (0, .methodref 107 686), (0, .nameAndType 687 688), (0, u "newString"), (0, u "([BII)Ljava/lang/String;"), (76, u "(I)I"), (16, u "valueOf"), (0, u "(C)Ljava/lang/String;"), (78, u "([B)Ljava/lang/String;"), (1, .methodref 107 865), (0, .nameAndType 866 862), (0, u "strip"), (25, u "(I)Ljava/lang/String;"), (117, u "([C)V"), (4, .methodref 107 1016), (0, .nameAndType 1017 369), (0, u "canEncode"), (0, .methodref 107 1019), (0, .nameAndType 53 1020), (0, u "(C)[B"), (32, .fieldref 1054 1055), (0, .class_ 1056), (0, .nameAndType 1057 1058), (0, u "jdk/internal/util/Preconditions"), (0, u "SIOOBE_FORMATTER"), (0, u "Ljava/util/function/BiFunction;"), (3, .methodref 1054 1063), (0, .nameAndType 513 1064), (0, u "(IIILjava/util/function/BiFunction;)I"), (36, u "serialPersistentFields"), (0, u "[Ljava/io/ObjectStreamField;"), (0, .class_ 1104), (0, u "java/lang/String$CaseInsensitiveComparator"), (1, .class_ 1107), (0, u "java/io/Serializable"), (0, .class_ 1109), (0, u "java/lang/Comparable"), (0, .class_ 1111), (0, u "java/lang/constant/Constable"), (0, .class_ 1113), (0, u "java/lang/constant/ConstantDesc"), (2, u "serialVersionUID"), (0, u "J"), (3, u "REPL"), (0, u "C"), (2, u "LATIN1"), (1, u "UTF16"), (128, u "equalsIgnoreCase"), (0, u "(Ljava/lang/String;)Z")] 193

def k7m0 : Method := { name := "<init>", desc := "()V", sig := { parameters := [], returnType := none }, accessFlags := 1, code := none }
def k7c1 : Code := { maxStack := 5, maxLocals := 2, code := jdk_42_method_3_code, exceptionTable := #[], attributes := #[] }
def k7m1 : Method := { name := "<init>", desc := "([C)V", sig := { parameters := [(.array .char)], returnType := none }, accessFlags := 1, code := some k7c1 }
def k7c2 : Code := { maxStack := 2, maxLocals := 1, code := jdk_42_method_54_code, exceptionTable := #[], attributes := #[] }
def k7m2 : Method := { name := "length", desc := "()I", sig := { parameters := [], returnType := some .int }, accessFlags := 1, code := some k7c2 }
def k7c3 : Code := { maxStack := 2, maxLocals := 3, code := jdk_42_method_66_code, exceptionTable := #[], attributes := #[] }
def k7m3 : Method := { name := "equals", desc := "(Ljava/lang/Object;)Z", sig := { parameters := [(.object "java/lang/Object")], returnType := some .boolean }, accessFlags := 1, code := some k7c3 }
def k7c4 : Code := { maxStack := 6, maxLocals := 2, code := jdk_42_method_70_code, exceptionTable := #[], attributes := #[] }
def k7m4 : Method := { name := "equalsIgnoreCase", desc := "(Ljava/lang/String;)Z", sig := { parameters := [(.object "java/lang/String")], returnType := some .boolean }, accessFlags := 1, code := some k7c4 }
def k7c5 : Code := { maxStack := 6, maxLocals := 9, code := jdk_42_method_74_code, exceptionTable := #[], attributes := #[] }
def k7m5 : Method := { name := "regionMatches", desc := "(ZILjava/lang/String;II)Z", sig := { parameters := [.boolean, .int, (.object "java/lang/String"), .int, .int], returnType := some .boolean }, accessFlags := 1, code := some k7c5 }
def k7c6 : Code := { maxStack := 3, maxLocals := 2, code := jdk_42_method_79_code, exceptionTable := #[], attributes := #[] }
def k7m6 : Method := { name := "indexOf", desc := "(I)I", sig := { parameters := [.int], returnType := some .int }, accessFlags := 1, code := some k7c6 }
def k7c7 : Code := { maxStack := 4, maxLocals := 3, code := jdk_42_method_80_code, exceptionTable := #[], attributes := #[] }
def k7m7 : Method := { name := "indexOf", desc := "(II)I", sig := { parameters := [.int, .int], returnType := some .int }, accessFlags := 1, code := some k7c7 }
def k7c8 : Code := { maxStack := 3, maxLocals := 2, code := jdk_42_method_91_code, exceptionTable := #[], attributes := #[] }
def k7m8 : Method := { name := "substring", desc := "(I)Ljava/lang/String;", sig := { parameters := [.int], returnType := some (.object "java/lang/String") }, accessFlags := 1, code := some k7c8 }
def k7c9 : Code := { maxStack := 3, maxLocals := 5, code := jdk_42_method_92_code, exceptionTable := #[], attributes := #[] }
def k7m9 : Method := { name := "substring", desc := "(II)Ljava/lang/String;", sig := { parameters := [.int, .int], returnType := some (.object "java/lang/String") }, accessFlags := 1, code := some k7c9 }
def k7c10 : Code := { maxStack := 1, maxLocals := 2, code := jdk_42_method_114_code, exceptionTable := #[], attributes := #[] }
def k7m10 : Method := { name := "strip", desc := "()Ljava/lang/String;", sig := { parameters := [], returnType := some (.object "java/lang/String") }, accessFlags := 1, code := some k7c10 }
def k7c11 : Code := { maxStack := 4, maxLocals := 1, code := jdk_42_method_139_code, exceptionTable := #[], attributes := #[] }
def k7m11 : Method := { name := "valueOf", desc := "(C)Ljava/lang/String;", sig := { parameters := [.char], returnType := some (.object "java/lang/String") }, accessFlags := 9, code := some k7c11 }
def k7c12 : Code := { maxStack := 4, maxLocals := 6, code := jdk_42_method_149_code, exceptionTable := #[], attributes := #[] }
def k7m12 : Method := { name := "<init>", desc := "([CIILjava/lang/Void;)V", sig := { parameters := [(.array .char), .int, .int, (.object "java/lang/Void")], returnType := none }, accessFlags := 2, code := some k7c12 }
def k7c13 : Code := { maxStack := 2, maxLocals := 3, code := jdk_42_method_151_code, exceptionTable := #[], attributes := #[] }
def k7m13 : Method := { name := "<init>", desc := "([BB)V", sig := { parameters := [(.array .byte), .byte], returnType := none }, accessFlags := 0, code := some k7c13 }
def k7c14 : Code := { maxStack := 1, maxLocals := 1, code := jdk_42_method_152_code, exceptionTable := #[], attributes := #[] }
def k7m14 : Method := { name := "coder", desc := "()B", sig := { parameters := [], returnType := some .byte }, accessFlags := 0, code := some k7c14 }
def k7c15 : Code := { maxStack := 1, maxLocals := 1, code := jdk_42_method_154_code, exceptionTable := #[], attributes := #[] }
def k7m15 : Method := { name := "isLatin1", desc := "()Z", sig := { parameters := [], returnType := some .boolean }, accessFlags := 0, code := some k7c15 }
def k7c16 : Code := { maxStack := 4, maxLocals := 3, code := jdk_42_method_158_code, exceptionTable := #[], attributes := #[] }
def k7m16 : Method := { name := "checkBoundsBeginEnd", desc := "(III)V", sig := { parameters := [.int, .int, .int], returnType := none }, accessFlags := 8, code := some k7c16 }
/-- java/lang/String -/
def k7 : Class := { plain "java/lang/String" (some 0) with
  accessFlags := 49
  interfaces := #[2, 3, 4, 5, 6]
  cf := some (fileOf pool7 10 #[.nestMembers #[1103]] #[{ accessFlags := 1, nameIndex := 5, descriptorIndex := 6, attributes := #[] }, { accessFlags := 1, nameIndex := 5, descriptorIndex := 1010, attributes := #[] }, { accessFlags := 1, nameIndex := 507, descriptorIndex := 334, attributes := #[] }, { accessFlags := 1, nameIndex := 543, descriptorIndex := 573, attributes := #[] }, { accessFlags := 1, nameIndex := 1256, descriptorIndex := 1257, attributes := #[] }, { accessFlags := 1, nameIndex := 584, descriptorIndex := 585, attributes := #[] }, { accessFlags := 1, nameIndex := 635, descriptorIndex := 765, attributes := #[] }, { accessFlags := 1, nameIndex := 635, descriptorIndex := 636, attributes := #[] }, { accessFlags := 1, nameIndex := 683, descriptorIndex := 892, attributes := #[] }, { accessFlags := 1, nameIndex := 683, descriptorIndex := 684, attributes := #[] }, { accessFlags := 1, nameIndex := 866, descriptorIndex := 464, attributes := #[] }, { accessFlags := 9, nameIndex := 782, descriptorIndex := 783, attributes := #[] }, { accessFlags := 2, nameIndex := 5, descriptorIndex := 29, attributes := #[] }, { accessFlags := 0, nameIndex := 5, descriptorIndex := 211, attributes := #[] }, { accessFlags := 0, nameIndex := 17, descriptorIndex := 337, attributes := #[] }, { accessFlags := 0, nameIndex := 494, descriptorIndex := 142, attributes := #[] }, { accessFlags := 8, nameIndex := 523, descriptorIndex := 524, attributes := #[] }] 49 2 #[1106, 1108, 575, 1110, 1112] #[{ accessFlags := 18, nameIndex := 13, descriptorIndex := 14, attributes := #[] }, { accessFlags := 18, nameIndex := 17, descriptorIndex := 18, attributes := #[] }, { accessFlags := 2, nameIndex := 21, descriptorIndex := 22, attributes := #[] }, { accessFlags := 2, nameIndex := 25, descriptorIndex := 26, attributes := #[] }, { accessFlags := 26, nameIndex := 1116, descriptorIndex := 1117, attributes := #[] }, { accessFlags := 24, nameIndex := 40, descriptorIndex := 26, attributes := #[] }, { accessFlags := 26, nameIndex := 1101, descriptorIndex := 1102, attributes := #[] }, { accessFlags := 26, nameIndex := 1121, descriptorIndex := 1122, attributes := #[] }, { accessFlags := 25, nameIndex := 599, descriptorIndex := 600, attributes := #[] }, { accessFlags := 24, nameIndex := 1125, descriptorIndex := 18, attributes := #[] }, { accessFlags := 24, nameIndex := 1127, descriptorIndex := 18, attributes := #[] }])
  fields := #[{ name := "value", type := (.array .byte), accessFlags := 18, slot := 0, constantValue := 0 }, { name := "coder", type := .byte, accessFlags := 18, slot := 1, constantValue := 0 }, { name := "hash", type := .int, accessFlags := 2, slot := 2, constantValue := 0 }, { name := "hashIsZero", type := .boolean, accessFlags := 2, slot := 3, constantValue := 0 }, { name := "serialVersionUID", type := .long, accessFlags := 26, slot := 0, constantValue := 0 }, { name := "COMPACT_STRINGS", type := .boolean, accessFlags := 24, slot := 1, constantValue := 0 }, { name := "serialPersistentFields", type := (.array (.object "java/io/ObjectStreamField")), accessFlags := 26, slot := 2, constantValue := 0 }, { name := "REPL", type := .char, accessFlags := 26, slot := 3, constantValue := 0 }, { name := "CASE_INSENSITIVE_ORDER", type := (.object "java/util/Comparator"), accessFlags := 25, slot := 4, constantValue := 0 }, { name := "LATIN1", type := .byte, accessFlags := 24, slot := 5, constantValue := 0 }, { name := "UTF16", type := .byte, accessFlags := 24, slot := 6, constantValue := 0 }]
  methods := #[k7m0, k7m1, k7m2, k7m3, k7m4, k7m5, k7m6, k7m7, k7m8, k7m9, k7m10, k7m11, k7m12, k7m13, k7m14, k7m15, k7m16]
  instanceTypes := #[(.array .byte), .byte, .int, .boolean]
  staticTypes := #[.long, .boolean, (.array (.object "java/io/ObjectStreamField")), .char, (.object "java/util/Comparator"), .byte, .byte]
  resolved := Array.replicate 1451 none
  statics := some 0 }

def pool8 : Array CpInfo := pool [(6, .class_ 8), (1, u "java/lang/Object"), (0, u "<init>"), (0, u "()V"), (1, .class_ 14), (1, u "java/lang/StringUTF16"), (31, u "$assertionsDisabled"), (0, u "Z"), (13, u "HI_BYTE_SHIFT"), (0, u "I"), (2, u "LO_BYTE_SHIFT"), (49, .methodref 12 116), (0, .nameAndType 117 118), (0, u "compress"), (0, u "([CI[BII)I"), (3, u "([CII)[B"), (138, u "coderFromArrayLen"), (0, u "([BI)B"), (106, .class_ 371), (1, u "java/lang/StringUTF16$LinesSpliterator"), (58, u "MAX_LENGTH"), (196, .class_ 628), (0, u "java/lang/StringUTF16$CodePointsSpliterator"), (0, .class_ 630), (0, u "java/lang/StringUTF16$CharsSpliterator")] 4

def k8m0 : Method := { name := "<init>", desc := "()V", sig := { parameters := [], returnType := none }, accessFlags := 0, code := none }
def k8c1 : Code := { maxStack := 2, maxLocals := 2, code := jdk_52_method_15_code, exceptionTable := #[], attributes := #[] }
def k8m1 : Method := { name := "coderFromArrayLen", desc := "([BI)B", sig := { parameters := [(.array .byte), .int], returnType := some .byte }, accessFlags := 8, code := some k8c1 }
def k8c2 : Code := { maxStack := 5, maxLocals := 6, code := jdk_52_method_16_code, exceptionTable := #[], attributes := #[] }
def k8m2 : Method := { name := "compress", desc := "([CII)[B", sig := { parameters := [(.array .char), .int, .int], returnType := some (.array .byte) }, accessFlags := 9, code := some k8c2 }
def k8c3 : Code := { maxStack := 3, maxLocals := 7, code := jdk_52_method_21_code, exceptionTable := #[], attributes := #[] }
def k8m3 : Method := { name := "compress", desc := "([CI[BII)I", sig := { parameters := [(.array .char), .int, (.array .byte), .int, .int], returnType := some .int }, accessFlags := 9, code := some k8c3 }
/-- java/lang/StringUTF16 -/
def k8 : Class := { plain "java/lang/StringUTF16" (some 0) with
  accessFlags := 48
  interfaces := #[]
  cf := some (fileOf pool8 12 #[.nestMembers #[627, 629, 369]] #[{ accessFlags := 0, nameIndex := 9, descriptorIndex := 10, attributes := #[] }, { accessFlags := 8, nameIndex := 261, descriptorIndex := 262, attributes := #[] }, { accessFlags := 9, nameIndex := 117, descriptorIndex := 122, attributes := #[] }, { accessFlags := 9, nameIndex := 117, descriptorIndex := 118, attributes := #[] }] 48 6 #[] #[{ accessFlags := 26, nameIndex := 61, descriptorIndex := 62, attributes := #[] }, { accessFlags := 26, nameIndex := 65, descriptorIndex := 62, attributes := #[] }, { accessFlags := 24, nameIndex := 430, descriptorIndex := 62, attributes := #[] }, { accessFlags := 4120, nameIndex := 46, descriptorIndex := 47, attributes := #[] }])
  fields := #[{ name := "HI_BYTE_SHIFT", type := .int, accessFlags := 26, slot := 0, constantValue := 0 }, { name := "LO_BYTE_SHIFT", type := .int, accessFlags := 26, slot := 1, constantValue := 0 }, { name := "MAX_LENGTH", type := .int, accessFlags := 24, slot := 2, constantValue := 0 }, { name := "$assertionsDisabled", type := .boolean, accessFlags := 4120, slot := 3, constantValue := 0 }]
  methods := #[k8m0, k8m1, k8m2, k8m3]
  instanceTypes := #[]
  staticTypes := #[.int, .int, .int, .boolean]
  resolved := Array.replicate 635 none
  statics := none }

def pool9 : Array CpInfo := pool [(2, .class_ 4), (1, u "java/lang/Object"), (0, u "<init>"), (0, u "()V"), (0, .methodref 8 9), (0, .class_ 10), (0, .nameAndType 11 12), (0, u "java/lang/String"), (0, u "indexOf"), (0, u "(I)I"), (0, .methodref 8 14), (0, .nameAndType 15 16), (0, u "substring"), (0, u "(II)Ljava/lang/String;"), (0, .methodref 8 18), (0, .nameAndType 19 20), (0, u "equalsIgnoreCase"), (0, u "(Ljava/lang/String;)Z"), (0, .string 22), (0, u ""), (0, .methodref 8 24), (0, .nameAndType 15 25), (0, u "(I)Ljava/lang/String;"), (0, .methodref 8 27), (0, .nameAndType 28 29), (0, u "strip"), (0, u "()Ljava/lang/String;"), (0, .class_ 31), (0, u "com/example/portcullis/portcullis/service/AuthorizationHeader"), (0, u "REPEATED"), (0, u "Ljava/lang/String;"), (5, u "credentials"), (0, u "(Ljava/lang/String;Ljava/lang/String;)Ljava/lang/String;")] 3

def k9m0 : Method := { name := "<init>", desc := "()V", sig := { parameters := [], returnType := none }, accessFlags := 2, code := none }
def k9c1 : Code := { maxStack := 3, maxLocals := 5, code := prog_18_method_2_code, exceptionTable := #[], attributes := #[] }
def k9m1 : Method := { name := "credentials", desc := "(Ljava/lang/String;Ljava/lang/String;)Ljava/lang/String;", sig := { parameters := [(.object "java/lang/String"), (.object "java/lang/String")], returnType := some (.object "java/lang/String") }, accessFlags := 8, code := some k9c1 }
/-- com/example/portcullis/portcullis/service/AuthorizationHeader -/
def k9 : Class := { plain "com/example/portcullis/portcullis/service/AuthorizationHeader" (some 0) with
  accessFlags := 48
  interfaces := #[]
  cf := some (fileOf pool9 30 #[] #[{ accessFlags := 2, nameIndex := 5, descriptorIndex := 6, attributes := #[] }, { accessFlags := 8, nameIndex := 39, descriptorIndex := 40, attributes := #[] }] 48 2 #[] #[{ accessFlags := 24, nameIndex := 32, descriptorIndex := 33, attributes := #[] }])
  fields := #[{ name := "REPEATED", type := (.object "java/lang/String"), accessFlags := 24, slot := 0, constantValue := 0 }]
  methods := #[k9m0, k9m1]
  instanceTypes := #[]
  staticTypes := #[(.object "java/lang/String")]
  resolved := Array.replicate 44 none
  statics := none }

def pool10 : Array CpInfo := pool [(1, .class_ 2), (0, u "java/lang/String"), (1, .class_ 6), (1, u "java/lang/Object"), (0, u "<init>"), (0, u "()V"), (5, .class_ 16), (1, u "java/lang/StringLatin1"), (21, .methodref 39 40), (0, .class_ 41), (0, .nameAndType 42 43), (0, u "java/lang/Math"), (0, u "min"), (0, u "(II)I"), (6, .methodref 14 51), (0, .nameAndType 52 53), (0, u "getChar"), (0, u "([BI)C"), (3, u "([B)I"), (8, .fieldref 67 68), (0, .class_ 69), (0, .nameAndType 70 71), (0, u "java/lang/CharacterDataLatin1"), (0, u "instance"), (0, u "Ljava/lang/CharacterDataLatin1;"), (16, .methodref 14 89), (0, .nameAndType 90 91), (0, u "canEncode"), (0, u "(I)Z"), (0, .methodref 39 93), (0, .nameAndType 94 43), (0, u "max"), (0, .methodref 14 96), (0, .nameAndType 97 98), (0, u "indexOfChar"), (0, u "([BIII)I"), (2, u "indexOf"), (3, u "(C)Z"), (6, .methodref 1 113), (0, .nameAndType 7 114), (0, u "([BB)V"), (6, u "$assertionsDisabled"), (0, u "Z"), (8, .class_ 133), (1, u "java/util/Arrays"), (17, .string 152), (0, u ""), (0, .methodref 67 154), (0, .nameAndType 155 156), (0, u "equalsIgnoreCase"), (0, u "(BB)Z"), (38, .nameAndType 196 197), (0, u "newString"), (0, u "([BII)Ljava/lang/String;"), (12, .methodref 14 195), (0, .methodref 67 212), (0, .nameAndType 213 91), (0, u "isWhitespace"), (0, .methodref 14 215), (0, .nameAndType 216 57), (0, u "indexOfNonWhitespace"), (0, .methodref 14 218), (0, .nameAndType 219 57), (0, u "lastIndexOfNonWhitespace"), (1, .class_ 223), (1, u "java/lang/StringLatin1$LinesSpliterator"), (8, .methodref 131 233), (0, .nameAndType 234 235), (0, u "copyOfRange"), (0, u "([BII)[B"), (45, u "equals"), (0, u "([B[B)Z"), (57, u "regionMatchesCI"), (0, u "([BI[BII)Z"), (25, u "([B)Ljava/lang/String;"), (3, u "strip"), (8, u "toBytes"), (1, u "(C)[B"), (7, .class_ 391), (0, u "java/lang/StringLatin1$CharsSpliterator")] 3

def k10m0 : Method := { name := "<init>", desc := "()V", sig := { parameters := [], returnType := none }, accessFlags := 0, code := none }
def k10c1 : Code := { maxStack := 2, maxLocals := 1, code := jdk_43_method_3_code, exceptionTable := #[], attributes := #[] }
def k10m1 : Method := { name := "canEncode", desc := "(C)Z", sig := { parameters := [.char], returnType := some .boolean }, accessFlags := 9, code := some k10c1 }
def k10c2 : Code := { maxStack := 2, maxLocals := 1, code := jdk_43_method_4_code, exceptionTable := #[], attributes := #[] }
def k10m2 : Method := { name := "canEncode", desc := "(I)Z", sig := { parameters := [.int], returnType := some .boolean }, accessFlags := 9, code := some k10c2 }
def k10c3 : Code := { maxStack := 3, maxLocals := 3, code := jdk_43_method_13_code, exceptionTable := #[], attributes := #[] }
def k10m3 : Method := { name := "equals", desc := "([B[B)Z", sig := { parameters := [(.array .byte), (.array .byte)], returnType := some .boolean }, accessFlags := 9, code := some k10c3 }
def k10c4 : Code := { maxStack := 4, maxLocals := 4, code := jdk_43_method_22_code, exceptionTable := #[], attributes := #[] }
def k10m4 : Method := { name := "indexOf", desc := "([BIII)I", sig := { parameters := [(.array .byte), .int, .int, .int], returnType := some .int }, accessFlags := 9, code := some k10c4 }
def k10c5 : Code := { maxStack := 2, maxLocals := 6, code := jdk_43_method_23_code, exceptionTable := #[], attributes := #[] }
def k10m5 : Method := { name := "indexOfChar", desc := "([BIII)I", sig := { parameters := [(.array .byte), .int, .int, .int], returnType := some .int }, accessFlags := 10, code := some k10c5 }
def k10c6 : Code := { maxStack := 2, maxLocals := 8, code := jdk_43_method_30_code, exceptionTable := #[], attributes := #[] }
def k10m6 : Method := { name := "regionMatchesCI", desc := "([BI[BII)Z", sig := { parameters := [(.array .byte), .int, (.array .byte), .int, .int], returnType := some .boolean }, accessFlags := 9, code := some k10c6 }
def k10c7 : Code := { maxStack := 2, maxLocals := 4, code := jdk_43_method_37_code, exceptionTable := #[], attributes := #[] }
def k10m7 : Method := { name := "indexOfNonWhitespace", desc := "([B)I", sig := { parameters := [(.array .byte)], returnType := some .int }, accessFlags := 9, code := some k10c7 }
def k10c8 : Code := { maxStack := 3, maxLocals := 4, code := jdk_43_method_38_code, exceptionTable := #[], attributes := #[] }
def k10m8 : Method := { name := "lastIndexOfNonWhitespace", desc := "([B)I", sig := { parameters := [(.array .byte)], returnType := some .int }, accessFlags := 9, code := some k10c8 }
def k10c9 : Code := { maxStack := 4, maxLocals := 4, code := jdk_43_method_39_code, exceptionTable := #[], attributes := #[] }
def k10m9 : Method := { name := "strip", desc := "([B)Ljava/lang/String;", sig := { parameters := [(.array .byte)], returnType := some (.object "java/lang/String") }, accessFlags := 9, code := some k10c9 }
def k10c10 : Code := { maxStack := 2, maxLocals := 2, code := jdk_43_method_44_code, exceptionTable := #[], attributes := #[] }
def k10m10 : Method := { name := "getChar", desc := "([BI)C", sig := { parameters := [(.array .byte), .int], returnType := some .char }, accessFlags := 9, code := some k10c10 }
def k10c11 : Code := { maxStack := 4, maxLocals := 1, code := jdk_43_method_46_code, exceptionTable := #[], attributes := #[] }
def k10m11 : Method := { name := "toBytes", desc := "(C)[B", sig := { parameters := [.char], returnType := some (.array .byte) }, accessFlags := 9, code := some k10c11 }
def k10c12 : Code := { maxStack := 6, maxLocals := 3, code := jdk_43_method_47_code, exceptionTable := #[], attributes := #[] }
def k10m12 : Method := { name := "newString", desc := "([BII)Ljava/lang/String;", sig := { parameters := [(.array .byte), .int, .int], returnType := some (.object "java/lang/String") }, accessFlags := 9, code := some k10c12 }
/-- java/lang/StringLatin1 -/
def k10 : Class := { plain "java/lang/StringLatin1" (some 0) with
  accessFlags := 48
  interfaces := #[]
  cf := some (fileOf pool10 14 #[.nestMembers #[390, 221]] #[{ accessFlags := 0, nameIndex := 7, descriptorIndex := 8, attributes := #[] }, { accessFlags := 9, nameIndex := 90, descriptorIndex := 105, attributes := #[] }, { accessFlags := 9, nameIndex := 90, descriptorIndex := 91, attributes := #[] }, { accessFlags := 9, nameIndex := 281, descriptorIndex := 282, attributes := #[] }, { accessFlags := 9, nameIndex := 101, descriptorIndex := 98, attributes := #[] }, { accessFlags := 10, nameIndex := 97, descriptorIndex := 98, attributes := #[] }, { accessFlags := 9, nameIndex := 340, descriptorIndex := 341, attributes := #[] }, { accessFlags := 9, nameIndex := 216, descriptorIndex := 57, attributes := #[] }, { accessFlags := 9, nameIndex := 219, descriptorIndex := 57, attributes := #[] }, { accessFlags := 9, nameIndex := 371, descriptorIndex := 367, attributes := #[] }, { accessFlags := 9, nameIndex := 52, descriptorIndex := 53, attributes := #[] }, { accessFlags := 9, nameIndex := 380, descriptorIndex := 382, attributes := #[] }, { accessFlags := 9, nameIndex := 196, descriptorIndex := 197, attributes := #[] }] 48 4 #[] #[{ accessFlags := 4120, nameIndex := 121, descriptorIndex := 122, attributes := #[] }])
  fields := #[{ name := "$assertionsDisabled", type := .boolean, accessFlags := 4120, slot := 0, constantValue := 0 }]
  methods := #[k10m0, k10m1, k10m2, k10m3, k10m4, k10m5, k10m6, k10m7, k10m8, k10m9, k10m10, k10m11, k10m12]
  instanceTypes := #[]
  staticTypes := #[.boolean]
  resolved := Array.replicate 395 none
  statics := none }

def pool11 : Array CpInfo := pool [(1, .class_ 2), (0, u "java/lang/Math"), (1, .class_ 6), (1, u "java/lang/Object"), (0, u "<init>"), (0, u "()V"), (89, .class_ 100), (1, u "java/lang/Math$RandomNumberGeneratorHolder"), (71, u "negativeZeroFloatBits"), (0, u "J"), (2, u "negativeZeroDoubleBits"), (21, u "max"), (2, u "min"), (43, u "$assertionsDisabled"), (0, u "Z"), (88, u "(II)I"), (2, u "twoToTheDoubleScaleDown"), (0, u "D"), (4, u "twoToTheDoubleScaleUp"), (9, u "E"), (3, u "PI"), (2, u "TAU"), (2, u "DEGREES_TO_RADIANS"), (0, u "RADIANS_TO_DEGREES")] 94

def k11m0 : Method := { name := "<init>", desc := "()V", sig := { parameters := [], returnType := none }, accessFlags := 2, code := none }
def k11c1 : Code := { maxStack := 2, maxLocals := 2, code := jdk_29_method_65_code, exceptionTable := #[], attributes := #[] }
def k11m1 : Method := { name := "max", desc := "(II)I", sig := { parameters := [.int, .int], returnType := some .int }, accessFlags := 9, code := some k11c1 }
def k11c2 : Code := { maxStack := 2, maxLocals := 2, code := jdk_29_method_69_code, exceptionTable := #[], attributes := #[] }
def k11m2 : Method := { name := "min", desc := "(II)I", sig := { parameters := [.int, .int], returnType := some .int }, accessFlags := 9, code := some k11c2 }
/-- java/lang/Math -/
def k11 : Class := { plain "java/lang/Math" (some 0) with
  accessFlags := 49
  interfaces := #[]
  cf := some (fileOf pool11 1 #[.nestMembers #[98]] #[{ accessFlags := 2, nameIndex := 7, descriptorIndex := 8, attributes := #[] }, { accessFlags := 9, nameIndex := 198, descriptorIndex := 335, attributes := #[] }, { accessFlags := 9, nameIndex := 201, descriptorIndex := 335, attributes := #[] }] 49 4 #[] #[{ accessFlags := 25, nameIndex := 354, descriptorIndex := 339, attributes := #[] }, { accessFlags := 25, nameIndex := 358, descriptorIndex := 339, attributes := #[] }, { accessFlags := 25, nameIndex := 361, descriptorIndex := 339, attributes := #[] }, { accessFlags := 26, nameIndex := 364, descriptorIndex := 339, attributes := #[] }, { accessFlags := 26, nameIndex := 365, descriptorIndex := 339, attributes := #[] }, { accessFlags := 26, nameIndex := 172, descriptorIndex := 173, attributes := #[] }, { accessFlags := 26, nameIndex := 176, descriptorIndex := 173, attributes := #[] }, { accessFlags := 8, nameIndex := 344, descriptorIndex := 339, attributes := #[] }, { accessFlags := 8, nameIndex := 338, descriptorIndex := 339, attributes := #[] }, { accessFlags := 4120, nameIndex := 245, descriptorIndex := 246, attributes := #[] }])
  fields := #[{ name := "E", type := .double, accessFlags := 25, slot := 0, constantValue := 0 }, { name := "PI", type := .double, accessFlags := 25, slot := 1, constantValue := 0 }, { name := "TAU", type := .double, accessFlags := 25, slot := 2, constantValue := 0 }, { name := "DEGREES_TO_RADIANS", type := .double, accessFlags := 26, slot := 3, constantValue := 0 }, { name := "RADIANS_TO_DEGREES", type := .double, accessFlags := 26, slot := 4, constantValue := 0 }, { name := "negativeZeroFloatBits", type := .long, accessFlags := 26, slot := 5, constantValue := 0 }, { name := "negativeZeroDoubleBits", type := .long, accessFlags := 26, slot := 6, constantValue := 0 }, { name := "twoToTheDoubleScaleUp", type := .double, accessFlags := 8, slot := 7, constantValue := 0 }, { name := "twoToTheDoubleScaleDown", type := .double, accessFlags := 8, slot := 8, constantValue := 0 }, { name := "$assertionsDisabled", type := .boolean, accessFlags := 4120, slot := 9, constantValue := 0 }]
  methods := #[k11m0, k11m1, k11m2]
  instanceTypes := #[]
  staticTypes := #[.double, .double, .double, .double, .double, .long, .long, .double, .double, .boolean]
  resolved := Array.replicate 460 none
  statics := none }

def pool12 : Array CpInfo := pool [(2, .class_ 4), (1, u "java/lang/Object"), (0, u "<init>"), (0, u "()V"), (17, .class_ 26), (1, u "jdk/internal/util/Preconditions"), (20, u "checkFromToIndex"), (7, .class_ 56), (0, u "jdk/internal/util/Preconditions$4"), (57, .class_ 115), (0, u "jdk/internal/util/Preconditions$1"), (7, u "SIOOBE_FORMATTER"), (0, u "Ljava/util/function/BiFunction;"), (0, .class_ 126), (0, u "jdk/internal/util/Preconditions$2"), (3, u "AIOOBE_FORMATTER"), (0, .class_ 132), (0, u "jdk/internal/util/Preconditions$3"), (3, u "IOOBE_FORMATTER"), (46, u "(IIILjava/util/function/BiFunction;)I")] 10

def k12m0 : Method := { name := "<init>", desc := "()V", sig := { parameters := [], returnType := none }, accessFlags := 1, code := none }
def k12c1 : Code := { maxStack := 4, maxLocals := 4, code := jdk_41_method_12_code, exceptionTable := #[], attributes := #[] }
def k12m1 : Method := { name := "checkFromToIndex", desc := "(IIILjava/util/function/BiFunction;)I", sig := { parameters := [.int, .int, .int, (.object "java/util/function/BiFunction")], returnType := some .int }, accessFlags := 9, code := some k12c1 }
/-- jdk/internal/util/Preconditions -/
def k12 : Class := { plain "jdk/internal/util/Preconditions" (some 0) with
  accessFlags := 33
  interfaces := #[]
  cf := some (fileOf pool12 24 #[.nestMembers #[55, 131, 125, 114]] #[{ accessFlags := 1, nameIndex := 5, descriptorIndex := 6, attributes := #[] }, { accessFlags := 9, nameIndex := 47, descriptorIndex := 183, attributes := #[] }] 33 2 #[] #[{ accessFlags := 25, nameIndex := 123, descriptorIndex := 124, attributes := #[] }, { accessFlags := 25, nameIndex := 130, descriptorIndex := 124, attributes := #[] }, { accessFlags := 25, nameIndex := 136, descriptorIndex := 124, attributes := #[] }])
  fields := #[{ name := "SIOOBE_FORMATTER", type := (.object "java/util/function/BiFunction"), accessFlags := 25, slot := 0, constantValue := 0 }, { name := "AIOOBE_FORMATTER", type := (.object "java/util/function/BiFunction"), accessFlags := 25, slot := 1, constantValue := 0 }, { name := "IOOBE_FORMATTER", type := (.object "java/util/function/BiFunction"), accessFlags := 25, slot := 2, constantValue := 0 }]
  methods := #[k12m0, k12m1]
  instanceTypes := #[]
  staticTypes := #[(.object "java/util/function/BiFunction"), (.object "java/util/function/BiFunction"), (.object "java/util/function/BiFunction")]
  resolved := Array.replicate 194 none
  statics := some 1 }

def pool13 : Array CpInfo := pool [(2, .class_ 4), (1, u "java/lang/Object"), (0, u "<init>"), (0, u "()V"), (7, .class_ 16), (1, u "java/util/Arrays"), (57, .class_ 76), (1, u "java/util/Arrays$NaturalOrder"), (36, .class_ 115), (1, u "java/util/Arrays$LegacyMergeSort"), (1, u "Z"), (21, u "copyOfRange"), (10, .methodref 151 152), (0, .class_ 153), (0, .nameAndType 154 155), (0, u "java/lang/System"), (0, u "arraycopy"), (0, u "(Ljava/lang/Object;ILjava/lang/Object;II)V"), (148, .methodref 305 306), (0, .class_ 307), (0, .nameAndType 308 309), (0, u "java/lang/Math"), (0, u "min"), (0, u "(II)I"), (29, .methodref 14 340), (0, .nameAndType 341 342), (0, u "copyOfRangeByte"), (0, u "([BII)[B"), (0, .methodref 14 344), (0, .nameAndType 345 346), (0, u "checkLength"), (0, u "(II)V"), (28, .class_ 376), (0, u "java/util/Arrays$ArrayList"), (68, u "$assertionsDisabled"), (269, u "MIN_ARRAY_SORT_GRAN"), (0, u "I"), (2, u "INSERTIONSORT_THRESHOLD"), (255, .class_ 976), (0, u "java/util/Arrays$ArrayItr")] 52

def k13m0 : Method := { name := "<init>", desc := "()V", sig := { parameters := [], returnType := none }, accessFlags := 2, code := none }
def k13c1 : Code := { maxStack := 4, maxLocals := 2, code := jdk_65_method_131_code, exceptionTable := #[], attributes := #[] }
def k13m1 : Method := { name := "checkLength", desc := "(II)V", sig := { parameters := [.int, .int], returnType := none }, accessFlags := 10, code := some k13c1 }
def k13c2 : Code := { maxStack := 3, maxLocals := 3, code := jdk_65_method_132_code, exceptionTable := #[], attributes := #[] }
def k13m2 : Method := { name := "copyOfRange", desc := "([BII)[B", sig := { parameters := [(.array .byte), .int, .int], returnType := some (.array .byte) }, accessFlags := 9, code := some k13c2 }
def k13c3 : Code := { maxStack := 6, maxLocals := 5, code := jdk_65_method_133_code, exceptionTable := #[], attributes := #[] }
def k13m3 : Method := { name := "copyOfRangeByte", desc := "([BII)[B", sig := { parameters := [(.array .byte), .int, .int], returnType := some (.array .byte) }, accessFlags := 10, code := some k13c3 }
/-- java/util/Arrays -/
def k13 : Class := { plain "java/util/Arrays" (some 0) with
  accessFlags := 49
  interfaces := #[]
  cf := some (fileOf pool13 14 #[.nestMembers #[975, 375, 113, 74]] #[{ accessFlags := 2, nameIndex := 5, descriptorIndex := 6, attributes := #[] }, { accessFlags := 10, nameIndex := 345, descriptorIndex := 346, attributes := #[] }, { accessFlags := 9, nameIndex := 139, descriptorIndex := 342, attributes := #[] }, { accessFlags := 10, nameIndex := 341, descriptorIndex := 342, attributes := #[] }] 49 2 #[] #[{ accessFlags := 26, nameIndex := 715, descriptorIndex := 716, attributes := #[] }, { accessFlags := 26, nameIndex := 719, descriptorIndex := 716, attributes := #[] }, { accessFlags := 4120, nameIndex := 445, descriptorIndex := 117, attributes := #[] }])
  fields := #[{ name := "MIN_ARRAY_SORT_GRAN", type := .int, accessFlags := 26, slot := 0, constantValue := 0 }, { name := "INSERTIONSORT_THRESHOLD", type := .int, accessFlags := 26, slot := 1, constantValue := 0 }, { name := "$assertionsDisabled", type := .boolean, accessFlags := 4120, slot := 2, constantValue := 0 }]
  methods := #[k13m0, k13m1, k13m2, k13m3]
  instanceTypes := #[]
  staticTypes := #[.int, .int, .boolean]
  resolved := Array.replicate 1029 none
  statics := none }

def pool14 : Array CpInfo := pool [(2, .class_ 4), (1, u "java/lang/Object"), (0, u "<init>"), (0, u "()V"), (1, .class_ 10), (1, u "java/lang/System"), (0, u "allowSecurityManager"), (0, u "I"), (16, u "cons"), (0, u "Ljava/io/Console;"), (77, .class_ 110), (1, u "java/lang/System$CallersHolder"), (43, u "initialErrStream"), (0, u "Ljava/io/PrintStream;"), (19, u "security"), (0, u "Ljava/lang/SecurityManager;"), (31, .class_ 209), (0, u "java/lang/System$1"), (7, u "props"), (0, u "Ljava/util/Properties;"), (2, u "lineSeparator"), (0, u "Ljava/lang/String;"), (96, .class_ 321), (1, u "java/lang/System$LoggerFinder"), (5, .class_ 328), (0, u "java/lang/System$Logger"), (67, u "err"), (2, u "out"), (91, u "notSupportedJnuEncoding"), (15, u "in"), (17, u "initialIn"), (0, u "Ljava/io/InputStream;"), (35, u "bootLayer"), (0, u "Ljava/lang/ModuleLayer;"), (99, .class_ 664), (0, u "java/lang/System$2"), (9, u "NEVER"), (2, u "MAYBE"), (49, u "arraycopy"), (0, u "(Ljava/lang/Object;ILjava/lang/Object;II)V"), (72, .class_ 802), (0, u "java/lang/System$Logger$Level")] 31

def k14m0 : Method := { name := "<init>", desc := "()V", sig := { parameters := [], returnType := none }, accessFlags := 2, code := none }
def k14m1 : Method := { name := "arraycopy", desc := "(Ljava/lang/Object;ILjava/lang/Object;II)V", sig := { parameters := [(.object "java/lang/Object"), .int, (.object "java/lang/Object"), .int, .int], returnType := none }, accessFlags := 265, code := none }
/-- java/lang/System -/
def k14 : Class := { plain "java/lang/System" (some 0) with
  accessFlags := 49
  interfaces := #[]
  cf := some (fileOf pool14 8 #[.nestMembers #[319, 327, 801, 108, 663, 208]] #[{ accessFlags := 2, nameIndex := 5, descriptorIndex := 6, attributes := #[] }, { accessFlags := 265, nameIndex := 727, descriptorIndex := 728, attributes := #[] }] 49 2 #[] #[{ accessFlags := 25, nameIndex := 507, descriptorIndex := 526, attributes := #[] }, { accessFlags := 25, nameIndex := 399, descriptorIndex := 155, attributes := #[] }, { accessFlags := 25, nameIndex := 396, descriptorIndex := 155, attributes := #[] }, { accessFlags := 10, nameIndex := 525, descriptorIndex := 526, attributes := #[] }, { accessFlags := 26, nameIndex := 674, descriptorIndex := 12, attributes := #[] }, { accessFlags := 26, nameIndex := 677, descriptorIndex := 12, attributes := #[] }, { accessFlags := 10, nameIndex := 11, descriptorIndex := 12, attributes := #[] }, { accessFlags := 74, nameIndex := 175, descriptorIndex := 176, attributes := #[] }, { accessFlags := 10, nameIndex := 491, descriptorIndex := 222, attributes := #[] }, { accessFlags := 74, nameIndex := 29, descriptorIndex := 30, attributes := #[] }, { accessFlags := 74, nameIndex := 154, descriptorIndex := 155, attributes := #[] }, { accessFlags := 10, nameIndex := 217, descriptorIndex := 218, attributes := #[] }, { accessFlags := 10, nameIndex := 221, descriptorIndex := 222, attributes := #[] }, { accessFlags := 8, nameIndex := 562, descriptorIndex := 563, attributes := #[] }])
  fields := #[{ name := "in", type := (.object "java/io/InputStream"), accessFlags := 25, slot := 0, constantValue := 0 }, { name := "out", type := (.object "java/io/PrintStream"), accessFlags := 25, slot := 1, constantValue := 0 }, { name := "err", type := (.object "java/io/PrintStream"), accessFlags := 25, slot := 2, constantValue := 0 }, { name := "initialIn", type := (.object "java/io/InputStream"), accessFlags := 10, slot := 3, constantValue := 0 }, { name := "NEVER", type := .int, accessFlags := 26, slot := 4, constantValue := 0 }, { name := "MAYBE", type := .int, accessFlags := 26, slot := 5, constantValue := 0 }, { name := "allowSecurityManager", type := .int, accessFlags := 10, slot := 6, constantValue := 0 }, { name := "security", type := (.object "java/lang/SecurityManager"), accessFlags := 74, slot := 7, constantValue := 0 }, { name := "notSupportedJnuEncoding", type := (.object "java/lang/String"), accessFlags := 10, slot := 8, constantValue := 0 }, { name := "cons", type := (.object "java/io/Console"), accessFlags := 74, slot := 9, constantValue := 0 }, { name := "initialErrStream", type := (.object "java/io/PrintStream"), accessFlags := 74, slot := 10, constantValue := 0 }, { name := "props", type := (.object "java/util/Properties"), accessFlags := 10, slot := 11, constantValue := 0 }, { name := "lineSeparator", type := (.object "java/lang/String"), accessFlags := 10, slot := 12, constantValue := 0 }, { name := "bootLayer", type := (.object "java/lang/ModuleLayer"), accessFlags := 8, slot := 13, constantValue := 0 }]
  methods := #[k14m0, k14m1]
  instanceTypes := #[]
  staticTypes := #[(.object "java/io/InputStream"), (.object "java/io/PrintStream"), (.object "java/io/PrintStream"), (.object "java/io/InputStream"), .int, .int, .int, (.object "java/lang/SecurityManager"), (.object "java/lang/String"), (.object "java/io/Console"), (.object "java/io/PrintStream"), (.object "java/util/Properties"), (.object "java/lang/String"), (.object "java/lang/ModuleLayer")]
  resolved := Array.replicate 834 none
  statics := none }

def pool15 : Array CpInfo := pool [(2, .class_ 4), (1, u "java/lang/Object"), (0, u "<init>"), (0, u "()V"), (1, .class_ 10), (1, u "java/lang/CharacterData")] 75

def k15m0 : Method := { name := "<init>", desc := "()V", sig := { parameters := [], returnType := none }, accessFlags := 0, code := none }
/-- java/lang/CharacterData -/
def k15 : Class := { plain "java/lang/CharacterData" (some 0) with
  accessFlags := 1056
  interfaces := #[]
  cf := some (fileOf pool15 8 #[] #[{ accessFlags := 0, nameIndex := 5, descriptorIndex := 6, attributes := #[] }] 1056 2 #[] #[])
  fields := #[]
  methods := #[k15m0]
  instanceTypes := #[]
  staticTypes := #[]
  resolved := Array.replicate 86 none
  statics := none }

def pool16 : Array CpInfo := pool [(1, .fieldref 2 3), (0, .class_ 4), (0, .nameAndType 5 6), (0, u "java/lang/CharacterDataLatin1"), (0, u "A"), (0, u "[I"), (2, u "B"), (0, u "[C"), (3, u "(I)I"), (0, .methodref 2 16), (0, .nameAndType 17 14), (0, u "getProperties"), (3, u "(I)Z"), (5, u "DIGITS"), (0, u "[B"), (8, u "sharpsMap"), (1, .class_ 41), (1, u "java/lang/CharacterData"), (0, u "<init>"), (0, u "()V"), (3, u "instance"), (0, u "Ljava/lang/CharacterDataLatin1;"), (66, u "equalsIgnoreCase"), (0, u "(BB)Z"), (10, u "isWhitespace")] 13

def k16c0 : Code := { maxStack := 2, maxLocals := 4, code := jdk_116_method_1_code, exceptionTable := #[], attributes := #[] }
def k16m0 : Method := { name := "getProperties", desc := "(I)I", sig := { parameters := [.int], returnType := some .int }, accessFlags := 0, code := some k16c0 }
def k16c1 : Code := { maxStack := 3, maxLocals := 3, code := jdk_116_method_22_code, exceptionTable := #[], attributes := #[] }
def k16m1 : Method := { name := "equalsIgnoreCase", desc := "(BB)Z", sig := { parameters := [.byte, .byte], returnType := some .boolean }, accessFlags := 8, code := some k16c1 }
def k16c2 : Code := { maxStack := 2, maxLocals := 3, code := jdk_116_method_26_code, exceptionTable := #[], attributes := #[] }
def k16m2 : Method := { name := "isWhitespace", desc := "(I)Z", sig := { parameters := [.int], returnType := some .boolean }, accessFlags := 0, code := some k16c2 }
def k16m3 : Method := { name := "<init>", desc := "()V", sig := { parameters := [], returnType := none }, accessFlags := 2, code := none }
/-- java/lang/CharacterDataLatin1 -/
def k16 : Class := { plain "java/lang/CharacterDataLatin1" (some 15) with
  accessFlags := 32
  interfaces := #[]
  cf := some (fileOf pool16 2 #[] #[{ accessFlags := 0, nameIndex := 17, descriptorIndex := 14, attributes := #[] }, { accessFlags := 8, nameIndex := 115, descriptorIndex := 116, attributes := #[] }, { accessFlags := 0, nameIndex := 127, descriptorIndex := 21, attributes := #[] }, { accessFlags := 2, nameIndex := 42, descriptorIndex := 43, attributes := #[] }] 32 39 #[] #[{ accessFlags := 26, nameIndex := 27, descriptorIndex := 28, attributes := #[] }, { accessFlags := 8, nameIndex := 37, descriptorIndex := 10, attributes := #[] }, { accessFlags := 24, nameIndex := 47, descriptorIndex := 48, attributes := #[] }, { accessFlags := 24, nameIndex := 5, descriptorIndex := 6, attributes := #[] }, { accessFlags := 24, nameIndex := 9, descriptorIndex := 10, attributes := #[] }])
  fields := #[{ name := "DIGITS", type := (.array .byte), accessFlags := 26, slot := 0, constantValue := 0 }, { name := "sharpsMap", type := (.array .char), accessFlags := 8, slot := 1, constantValue := 0 }, { name := "instance", type := (.object "java/lang/CharacterDataLatin1"), accessFlags := 24, slot := 2, constantValue := 0 }, { name := "A", type := (.array .int), accessFlags := 24, slot := 3, constantValue := 0 }, { name := "B", type := (.array .char), accessFlags := 24, slot := 4, constantValue := 0 }]
  methods := #[k16m0, k16m1, k16m2, k16m3]
  instanceTypes := #[]
  staticTypes := #[(.array .byte), (.array .char), (.object "java/lang/CharacterDataLatin1"), (.array .int), (.array .char)]
  resolved := Array.replicate 141 none
  statics := some 2 }

def pool17 : Array CpInfo := pool [(1, u "java/lang/Cloneable"), (0, .class_ 1), (0, u "java/lang/Object"), (0, .class_ 3)] 3

/-- java/lang/Cloneable -/
def k17 : Class := { plain "java/lang/Cloneable" (some 0) with
  accessFlags := 1537
  interfaces := #[]
  cf := some (fileOf pool17 2 #[] #[] 1537 4 #[] #[])
  fields := #[]
  methods := #[]
  instanceTypes := #[]
  staticTypes := #[]
  resolved := Array.replicate 8 none
  statics := none }

/-- the primitive byte -/
def k18 : Class := { plain "byte" none with kind := .primitive 'B', accessFlags := 0x411 }
/-- [B -/
def k19 : Class := { plain "[B" (some 0) with kind := .array 18 .byte, interfaces := #[17, 2], accessFlags := 1041 }

/-- the primitive char -/
def k20 : Class := { plain "char" none with kind := .primitive 'C', accessFlags := 0x411 }
/-- [C -/
def k21 : Class := { plain "[C" (some 0) with kind := .array 20 .char, interfaces := #[17, 2], accessFlags := 1041 }

/-- the primitive int -/
def k22 : Class := { plain "int" none with kind := .primitive 'I', accessFlags := 0x411 }
/-- [I -/
def k23 : Class := { plain "[I" (some 0) with kind := .array 22 .int, interfaces := #[17, 2], accessFlags := 1041 }

/-- jdk/internal/util/ArraysSupport -/
def k24 : Class := { plain "jdk/internal/util/ArraysSupport" (some 0) with accessFlags := 33 }

def heap : Heap := #[{ cls := 7, slots := #[.long 0, .int 1, .null, .int 0, .null, .int 0, .int 0], vm := .statics 7 },
  { cls := 12, slots := #[.null, .null, .null], vm := .statics 12 },
  { cls := 16, slots := #[.null, .null, .ref 3, .ref 4, .null], vm := .statics 16 },
  { cls := 16, slots := #[], vm := .none },
  { cls := 23, slots := #[.int 1207963663, .int 1207963663, .int 1207963663, .int 1207963663, .int 1207963663, .int 1207963663, .int 1207963663, .int 1207963663, .int 1207963663, .int 1476411407, .int 1342193679, .int 1476411407, .int 1610629135, .int 1342193679, .int 1207963663, .int 1207963663, .int 1207963663, .int 1207963663, .int 1207963663, .int 1207963663, .int 1207963663, .int 1207963663, .int 1207963663, .int 1207963663, .int 1207963663, .int 1207963663, .int 1207963663, .int 1207963663, .int 1342193679, .int 1342193679, .int 1342193679, .int 1476411407, .int 1610629132, .int 1744830488, .int 1744830488, .int 671088664, .int 671113242, .int 671088664, .int 1744830488, .int 1744830488, .int (-402653163), .int (-402653162), .int 1744830488, .int 536870937, .int 939524120, .int 536870932, .int 939524120, .int 939524120, .int 402667017, .int 402667017, .int 402667017, .int 402667017, .int 402667017, .int 402667017, .int 402667017, .int 402667017, .int 402667017, .int 402667017, .int 939524120, .int 1744830488, .int (-402653159), .int 1744830489, .int (-402653159), .int 1744830488, .int 1744830488, .int 8552417, .int 8552417, .int 8552417, .int 8552417, .int 8552417, .int 8552417, .int 8552417, .int 8552417, .int 8552417, .int 8552417, .int 8552417, .int 8552417, .int 8552417, .int 8552417, .int 8552417, .int 8552417, .int 8552417, .int 8552417, .int 8552417, .int 8552417, .int 8552417, .int 8552417, .int 8552417, .int 8552417, .int 8552417, .int 8552417, .int (-402653163), .int 1744830488, .int (-402653162), .int 1744830491, .int 1744850967, .int 1744830491, .int 8486882, .int 8486882, .int 8486882, .int 8486882, .int 8486882, .int 8486882, .int 8486882, .int 8486882, .int 8486882, .int 8486882, .int 8486882, .int 8486882, .int 8486882, .int 8486882, .int 8486882, .int 8486882, .int 8486882, .int 8486882, .int 8486882, .int 8486882, .int 8486882, .int 8486882, .int 8486882, .int 8486882, .int 8486882, .int 8486882, .int (-402653163), .int 1744830489, .int (-402653162), .int 1744830489, .int 1207963663, .int 1207963663, .int 1207963663, .int 1207963663, .int 1207963663, .int 1207963663, .int 1342181391, .int 1207963663, .int 1207963663, .int 1207963663, .int 1207963663, .int 1207963663, .int 1207963663, .int 1207963663, .int 1207963663, .int 1207963663, .int 1207963663, .int 1207963663, .int 1207963663, .int 1207963663, .int 1207963663, .int 1207963663, .int 1207963663, .int 1207963663, .int 1207963663, .int 1207963663, .int 1207963663, .int 1207963663, .int 1207963663, .int 1207963663, .int 1207963663, .int 1207963663, .int 1207963663, .int 939524108, .int 1744830488, .int 671113242, .int 671113242, .int 671113242, .int 671113242, .int 1744830492, .int 1744830488, .int 1744830491, .int 1744830492, .int 28677, .int (-402653155), .int 1744830489, .int 1207963664, .int 1744830492, .int 1744830491, .int 671088668, .int 671088665, .int 402654731, .int 402654731, .int 1744830491, .int 134049794, .int 1744830488, .int 1744830488, .int 1744830491, .int 402654475, .int 28677, .int (-402653154), .int 1744832523, .int 1744832523, .int 1744832523, .int 1744830488, .int 8548353, .int 8548353, .int 8548353, .int 8548353, .int 8548353, .int 8548353, .int 8548353, .int 8548353, .int 8548353, .int 8548353, .int 8548353, .int 8548353, .int 8548353, .int 8548353, .int 8548353, .int 8548353, .int 8548353, .int 8548353, .int 8548353, .int 8548353, .int 8548353, .int 8548353, .int 8548353, .int 1744830489, .int 8548353, .int 8548353, .int 8548353, .int 8548353, .int 8548353, .int 8548353, .int 8548353, .int 134049794, .int 8482818, .int 8482818, .int 8482818, .int 8482818, .int 8482818, .int 8482818, .int 8482818, .int 8482818, .int 8482818, .int 8482818, .int 8482818, .int 8482818, .int 8482818, .int 8482818, .int 8482818, .int 8482818, .int 8482818, .int 8482818, .int 8482818, .int 8482818, .int 8482818, .int 8482818, .int 8482818, .int 1744830489, .int 8482818, .int 8482818, .int 8482818, .int 8482818, .int 8482818, .int 8482818, .int 8482818, .int 102592514], vm := .none }]
def classes : Array Class := #[k0, k1, k2, k3, k4, k5, k6, k7, k8, k9, k10, k11, k12, k13, k14, k15, k16, k17, k18, k19, k20, k21, k22, k23, k24]
def interned : List (Array UInt16 × Addr) := []
def slotsUsed : Nat := 271
def theMethod : MethodId := ⟨1, 1⟩
def args0 : Array Value := #[.long 5, .int 7, .long 3, .int 1]
def aboutOver (below : List Frame) : State where
  vm := { classes := classes, interned := interned.toArray }
  heap := heap
  slotsUsed := slotsUsed
  threads := #[{ frames := .invoking theMethod args0 :: below }]
def below0 : List Frame := [.native { method := ⟨0, 0⟩, args := #[] }]
def about1 : State := aboutOver below0
def p0 : Program := .bare "" "" ""
def e0 : Env := launch0.env 0 0 0
theorem w_frames : about1.frames = Frame.invoking theMethod args0 :: below0 := rfl
set_option maxRecDepth 65536 in
theorem w_args : argsFit about1.vm theMethod args0 = true := by decide +kernel
set_option maxRecDepth 65536 in
theorem w_heap : heapFits about1 = true := by decide +kernel
set_option maxRecDepth 65536 in
theorem w_runnable : about1.curStatus? = some .runnable := by decide +kernel
set_option maxRecDepth 65536 in
theorem w_alone : about1.alone = true := by decide +kernel
set_option maxRecDepth 65536 in
theorem w_named : about1.methodNamed? x = some theMethod := by decide +kernel
set_option maxRecDepth 65536 in
theorem w_hears : about1.hears theMethod below0 = true := by decide +kernel
set_option maxRecDepth 65536 in
theorem w_ripe : about1.ripe theMethod args0 below0 = true := by decide +kernel
theorem w_running : about1.status = .running := rfl
set_option maxRecDepth 65536 in
theorem w_room : about1.hasRoom e0.platform room_1 = true :=
  launch0.hasRoom_least _ room_1 (by decide +kernel) (by decide +kernel) (by decide +kernel) (by decide +kernel) (by decide +kernel) (by decide +kernel)
theorem allAtoms_all (ts : List Jvm.Cond) (a : Array Jvm.Value) (st : Jvm.State) : (allAtoms ts).before a st = ts.all (fun c => c.before a st) := by
  induction ts with
  | nil => rfl
  | cons c t ih =>
    show (Jvm.Cond.and c (allAtoms t)).before a st = _
    rw [Jvm.Cond.before_and, ih, List.all_cons]
def words1 : List Jvm.Cond := Jvm.Cond.code x code maxLocals ret :: tables_1
/-- a 'code' word, met by the world's own term for the bytes: nothing is compared byte by byte -/
theorem code_word {y : MethodName} {bytes : ByteArray} {mx : Nat} {rt : Option FieldType} {a : Array Value} {s : State} {m : MethodId} {meth : Method} {c : Code} (h1 : s.methodNamed? y = some m) (h2 : s.vm.method? m = some meth) (h3 : meth.code = some c) (h4 : c.code = bytes)
    (h5 : (c.maxLocals == mx && c.exceptionTable.isEmpty && decide (c.maxStack ≤ mostOperands) && decide (meth.sig.returnType = rt) && !meth.locks && decide (parseMethodDescriptor y.desc = some meth.sig)) = true) : (Jvm.Cond.code y bytes mx rt).before a s = true := by
  simp only [Bool.and_eq_true, beq_iff_eq, Bool.not_eq_true', decide_eq_true_eq] at h5
  obtain ⟨⟨⟨⟨⟨g1, g2⟩, g3⟩, g4⟩, g5⟩, g6⟩ := h5
  simp [Cond.before, Cond.holds, Cond.value, h1, h2, h3, h4, g1, g2, g3, g4, g5, g6]
def isCode : Jvm.Cond → Bool
  | .code _ _ _ _ => true
  | _ => false
theorem all_split {L : List Jvm.Cond} {P : Jvm.Cond → Bool} (h1 : L.all (fun c => isCode c || P c) = true) (h2 : ∀ c ∈ L.filter isCode, P c = true) : L.all P = true := by
  refine List.all_eq_true.mpr fun c hc => ?_
  have h := List.all_eq_true.mp h1 c hc
  rcases Bool.eq_false_or_eq_true (isCode c) with hi | hi
  · exact h2 c (List.mem_filter.mpr ⟨hc, hi⟩)
  · simpa [hi] using h
set_option maxRecDepth 65536 in
theorem w_c0 : (Jvm.Cond.code x code maxLocals ret).before args0 about1 = true := code_word (m := ⟨1, 1⟩) (meth := k1m1) (c := k1c1) (by decide +kernel) rfl rfl rfl (by decide +kernel)
set_option maxRecDepth 65536 in
theorem w_c1 : (Jvm.Cond.code ({ cls := "com/example/portcullis/portcullis/service/AuthorizationHeaderCredentialsPinLaw", name := "hch", desc := "(JII)C" } : Jvm.MethodName) method_3_code (4 : Nat) (Option.some Jvm.ClassFile.FieldType.char)).before args0 about1 = true := code_word (m := ⟨1, 2⟩) (meth := k1m2) (c := k1c2) (by decide +kernel) rfl rfl rfl (by decide +kernel)
set_option maxRecDepth 65536 in
theorem w_c2 : (Jvm.Cond.code ({ cls := "com/example/portcullis/portcullis/service/AuthorizationHeaderCredentialsPinLaw", name := "sch", desc := "(JI[CI)C" } : Jvm.MethodName) method_4_code (5 : Nat) (Option.some Jvm.ClassFile.FieldType.char)).before args0 about1 = true := code_word (m := ⟨1, 3⟩) (meth := k1m3) (c := k1c3) (by decide +kernel) rfl rfl rfl (by decide +kernel)
set_option maxRecDepth 65536 in
theorem w_c3 : (Jvm.Cond.code ({ cls := "com/example/portcullis/portcullis/service/AuthorizationHeaderCredentialsPinLaw", name := "slice", desc := "([CII)Ljava/lang/String;" } : Jvm.MethodName) method_8_code (4 : Nat) (Option.some (Jvm.ClassFile.FieldType.object "java/lang/String"))).before args0 about1 = true := code_word (m := ⟨1, 7⟩) (meth := k1m7) (c := k1c7) (by decide +kernel) rfl rfl rfl (by decide +kernel)
set_option maxRecDepth 65536 in
theorem w_c4 : (Jvm.Cond.code ({ cls := "java/lang/String", name := "<init>", desc := "([C)V" } : Jvm.MethodName) jdk_42_method_3_code (2 : Nat) (Option.none : Option Jvm.ClassFile.FieldType)).before args0 about1 = true := code_word (m := ⟨7, 1⟩) (meth := k7m1) (c := k7c1) (by decide +kernel) rfl rfl rfl (by decide +kernel)
set_option maxRecDepth 65536 in
theorem w_c5 : (Jvm.Cond.code ({ cls := "java/lang/String", name := "<init>", desc := "([CIILjava/lang/Void;)V" } : Jvm.MethodName) jdk_42_method_149_code (6 : Nat) (Option.none : Option Jvm.ClassFile.FieldType)).before args0 about1 = true := code_word (m := ⟨7, 12⟩) (meth := k7m12) (c := k7c12) (by decide +kernel) rfl rfl rfl (by decide +kernel)
set_option maxRecDepth 65536 in
theorem w_c6 : (Jvm.Cond.code ({ cls := "java/lang/Object", name := "<init>", desc := "()V" } : Jvm.MethodName) object_method_1_code (1 : Nat) (Option.none : Option Jvm.ClassFile.FieldType)).before args0 about1 = true := code_word (m := ⟨0, 0⟩) (meth := k0m0) (c := k0c0) (by decide +kernel) rfl rfl rfl (by decide +kernel)
set_option maxRecDepth 65536 in
theorem w_c7 : (Jvm.Cond.code ({ cls := "java/lang/StringUTF16", name := "compress", desc := "([CII)[B" } : Jvm.MethodName) jdk_52_method_16_code (6 : Nat) (Option.some (Jvm.ClassFile.FieldType.array Jvm.ClassFile.FieldType.byte))).before args0 about1 = true := code_word (m := ⟨8, 2⟩) (meth := k8m2) (c := k8c2) (by decide +kernel) rfl rfl rfl (by decide +kernel)
set_option maxRecDepth 65536 in
theorem w_c8 : (Jvm.Cond.code ({ cls := "java/lang/StringUTF16", name := "compress", desc := "([CI[BII)I" } : Jvm.MethodName) jdk_52_method_21_code (7 : Nat) (Option.some Jvm.ClassFile.FieldType.int)).before args0 about1 = true := code_word (m := ⟨8, 3⟩) (meth := k8m3) (c := k8c3) (by decide +kernel) rfl rfl rfl (by decide +kernel)
set_option maxRecDepth 65536 in
theorem w_c9 : (Jvm.Cond.code ({ cls := "java/lang/StringUTF16", name := "coderFromArrayLen", desc := "([BI)B" } : Jvm.MethodName) jdk_52_method_15_code (2 : Nat) (Option.some Jvm.ClassFile.FieldType.byte)).before args0 about1 = true := code_word (m := ⟨8, 1⟩) (meth := k8m1) (c := k8c1) (by decide +kernel) rfl rfl rfl (by decide +kernel)
set_option maxRecDepth 65536 in
theorem w_c10 : (Jvm.Cond.code ({ cls := "com/example/portcullis/portcullis/service/AuthorizationHeader", name := "credentials", desc := "(Ljava/lang/String;Ljava/lang/String;)Ljava/lang/String;" } : Jvm.MethodName) prog_18_method_2_code (5 : Nat) (Option.some (Jvm.ClassFile.FieldType.object "java/lang/String"))).before args0 about1 = true := code_word (m := ⟨9, 1⟩) (meth := k9m1) (c := k9c1) (by decide +kernel) rfl rfl rfl (by decide +kernel)
set_option maxRecDepth 65536 in
theorem w_c11 : (Jvm.Cond.code ({ cls := "java/lang/String", name := "indexOf", desc := "(I)I" } : Jvm.MethodName) jdk_42_method_79_code (2 : Nat) (Option.some Jvm.ClassFile.FieldType.int)).before args0 about1 = true := code_word (m := ⟨7, 6⟩) (meth := k7m6) (c := k7c6) (by decide +kernel) rfl rfl rfl (by decide +kernel)
set_option maxRecDepth 65536 in
theorem w_c12 : (Jvm.Cond.code ({ cls := "java/lang/String", name := "indexOf", desc := "(II)I" } : Jvm.MethodName) jdk_42_method_80_code (3 : Nat) (Option.some Jvm.ClassFile.FieldType.int)).before args0 about1 = true := code_word (m := ⟨7, 7⟩) (meth := k7m7) (c := k7c7) (by decide +kernel) rfl rfl rfl (by decide +kernel)
set_option maxRecDepth 65536 in
theorem w_c13 : (Jvm.Cond.code ({ cls := "java/lang/String", name := "isLatin1", desc := "()Z" } : Jvm.MethodName) jdk_42_method_154_code (1 : Nat) (Option.some Jvm.ClassFile.FieldType.boolean)).before args0 about1 = true := code_word (m := ⟨7, 15⟩) (meth := k7m15) (c := k7c15) (by decide +kernel) rfl rfl rfl (by decide +kernel)
set_option maxRecDepth 65536 in
theorem w_c14 : (Jvm.Cond.code ({ cls := "java/lang/String", name := "length", desc := "()I" } : Jvm.MethodName) jdk_42_method_54_code (1 : Nat) (Option.some Jvm.ClassFile.FieldType.int)).before args0 about1 = true := code_word (m := ⟨7, 2⟩) (meth := k7m2) (c := k7c2) (by decide +kernel) rfl rfl rfl (by decide +kernel)
set_option maxRecDepth 65536 in
theorem w_c15 : (Jvm.Cond.code ({ cls := "java/lang/String", name := "coder", desc := "()B" } : Jvm.MethodName) jdk_42_method_152_code (1 : Nat) (Option.some Jvm.ClassFile.FieldType.byte)).before args0 about1 = true := code_word (m := ⟨7, 14⟩) (meth := k7m14) (c := k7c14) (by decide +kernel) rfl rfl rfl (by decide +kernel)
set_option maxRecDepth 65536 in
theorem w_c16 : (Jvm.Cond.code ({ cls := "java/lang/StringLatin1", name := "indexOf", desc := "([BIII)I" } : Jvm.MethodName) jdk_43_method_22_code (4 : Nat) (Option.some Jvm.ClassFile.FieldType.int)).before args0 about1 = true := code_word (m := ⟨10, 4⟩) (meth := k10m4) (c := k10c4) (by decide +kernel) rfl rfl rfl (by decide +kernel)
set_option maxRecDepth 65536 in
theorem w_c17 : (Jvm.Cond.code ({ cls := "java/lang/StringLatin1", name := "canEncode", desc := "(I)Z" } : Jvm.MethodName) jdk_43_method_4_code (1 : Nat) (Option.some Jvm.ClassFile.FieldType.boolean)).before args0 about1 = true := code_word (m := ⟨10, 2⟩) (meth := k10m2) (c := k10c2) (by decide +kernel) rfl rfl rfl (by decide +kernel)
set_option maxRecDepth 65536 in
theorem w_c18 : (Jvm.Cond.code ({ cls := "java/lang/Math", name := "max", desc := "(II)I" } : Jvm.MethodName) jdk_29_method_65_code (2 : Nat) (Option.some Jvm.ClassFile.FieldType.int)).before args0 about1 = true := code_word (m := ⟨11, 1⟩) (meth := k11m1) (c := k11c1) (by decide +kernel) rfl rfl rfl (by decide +kernel)
set_option maxRecDepth 65536 in
theorem w_c19 : (Jvm.Cond.code ({ cls := "java/lang/Math", name := "min", desc := "(II)I" } : Jvm.MethodName) jdk_29_method_69_code (2 : Nat) (Option.some Jvm.ClassFile.FieldType.int)).before args0 about1 = true := code_word (m := ⟨11, 2⟩) (meth := k11m2) (c := k11c2) (by decide +kernel) rfl rfl rfl (by decide +kernel)
set_option maxRecDepth 65536 in
theorem w_c20 : (Jvm.Cond.code ({ cls := "java/lang/StringLatin1", name := "indexOfChar", desc := "([BIII)I" } : Jvm.MethodName) jdk_43_method_23_code (6 : Nat) (Option.some Jvm.ClassFile.FieldType.int)).before args0 about1 = true := code_word (m := ⟨10, 5⟩) (meth := k10m5) (c := k10c5) (by decide +kernel) rfl rfl rfl (by decide +kernel)
set_option maxRecDepth 65536 in
theorem w_c21 : (Jvm.Cond.code ({ cls := "java/lang/String", name := "equalsIgnoreCase", desc := "(Ljava/lang/String;)Z" } : Jvm.MethodName) jdk_42_method_70_code (2 : Nat) (Option.some Jvm.ClassFile.FieldType.boolean)).before args0 about1 = true := code_word (m := ⟨7, 4⟩) (meth := k7m4) (c := k7c4) (by decide +kernel) rfl rfl rfl (by decide +kernel)
set_option maxRecDepth 65536 in
theorem w_c22 : (Jvm.Cond.code ({ cls := "java/lang/String", name := "valueOf", desc := "(C)Ljava/lang/String;" } : Jvm.MethodName) jdk_42_method_139_code (1 : Nat) (Option.some (Jvm.ClassFile.FieldType.object "java/lang/String"))).before args0 about1 = true := code_word (m := ⟨7, 11⟩) (meth := k7m11) (c := k7c11) (by decide +kernel) rfl rfl rfl (by decide +kernel)
set_option maxRecDepth 65536 in
theorem w_c23 : (Jvm.Cond.code ({ cls := "java/lang/StringLatin1", name := "canEncode", desc := "(C)Z" } : Jvm.MethodName) jdk_43_method_3_code (1 : Nat) (Option.some Jvm.ClassFile.FieldType.boolean)).before args0 about1 = true := code_word (m := ⟨10, 1⟩) (meth := k10m1) (c := k10c1) (by decide +kernel) rfl rfl rfl (by decide +kernel)
set_option maxRecDepth 65536 in
theorem w_c24 : (Jvm.Cond.code ({ cls := "java/lang/StringLatin1", name := "toBytes", desc := "(C)[B" } : Jvm.MethodName) jdk_43_method_46_code (1 : Nat) (Option.some (Jvm.ClassFile.FieldType.array Jvm.ClassFile.FieldType.byte))).before args0 about1 = true := code_word (m := ⟨10, 11⟩) (meth := k10m11) (c := k10c11) (by decide +kernel) rfl rfl rfl (by decide +kernel)
set_option maxRecDepth 65536 in
theorem w_c25 : (Jvm.Cond.code ({ cls := "java/lang/String", name := "<init>", desc := "([BB)V" } : Jvm.MethodName) jdk_42_method_151_code (3 : Nat) (Option.none : Option Jvm.ClassFile.FieldType)).before args0 about1 = true := code_word (m := ⟨7, 13⟩) (meth := k7m13) (c := k7c13) (by decide +kernel) rfl rfl rfl (by decide +kernel)
set_option maxRecDepth 65536 in
theorem w_c26 : (Jvm.Cond.code ({ cls := "java/lang/String", name := "substring", desc := "(II)Ljava/lang/String;" } : Jvm.MethodName) jdk_42_method_92_code (5 : Nat) (Option.some (Jvm.ClassFile.FieldType.object "java/lang/String"))).before args0 about1 = true := code_word (m := ⟨7, 9⟩) (meth := k7m9) (c := k7c9) (by decide +kernel) rfl rfl rfl (by decide +kernel)
set_option maxRecDepth 65536 in
theorem w_c27 : (Jvm.Cond.code ({ cls := "java/lang/String", name := "checkBoundsBeginEnd", desc := "(III)V" } : Jvm.MethodName) jdk_42_method_158_code (3 : Nat) (Option.none : Option Jvm.ClassFile.FieldType)).before args0 about1 = true := code_word (m := ⟨7, 16⟩) (meth := k7m16) (c := k7c16) (by decide +kernel) rfl rfl rfl (by decide +kernel)
set_option maxRecDepth 65536 in
theorem w_c28 : (Jvm.Cond.code ({ cls := "jdk/internal/util/Preconditions", name := "checkFromToIndex", desc := "(IIILjava/util/function/BiFunction;)I" } : Jvm.MethodName) jdk_41_method_12_code (4 : Nat) (Option.some Jvm.ClassFile.FieldType.int)).before args0 about1 = true := code_word (m := ⟨12, 1⟩) (meth := k12m1) (c := k12c1) (by decide +kernel) rfl rfl rfl (by decide +kernel)
set_option maxRecDepth 65536 in
theorem w_c29 : (Jvm.Cond.code ({ cls := "java/lang/StringLatin1", name := "newString", desc := "([BII)Ljava/lang/String;" } : Jvm.MethodName) jdk_43_method_47_code (3 : Nat) (Option.some (Jvm.ClassFile.FieldType.object "java/lang/String"))).before args0 about1 = true := code_word (m := ⟨10, 12⟩) (meth := k10m12) (c := k10c12) (by decide +kernel) rfl rfl rfl (by decide +kernel)
set_option maxRecDepth 65536 in
theorem w_c30 : (Jvm.Cond.code ({ cls := "java/util/Arrays", name := "copyOfRange", desc := "([BII)[B" } : Jvm.MethodName) jdk_65_method_132_code (3 : Nat) (Option.some (Jvm.ClassFile.FieldType.array Jvm.ClassFile.FieldType.byte))).before args0 about1 = true := code_word (m := ⟨13, 2⟩) (meth := k13m2) (c := k13c2) (by decide +kernel) rfl rfl rfl (by decide +kernel)
set_option maxRecDepth 65536 in
theorem w_c31 : (Jvm.Cond.code ({ cls := "java/util/Arrays", name := "copyOfRangeByte", desc := "([BII)[B" } : Jvm.MethodName) jdk_65_method_133_code (5 : Nat) (Option.some (Jvm.ClassFile.FieldType.array Jvm.ClassFile.FieldType.byte))).before args0 about1 = true := code_word (m := ⟨13, 3⟩) (meth := k13m3) (c := k13c3) (by decide +kernel) rfl rfl rfl (by decide +kernel)
set_option maxRecDepth 65536 in
theorem w_c32 : (Jvm.Cond.code ({ cls := "java/util/Arrays", name := "checkLength", desc := "(II)V" } : Jvm.MethodName) jdk_65_method_131_code (2 : Nat) (Option.none : Option Jvm.ClassFile.FieldType)).before args0 about1 = true := code_word (m := ⟨13, 1⟩) (meth := k13m1) (c := k13c1) (by decide +kernel) rfl rfl rfl (by decide +kernel)
set_option maxRecDepth 65536 in
theorem w_c33 : (Jvm.Cond.code ({ cls := "java/lang/String", name := "regionMatches", desc := "(ZILjava/lang/String;II)Z" } : Jvm.MethodName) jdk_42_method_74_code (9 : Nat) (Option.some Jvm.ClassFile.FieldType.boolean)).before args0 about1 = true := code_word (m := ⟨7, 5⟩) (meth := k7m5) (c := k7c5) (by decide +kernel) rfl rfl rfl (by decide +kernel)
set_option maxRecDepth 65536 in
theorem w_c34 : (Jvm.Cond.code ({ cls := "java/lang/StringLatin1", name := "regionMatchesCI", desc := "([BI[BII)Z" } : Jvm.MethodName) jdk_43_method_30_code (8 : Nat) (Option.some Jvm.ClassFile.FieldType.boolean)).before args0 about1 = true := code_word (m := ⟨10, 6⟩) (meth := k10m6) (c := k10c6) (by decide +kernel) rfl rfl rfl (by decide +kernel)
set_option maxRecDepth 65536 in
theorem w_c35 : (Jvm.Cond.code ({ cls := "java/lang/CharacterDataLatin1", name := "equalsIgnoreCase", desc := "(BB)Z" } : Jvm.MethodName) jdk_116_method_22_code (3 : Nat) (Option.some Jvm.ClassFile.FieldType.boolean)).before args0 about1 = true := code_word (m := ⟨16, 1⟩) (meth := k16m1) (c := k16c1) (by decide +kernel) rfl rfl rfl (by decide +kernel)
set_option maxRecDepth 65536 in
theorem w_c36 : (Jvm.Cond.code ({ cls := "com/example/portcullis/portcullis/service/AuthorizationHeaderCredentialsPinLaw", name := "ci", desc := "(CC)Z" } : Jvm.MethodName) method_6_code (2 : Nat) (Option.some Jvm.ClassFile.FieldType.boolean)).before args0 about1 = true := code_word (m := ⟨1, 5⟩) (meth := k1m5) (c := k1c5) (by decide +kernel) rfl rfl rfl (by decide +kernel)
set_option maxRecDepth 65536 in
theorem w_c37 : (Jvm.Cond.code ({ cls := "com/example/portcullis/portcullis/service/AuthorizationHeaderCredentialsPinLaw", name := "up", desc := "(C)Z" } : Jvm.MethodName) method_5_code (1 : Nat) (Option.some Jvm.ClassFile.FieldType.boolean)).before args0 about1 = true := code_word (m := ⟨1, 4⟩) (meth := k1m4) (c := k1c4) (by decide +kernel) rfl rfl rfl (by decide +kernel)
set_option maxRecDepth 65536 in
theorem w_c38 : (Jvm.Cond.code ({ cls := "java/lang/String", name := "equals", desc := "(Ljava/lang/Object;)Z" } : Jvm.MethodName) jdk_42_method_66_code (3 : Nat) (Option.some Jvm.ClassFile.FieldType.boolean)).before args0 about1 = true := code_word (m := ⟨7, 3⟩) (meth := k7m3) (c := k7c3) (by decide +kernel) rfl rfl rfl (by decide +kernel)
set_option maxRecDepth 65536 in
theorem w_c39 : (Jvm.Cond.code ({ cls := "java/lang/String", name := "substring", desc := "(I)Ljava/lang/String;" } : Jvm.MethodName) jdk_42_method_91_code (2 : Nat) (Option.some (Jvm.ClassFile.FieldType.object "java/lang/String"))).before args0 about1 = true := code_word (m := ⟨7, 8⟩) (meth := k7m8) (c := k7c8) (by decide +kernel) rfl rfl rfl (by decide +kernel)
set_option maxRecDepth 65536 in
theorem w_c40 : (Jvm.Cond.code ({ cls := "java/lang/String", name := "strip", desc := "()Ljava/lang/String;" } : Jvm.MethodName) jdk_42_method_114_code (2 : Nat) (Option.some (Jvm.ClassFile.FieldType.object "java/lang/String"))).before args0 about1 = true := code_word (m := ⟨7, 10⟩) (meth := k7m10) (c := k7c10) (by decide +kernel) rfl rfl rfl (by decide +kernel)
set_option maxRecDepth 65536 in
theorem w_c41 : (Jvm.Cond.code ({ cls := "java/lang/StringLatin1", name := "strip", desc := "([B)Ljava/lang/String;" } : Jvm.MethodName) jdk_43_method_39_code (4 : Nat) (Option.some (Jvm.ClassFile.FieldType.object "java/lang/String"))).before args0 about1 = true := code_word (m := ⟨10, 9⟩) (meth := k10m9) (c := k10c9) (by decide +kernel) rfl rfl rfl (by decide +kernel)
set_option maxRecDepth 65536 in
theorem w_c42 : (Jvm.Cond.code ({ cls := "java/lang/StringLatin1", name := "indexOfNonWhitespace", desc := "([B)I" } : Jvm.MethodName) jdk_43_method_37_code (4 : Nat) (Option.some Jvm.ClassFile.FieldType.int)).before args0 about1 = true := code_word (m := ⟨10, 7⟩) (meth := k10m7) (c := k10c7) (by decide +kernel) rfl rfl rfl (by decide +kernel)
set_option maxRecDepth 65536 in
theorem w_c43 : (Jvm.Cond.code ({ cls := "java/lang/StringLatin1", name := "getChar", desc := "([BI)C" } : Jvm.MethodName) jdk_43_method_44_code (2 : Nat) (Option.some Jvm.ClassFile.FieldType.char)).before args0 about1 = true := code_word (m := ⟨10, 10⟩) (meth := k10m10) (c := k10c10) (by decide +kernel) rfl rfl rfl (by decide +kernel)
set_option maxRecDepth 65536 in
theorem w_c44 : (Jvm.Cond.code ({ cls := "java/lang/CharacterDataLatin1", name := "isWhitespace", desc := "(I)Z" } : Jvm.MethodName) jdk_116_method_26_code (3 : Nat) (Option.some Jvm.ClassFile.FieldType.boolean)).before args0 about1 = true := code_word (m := ⟨16, 2⟩) (meth := k16m2) (c := k16c2) (by decide +kernel) rfl rfl rfl (by decide +kernel)
set_option maxRecDepth 65536 in
theorem w_c45 : (Jvm.Cond.code ({ cls := "java/lang/CharacterDataLatin1", name := "getProperties", desc := "(I)I" } : Jvm.MethodName) jdk_116_method_1_code (4 : Nat) (Option.some Jvm.ClassFile.FieldType.int)).before args0 about1 = true := code_word (m := ⟨16, 0⟩) (meth := k16m0) (c := k16c0) (by decide +kernel) rfl rfl rfl (by decide +kernel)
set_option maxRecDepth 65536 in
theorem w_c46 : (Jvm.Cond.code ({ cls := "java/lang/StringLatin1", name := "lastIndexOfNonWhitespace", desc := "([B)I" } : Jvm.MethodName) jdk_43_method_38_code (4 : Nat) (Option.some Jvm.ClassFile.FieldType.int)).before args0 about1 = true := code_word (m := ⟨10, 8⟩) (meth := k10m8) (c := k10c8) (by decide +kernel) rfl rfl rfl (by decide +kernel)
set_option maxRecDepth 65536 in
theorem w_c47 : (Jvm.Cond.code ({ cls := "com/example/portcullis/portcullis/service/AuthorizationHeaderCredentialsPinLaw", name := "ws", desc := "(C)Z" } : Jvm.MethodName) method_7_code (1 : Nat) (Option.some Jvm.ClassFile.FieldType.boolean)).before args0 about1 = true := code_word (m := ⟨1, 6⟩) (meth := k1m6) (c := k1c6) (by decide +kernel) rfl rfl rfl (by decide +kernel)
set_option maxRecDepth 65536 in
theorem w_c48 : (Jvm.Cond.code ({ cls := "java/lang/StringLatin1", name := "equals", desc := "([B[B)Z" } : Jvm.MethodName) jdk_43_method_13_code (3 : Nat) (Option.some Jvm.ClassFile.FieldType.boolean)).before args0 about1 = true := code_word (m := ⟨10, 3⟩) (meth := k10m3) (c := k10c3) (by decide +kernel) rfl rfl rfl (by decide +kernel)
def codes1 : List Jvm.Cond := [Jvm.Cond.code x code maxLocals ret, Jvm.Cond.code ({ cls := "com/example/portcullis/portcullis/service/AuthorizationHeaderCredentialsPinLaw", name := "hch", desc := "(JII)C" } : Jvm.MethodName) method_3_code (4 : Nat) (Option.some Jvm.ClassFile.FieldType.char), Jvm.Cond.code ({ cls := "com/example/portcullis/portcullis/service/AuthorizationHeaderCredentialsPinLaw", name := "sch", desc := "(JI[CI)C" } : Jvm.MethodName) method_4_code (5 : Nat) (Option.some Jvm.ClassFile.FieldType.char), Jvm.Cond.code ({ cls := "com/example/portcullis/portcullis/service/AuthorizationHeaderCredentialsPinLaw", name := "slice", desc := "([CII)Ljava/lang/String;" } : Jvm.MethodName) method_8_code (4 : Nat) (Option.some (Jvm.ClassFile.FieldType.object "java/lang/String")), Jvm.Cond.code ({ cls := "java/lang/String", name := "<init>", desc := "([C)V" } : Jvm.MethodName) jdk_42_method_3_code (2 : Nat) (Option.none : Option Jvm.ClassFile.FieldType), Jvm.Cond.code ({ cls := "java/lang/String", name := "<init>", desc := "([CIILjava/lang/Void;)V" } : Jvm.MethodName) jdk_42_method_149_code (6 : Nat) (Option.none : Option Jvm.ClassFile.FieldType), Jvm.Cond.code ({ cls := "java/lang/Object", name := "<init>", desc := "()V" } : Jvm.MethodName) object_method_1_code (1 : Nat) (Option.none : Option Jvm.ClassFile.FieldType), Jvm.Cond.code ({ cls := "java/lang/StringUTF16", name := "compress", desc := "([CII)[B" } : Jvm.MethodName) jdk_52_method_16_code (6 : Nat) (Option.some (Jvm.ClassFile.FieldType.array Jvm.ClassFile.FieldType.byte)), Jvm.Cond.code ({ cls := "java/lang/StringUTF16", name := "compress", desc := "([CI[BII)I" } : Jvm.MethodName) jdk_52_method_21_code (7 : Nat) (Option.some Jvm.ClassFile.FieldType.int), Jvm.Cond.code ({ cls := "java/lang/StringUTF16", name := "coderFromArrayLen", desc := "([BI)B" } : Jvm.MethodName) jdk_52_method_15_code (2 : Nat) (Option.some Jvm.ClassFile.FieldType.byte), Jvm.Cond.code ({ cls := "com/example/portcullis/portcullis/service/AuthorizationHeader", name := "credentials", desc := "(Ljava/lang/String;Ljava/lang/String;)Ljava/lang/String;" } : Jvm.MethodName) prog_18_method_2_code (5 : Nat) (Option.some (Jvm.ClassFile.FieldType.object "java/lang/String")), Jvm.Cond.code ({ cls := "java/lang/String", name := "indexOf", desc := "(I)I" } : Jvm.MethodName) jdk_42_method_79_code (2 : Nat) (Option.some Jvm.ClassFile.FieldType.int), Jvm.Cond.code ({ cls := "java/lang/String", name := "indexOf", desc := "(II)I" } : Jvm.MethodName) jdk_42_method_80_code (3 : Nat) (Option.some Jvm.ClassFile.FieldType.int), Jvm.Cond.code ({ cls := "java/lang/String", name := "isLatin1", desc := "()Z" } : Jvm.MethodName) jdk_42_method_154_code (1 : Nat) (Option.some Jvm.ClassFile.FieldType.boolean), Jvm.Cond.code ({ cls := "java/lang/String", name := "length", desc := "()I" } : Jvm.MethodName) jdk_42_method_54_code (1 : Nat) (Option.some Jvm.ClassFile.FieldType.int), Jvm.Cond.code ({ cls := "java/lang/String", name := "coder", desc := "()B" } : Jvm.MethodName) jdk_42_method_152_code (1 : Nat) (Option.some Jvm.ClassFile.FieldType.byte), Jvm.Cond.code ({ cls := "java/lang/StringLatin1", name := "indexOf", desc := "([BIII)I" } : Jvm.MethodName) jdk_43_method_22_code (4 : Nat) (Option.some Jvm.ClassFile.FieldType.int), Jvm.Cond.code ({ cls := "java/lang/StringLatin1", name := "canEncode", desc := "(I)Z" } : Jvm.MethodName) jdk_43_method_4_code (1 : Nat) (Option.some Jvm.ClassFile.FieldType.boolean), Jvm.Cond.code ({ cls := "java/lang/Math", name := "max", desc := "(II)I" } : Jvm.MethodName) jdk_29_method_65_code (2 : Nat) (Option.some Jvm.ClassFile.FieldType.int), Jvm.Cond.code ({ cls := "java/lang/Math", name := "min", desc := "(II)I" } : Jvm.MethodName) jdk_29_method_69_code (2 : Nat) (Option.some Jvm.ClassFile.FieldType.int), Jvm.Cond.code ({ cls := "java/lang/StringLatin1", name := "indexOfChar", desc := "([BIII)I" } : Jvm.MethodName) jdk_43_method_23_code (6 : Nat) (Option.some Jvm.ClassFile.FieldType.int), Jvm.Cond.code ({ cls := "java/lang/String", name := "equalsIgnoreCase", desc := "(Ljava/lang/String;)Z" } : Jvm.MethodName) jdk_42_method_70_code (2 : Nat) (Option.some Jvm.ClassFile.FieldType.boolean), Jvm.Cond.code ({ cls := "java/lang/String", name := "valueOf", desc := "(C)Ljava/lang/String;" } : Jvm.MethodName) jdk_42_method_139_code (1 : Nat) (Option.some (Jvm.ClassFile.FieldType.object "java/lang/String")), Jvm.Cond.code ({ cls := "java/lang/StringLatin1", name := "canEncode", desc := "(C)Z" } : Jvm.MethodName) jdk_43_method_3_code (1 : Nat) (Option.some Jvm.ClassFile.FieldType.boolean), Jvm.Cond.code ({ cls := "java/lang/StringLatin1", name := "toBytes", desc := "(C)[B" } : Jvm.MethodName) jdk_43_method_46_code (1 : Nat) (Option.some (Jvm.ClassFile.FieldType.array Jvm.ClassFile.FieldType.byte)), Jvm.Cond.code ({ cls := "java/lang/String", name := "<init>", desc := "([BB)V" } : Jvm.MethodName) jdk_42_method_151_code (3 : Nat) (Option.none : Option Jvm.ClassFile.FieldType), Jvm.Cond.code ({ cls := "java/lang/String", name := "substring", desc := "(II)Ljava/lang/String;" } : Jvm.MethodName) jdk_42_method_92_code (5 : Nat) (Option.some (Jvm.ClassFile.FieldType.object "java/lang/String")), Jvm.Cond.code ({ cls := "java/lang/String", name := "checkBoundsBeginEnd", desc := "(III)V" } : Jvm.MethodName) jdk_42_method_158_code (3 : Nat) (Option.none : Option Jvm.ClassFile.FieldType), Jvm.Cond.code ({ cls := "jdk/internal/util/Preconditions", name := "checkFromToIndex", desc := "(IIILjava/util/function/BiFunction;)I" } : Jvm.MethodName) jdk_41_method_12_code (4 : Nat) (Option.some Jvm.ClassFile.FieldType.int), Jvm.Cond.code ({ cls := "java/lang/StringLatin1", name := "newString", desc := "([BII)Ljava/lang/String;" } : Jvm.MethodName) jdk_43_method_47_code (3 : Nat) (Option.some (Jvm.ClassFile.FieldType.object "java/lang/String")), Jvm.Cond.code ({ cls := "java/util/Arrays", name := "copyOfRange", desc := "([BII)[B" } : Jvm.MethodName) jdk_65_method_132_code (3 : Nat) (Option.some (Jvm.ClassFile.FieldType.array Jvm.ClassFile.FieldType.byte)), Jvm.Cond.code ({ cls := "java/util/Arrays", name := "copyOfRangeByte", desc := "([BII)[B" } : Jvm.MethodName) jdk_65_method_133_code (5 : Nat) (Option.some (Jvm.ClassFile.FieldType.array Jvm.ClassFile.FieldType.byte)), Jvm.Cond.code ({ cls := "java/util/Arrays", name := "checkLength", desc := "(II)V" } : Jvm.MethodName) jdk_65_method_131_code (2 : Nat) (Option.none : Option Jvm.ClassFile.FieldType), Jvm.Cond.code ({ cls := "java/lang/String", name := "regionMatches", desc := "(ZILjava/lang/String;II)Z" } : Jvm.MethodName) jdk_42_method_74_code (9 : Nat) (Option.some Jvm.ClassFile.FieldType.boolean), Jvm.Cond.code ({ cls := "java/lang/StringLatin1", name := "regionMatchesCI", desc := "([BI[BII)Z" } : Jvm.MethodName) jdk_43_method_30_code (8 : Nat) (Option.some Jvm.ClassFile.FieldType.boolean), Jvm.Cond.code ({ cls := "java/lang/CharacterDataLatin1", name := "equalsIgnoreCase", desc := "(BB)Z" } : Jvm.MethodName) jdk_116_method_22_code (3 : Nat) (Option.some Jvm.ClassFile.FieldType.boolean), Jvm.Cond.code ({ cls := "com/example/portcullis/portcullis/service/AuthorizationHeaderCredentialsPinLaw", name := "ci", desc := "(CC)Z" } : Jvm.MethodName) method_6_code (2 : Nat) (Option.some Jvm.ClassFile.FieldType.boolean), Jvm.Cond.code ({ cls := "com/example/portcullis/portcullis/service/AuthorizationHeaderCredentialsPinLaw", name := "up", desc := "(C)Z" } : Jvm.MethodName) method_5_code (1 : Nat) (Option.some Jvm.ClassFile.FieldType.boolean), Jvm.Cond.code ({ cls := "java/lang/String", name := "equals", desc := "(Ljava/lang/Object;)Z" } : Jvm.MethodName) jdk_42_method_66_code (3 : Nat) (Option.some Jvm.ClassFile.FieldType.boolean), Jvm.Cond.code ({ cls := "java/lang/String", name := "substring", desc := "(I)Ljava/lang/String;" } : Jvm.MethodName) jdk_42_method_91_code (2 : Nat) (Option.some (Jvm.ClassFile.FieldType.object "java/lang/String")), Jvm.Cond.code ({ cls := "java/lang/String", name := "strip", desc := "()Ljava/lang/String;" } : Jvm.MethodName) jdk_42_method_114_code (2 : Nat) (Option.some (Jvm.ClassFile.FieldType.object "java/lang/String")), Jvm.Cond.code ({ cls := "java/lang/StringLatin1", name := "strip", desc := "([B)Ljava/lang/String;" } : Jvm.MethodName) jdk_43_method_39_code (4 : Nat) (Option.some (Jvm.ClassFile.FieldType.object "java/lang/String")), Jvm.Cond.code ({ cls := "java/lang/StringLatin1", name := "indexOfNonWhitespace", desc := "([B)I" } : Jvm.MethodName) jdk_43_method_37_code (4 : Nat) (Option.some Jvm.ClassFile.FieldType.int), Jvm.Cond.code ({ cls := "java/lang/StringLatin1", name := "getChar", desc := "([BI)C" } : Jvm.MethodName) jdk_43_method_44_code (2 : Nat) (Option.some Jvm.ClassFile.FieldType.char), Jvm.Cond.code ({ cls := "java/lang/CharacterDataLatin1", name := "isWhitespace", desc := "(I)Z" } : Jvm.MethodName) jdk_116_method_26_code (3 : Nat) (Option.some Jvm.ClassFile.FieldType.boolean), Jvm.Cond.code ({ cls := "java/lang/CharacterDataLatin1", name := "getProperties", desc := "(I)I" } : Jvm.MethodName) jdk_116_method_1_code (4 : Nat) (Option.some Jvm.ClassFile.FieldType.int), Jvm.Cond.code ({ cls := "java/lang/StringLatin1", name := "lastIndexOfNonWhitespace", desc := "([B)I" } : Jvm.MethodName) jdk_43_method_38_code (4 : Nat) (Option.some Jvm.ClassFile.FieldType.int), Jvm.Cond.code ({ cls := "com/example/portcullis/portcullis/service/AuthorizationHeaderCredentialsPinLaw", name := "ws", desc := "(C)Z" } : Jvm.MethodName) method_7_code (1 : Nat) (Option.some Jvm.ClassFile.FieldType.boolean), Jvm.Cond.code ({ cls := "java/lang/StringLatin1", name := "equals", desc := "([B[B)Z" } : Jvm.MethodName) jdk_43_method_13_code (3 : Nat) (Option.some Jvm.ClassFile.FieldType.boolean)]
set_option maxRecDepth 65536 in
theorem codes_eq : words1.filter isCode = codes1 := rfl
theorem w_codes : ∀ c ∈ words1.filter isCode, c.before args0 about1 = true := by
  rw [codes_eq]
  intro c hc
  simp only [codes1, List.mem_cons, List.not_mem_nil, or_false] at hc
  rcases hc with rfl | rfl | rfl | rfl | rfl | rfl | rfl | rfl | rfl | rfl | rfl | rfl | rfl | rfl | rfl | rfl | rfl | rfl | rfl | rfl | rfl | rfl | rfl | rfl | rfl | rfl | rfl | rfl | rfl | rfl | rfl | rfl | rfl | rfl | rfl | rfl | rfl | rfl | rfl | rfl | rfl | rfl | rfl | rfl | rfl | rfl | rfl | rfl | rfl
  · exact w_c0
  · exact w_c1
  · exact w_c2
  · exact w_c3
  · exact w_c4
  · exact w_c5
  · exact w_c6
  · exact w_c7
  · exact w_c8
  · exact w_c9
  · exact w_c10
  · exact w_c11
  · exact w_c12
  · exact w_c13
  · exact w_c14
  · exact w_c15
  · exact w_c16
  · exact w_c17
  · exact w_c18
  · exact w_c19
  · exact w_c20
  · exact w_c21
  · exact w_c22
  · exact w_c23
  · exact w_c24
  · exact w_c25
  · exact w_c26
  · exact w_c27
  · exact w_c28
  · exact w_c29
  · exact w_c30
  · exact w_c31
  · exact w_c32
  · exact w_c33
  · exact w_c34
  · exact w_c35
  · exact w_c36
  · exact w_c37
  · exact w_c38
  · exact w_c39
  · exact w_c40
  · exact w_c41
  · exact w_c42
  · exact w_c43
  · exact w_c44
  · exact w_c45
  · exact w_c46
  · exact w_c47
  · exact w_c48
set_option maxRecDepth 65536 in
theorem w_t1 : (words1.take 24).all (fun c => isCode c || c.before args0 about1) = true := by decide +kernel
set_option maxRecDepth 65536 in
theorem w_t2 : ((words1.drop 24).take 24).all (fun c => isCode c || c.before args0 about1) = true := by decide +kernel
set_option maxRecDepth 65536 in
theorem w_t3 : (((words1.drop 24).drop 24).take 24).all (fun c => isCode c || c.before args0 about1) = true := by decide +kernel
set_option maxRecDepth 65536 in
theorem w_t4 : ((((words1.drop 24).drop 24).drop 24).take 24).all (fun c => isCode c || c.before args0 about1) = true := by decide +kernel
set_option maxRecDepth 65536 in
theorem w_t5 : (((((words1.drop 24).drop 24).drop 24).drop 24).take 24).all (fun c => isCode c || c.before args0 about1) = true := by decide +kernel
set_option maxRecDepth 65536 in
theorem w_t6 : ((((((words1.drop 24).drop 24).drop 24).drop 24).drop 24).take 24).all (fun c => isCode c || c.before args0 about1) = true := by decide +kernel
set_option maxRecDepth 65536 in
theorem w_t7 : (((((((words1.drop 24).drop 24).drop 24).drop 24).drop 24).drop 24).take 24).all (fun c => isCode c || c.before args0 about1) = true := by decide +kernel
set_option maxRecDepth 65536 in
theorem w_t8 : ((((((((words1.drop 24).drop 24).drop 24).drop 24).drop 24).drop 24).drop 24).take 24).all (fun c => isCode c || c.before args0 about1) = true := by decide +kernel
set_option maxRecDepth 65536 in
theorem w_t9 : ((((((((words1.drop 24).drop 24).drop 24).drop 24).drop 24).drop 24).drop 24).drop 24).all (fun c => isCode c || c.before args0 about1) = true := by decide +kernel
theorem w_tables : (allAtoms (Jvm.Cond.code x code maxLocals ret :: tables_1)).before args0 about1 = true := by
  rw [allAtoms_all]
  show words1.all (fun c => c.before args0 about1) = true
  refine all_split ?_ w_codes
  rw [← List.take_append_drop 24 words1, List.all_append, w_t1, ← List.take_append_drop 24 (words1.drop 24), List.all_append, w_t2, ← List.take_append_drop 24 ((words1.drop 24).drop 24), List.all_append, w_t3, ← List.take_append_drop 24 (((words1.drop 24).drop 24).drop 24), List.all_append, w_t4, ← List.take_append_drop 24 ((((words1.drop 24).drop 24).drop 24).drop 24), List.all_append, w_t5, ← List.take_append_drop 24 (((((words1.drop 24).drop 24).drop 24).drop 24).drop 24), List.all_append, w_t6, ← List.take_append_drop 24 ((((((words1.drop 24).drop 24).drop 24).drop 24).drop 24).drop 24), List.all_append, w_t7, ← List.take_append_drop 24 (((((((words1.drop 24).drop 24).drop 24).drop 24).drop 24).drop 24).drop 24), List.all_append, w_t8, w_t9]
  rfl
set_option maxRecDepth 65536 in
theorem w_rest : rest_1_c.before args0 about1 = true := by decide +kernel
set_option maxRecDepth 65536 in
theorem w_case : (Jvm.Cond.and given_1 narrow_1).before args0 about1 = true := by decide +kernel
set_option maxRecDepth 65536 in
theorem w_consts : constsHeld consts_1 about1 := Jvm.Lit.constsHeldB_iff.mp (by decide +kernel)
theorem w_applies : (headSpec (Jvm.Cond.code x code maxLocals ret :: tables_1) room_1).applies x e0.platform about1 = true :=
  (Spec.applies_iff w_frames).mpr ⟨w_running, w_runnable, w_alone, w_named, w_hears, w_ripe, w_room, w_tables⟩
theorem atStart : AtStart classFile x code maxLocals ret World_1 tables_1 room_1 Calls_1 rest_1 Pre_1 launch0 p0 e0 about1 theMethod args0 below0 :=
  ⟨lists_1, trivial, launch0.admits_env _ _ _, launch0.least_env, fairChoices_fair.cas, fairChoices_fair.clock, w_frames, w_args, w_heap, w_applies, ⟨w_consts, trivial⟩, w_rest, w_case⟩
end start1
theorem witness_1 : WitnessClaimed_1 := ⟨start1.p0, start1.e0, start1.about1, start1.theMethod, start1.args0, start1.below0, start1.atStart⟩
end Jvm.Pilot.@@N@@
