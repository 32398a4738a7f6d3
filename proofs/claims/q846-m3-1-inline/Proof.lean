import JvmDerived
import JvmDerived.Pilot.@@N@@Statement
import JvmDerived.Pilot.@@N@@Code
set_option linter.unusedVariables false
set_option linter.unusedSimpArgs false
/- laws to paste: Road.backV, Road.lenW, Road.eqW, Road.chN, Road.codOf (cut by pick.py; bodies as the Statement names them) -/
namespace Jvm.Pilot.@@N@@
namespace StrChars
open Jvm Sem ClassFile Op Lib Jvm.Stand Jvm.Free.XT Jvm.Free.ALB Jvm.Free.JM Jvm.Free
open Jvm.Lib.Cold (StaticIs)
/-- a char array whose places are chars -/
def Ch (a : Addr) (A : Cell) (U : State) : Prop := Arr .char a A U ∧ Typed .char A
theorem Ch.mv {a : Addr} {A : Cell} {U U' : State} (h : Ch a A U) (hal : U.vm.Alike U'.vm) (hh : U'.heap = U.heap) : Ch a A U' := ⟨h.1.mv hal hh, h.2⟩
theorem Ch.keep {a : Addr} {A : Cell} {U U' : State} (h : Ch a A U) (hal : U.vm.Alike U'.vm) (hk : U'.heap[a]? = some A) : Ch a A U' := ⟨h.1.keep hal hk, h.2⟩
/-- what place i of a char[]'s cell holds -/
def cv (A : Cell) (i : Nat) : Int32 := match A.slots[i]? with | some (.int x) => x | _ => 0
theorem Ch.get {a : Addr} {A : Cell} {U : State} (h : Ch a A U) {i : Nat} (hi : i < A.slots.size) : A.slots[i]? = some (.int (cv A i)) := by
  have e := Array.getElem?_eq_getElem hi
  have f := h.2 i _ e
  unfold cv; rw [e]
  generalize A.slots[i] = v at f
  cases v <;> simp [fits] at f ⊢
/-- the byte that i2b leaves of a char -/
def lo8 (x : Int32) : Int32 := x.toInt8.toInt32
theorem fits_lo8 (y : Int32) : fits .byte (.int (lo8 y)) = true := by
  have h1 := y.toInt8.le_toInt
  have h2 := y.toInt8.toInt_lt
  simp only [lo8, fits, Bool.and_eq_true, decide_eq_true_eq, Int32.le_iff_toInt_le, Int8.toInt_toInt32, show (-128 : Int32).toInt = -128 from by decide, show (127 : Int32).toInt = 127 from by decide]
  omega
/-- A' is A but that each place j of lo .. hi - 1 holds f j -/
def Laid (A A' : Cell) (lo hi : Nat) (f : Nat → Value) : Prop := A'.cls = A.cls ∧ A'.vm = A.vm ∧ A'.slots.size = A.slots.size ∧ ∀ i, A'.slots[i]? = if lo ≤ i ∧ i < hi then some (f i) else A.slots[i]?
theorem Laid.zero (A : Cell) (lo : Nat) (f : Nat → Value) : Laid A A lo (lo + 0) f := ⟨rfl, rfl, rfl, fun i => by rw [if_neg (by omega)]⟩
theorem Laid.step {A Ak : Cell} {lo k : Nat} {f : Nat → Value} {v : Value} (h : Laid A Ak lo k f) (hlo : lo ≤ k) (hk : k < Ak.slots.size) (hv : v = f k) : Laid A (Ak.setSlot k v) lo (k + 1) f := by
  refine ⟨h.1, h.2.1, by simpa [Cell.setSlot] using h.2.2.1, fun i => ?_⟩
  by_cases e : k = i
  · subst e; rw [Cell.slots_setSlot_self v hk, if_pos (by omega), hv]
  · rw [Cell.slots_setSlot_ne v e, h.2.2.2 i]
    by_cases q : lo ≤ i ∧ i < k
    · rw [if_pos q, if_pos (by omega)]
    · rw [if_neg q, if_neg (by omega)]
def U16 : String := "java/lang/StringUTF16"
namespace Cmp5
def yN : MethodName := ⟨"java/lang/StringUTF16", "compress", "([CI[BII)I"⟩
abbrev yB : ByteArray := jdk_52_method_21_code
theorem d0 : decode yB 0 = .ok (.iconst 0, 1) := by decide +kernel
theorem d1 : decode yB 1 = .ok (.istore 5, 2) := by decide +kernel
theorem d3 : decode yB 3 = .ok (.iload 5, 2) := by decide +kernel
theorem d5 : decode yB 5 = .ok (.iload 4, 2) := by decide +kernel
theorem d7 : decode yB 7 = .ok (.if_icmp (.ge) 37, 3) := by decide +kernel
theorem d10 : decode yB 10 = .ok (.aload_n 0, 1) := by decide +kernel
theorem d11 : decode yB 11 = .ok (.iload_n 1, 1) := by decide +kernel
theorem d12 : decode yB 12 = .ok (.caload, 1) := by decide +kernel
theorem d13 : decode yB 13 = .ok (.istore 6, 2) := by decide +kernel
theorem d15 : decode yB 15 = .ok (.iload 6, 2) := by decide +kernel
theorem d17 : decode yB 17 = .ok (.sipush 255, 3) := by decide +kernel
theorem d20 : decode yB 20 = .ok (.if_icmp (.le) 6, 3) := by decide +kernel
theorem d26 : decode yB 26 = .ok (.aload_n 2, 1) := by decide +kernel
theorem d27 : decode yB 27 = .ok (.iload_n 3, 1) := by decide +kernel
theorem d28 : decode yB 28 = .ok (.iload 6, 2) := by decide +kernel
theorem d30 : decode yB 30 = .ok (.i2b, 1) := by decide +kernel
theorem d31 : decode yB 31 = .ok (.bastore, 1) := by decide +kernel
theorem d32 : decode yB 32 = .ok (.iinc 1 1, 3) := by decide +kernel
theorem d35 : decode yB 35 = .ok (.iinc 3 1, 3) := by decide +kernel
theorem d38 : decode yB 38 = .ok (.iinc 5 1, 3) := by decide +kernel
theorem d41 : decode yB 41 = .ok (.goto (-38), 3) := by decide +kernel
theorem d44 : decode yB 44 = .ok (.iload 4, 2) := by decide +kernel
theorem d46 : decode yB 46 = .ok (.ireturn, 1) := by decide +kernel
def site : List Cond := []
def tab : Cond := tabOf yN yB 7 (some .int) site
def P (b : Addr) (A : Cell) (d : Addr) (B : Cell) (o q len : Nat) (args : Array Value) (s : State) : Prop := args = #[.ref b, .int (Int32.ofNat o), .ref d, .int (Int32.ofNat q), .int (Int32.ofNat len)] ∧ Ch b A s ∧ Arr .byte d B s ∧ b ≠ d ∧ o + len ≤ A.slots.size ∧ q + len ≤ B.slots.size ∧ ∀ i, i < len → ¬ 255 < cv A (o + i)
def E (b : Addr) (A : Cell) (d : Addr) (B : Cell) (o q len : Nat) (r : Option Value) (s u : State) : Prop := r = some (.int (Int32.ofNat len)) ∧ ∃ B', Put d B' s u ∧ Laid B B' q (q + len) (fun j => Value.int (lo8 (cv A (o + (j - q)))))
/-- no char of the range above 255: len; the places written hold each char's low byte -/
theorem law (l : Launch) (b : Addr) (A : Cell) (d : Addr) (B : Cell) (o q len : Nat) : Law l yN 5 5 0 0 yB 7 (some .int) site (P b A d B o q len) (E b A d B o q len) (copyLocs d q len) 0 0 := by
  refine Law.of_walk (plainFor_of_name (by decide +kernel)) (by decide +kernel) (by decide +kernel) (by decide) (fun _ _ h => by rw [h.1]; rfl) (fun _ U U' hal hh h => ⟨h.1, h.2.1.mv hal hh, h.2.2.1.mv hal hh, h.2.2.2⟩) (fun r U U' V V' h1 hal h2 h => ⟨h.1, h.2.elim fun B' q => ⟨B', q.1.mv h1 h2, q.2⟩⟩) ?_
  intro p e s m args below meth c s₁ X0 hexec hbytes hml hret hlk hnm hown hh0 W hP
  obtain ⟨rfl, hA, hB, hne, l1, l2, hp⟩ := hP
  have c1 : Steps p.tables e below (s₁.setTop (entryFrame m #[.ref b, .int (Int32.ofNat o), .ref d, .int (Int32.ofNat q), .int (Int32.ofNat len)] 7)) (s₁.setTop (mkF m 0 #[.val (.ref b), .val (.int (Int32.ofNat o)), .val (.ref d), .val (.int (Int32.ofNat q)), .val (.int (Int32.ofNat len)), .unset, .unset] [])) := entry rfl
  have hA0 := hA.1.mv X0.warmed.alike hh0
  have hB0 := hB.mv X0.warmed.alike hh0
  have a31 := hA.1.2.2.2
  have c2 : Steps p.tables e below (s₁.setTop (entryFrame m #[.ref b, .int (Int32.ofNat o), .ref d, .int (Int32.ofNat q), .int (Int32.ofNat len)] 7)) (s₁.setTop (mkF m 3 #[.val (.ref b), .val (.int (Int32.ofNat o)), .val (.ref d), .val (.int (Int32.ofNat q)), .val (.int (Int32.ofNat len)), .val (.int 0), .unset] [])) := c1.trans (by
    refine iconstV X0.here hexec rfl 0 (hb hbytes d0) (by decide) ?_
    refine XS.istore X0.here hexec rfl (hb hbytes d1) rfl rfl ?_
    exact Steps.refl _)
  have loop : ∀ (r i : Nat), i + r = len → ∀ (z : Slot), (z = .unset ∨ ∃ w, z = .val w ∧ w.category = 1) → ∀ (Tl : State) (Bk : Cell), Stand p l e { frames := 0, locals := 0, cells := 0, slots := 0 } s m #[.ref b, .int (Int32.ofNat o), .ref d, .int (Int32.ofNat q), .int (Int32.ofNat len)] below meth c Tl ([] ++ copyLocs d q i) 0 0 → Put d Bk s₁ Tl → Laid B Bk q (q + i) (fun j => Value.int (lo8 (cv A (o + (j - q))))) →
      Steps p.tables e below (s₁.setTop (entryFrame m #[.ref b, .int (Int32.ofNat o), .ref d, .int (Int32.ofNat q), .int (Int32.ofNat len)] 7)) (Tl.setTop (mkF m 3 #[.val (.ref b), .val (.int (Int32.ofNat (o + i))), .val (.ref d), .val (.int (Int32.ofNat (q + i))), .val (.int (Int32.ofNat len)), .val (.int (Int32.ofNat i)), z] [])) → ∃ (T' : State) (B' : Cell) (z' : Slot), Stand p l e { frames := 0, locals := 0, cells := 0, slots := 0 } s m #[.ref b, .int (Int32.ofNat o), .ref d, .int (Int32.ofNat q), .int (Int32.ofNat len)] below meth c T' ([] ++ copyLocs d q len) 0 0 ∧ Put d B' s₁ T' ∧ Laid B B' q (q + len) (fun j => Value.int (lo8 (cv A (o + (j - q))))) ∧
      Steps p.tables e below (s₁.setTop (entryFrame m #[.ref b, .int (Int32.ofNat o), .ref d, .int (Int32.ofNat q), .int (Int32.ofNat len)] 7)) (T'.setTop (mkF m 3 #[.val (.ref b), .val (.int (Int32.ofNat (o + len))), .val (.ref d), .val (.int (Int32.ofNat (q + len))), .val (.int (Int32.ofNat len)), .val (.int (Int32.ofNat len)), z'] [])) := by
    intro r
    induction r with
    | zero =>
      intro i hi z hz Tl Bk Xl pl fl cl
      have hil : i = len := by omega
      rw [hil] at Xl fl cl
      exact ⟨Tl, Bk, z, Xl, pl, fl, cl⟩
    | succ r ih =>
      intro i hi z hz Tl Bk Xl pl fl cl
      have all := X0.warmed.alike.symm.trans Xl.warmed.alike
      have hAl := hA0.keep all (pl.other hne hA0.1)
      have hBk := hB0.like all pl.1 fl.1 fl.2.1 fl.2.2.1
      have hlt : q + i < Bk.slots.size := by rw [fl.2.2.1]; omega
      have c3 : Steps p.tables e below (s₁.setTop (entryFrame m #[.ref b, .int (Int32.ofNat o), .ref d, .int (Int32.ofNat q), .int (Int32.ofNat len)] 7)) (Tl.setTop (mkF m 12 #[.val (.ref b), .val (.int (Int32.ofNat (o + i))), .val (.ref d), .val (.int (Int32.ofNat (q + i))), .val (.int (Int32.ofNat len)), .val (.int (Int32.ofNat i)), z] [.int (Int32.ofNat (o + i)), .ref b])) := cl.trans (by
        refine XS.iload Xl.here hexec rfl (hb hbytes d3) rfl ?_
        refine XS.iload Xl.here hexec rfl (hb hbytes d5) rfl ?_
        refine XS.icmpNo Xl.here hexec rfl (hb hbytes d7) rfl (ii_ge_f (lt32 (by omega) (by omega))) ?_
        refine XS.aloadN Xl.here hexec rfl (hb hbytes d10) rfl rfl ?_
        refine XS.iloadN Xl.here hexec rfl (hb hbytes d11) rfl ?_
        exact Steps.refl _)
      have c4 : Steps p.tables e below (s₁.setTop (entryFrame m #[.ref b, .int (Int32.ofNat o), .ref d, .int (Int32.ofNat q), .int (Int32.ofNat len)] 7)) (Tl.setTop (mkF m 13 #[.val (.ref b), .val (.int (Int32.ofNat (o + i))), .val (.ref d), .val (.int (Int32.ofNat (q + i))), .val (.int (Int32.ofNat len)), .val (.int (Int32.ofNat i)), z] [.int (cv A (o + i))])) := c3.trans (by
        refine Xl.aget hexec hAl rfl (hA.get (i := o + i) (by omega)) rfl rfl (hb hbytes d12) ?_
        exact Steps.refl _)
      have c5 : Steps p.tables e below (s₁.setTop (entryFrame m #[.ref b, .int (Int32.ofNat o), .ref d, .int (Int32.ofNat q), .int (Int32.ofNat len)] 7)) (Tl.setTop (mkF m 15 #[.val (.ref b), .val (.int (Int32.ofNat (o + i))), .val (.ref d), .val (.int (Int32.ofNat (q + i))), .val (.int (Int32.ofNat len)), .val (.int (Int32.ofNat i)), .val (.int (cv A (o + i)))] [])) := c4.trans (by
        refine XS.istoreS Xl.here hexec rfl (hb hbytes d13) rfl rfl hz ?_
        exact Steps.refl _)
      have c6 : Steps p.tables e below (s₁.setTop (entryFrame m #[.ref b, .int (Int32.ofNat o), .ref d, .int (Int32.ofNat q), .int (Int32.ofNat len)] 7)) (Tl.setTop (mkF m 31 #[.val (.ref b), .val (.int (Int32.ofNat (o + i))), .val (.ref d), .val (.int (Int32.ofNat (q + i))), .val (.int (Int32.ofNat len)), .val (.int (Int32.ofNat i)), .val (.int (cv A (o + i)))] [.int (lo8 (cv A (o + i))), .int (Int32.ofNat (q + i)), .ref d])) := c5.trans (by
        refine XS.iload Xl.here hexec rfl (hb hbytes d15) rfl ?_
        refine sipushV Xl.here hexec rfl 255 (hb hbytes d17) (by decide) ?_
        refine XS.icmpYes Xl.here hexec rfl (pc0 := 20) rfl (hb hbytes d20) rfl (ii_le_t (hp i (by omega))) (by decide) rfl ?_
        refine XS.aloadN Xl.here hexec rfl (hb hbytes d26) rfl rfl ?_
        refine XS.iloadN Xl.here hexec rfl (hb hbytes d27) rfl ?_
        refine XS.iload Xl.here hexec rfl (hb hbytes d28) rfl ?_
        refine i2b Xl.here hexec rfl (hb hbytes d30) rfl ?_
        exact Steps.refl _)
      obtain ⟨T7, X7, p7, st7⟩ := Xl.aput hexec hBk rfl hlt rfl (fits_lo8 (cv A (o + i))) (g := (mkF m 31 #[.val (.ref b), .val (.int (Int32.ofNat (o + i))), .val (.ref d), .val (.int (Int32.ofNat (q + i))), .val (.int (Int32.ofNat len)), .val (.int (Int32.ofNat i)), .val (.int (cv A (o + i)))] [.int (lo8 (cv A (o + i))), .int (Int32.ofNat (q + i)), .ref d])) rfl (rest := []) rfl (hb hbytes d31)
      have c8 : Steps p.tables e below (s₁.setTop (entryFrame m #[.ref b, .int (Int32.ofNat o), .ref d, .int (Int32.ofNat q), .int (Int32.ofNat len)] 7)) (T7.setTop (mkF m 32 #[.val (.ref b), .val (.int (Int32.ofNat (o + i))), .val (.ref d), .val (.int (Int32.ofNat (q + i))), .val (.int (Int32.ofNat len)), .val (.int (Int32.ofNat i)), .val (.int (cv A (o + i)))] [])) := c6.trans (st7 _ (Steps.refl _))
      have c9 : Steps p.tables e below (s₁.setTop (entryFrame m #[.ref b, .int (Int32.ofNat o), .ref d, .int (Int32.ofNat q), .int (Int32.ofNat len)] 7)) (T7.setTop (mkF m 3 #[.val (.ref b), .val (.int (Int32.ofNat (o + i) + 1)), .val (.ref d), .val (.int (Int32.ofNat (q + i) + 1)), .val (.int (Int32.ofNat len)), .val (.int (Int32.ofNat i + 1)), .val (.int (cv A (o + i)))] [])) := c8.trans (by
        refine iincV X7.here hexec rfl 1 (hb hbytes d32) (by decide) rfl rfl ?_
        refine iincV X7.here hexec rfl 1 (hb hbytes d35) (by decide) rfl rfl ?_
        refine iincV X7.here hexec rfl 1 (hb hbytes d38) (by decide) rfl rfl ?_
        refine XS.goto X7.here hexec rfl (pc0 := 41) rfl (hb hbytes d41) (by decide) rfl ?_
        exact Steps.refl _)
      have c10 : Steps p.tables e below (s₁.setTop (entryFrame m #[.ref b, .int (Int32.ofNat o), .ref d, .int (Int32.ofNat q), .int (Int32.ofNat len)] 7)) (T7.setTop (mkF m 3 #[.val (.ref b), .val (.int (Int32.ofNat (o + (i + 1)))), .val (.ref d), .val (.int (Int32.ofNat (q + (i + 1)))), .val (.int (Int32.ofNat len)), .val (.int (Int32.ofNat (i + 1))), .val (.int (cv A (o + i)))] [])) := by
        have := c9
        rw [succ32, succ32, succ32] at this
        exact this
      exact ih (i + 1) (by omega) _ (Or.inr ⟨_, rfl, rfl⟩) T7 _ (by rw [copyLocs_step, ← List.append_assoc]; exact X7) (pl.trans p7) (fl.step (by omega) hlt (by simp)) c10
  obtain ⟨T9, B9, z9, X9, p9, f9, g9⟩ := loop len 0 (by omega) .unset (Or.inl rfl) s₁ B (by simpa [copyLocs] using X0) ⟨hB0.1, fun _ _ => rfl, rfl⟩ (Laid.zero _ _ _) c2
  have c11 : Steps p.tables e below (s₁.setTop (entryFrame m #[.ref b, .int (Int32.ofNat o), .ref d, .int (Int32.ofNat q), .int (Int32.ofNat len)] 7)) (T9.setTop (mkF m 46 #[.val (.ref b), .val (.int (Int32.ofNat (o + len))), .val (.ref d), .val (.int (Int32.ofNat (q + len))), .val (.int (Int32.ofNat len)), .val (.int (Int32.ofNat len)), z9] [.int (Int32.ofNat len)])) := g9.trans (by
    refine XS.iload X9.here hexec rfl (hb hbytes d3) rfl ?_
    refine XS.iload X9.here hexec rfl (hb hbytes d5) rfl ?_
    refine XS.icmpYes X9.here hexec rfl (pc0 := 7) rfl (hb hbytes d7) rfl (ii_ge_t (nlt32 (by omega) (Nat.le_refl _))) (by decide) rfl ?_
    refine XS.iload X9.here hexec rfl (hb hbytes d44) rfl ?_
    exact Steps.refl _)
  exact ⟨T9, some (.int (Int32.ofNat len)), _, _, _, X9, by simp, rfl, rfl, (fun h => by cases h), ⟨rfl, B9, p9.from hh0, f9⟩, fun fs hl => c11.trans (X9.ireturnOut hexec hret rfl (Or.inl rfl) (hb hbytes d46) hl)⟩
end Cmp5
namespace Cmp3
def yN : MethodName := ⟨"java/lang/StringUTF16", "compress", "([CII)[B"⟩
abbrev yB : ByteArray := jdk_52_method_16_code
theorem d0 : decode yB 0 = .ok (.iload_n 2, 1) := by decide +kernel
theorem d1 : decode yB 1 = .ok (.newarray .byte, 2) := by decide +kernel
theorem d3 : decode yB 3 = .ok (.astore_n 3, 1) := by decide +kernel
theorem d4 : decode yB 4 = .ok (.aload_n 0, 1) := by decide +kernel
theorem d5 : decode yB 5 = .ok (.iload_n 1, 1) := by decide +kernel
theorem d6 : decode yB 6 = .ok (.aload_n 3, 1) := by decide +kernel
theorem d7 : decode yB 7 = .ok (.iconst 0, 1) := by decide +kernel
theorem d8 : decode yB 8 = .ok (.iload_n 2, 1) := by decide +kernel
theorem d9 : decode yB 9 = .ok (.invokestatic 115, 3) := by decide +kernel
theorem d12 : decode yB 12 = .ok (.istore 4, 2) := by decide +kernel
theorem d14 : decode yB 14 = .ok (.iload 4, 2) := by decide +kernel
theorem d16 : decode yB 16 = .ok (.iload_n 2, 1) := by decide +kernel
theorem d17 : decode yB 17 = .ok (.if_icmp (.eq) 40, 3) := by decide +kernel
theorem d57 : decode yB 57 = .ok (.aload_n 3, 1) := by decide +kernel
theorem d58 : decode yB 58 = .ok (.areturn, 1) := by decide +kernel
def site : List Cond := [.arrayClass .byte, Cmp5.tab] ++ staticW U16 115 Cmp5.yN
def tab : Cond := tabOf yN yB 6 (some (.array .byte)) site
def P (b : Addr) (A : Cell) (o len : Nat) (args : Array Value) (s : State) : Prop := args = #[.ref b, .int (Int32.ofNat o), .int (Int32.ofNat len)] ∧ Ch b A s ∧ o + len ≤ A.slots.size ∧ len ≤ 536870912 ∧ ∀ i, i < len → ¬ 255 < cv A (o + i)
def E (b : Addr) (A : Cell) (o len : Nat) (r : Option Value) (s u : State) : Prop := NewArr .byte "[B" len (fun j => .int (lo8 (cv A (o + j)))) r s u ∧ u.heap.size = s.heap.size + 1
/-- no char of the range above 255: a new byte[] of their low bytes -/
theorem law (l : Launch) (b : Addr) (A : Cell) (o len : Nat) : Law l yN 3 3 1 18 yB 6 (some (.array .byte)) site (P b A o len) (E b A o len) [] 1 len := by
  refine Law.of_walk (plainFor_of_name (by decide +kernel)) (by decide +kernel) (by decide +kernel) (by decide) (fun _ _ h => by rw [h.1]; rfl) (fun _ U U' hal hh h => ⟨h.1, h.2.1.mv hal hh, h.2.2⟩) (fun r U U' V V' h1 hal h2 h => ⟨NewArr.mv r U U' V V' h1 hal h2 h.1, by rw [h1, h2]; exact h.2⟩) ?_
  intro p e s m args below meth c s₁ X0 hexec hbytes hml hret hlk hnm hown hh0 W hP
  obtain ⟨rfl, hA, l1, l2, hp⟩ := hP
  have a31 := hA.1.2.2.2
  have c1 : Steps p.tables e below (s₁.setTop (entryFrame m #[.ref b, .int (Int32.ofNat o), .int (Int32.ofNat len)] 6)) (s₁.setTop (mkF m 0 #[.val (.ref b), .val (.int (Int32.ofNat o)), .val (.int (Int32.ofNat len)), .unset, .unset, .unset] [])) := entry rfl
  have c2 : Steps p.tables e below (s₁.setTop (entryFrame m #[.ref b, .int (Int32.ofNat o), .int (Int32.ofNat len)] 6)) (s₁.setTop (mkF m 1 #[.val (.ref b), .val (.int (Int32.ofNat o)), .val (.int (Int32.ofNat len)), .unset, .unset, .unset] [.int (Int32.ofNat len)])) := c1.trans (by
    refine XS.iloadN X0.here hexec rfl (hb hbytes d0) rfl ?_
    exact Steps.refl _)
  obtain ⟨T3, B3, X3, ba3, bs3, bv3, bh3, bf3, st3⟩ := X0.anew hexec (atype := .byte) (wk W (.arrayClass .byte)) rfl (by show len * 1 ≤ _; omega) (by omega) (g := (mkF m 1 #[.val (.ref b), .val (.int (Int32.ofNat o)), .val (.int (Int32.ofNat len)), .unset, .unset, .unset] [.int (Int32.ofNat len)])) rfl (hb hbytes d1) (rest := []) rfl (Nat.le_refl _) (by show 0 + len ≤ len; omega)
  rw [hh0] at ba3 st3
  have kp3 : XT.Kept s T3 := (XT.Kept.of_eq hh0).push bh3
  have hA3 := hA.keep X3.warmed.alike (kp3 _ _ hA.1.1)
  have hne : b ≠ s.heap.size := hA.1.ne
  have c4 : Steps p.tables e below (s₁.setTop (entryFrame m #[.ref b, .int (Int32.ofNat o), .int (Int32.ofNat len)] 6)) (T3.setTop (mkF m 3 #[.val (.ref b), .val (.int (Int32.ofNat o)), .val (.int (Int32.ofNat len)), .unset, .unset, .unset] [.ref s.heap.size])) := c2.trans (st3 _ (Steps.refl _))
  have c5 : Steps p.tables e below (s₁.setTop (entryFrame m #[.ref b, .int (Int32.ofNat o), .int (Int32.ofNat len)] 6)) (T3.setTop (mkF m 9 #[.val (.ref b), .val (.int (Int32.ofNat o)), .val (.int (Int32.ofNat len)), .val (.ref s.heap.size), .unset, .unset] [.int (Int32.ofNat len), .int 0, .ref s.heap.size, .int (Int32.ofNat o), .ref b])) := c4.trans (by
    refine XS.astoreN X3.here hexec rfl (hb hbytes d3) rfl rfl rfl ?_
    refine XS.aloadN X3.here hexec rfl (hb hbytes d4) rfl rfl ?_
    refine XS.iloadN X3.here hexec rfl (hb hbytes d5) rfl ?_
    refine XS.aloadN X3.here hexec rfl (hb hbytes d6) rfl rfl ?_
    refine iconstV X3.here hexec rfl 0 (hb hbytes d7) (by decide) ?_
    refine XS.iloadN X3.here hexec rfl (hb hbytes d8) rfl ?_
    exact Steps.refl _)
  obtain ⟨v6, T6, X6, E6, g6⟩ := X3.callS hexec (Cmp5.law l b A s.heap.size B3 o 0 len) hown (wks W (staticW U16 115 Cmp5.yN)) (wk W Cmp5.tab) (W := 0) (Nat.le_of_ble_eq_true rfl) (Nat.le_of_ble_eq_true rfl) (Nat.le_refl _) (by show 0 + len + 0 ≤ len; omega) (g := (mkF m 9 #[.val (.ref b), .val (.int (Int32.ofNat o)), .val (.int (Int32.ofNat len)), .val (.ref s.heap.size), .unset, .unset] [.int (Int32.ofNat len), .int (Int32.ofNat 0), .ref s.heap.size, .int (Int32.ofNat o), .ref b])) rfl (by rw [hml]; rfl) c5 (argsL := [.ref b, .int (Int32.ofNat o), .ref s.heap.size, .int (Int32.ofNat 0), .int (Int32.ofNat len)]) (rest := []) rfl rfl (by show 2 * 0 + 0 ≤ _; decide) (hb hbytes d9) (⟨rfl, hA3, ba3, hne, l1, by rw [bs3]; simp, hp⟩)
  obtain ⟨rfl, B6, p6, f6⟩ := E6
  have c7 : Steps p.tables e below (s₁.setTop (entryFrame m #[.ref b, .int (Int32.ofNat o), .int (Int32.ofNat len)] 6)) (T6.setTop (mkF m 12 #[.val (.ref b), .val (.int (Int32.ofNat o)), .val (.int (Int32.ofNat len)), .val (.ref s.heap.size), .unset, .unset] [.int (Int32.ofNat len)])) := g6
  have c8 : Steps p.tables e below (s₁.setTop (entryFrame m #[.ref b, .int (Int32.ofNat o), .int (Int32.ofNat len)] 6)) (T6.setTop (mkF m 58 #[.val (.ref b), .val (.int (Int32.ofNat o)), .val (.int (Int32.ofNat len)), .val (.ref s.heap.size), .val (.int (Int32.ofNat len)), .unset] [.ref s.heap.size])) := c7.trans (by
    refine XS.istore X6.here hexec rfl (hb hbytes d12) rfl rfl ?_
    refine XS.iload X6.here hexec rfl (hb hbytes d14) rfl ?_
    refine XS.iloadN X6.here hexec rfl (hb hbytes d16) rfl ?_
    refine XS.icmpYes X6.here hexec rfl (pc0 := 17) rfl (hb hbytes d17) rfl (ii_eq_t rfl) (by decide) rfl ?_
    refine XS.aloadN X6.here hexec rfl (hb hbytes d57) rfl rfl ?_
    exact Steps.refl _)
  have X8 := X6.wide (L' := []) (cells' := 1) (slots' := len) (fun x hx hlt => by
    simp only [List.nil_append, copyLocs, List.mem_map, List.mem_range] at hx
    obtain ⟨i, -, rfl⟩ := hx
    exact absurd hlt (Nat.lt_irrefl _)) (Nat.le_refl _) (by omega)
  exact ⟨T6, some (.ref s.heap.size), _, _, _, X8, rfl, rfl, rfl, (fun h => by cases h), ⟨⟨rfl, B6, ba3.like (X3.warmed.alike.symm.trans X6.warmed.alike) p6.1 f6.1 f6.2.1 f6.2.2.1, f6.2.1.trans bv3, by rw [X6.warmed.alike.findClass, f6.1]; exact bf3, by rw [f6.2.2.1, bs3]; simp, fun j hj => by rw [f6.2.2.2 j, if_pos (by omega)]; rfl, kp3.put p6 (Nat.le_refl _)⟩, by rw [p6.2.2, bh3, hh0]; simp⟩, fun fs hl => c8.trans (X8.areturnOut hexec rfl hret rfl (hb hbytes d58) hl)⟩
end Cmp3
namespace CodL
def yN : MethodName := ⟨"java/lang/StringUTF16", "coderFromArrayLen", "([BI)B"⟩
abbrev yB : ByteArray := jdk_52_method_15_code
theorem d0 : decode yB 0 = .ok (.iload_n 1, 1) := by decide +kernel
theorem d1 : decode yB 1 = .ok (.aload_n 0, 1) := by decide +kernel
theorem d2 : decode yB 2 = .ok (.arraylength, 1) := by decide +kernel
theorem d3 : decode yB 3 = .ok (.isub, 1) := by decide +kernel
theorem d4 : decode yB 4 = .ok (.bipush 31, 2) := by decide +kernel
theorem d6 : decode yB 6 = .ok (.iushr, 1) := by decide +kernel
theorem d7 : decode yB 7 = .ok (.i2b, 1) := by decide +kernel
theorem d8 : decode yB 8 = .ok (.ireturn, 1) := by decide +kernel
def site : List Cond := []
def tab : Cond := tabOf yN yB 2 (some .byte) site
def P (d : Addr) (B : Cell) (args : Array Value) (s : State) : Prop := args = #[.ref d, .int (Int32.ofNat B.slots.size)] ∧ Arr .byte d B s
def E (r : Option Value) (s u : State) : Prop := XT.PureE (some (.int 0)) r s u
/-- an array as long as the number of chars: LATIN1 -/
theorem law (l : Launch) (d : Addr) (B : Cell) : Law l yN 2 2 0 0 yB 2 (some .byte) site (P d B) E [] 0 0 := by
  refine Law.of_walk (plainFor_of_name (by decide +kernel)) (by decide +kernel) (by decide +kernel) (by decide) (fun _ _ h => by rw [h.1]; rfl) (fun _ U U' hal hh h => ⟨h.1, h.2.mv hal hh⟩) (fun r U U' V V' h1 hal h2 h => XT.PureE.mv r U U' V V' h1 hal h2 h) ?_
  intro p e s m args below meth c s₁ X0 hexec hbytes hml hret hlk hnm hown hh0 W hP
  obtain ⟨rfl, hB⟩ := hP
  have hB0 := hB.mv X0.warmed.alike hh0
  have c1 : Steps p.tables e below (s₁.setTop (entryFrame m #[.ref d, .int (Int32.ofNat B.slots.size)] 2)) (s₁.setTop (mkF m 0 #[.val (.ref d), .val (.int (Int32.ofNat B.slots.size))] [])) := entry rfl
  have c2 : Steps p.tables e below (s₁.setTop (entryFrame m #[.ref d, .int (Int32.ofNat B.slots.size)] 2)) (s₁.setTop (mkF m 2 #[.val (.ref d), .val (.int (Int32.ofNat B.slots.size))] [.ref d, .int (Int32.ofNat B.slots.size)])) := c1.trans (by
    refine XS.iloadN X0.here hexec rfl (hb hbytes d0) rfl ?_
    refine XS.aloadN X0.here hexec rfl (hb hbytes d1) rfl rfl ?_
    exact Steps.refl _)
  have c3 : Steps p.tables e below (s₁.setTop (entryFrame m #[.ref d, .int (Int32.ofNat B.slots.size)] 2)) (s₁.setTop (mkF m 8 #[.val (.ref d), .val (.int (Int32.ofNat B.slots.size))] [.int (lo8 (ushr (Int32.ofNat B.slots.size - Int32.ofNat B.slots.size) 31))])) := c2.trans (by
    refine X0.alen hexec hB0 rfl rfl (hb hbytes d2) ?_
    refine XS.isub X0.here hexec rfl (hb hbytes d3) rfl ?_
    refine bipushV X0.here hexec rfl 31 (hb hbytes d4) (by decide) ?_
    refine iushr X0.here hexec rfl (hb hbytes d6) rfl ?_
    refine i2b X0.here hexec rfl (hb hbytes d7) rfl ?_
    exact Steps.refl _)
  have e0 : lo8 (ushr (Int32.ofNat B.slots.size - Int32.ofNat B.slots.size) 31) = 0 := by rw [Int32.sub_self]; decide
  rw [e0] at c3
  exact ⟨s₁, some (.int 0), _, _, _, X0, rfl, rfl, rfl, (fun h => by cases h), ⟨rfl, hh0⟩, fun fs hl => c3.trans (X0.ireturnOut hexec hret rfl (Or.inr (Or.inr (Or.inl rfl))) (hb hbytes d8) hl)⟩
end CodL
/-- the String at a is Latin-1 over a new byte[] (the heap's one new cell): the low bytes of the len chars of A from o on; every cell but a is kept -/
def Got (a : Addr) (D : Cell) (fV fC : Field) (A : Cell) (o len : Nat) (r : Option Value) (s u : State) : Prop := r = none ∧ ∃ D' V : Cell, Blank "java/lang/String" a D' u ∧ Same D D' [fV.slot, fC.slot] ∧ D'.slots[fV.slot]? = some (.ref s.heap.size) ∧ D'.slots[fC.slot]? = some (.int 0) ∧ Arr .byte s.heap.size V u ∧ V.vm = .none ∧ u.vm.findClass "[B" = some V.cls ∧ V.slots.size = len ∧ (∀ j, j < len → V.slots[j]? = some (.int (lo8 (cv A (o + j))))) ∧ (∀ (y : Addr) (c : Cell), y ≠ a → s.heap[y]? = some c → u.heap[y]? = some c) ∧ u.heap.size = s.heap.size + 1
theorem Got.mv {a : Addr} {D A : Cell} {fV fC : Field} {o len : Nat} : ∀ r (U U' V V' : State), U'.heap = U.heap → V.vm.Alike V'.vm → V'.heap = V.heap → Got a D fV fC A o len r U V → Got a D fV fC A o len r U' V' :=
  fun r U U' V V' h1 hal h2 ⟨e0, D', X, a1, a2, a3, a4, a5, a6, a7, a8, a9, a10, a11⟩ => ⟨e0, D', X, a1.mv hal h2, a2, by rw [h1]; exact a3, a4, by rw [h1]; exact a5.mv hal h2, a6, by rw [hal.findClass]; exact a7, a8, a9, by rw [h1, h2]; exact a10, by rw [h1, h2]; exact a11⟩
namespace New4
def yN : MethodName := ⟨"java/lang/String", "<init>", "([CIILjava/lang/Void;)V"⟩
abbrev yB : ByteArray := jdk_42_method_149_code
theorem d0 : decode yB 0 = .ok (.aload_n 0, 1) := by decide +kernel
theorem d1 : decode yB 1 = .ok (.invokespecial 1, 3) := by decide +kernel
theorem d4 : decode yB 4 = .ok (.iload_n 3, 1) := by decide +kernel
theorem d5 : decode yB 5 = .ok (.ifCond (.ne) 22, 3) := by decide +kernel
theorem d27 : decode yB 27 = .ok (.getstatic 38, 3) := by decide +kernel
theorem d30 : decode yB 30 = .ok (.ifCond (.eq) 28, 3) := by decide +kernel
theorem d33 : decode yB 33 = .ok (.aload_n 1, 1) := by decide +kernel
theorem d34 : decode yB 34 = .ok (.iload_n 2, 1) := by decide +kernel
theorem d35 : decode yB 35 = .ok (.iload_n 3, 1) := by decide +kernel
theorem d36 : decode yB 36 = .ok (.invokestatic 177, 3) := by decide +kernel
theorem d39 : decode yB 39 = .ok (.astore 5, 2) := by decide +kernel
theorem d41 : decode yB 41 = .ok (.aload_n 0, 1) := by decide +kernel
theorem d42 : decode yB 42 = .ok (.aload 5, 2) := by decide +kernel
theorem d44 : decode yB 44 = .ok (.iload_n 3, 1) := by decide +kernel
theorem d45 : decode yB 45 = .ok (.invokestatic 47, 3) := by decide +kernel
theorem d48 : decode yB 48 = .ok (.putfield 15, 3) := by decide +kernel
theorem d51 : decode yB 51 = .ok (.aload_n 0, 1) := by decide +kernel
theorem d52 : decode yB 52 = .ok (.aload 5, 2) := by decide +kernel
theorem d54 : decode yB 54 = .ok (.putfield 9, 3) := by decide +kernel
theorem d57 : decode yB 57 = .ok (.return_, 1) := by decide +kernel
def site : List Cond := [.fieldLink "java/lang/String" 38 "java/lang/String" "COMPACT_STRINGS" "Z", Cmp3.tab, CodL.tab, .laysFinal "java/lang/String" "java/lang/String" "value" "[B", .fieldLink "java/lang/String" 9 "java/lang/String" "value" "[B", .laysFinal "java/lang/String" "java/lang/String" "coder" "B", .fieldLink "java/lang/String" 15 "java/lang/String" "coder" "B"] ++ objW "java/lang/String" 1 ++ staticW "java/lang/String" 177 Cmp3.yN ++ staticW "java/lang/String" 47 CodL.yN
def tab : Cond := tabOf yN yB 6 none site
def P (a : Addr) (D : Cell) (fV fC : Field) (b : Addr) (A : Cell) (z : Int32) (o len : Nat) (args : Array Value) (s : State) : Prop := args = #[.ref a, .ref b, .int (Int32.ofNat o), .int (Int32.ofNat len), .null] ∧ Blank "java/lang/String" a D s ∧ Found "java/lang/String" "value" "[B" fV s ∧ Found "java/lang/String" "coder" "B" fC s ∧ Ch b A s ∧ StaticIs s "java/lang/String" "COMPACT_STRINGS" "Z" (.int z) ∧ ¬ z = 0 ∧ 0 < len ∧ o + len ≤ A.slots.size ∧ len ≤ 536870912 ∧ ∀ i, i < len → ¬ 255 < cv A (o + i)
def E (a : Addr) (D : Cell) (fV fC : Field) (A : Cell) (o len : Nat) (r : Option Value) (s u : State) : Prop := Got a D fV fC A o len r s u
/-- len > 0, no char of the range above 255: a Latin-1 String of their low bytes -/
theorem law (l : Launch) (a : Addr) (D : Cell) (fV fC : Field) (b : Addr) (A : Cell) (z : Int32) (o len : Nat) : Law l yN 5 4 2 35 yB 6 none site (P a D fV fC b A z o len) (E a D fV fC A o len) [⟨a, fC.slot⟩, ⟨a, fV.slot⟩] 1 len := by
  refine Law.of_walk (plainFor_of_name (by decide +kernel)) (by decide +kernel) (by decide +kernel) (by decide) (fun _ _ h => by rw [h.1]; rfl) (fun _ U U' hal hh h => ⟨h.1, h.2.1.mv hal hh, h.2.2.1.al hal, h.2.2.2.1.al hal, h.2.2.2.2.1.mv hal hh, h.2.2.2.2.2.1.there hal hh, h.2.2.2.2.2.2⟩) (fun r U U' V V' h1 hal h2 h => Got.mv r U U' V V' h1 hal h2 h) ?_
  intro p e s m args below meth c s₁ X0 hexec hbytes hml hret hlk hnm hown hh0 W hP
  obtain ⟨rfl, hB, f1, f2, hA, s1, hz, l0, l1, l2, hp⟩ := hP
  have a31 := hA.1.2.2.2
  have c1 : Steps p.tables e below (s₁.setTop (entryFrame m #[.ref a, .ref b, .int (Int32.ofNat o), .int (Int32.ofNat len), .null] 6)) (s₁.setTop (mkF m 0 #[.val (.ref a), .val (.ref b), .val (.int (Int32.ofNat o)), .val (.int (Int32.ofNat len)), .val .null, .unset] [])) := entry rfl
  have c2 : Steps p.tables e below (s₁.setTop (entryFrame m #[.ref a, .ref b, .int (Int32.ofNat o), .int (Int32.ofNat len), .null] 6)) (s₁.setTop (mkF m 1 #[.val (.ref a), .val (.ref b), .val (.int (Int32.ofNat o)), .val (.int (Int32.ofNat len)), .val .null, .unset] [.ref a])) := c1.trans (by
    refine XS.aloadN X0.here hexec rfl (hb hbytes d0) rfl rfl ?_
    exact Steps.refl _)
  obtain ⟨T3, X3, q3, st3⟩ := X0.oinit hexec hown (wks W (objW "java/lang/String" 1)) (g := (mkF m 1 #[.val (.ref a), .val (.ref b), .val (.int (Int32.ofNat o)), .val (.int (Int32.ofNat len)), .val .null, .unset] [.ref a])) rfl (by rw [hml]; rfl) (rest := []) rfl (hb hbytes d1) (W := 0) (by show 2 * 0 + 0 ≤ _; decide) (Nat.le_of_ble_eq_true rfl) (Nat.le_of_ble_eq_true rfl)
  have hh3 := q3.trans hh0
  have c4 : Steps p.tables e below (s₁.setTop (entryFrame m #[.ref a, .ref b, .int (Int32.ofNat o), .int (Int32.ofNat len), .null] 6)) (T3.setTop (mkF m 27 #[.val (.ref a), .val (.ref b), .val (.int (Int32.ofNat o)), .val (.int (Int32.ofNat len)), .val .null, .unset] [])) := (c2.trans (st3 _ (Steps.refl _))).trans (by
    refine XS.iloadN X3.here hexec rfl (hb hbytes d4) rfl ?_
    refine XS.ifYes X3.here hexec rfl (pc0 := 5) rfl (hb hbytes d5) rfl (i0_ne_t (nz32 (by omega) l0)) (by decide) rfl ?_
    exact Steps.refl _)
  obtain ⟨T5, X5, q5, st5⟩ := X3.sget hexec hown (wk W (.fieldLink "java/lang/String" 38 "java/lang/String" "COMPACT_STRINGS" "Z")) s1 (fun _ _ h => by rw [hh3]; exact h) (g := (mkF m 27 #[.val (.ref a), .val (.ref b), .val (.int (Int32.ofNat o)), .val (.int (Int32.ofNat len)), .val .null, .unset] [])) rfl (hb hbytes d27)
  have hh5 := q5.trans hh3
  have c6 : Steps p.tables e below (s₁.setTop (entryFrame m #[.ref a, .ref b, .int (Int32.ofNat o), .int (Int32.ofNat len), .null] 6)) (T5.setTop (mkF m 30 #[.val (.ref a), .val (.ref b), .val (.int (Int32.ofNat o)), .val (.int (Int32.ofNat len)), .val .null, .unset] [.int z])) := c4.trans (st5 _ (Steps.refl _))
  have c7 : Steps p.tables e below (s₁.setTop (entryFrame m #[.ref a, .ref b, .int (Int32.ofNat o), .int (Int32.ofNat len), .null] 6)) (T5.setTop (mkF m 36 #[.val (.ref a), .val (.ref b), .val (.int (Int32.ofNat o)), .val (.int (Int32.ofNat len)), .val .null, .unset] [.int (Int32.ofNat len), .int (Int32.ofNat o), .ref b])) := c6.trans (by
    refine XS.ifNo X5.here hexec rfl (hb hbytes d30) rfl (i0_eq_f hz) ?_
    refine XS.aloadN X5.here hexec rfl (hb hbytes d33) rfl rfl ?_
    refine XS.iloadN X5.here hexec rfl (hb hbytes d34) rfl ?_
    refine XS.iloadN X5.here hexec rfl (hb hbytes d35) rfl ?_
    exact Steps.refl _)
  obtain ⟨v8, T8, X8, E8, g8⟩ := X5.callS hexec (Cmp3.law l b A o len) hown (wks W (staticW "java/lang/String" 177 Cmp3.yN)) (wk W Cmp3.tab) (W := 0) (Nat.le_of_ble_eq_true rfl) (Nat.le_of_ble_eq_true rfl) (Nat.le_refl _) (by show 0 + len ≤ len; omega) (g := (mkF m 36 #[.val (.ref a), .val (.ref b), .val (.int (Int32.ofNat o)), .val (.int (Int32.ofNat len)), .val .null, .unset] [.int (Int32.ofNat len), .int (Int32.ofNat o), .ref b])) rfl (by rw [hml]; rfl) c7 (argsL := [.ref b, .int (Int32.ofNat o), .int (Int32.ofNat len)]) (rest := []) rfl rfl (by show 2 * 0 + 0 ≤ _; decide) (hb hbytes d36) (⟨rfl, hA.mv X5.warmed.alike hh5, l1, l2, hp⟩)
  obtain ⟨e8, z8⟩ := E8
  obtain ⟨rfl, N, n1, n2, n3, n4, n5, n6⟩ := NewArr.mv _ T5 s _ _ hh5.symm (Vm.Alike.refl _) rfl e8
  rw [hh5] at z8
  have hB1 := hB.keep X8.warmed.alike (n6 _ _ hB.1)
  have hne : s.heap.size ≠ a := (Nat.ne_of_lt (Array.getElem?_eq_some_iff.mp hB.1).1).symm
  have c9 : Steps p.tables e below (s₁.setTop (entryFrame m #[.ref a, .ref b, .int (Int32.ofNat o), .int (Int32.ofNat len), .null] 6)) (T8.setTop (mkF m 39 #[.val (.ref a), .val (.ref b), .val (.int (Int32.ofNat o)), .val (.int (Int32.ofNat len)), .val .null, .unset] [.ref s.heap.size])) := g8
  have c10 : Steps p.tables e below (s₁.setTop (entryFrame m #[.ref a, .ref b, .int (Int32.ofNat o), .int (Int32.ofNat len), .null] 6)) (T8.setTop (mkF m 45 #[.val (.ref a), .val (.ref b), .val (.int (Int32.ofNat o)), .val (.int (Int32.ofNat len)), .val .null, .val (.ref s.heap.size)] [.int (Int32.ofNat N.slots.size), .ref s.heap.size, .ref a])) := by
    have hc : Steps p.tables e below (s₁.setTop (entryFrame m #[.ref a, .ref b, .int (Int32.ofNat o), .int (Int32.ofNat len), .null] 6)) (T8.setTop (mkF m 45 #[.val (.ref a), .val (.ref b), .val (.int (Int32.ofNat o)), .val (.int (Int32.ofNat len)), .val .null, .val (.ref s.heap.size)] [.int (Int32.ofNat len), .ref s.heap.size, .ref a])) := c9.trans (by
      refine XS.astore X8.here hexec rfl (hb hbytes d39) rfl rfl rfl ?_
      refine XS.aloadN X8.here hexec rfl (hb hbytes d41) rfl rfl ?_
      refine XS.aload X8.here hexec rfl (hb hbytes d42) rfl rfl ?_
      refine XS.iloadN X8.here hexec rfl (hb hbytes d44) rfl ?_
      exact Steps.refl _)
    rw [n4]; exact hc
  obtain ⟨v11, T11, X11, E11, g11⟩ := X8.callS hexec (CodL.law l s.heap.size N) hown (wks W (staticW "java/lang/String" 47 CodL.yN)) (wk W CodL.tab) (W := 1) (Nat.le_of_ble_eq_true rfl) (Nat.le_of_ble_eq_true rfl) (Nat.le_refl _) (by show 0 + len + 0 ≤ len; omega) (g := (mkF m 45 #[.val (.ref a), .val (.ref b), .val (.int (Int32.ofNat o)), .val (.int (Int32.ofNat len)), .val .null, .val (.ref s.heap.size)] [.int (Int32.ofNat N.slots.size), .ref s.heap.size, .ref a])) rfl (by rw [hml]; rfl) c10 (argsL := [.ref s.heap.size, .int (Int32.ofNat N.slots.size)]) (rest := [.ref a]) rfl rfl (by show 2 * 0 + (1 + 0) ≤ _; decide) (hb hbytes d45) (⟨rfl, n1⟩)
  obtain ⟨rfl, q11⟩ := E11
  have hB11 := hB1.mv (X8.warmed.alike.symm.trans X11.warmed.alike) q11
  have c12 : Steps p.tables e below (s₁.setTop (entryFrame m #[.ref a, .ref b, .int (Int32.ofNat o), .int (Int32.ofNat len), .null] 6)) (T11.setTop (mkF m 48 #[.val (.ref a), .val (.ref b), .val (.int (Int32.ofNat o)), .val (.int (Int32.ofNat len)), .val .null, .val (.ref s.heap.size)] [.int 0, .ref a])) := g11
  obtain ⟨T13, X13, p13, bl13, sl13, st13⟩ := X11.finit hexec hown (wk W (.fieldLink "java/lang/String" 15 "java/lang/String" "coder" "B")) (Or.inr ⟨_, (wk W (.laysFinal "java/lang/String" "java/lang/String" "coder" "B"))⟩) (Or.inl ⟨rfl, hnm⟩) f2 (Or.inl rfl) hB11 (t := .byte) (by decide +kernel) rfl (g := (mkF m 48 #[.val (.ref a), .val (.ref b), .val (.int (Int32.ofNat o)), .val (.int (Int32.ofNat len)), .val .null, .val (.ref s.heap.size)] [.int 0, .ref a])) rfl (rest := []) rfl (hb hbytes d48)
  have c14 : Steps p.tables e below (s₁.setTop (entryFrame m #[.ref a, .ref b, .int (Int32.ofNat o), .int (Int32.ofNat len), .null] 6)) (T13.setTop (mkF m 54 #[.val (.ref a), .val (.ref b), .val (.int (Int32.ofNat o)), .val (.int (Int32.ofNat len)), .val .null, .val (.ref s.heap.size)] [.ref s.heap.size, .ref a])) := (c12.trans (st13 _ (Steps.refl _))).trans (by
    refine XS.aloadN X13.here hexec rfl (hb hbytes d51) rfl rfl ?_
    refine XS.aload X13.here hexec rfl (hb hbytes d52) rfl rfl ?_
    exact Steps.refl _)
  obtain ⟨T15, X15, p15, bl15, sl15, st15⟩ := X13.finit hexec hown (wk W (.fieldLink "java/lang/String" 9 "java/lang/String" "value" "[B")) (Or.inr ⟨_, (wk W (.laysFinal "java/lang/String" "java/lang/String" "value" "[B"))⟩) (Or.inl ⟨rfl, hnm⟩) f1 (Or.inl rfl) bl13 (t := (.array .byte)) (by decide +kernel) rfl (g := (mkF m 54 #[.val (.ref a), .val (.ref b), .val (.int (Int32.ofNat o)), .val (.int (Int32.ofNat len)), .val .null, .val (.ref s.heap.size)] [.ref s.heap.size, .ref a])) rfl (rest := []) rfl (hb hbytes d54)
  have c16 : Steps p.tables e below (s₁.setTop (entryFrame m #[.ref a, .ref b, .int (Int32.ofNat o), .int (Int32.ofNat len), .null] 6)) (T15.setTop (mkF m 57 #[.val (.ref a), .val (.ref b), .val (.int (Int32.ofNat o)), .val (.int (Int32.ofNat len)), .val .null, .val (.ref s.heap.size)] [])) := c14.trans (st15 _ (Steps.refl _))
  have ap := apart (Or.inr ⟨_, (wk W (.laysFinal "java/lang/String" "java/lang/String" "value" "[B"))⟩) (Or.inr ⟨_, (wk W (.laysFinal "java/lang/String" "java/lang/String" "coder" "B"))⟩) f1 f2 (t₁ := .array .byte) (t₂ := .byte) (by decide +kernel) (by decide +kernel) (by decide)
  have al := X8.warmed.alike.symm.trans X15.warmed.alike
  have n7 : T11.heap[s.heap.size]? = some N := by rw [q11]; exact n1.1
  exact ⟨T15, none, _, _, _, X15, by simp, rfl, by omega, (fun _ => rfl), ⟨rfl, _, N, bl15, ((Same.refl D _).set _ (by simp)).set _ (by simp), sl15, (Cell.slots_setSlot_ne _ ap).trans sl13, n1.keep al (p15.other hne (p13.other hne n7)), n2, by rw [al.findClass]; exact n3, n4, n5, fun y c h1 h2 => p15.other h1 (p13.other h1 (by rw [q11]; exact n6 y c h2)), by rw [p15.2.2, p13.2.2, q11]; exact z8⟩, fun fs hl => c16.trans (X15.returnOut hexec hret (hb hbytes d57) hl)⟩
end New4
namespace New1
def yN : MethodName := ⟨"java/lang/String", "<init>", "([C)V"⟩
abbrev yB : ByteArray := jdk_42_method_3_code
theorem d0 : decode yB 0 = .ok (.aload_n 0, 1) := by decide +kernel
theorem d1 : decode yB 1 = .ok (.aload_n 1, 1) := by decide +kernel
theorem d2 : decode yB 2 = .ok (.iconst 0, 1) := by decide +kernel
theorem d3 : decode yB 3 = .ok (.aload_n 1, 1) := by decide +kernel
theorem d4 : decode yB 4 = .ok (.arraylength, 1) := by decide +kernel
theorem d5 : decode yB 5 = .ok (.aconst_null, 1) := by decide +kernel
theorem d6 : decode yB 6 = .ok (.invokespecial 27, 3) := by decide +kernel
theorem d9 : decode yB 9 = .ok (.return_, 1) := by decide +kernel
def site : List Cond := [New4.tab] ++ initW "java/lang/String" 27 New4.yN
def tab : Cond := tabOf yN yB 2 none site
def P (a : Addr) (D : Cell) (fV fC : Field) (b : Addr) (A : Cell) (z : Int32) (args : Array Value) (s : State) : Prop := args = #[.ref a, .ref b] ∧ Blank "java/lang/String" a D s ∧ Found "java/lang/String" "value" "[B" fV s ∧ Found "java/lang/String" "coder" "B" fC s ∧ Ch b A s ∧ StaticIs s "java/lang/String" "COMPACT_STRINGS" "Z" (.int z) ∧ ¬ z = 0 ∧ 0 < A.slots.size ∧ A.slots.size ≤ 536870912 ∧ ∀ i, i < A.slots.size → ¬ 255 < cv A i
def E (a : Addr) (D : Cell) (fV fC : Field) (A : Cell) (r : Option Value) (s u : State) : Prop := Got a D fV fC A 0 A.slots.size r s u
/-- new String(chars), not empty, no char above 255: a Latin-1 String of their low bytes -/
theorem law (l : Launch) (a : Addr) (D : Cell) (fV fC : Field) (b : Addr) (A : Cell) (z : Int32) : Law l yN 2 1 3 52 yB 2 none site (P a D fV fC b A z) (E a D fV fC A) [⟨a, fC.slot⟩, ⟨a, fV.slot⟩] 1 A.slots.size := by
  refine Law.of_walk (plainFor_of_name (by decide +kernel)) (by decide +kernel) (by decide +kernel) (by decide) (fun _ _ h => by rw [h.1]; rfl) (fun _ U U' hal hh h => ⟨h.1, h.2.1.mv hal hh, h.2.2.1.al hal, h.2.2.2.1.al hal, h.2.2.2.2.1.mv hal hh, h.2.2.2.2.2.1.there hal hh, h.2.2.2.2.2.2⟩) (fun r U U' V V' h1 hal h2 h => Got.mv r U U' V V' h1 hal h2 h) ?_
  intro p e s m args below meth c s₁ X0 hexec hbytes hml hret hlk hnm hown hh0 W hP
  obtain ⟨rfl, hB, f1, f2, hA, s1, hz, l0, l2, hp⟩ := hP
  have c1 : Steps p.tables e below (s₁.setTop (entryFrame m #[.ref a, .ref b] 2)) (s₁.setTop (mkF m 0 #[.val (.ref a), .val (.ref b)] [])) := entry rfl
  have c2 : Steps p.tables e below (s₁.setTop (entryFrame m #[.ref a, .ref b] 2)) (s₁.setTop (mkF m 6 #[.val (.ref a), .val (.ref b)] [.null, .int (Int32.ofNat A.slots.size), .int 0, .ref b, .ref a])) := c1.trans (by
    refine XS.aloadN X0.here hexec rfl (hb hbytes d0) rfl rfl ?_
    refine XS.aloadN X0.here hexec rfl (hb hbytes d1) rfl rfl ?_
    refine iconstV X0.here hexec rfl 0 (hb hbytes d2) (by decide) ?_
    refine XS.aloadN X0.here hexec rfl (hb hbytes d3) rfl rfl ?_
    refine X0.alen hexec (hA.1.mv X0.warmed.alike hh0) rfl rfl (hb hbytes d4) ?_
    refine XS.aconstNull X0.here hexec rfl (hb hbytes d5) ?_
    exact Steps.refl _)
  obtain ⟨v3, T3, X3, E3, g3⟩ := X0.callN hexec (New4.law l a D fV fC b A z 0 A.slots.size) rfl hown (wks W (initW "java/lang/String" 27 New4.yN)) (W New4.tab (by simp only [site, List.mem_cons, List.mem_append, true_or, or_true])) (W := 0) (Nat.le_of_ble_eq_true rfl) (Nat.le_of_ble_eq_true rfl) (Nat.le_refl _) (by show 0 + A.slots.size ≤ A.slots.size; omega) (g := (mkF m 6 #[.val (.ref a), .val (.ref b)] [.null, .int (Int32.ofNat A.slots.size), .int (Int32.ofNat 0), .ref b, .ref a])) rfl (by rw [hml]; rfl) c2 (argsL := [.ref b, .int (Int32.ofNat 0), .int (Int32.ofNat A.slots.size), .null]) (rest := []) rfl rfl (by show 2 * 0 + 0 ≤ _; decide) (hb hbytes d6) (⟨rfl, hB.mv X0.warmed.alike hh0, f1.al X0.warmed.alike, f2.al X0.warmed.alike, hA.mv X0.warmed.alike hh0, s1.there X0.warmed.alike hh0, hz, l0, by omega, l2, fun i hi => by rw [Nat.zero_add]; exact hp i hi⟩)
  have e0 := Got.mv _ s₁ s _ _ hh0.symm (Vm.Alike.refl _) rfl E3
  obtain rfl := e0.1
  have c4 : Steps p.tables e below (s₁.setTop (entryFrame m #[.ref a, .ref b] 2)) (T3.setTop (mkF m 9 #[.val (.ref a), .val (.ref b)] [])) := g3
  exact ⟨T3, none, _, _, _, X3, by simp, rfl, by omega, (fun _ => rfl), e0, fun fs hl => c4.trans (X3.returnOut hexec hret (hb hbytes d9) hl)⟩
theorem pays {l : Launch} {R : Room} {p : Program} {e : Env} {below : List Frame} {s : State} {sargs : Array Value} {len W : Nat} (a : Addr) (D : Cell) (fV fC : Field) (b : Addr) (A : Cell) (z : Int32) (htab : tab.before sargs s = true) (hfr : 4 ≤ R.frames) (hlo : W + 65 ≤ R.locals) :
    Back l R p e below s sargs yN len W (fun A₁ a₁ => A₁.cells + 1 ≤ R.cells ∧ A₁.slots + A.slots.size ≤ R.slots ∧ P a D fV fC b A z a₁ A₁.U) (fun A₁ _ v₁ B₁ => E a D fV fC A v₁ A₁.U B₁.U ∧ B₁.locs = A₁.locs ++ [⟨a, fC.slot⟩, ⟨a, fV.slot⟩] ∧ B₁.cells = A₁.cells + 1 ∧ B₁.slots = A₁.slots + A.slots.size) :=
  (law l a D fV fC b A z).pays htab hfr (by omega)
end New1
/-- the byte, read back as charAt reads it, is the char -/
theorem lo8_mask {x : Int32} (h0 : ¬ x < 0) (h1 : ¬ 255 < x) : lo8 x &&& 255 = x := by
  have t : ∀ k : Fin 256, lo8 (Int32.ofNat k.val) &&& 255 = Int32.ofNat k.val := by decide +kernel
  rw [Int32.lt_iff_toInt_lt] at h0 h1
  have e0 : (0 : Int32).toInt = 0 := rfl
  have e1 : (255 : Int32).toInt = 255 := rfl
  obtain ⟨k, hk⟩ : ∃ k : Nat, x.toInt = k := ⟨x.toInt.toNat, by omega⟩
  have hx : x = Int32.ofNat k := Int32.toInt_inj.mp (by rw [hk, Int32.toInt_ofNat_small (by omega)])
  rw [hx]
  exact t ⟨k, by omega⟩
end StrChars
namespace StrChars.Road
open Jvm Sem ClassFile Op Lib Jvm.Stand Jvm.Free Jvm.Free.XT
open Jvm.Lib.Cold (StaticIs)
abbrev ST : String := "java/lang/String"
/-- every table word that New1's law asks, flat -/
abbrev words : List Jvm.Cond := [.code New1.yN New1.yB 2 none, .initialized ST, .methodLink ST 27 New4.yN, .instanceMethod New4.yN,
  .code New4.yN New4.yB 6 none, .fieldLink ST 38 ST "COMPACT_STRINGS" "Z", .laysFinal ST ST "value" "[B", .fieldLink ST 9 ST "value" "[B", .laysFinal ST ST "coder" "B", .fieldLink ST 15 ST "coder" "B",
  .methodLink ST 1 Lib.objectInit, .instanceMethod Lib.objectInit, .code Lib.objectInit ⟨#[0xb1]⟩ 1 none, .methodLink ST 177 Cmp3.yN, .static Cmp3.yN, .methodLink ST 47 CodL.yN, .static CodL.yN,
  .code Cmp3.yN Cmp3.yB 6 (some (.array .byte)), .initialized U16, .arrayClass .byte, .methodLink U16 115 Cmp5.yN, .static Cmp5.yN, .code Cmp5.yN Cmp5.yB 7 (some .int), .code CodL.yN CodL.yB 2 (some .byte)]
theorem tab_of {a : Array Value} {s : State} (h : ∀ w ∈ words, w.before a s = true) : New1.tab.before a s = true := by
  have h5 : Cmp5.tab.before a s = true := unparts (wk h (.code Cmp5.yN Cmp5.yB 7 (some .int))) (wks h (.initialized Cmp5.yN.cls :: Cmp5.site))
  have hc : CodL.tab.before a s = true := unparts (wk h (.code CodL.yN CodL.yB 2 (some .byte))) (wks h (.initialized CodL.yN.cls :: CodL.site))
  have q5 : ∀ w ∈ Cmp5.tab :: words, w.before a s = true := fun w hw => (List.mem_cons.mp hw).elim (fun e => e ▸ h5) (h w)
  have h3 : Cmp3.tab.before a s = true := unparts (wk q5 (.code Cmp3.yN Cmp3.yB 6 (some (.array .byte)))) (wks q5 (.initialized Cmp3.yN.cls :: Cmp3.site))
  have q3 : ∀ w ∈ Cmp3.tab :: CodL.tab :: words, w.before a s = true := fun w hw => (List.mem_cons.mp hw).elim (fun e => e ▸ h3) fun hw => (List.mem_cons.mp hw).elim (fun e => e ▸ hc) (h w)
  have h4 : New4.tab.before a s = true := unparts (wk q3 (.code New4.yN New4.yB 6 none)) (wks q3 (.initialized New4.yN.cls :: New4.site))
  have q4 : ∀ w ∈ New4.tab :: words, w.before a s = true := fun w hw => (List.mem_cons.mp hw).elim (fun e => e ▸ h4) (h w)
  exact unparts (wk q4 (.code New1.yN New1.yB 2 none)) (wks q4 (.initialized New1.yN.cls :: New1.site))
/-- the words ride from the start Z to the walk's own state -/
theorem moved {Z s : State} {a0 args : Array Value} (hZ : Z.Warmed39 s.vm) (hw : ∀ d ∈ words, d.before a0 Z = true) : ∀ d ∈ words, d.before args s = true := fun d hd => by
  have q := hw d hd
  have t : ∀ d ∈ words, d = .arrayClass .byte ∨ (d.onTables && d.keepsFace) = true := by decide +kernel
  rcases t d hd with rfl | t
  · exact RoadKit.mvA hZ q
  · exact RoadKit.mv hZ q t
/-- WHAT COMES BACK, over the tables of the start Z: h the heap at the call, h' behind it -/
def Q (Z : State) (x : Addr) (A : Cell) (h : Heap) (v : Option Value) (h' : Heap) (L : List Loc) : Prop := v = none ∧ (∀ y ∈ L, y.base = x) ∧ RoadKit.Keep h h' [x] ∧ h'.size = h.size + 1 ∧ RoadKit.Exa Z h' x ST ∧ RoadKit.Fld Z h' x ST "value" "[B" (.ref h.size) ∧ RoadKit.Fld Z h' x ST "coder" "B" (.int 0) ∧
  (∃ V : Cell, RoadKit.Arr Z h' h.size V .byte ∧ V.vm = .none ∧ Z.vm.findClass "[B" = some V.cls ∧ V.slots.size = A.slots.size ∧ ∀ j, j < A.slots.size → V.slots[j]? = some (.int (lo8 (cv A j)))) ∧
  ∀ (O n d : String) (w : Value), RoadKit.Fld Z h x O n d w → RoadKit.slotOf Z O n d ≠ RoadKit.slotOf Z ST "value" "[B" → RoadKit.slotOf Z O n d ≠ RoadKit.slotOf Z ST "coder" "B" → RoadKit.Fld Z h' x O n d w
/-- **new String(chars) AT A CALL, IN THE ROAD'S FORM**: for specialBack behind newO: x the fresh String, b the char[] with the cell A -/
theorem back {p : Program} {l : Launch} {e : Env} {R : Room} {s : State} {args : Array Value} {below : List Frame} {len W : Nat} {Z : State} {a0 : Array Value} {h : Heap} (hZ : Z.Warmed39 s.vm) (hw : ∀ d ∈ words, d.before a0 Z = true) {kI : Nat} (wi : (Jvm.Cond.instantiable ST kI).before a0 Z = true)
    {x b : Addr} {A : Cell} {z : Int32} {v0 c0 : Value} (E : RoadKit.Exa Z h x ST) (V : RoadKit.Fld Z h x ST "value" "[B" v0) (C : RoadKit.Fld Z h x ST "coder" "B" c0) (K : RoadKit.Arr Z h b A .char) (hty : Typed .char A) (S : RoadKit.Sta Z h ST "COMPACT_STRINGS" "Z" (.int z)) (hz : ¬ z = 0)
    (l0 : 0 < A.slots.size) (l2 : A.slots.size ≤ 536870912) (hp : ∀ i, i < A.slots.size → ¬ 255 < cv A i) (hfr : 4 ≤ R.frames) (hlo : W + 65 ≤ R.locals) :
    Back l R p e below s args New1.yN len W (fun P a => a = #[.ref x, .ref b] ∧ P.U.heap = h ∧ P.cells + 1 ≤ R.cells ∧ P.slots + A.slots.size ≤ R.slots)
      (fun P _ v B => ∃ L, Q Z x A h v B.U.heap L ∧ B.locs = P.locs ++ L ∧ B.cells = P.cells + 1 ∧ B.slots = P.slots + A.slots.size) := by
  intro m meth c P g ig mk a X hg hsize hdg hW hn hp'
  obtain ⟨rfl, rfl, r1, r2⟩ := hp'
  have al : Z.vm.Alike P.U.vm := hZ.alike.trans X.warmed.alike
  obtain ⟨D, cfV, kV, iV, fV, hD, gV, stV, knV, obV, asV, slV⟩ := id V
  obtain ⟨D', cfC, kC, iC, fC, hD', gC, stC, -, -, asC, slC⟩ := id C
  cases hD.symm.trans hD'
  obtain ⟨D2, kD, e1, e2, e3, e4, e5⟩ := id E
  cases hD.symm.trans e1
  obtain ⟨c2, k2, i1, i2, i3, -⟩ := Cond.instantiable_spec wi
  cases e2.symm.trans i1
  cases e3.symm.trans i2
  obtain ⟨kU, u1, u2⟩ := al.2.2 _ _ e3
  have hB : Blank ST x D P.U := ⟨hD, ⟨knV, fun q hq => by rw [hq] at obV; cases obV⟩, by rw [al.findClass]; exact e2, kU, u1, by rw [u2]; exact i3, by rw [u2]; exact e5 i3⟩
  have F1 : Found ST "value" "[B" fV P.U := ⟨SBG.found_only al ⟨cfV, kV, iV, gV⟩, stV⟩
  have F2 : Found ST "coder" "B" fC P.U := ⟨SBG.found_only al ⟨cfC, kC, iC, gC⟩, stC⟩
  have hA : Ch b A P.U := ⟨⟨K.1, State.isArrayOf_alike al K.2.1, K.2.2, by omega⟩, hty⟩
  have hS : StaticIs P.U ST "COMPACT_STRINGS" "Z" (.int z) := by
    obtain ⟨cfS, iS, kS, fS, st, cS, t1, t2, t3, t4, t5, t6, t7⟩ := S
    exact StaticIs.there (s := { Z with heap := P.U.heap }) ⟨cfS, iS, kS, fS, st, cS, t1, t2, t3, t4, t5, (fun q => by rw [q] at t6; cases t6), t7⟩ al rfl
  obtain ⟨v, B, X', ⟨⟨hv, E', V', q1, q2, q3, q4, q5, q6, q7, q8, q9, q10, q11⟩, hl, hc, hs⟩, st⟩ := New1.pays x D fV fC b A z (tab_of (moved hZ hw)) hfr hlo m meth c P g ig mk _ X hg hsize hdg hW hn ⟨r1, r2, rfl, hB, F1, F2, hA, hS, hz, l0, l2, hp⟩
  have al' : Z.vm.Alike B.U.vm := hZ.alike.trans X'.warmed.alike
  have hsz : E'.slots.size = D.slots.size := by
    obtain ⟨-, -, -, kB, w1, w2, w3⟩ := q1
    obtain ⟨kB', y1, y2⟩ := al'.2.2 _ _ e3
    rw [q2.2.1] at w1
    cases w1.symm.trans y1
    rw [w3, e5 i3, y2]
  refine ⟨v, B, X', ⟨_, ⟨hv, ?_, ⟨by omega, fun y cy hy hn' => q10 y cy (by simpa using hn') hy, fun y cy hy => ?_⟩, q11, ⟨E', _, q1.1, by rw [q2.2.1]; exact e2, by rw [q2.2.1]; exact e3, by rw [q2.1]; exact obV, fun _ => by rw [hsz]; exact e5 i3⟩,
    ⟨E', cfV, kV, iV, fV, q1.1, gV, stV, by rw [q2.1]; exact knV, by rw [q2.1]; exact obV, by rw [q2.2.1]; exact asV, q3⟩, ⟨E', cfC, kC, iC, fC, q1.1, gC, stC, by rw [q2.1]; exact knV, by rw [q2.1]; exact obV, by rw [q2.2.1]; exact asC, q4⟩,
    ⟨V', ⟨q5.1, State.isArrayOf_alike al'.symm q5.2.1, q5.2.2.1⟩, q6, by rw [← al'.findClass]; exact q7, q8, fun j hj => by have := q9 j hj; rwa [Nat.zero_add] at this⟩, fun O n d w F n1 n2 => ?_⟩, hl, hc, hs⟩, st⟩
  · intro y hy
    simp only [List.mem_cons, List.not_mem_nil, or_false] at hy
    rcases hy with rfl | rfl <;> rfl
  · by_cases q : y = x
    · subst q
      cases hD.symm.trans hy
      exact ⟨E', q1.1, q2.2.1, q2.1, hsz⟩
    · exact ⟨cy, q10 y cy q hy, rfl, rfl, rfl⟩
  · obtain ⟨D3, cf, k, i, f, g1, g2, g3, g4, g5, g6, g7⟩ := F
    cases hD.symm.trans g1
    simp only [RoadKit.slotOf, g2, gV, gC, Option.map_some, Option.getD_some] at n1 n2
    exact ⟨E', cf, k, i, f, q1.1, g2, g3, by rw [q2.1]; exact g4, by rw [q2.1]; exact g5, by rw [q2.2.1]; exact g6, by rw [q2.2.2 f.slot (by simp [n1, n2])]; exact g7⟩
end StrChars.Road
namespace StrChars.Road
open Jvm Sem ClassFile Op Lib Jvm.Stand Jvm.Free Jvm.Free.XT
/-- WHAT COMES BACK, the byte[] as a list of values -/
def QA (Z : State) (x : Addr) (zn : Int32) (cs : List Int32) (h : Heap) (v : Option Value) (h' : Heap) (L : List Loc) : Prop := v = none ∧ (∀ y ∈ L, y.base = x) ∧ RoadKit.Keep h h' [x] ∧ h'.size = h.size + 1 ∧ RoadKit.Exa Z h' x ST ∧ RoadKit.Fld Z h' x ST "value" "[B" (.ref h.size) ∧ RoadKit.Fld Z h' x ST "coder" "B" (.int 0) ∧
  (∃ kb, Z.vm.findClass "[B" = some kb ∧ RoadKit.Arv Z h' h.size kb .byte zn (cs.map fun c => .int (lo8 c)) (.int 0)) ∧
  ∀ (O n d : String) (w : Value), RoadKit.Fld Z h x O n d w → RoadKit.slotOf Z O n d ≠ RoadKit.slotOf Z ST "value" "[B" → RoadKit.slotOf Z O n d ≠ RoadKit.slotOf Z ST "coder" "B" → RoadKit.Fld Z h' x O n d w
/-- **new String(chars) AT A CALL, THE ARRAYS AS LISTS**: the char[] at b holds cs, not empty, no char above 255 -/
theorem backArv {p : Program} {l : Launch} {e : Env} {R : Room} {s : State} {args : Array Value} {below : List Frame} {len W : Nat} {Z : State} {a0 : Array Value} {h : Heap} (hZ : Z.Warmed39 s.vm) (hw : ∀ d ∈ words, d.before a0 Z = true) {kI : Nat} (wi : (Jvm.Cond.instantiable ST kI).before a0 Z = true)
    {x b : Addr} {k : ClassId} {zn z : Int32} {cs : List Int32} {dv v0 c0 : Value} (E : RoadKit.Exa Z h x ST) (V : RoadKit.Fld Z h x ST "value" "[B" v0) (C : RoadKit.Fld Z h x ST "coder" "B" c0) (K : RoadKit.Arv Z h b k .char zn (cs.map Value.int) dv) (S : RoadKit.Sta Z h ST "COMPACT_STRINGS" "Z" (.int z)) (hz : ¬ z = 0)
    (hlen : zn.toNatClampNeg = cs.length) (h0 : 0 < cs.length) (hbig : cs.length ≤ 536870912) (hall : ∀ c ∈ cs, ¬ 255 < c) (hfr : 4 ≤ R.frames) (hlo : W + 65 ≤ R.locals) :
    Back l R p e below s args New1.yN len W (fun P a => a = #[.ref x, .ref b] ∧ P.U.heap = h ∧ P.cells + 1 ≤ R.cells ∧ P.slots + cs.length ≤ R.slots)
      (fun P _ v B => ∃ L, QA Z x zn cs h v B.U.heap L ∧ B.locs = P.locs ++ L ∧ B.cells = P.cells + 1 ∧ B.slots = P.slots + cs.length) := by
  obtain ⟨A, K1, K2, K3, K4, K5, K6⟩ := K
  have e : A.slots.size = cs.length := K3.trans hlen
  have hat : ∀ (i : Nat) (hi : i < cs.length), A.slots[i]? = some (.int cs[i]) := fun i hi => by rw [K5 i (by omega)]; simp [List.getD_eq_getElem?_getD, hi]
  have hcv : ∀ (i : Nat) (hi : i < cs.length), cv A i = cs[i] := fun i hi => by unfold cv; rw [hat i hi]
  have hty : Typed .char A := fun i v hv => by
    have hi : i < A.slots.size := (Array.getElem?_eq_some_iff.mp hv).1
    have q := K5 i hi
    rw [hv] at q
    rw [Option.some.inj q]
    exact K6 i hi
  refine Back.mono (back hZ hw wi E V C K1 hty S hz (by omega) (by omega) (fun i hi => by rw [hcv i (by omega)]; exact hall _ (List.getElem_mem _)) hfr hlo) (fun P a hp => ⟨hp.1, hp.2.1, hp.2.2.1, by rw [e]; exact hp.2.2.2⟩) (fun P a v B hp hq => ?_)
  obtain ⟨L, ⟨q1, q2, q3, q4, q5, q6, q7, ⟨V', v1, v2, v3, v4, v5⟩, q9⟩, hl, hc, hs⟩ := hq
  refine ⟨L, ⟨q1, q2, q3, q4, q5, q6, q7, ⟨V'.cls, v3, V', v1, rfl, by rw [v4, e, hlen], K4, fun i hi => ?_, fun i hi => ?_⟩, q9⟩, hl, hc, by rw [hs, e]⟩
  · have hi' : i < cs.length := by omega
    rw [v5 i (by omega), hcv i hi']; simp [List.getD_eq_getElem?_getD, hi']
  · have hi' : i < cs.length := by omega
    simp only [List.getD_eq_getElem?_getD, List.getElem?_map, List.getElem?_eq_getElem hi', Option.map_some, Option.getD_some]
    exact fits_lo8 _
end StrChars.Road
namespace StrChars.Road
open Jvm Sem ClassFile Op Lib Jvm.Stand Jvm.Free Jvm.Free.XT
/-- WHAT COMES BACK, in the writer's own shape -/
def QV (Z : State) (x : Addr) (N : Int32) (bs : List Int32) (h : Heap) (n0 : Nat) (v : Option Value) (h' : Heap) (L : List Loc) : Prop := v = none ∧ RoadKit.Fr n0 L ∧ RoadKit.Keep h h' [x] ∧ RoadKit.Exa Z h' x ST ∧ RoadKit.Fld Z h' x ST "coder" "B" (.int 0) ∧
  ∃ (t : Addr) (kb : ClassId), n0 ≤ t ∧ h.size ≤ t ∧ ¬ t = x ∧ RoadKit.Fld Z h' x ST "value" "[B" (.ref t) ∧ RoadKit.Arv Z h' t kb .byte N (bs.map Value.int) (.int 0)
/-- **new String(chars) AT A CALL, FOR THE WRITER**: a char[] of n known ints, each 0 to 255 -/
theorem backV {p : Program} {l : Launch} {e : Env} {R : Room} {s : State} {args : Array Value} {below : List Frame} {len W : Nat} {Z : State} {a0 : Array Value} {h : Heap} (hZ : Z.Warmed39 s.vm) (hw : ∀ d ∈ words, d.before a0 Z = true) {kI : Nat} (wi : (Jvm.Cond.instantiable ST kI).before a0 Z = true)
    {x b : Addr} {kC : ClassId} {cs bs : List Int32} {d v0 c0 : Value} {z N : Int32} {n n0 : Nat} (hx0 : n0 ≤ x) (hh0 : n0 ≤ h.size) (E : RoadKit.Exa Z h x ST) (V : RoadKit.Fld Z h x ST "value" "[B" v0) (C : RoadKit.Fld Z h x ST "coder" "B" c0) (K : RoadKit.Arv Z h b kC .char N (cs.map Value.int) d) (S : RoadKit.Sta Z h ST "COMPACT_STRINGS" "Z" (.int z)) (hz : ¬ z = 0)
    (hn : cs.length = n) (hN : N = Int32.ofNat n) (l0 : 0 < n) (l2 : n ≤ 4000) (hp : ∀ c ∈ cs, ¬ c < 0 ∧ ¬ (255 : Int32) < c) (hb : bs = cs.map (fun c => c.toInt8.toInt32)) (hfr : 4 ≤ R.frames) (hlo : W + 65 ≤ R.locals) :
    Back l R p e below s args (⟨"java/lang/String", "<init>", "([C)V"⟩ : MethodName) len W (fun P a => a = #[.ref x, .ref b] ∧ P.U.heap = h ∧ P.cells + 1 ≤ R.cells ∧ P.slots + n ≤ R.slots)
      (fun P _ v B => ∃ L, QV Z x N bs h n0 v B.U.heap L ∧ B.locs = P.locs ++ L ∧ B.cells = P.cells + 1 ∧ B.slots = P.slots + n) := by
  subst hn hN hb
  refine Back.mono (backArv hZ hw wi E V C K S hz (n32 (by omega)) l0 (by omega) (fun c hc => (hp c hc).2) hfr hlo) (fun P a hp => hp) (fun P a v B hp hq => ?_)
  obtain ⟨L, ⟨q1, q2, q3, q4, q5, q6, q7, ⟨kb, v1, v2⟩, q9⟩, hl, hc, hs⟩ := hq
  exact ⟨L, ⟨q1, fun y hy => by rw [q2 y hy]; exact hx0, q3, q5, q7, h.size, kb, hh0, Nat.le_refl _, Nat.ne_of_gt E.lt, q6, by rw [List.map_map]; exact v2⟩, hl, hc, hs⟩
end StrChars.Road
namespace StrChars
open Jvm Sem ClassFile Op Lib Jvm.Stand Jvm.Free.XT Jvm.Free.ALB Jvm.Free.JM Jvm.Free
open Jvm.Lib.Cold (StaticIs)
def hi8 (x : Int32) : Int32 := lo8 (x >>> ((8 : Int32) &&& 31))
/-- what StringUTF16.getChar makes of two bytes -/
def pairCh (u v : Int32) : Int32 := (((u &&& 255) <<< ((0 : Int32) &&& 31)) ||| ((v &&& 255) <<< ((8 : Int32) &&& 31))).toUInt32.toUInt16.toUInt32.toInt32
theorem shr0 (c : Int32) : c >>> ((0 : Int32) &&& 31) = c := by
  have e : ((0 : Int32) &&& 31) = 0 := by decide
  rw [e]
  apply Int32.toBitVec_inj.mp
  rw [Int32.toBitVec_shiftRight]
  have e1 : ((0 : Int32).toBitVec.smod 32) = 0#32 := by decide
  rw [e1, BitVec.sshiftRight_eq']
  exact BitVec.sshiftRight_zero
theorem lo8_and (x : Int32) : (lo8 x &&& 255).toBitVec.toNat = x.toBitVec.toNat % 256 := by
  have h : (lo8 x).toBitVec = (x.toBitVec.signExtend 8).signExtend 32 := by rw [lo8, Int8.toBitVec_toInt32, Int32.toBitVec_toInt8]
  rw [Int32.toBitVec_and, BitVec.toNat_and, h]
  have e : ((x.toBitVec.signExtend 8).signExtend 32).toNat % 256 = x.toBitVec.toNat % 256 := by
    rw [BitVec.toNat_signExtend]
    have hlt := x.toBitVec.isLt
    simp only [BitVec.toNat_setWidth, BitVec.toNat_signExtend]
    split <;> split <;> omega
  rw [← e]
  exact Nat.and_two_pow_sub_one_eq_mod _ 8
theorem pair_says {c : Int32} (h0 : ¬ c < 0) (h1 : ¬ 65535 < c) : pairCh (lo8 c) (hi8 c) = c := by
  rw [Int32.lt_iff_toInt_lt] at h0 h1
  have e0 : (0 : Int32).toInt = 0 := rfl
  have e1 : (65535 : Int32).toInt = 65535 := rfl
  have hc : c.toInt = c.toBitVec.toNat := by
    have := c.toBitVec.isLt
    have e : c.toInt = c.toBitVec.toInt := rfl
    rw [e] at h0 h1
    rw [e]
    rw [BitVec.toInt_eq_toNat_cond] at h0 h1 ⊢
    split at h0 <;> split <;> omega
  have hn : c.toBitVec.toNat < 65536 := by omega
  have a1 := lo8_and c
  have a2 : (hi8 c &&& 255).toBitVec.toNat = c.toBitVec.toNat / 256 := by
    rw [hi8, lo8_and]
    have e : ((8 : Int32) &&& 31) = 8 := by decide
    rw [e, Int32.toBitVec_shiftRight]
    have e2 : ((8 : Int32).toBitVec.smod 32) = 8#32 := by decide
    rw [e2, BitVec.sshiftRight_eq', BitVec.toNat_sshiftRight_of_msb_false (by rw [BitVec.msb_eq_false_iff_two_mul_lt]; omega)]
    show c.toBitVec.toNat >>> 8 % 256 = _
    rw [Nat.shiftRight_eq_div_pow]
    omega
  unfold pairCh
  apply Int32.toBitVec_inj.mp
  apply BitVec.eq_of_toNat_eq
  have f0 : ((0 : Int32) &&& 31) = 0 := by decide
  have f8 : ((8 : Int32) &&& 31) = 8 := by decide
  rw [f0, f8]
  have g : (((lo8 c &&& 255) <<< (0 : Int32)) ||| ((hi8 c &&& 255) <<< (8 : Int32))).toBitVec.toNat = c.toBitVec.toNat := by
    rw [Int32.toBitVec_or, Int32.toBitVec_shiftLeft, Int32.toBitVec_shiftLeft]
    have s0 : ((0 : Int32).toBitVec.smod 32) = 0#32 := by decide
    have s8 : ((8 : Int32).toBitVec.smod 32) = 8#32 := by decide
    rw [s0, s8, BitVec.toNat_or]
    simp only [BitVec.shiftLeft_eq', BitVec.toNat_shiftLeft, a1, a2]
    show (c.toBitVec.toNat % 256) <<< 0 % 2 ^ 32 ||| (c.toBitVec.toNat / 256) <<< 8 % 2 ^ 32 = _
    rw [Nat.shiftLeft_zero, Nat.mod_eq_of_lt (show c.toBitVec.toNat % 256 < 2 ^ 32 by omega), Nat.mod_eq_of_lt (show (c.toBitVec.toNat / 256) <<< 8 < 2 ^ 32 by rw [Nat.shiftLeft_eq]; omega), Nat.or_comm, ← Nat.shiftLeft_add_eq_or_of_lt (by omega), Nat.shiftLeft_eq]
    omega
  show BitVec.toNat (((((lo8 c &&& 255) <<< (0 : Int32)) ||| ((hi8 c &&& 255) <<< (8 : Int32))).toBitVec.setWidth 16).setWidth 32) = _
  rw [BitVec.toNat_setWidth, BitVec.toNat_setWidth, g]
  omega
end StrChars
namespace StrChars
open Jvm Sem ClassFile Op Lib Jvm.Stand Jvm.Free.XT Jvm.Free.ALB Jvm.Free.JM Jvm.Free
open Jvm.Lib.Cold (StaticIs)
theorem shr1 {n : Nat} (h : 2 * n < 2 ^ 31) : Int32.ofNat (2 * n) >>> ((1 : Int32) &&& 31) = Int32.ofNat n := by
  have e : ((1 : Int32) &&& 31) = 1 := by decide
  rw [e]
  apply Int32.toBitVec_inj.mp
  rw [Int32.toBitVec_shiftRight]
  have e1 : ((1 : Int32).toBitVec.smod 32) = 1#32 := by decide
  have hm : (BitVec.ofNat 32 (2 * n)).toNat = 2 * n := by rw [BitVec.toNat_ofNat, Nat.mod_eq_of_lt (by omega)]
  rw [e1, BitVec.sshiftRight_eq']
  apply BitVec.eq_of_toNat_eq
  show ((BitVec.ofNat 32 (2 * n)).sshiftRight 1).toNat = (BitVec.ofNat 32 n).toNat
  rw [BitVec.toNat_sshiftRight_of_msb_false (by rw [BitVec.msb_eq_false_iff_two_mul_lt, hm]; omega), hm, BitVec.toNat_ofNat, Nat.shiftRight_eq_div_pow]
  omega
/-- charAt's cast of a byte read back -/
def chr8 (u : Int32) : Int32 := (u &&& 255).toUInt32.toUInt16.toUInt32.toInt32
theorem chr8_lo8 {c : Int32} (h0 : ¬ c < 0) (h1 : ¬ 255 < c) : chr8 (lo8 c) = c := by
  have t : ∀ k : Fin 256, (Int32.ofNat k.val).toUInt32.toUInt16.toUInt32.toInt32 = Int32.ofNat k.val := by decide +kernel
  unfold chr8
  rw [lo8_mask h0 h1]
  rw [Int32.lt_iff_toInt_lt] at h0 h1
  have e0 : (0 : Int32).toInt = 0 := rfl
  have e1 : (255 : Int32).toInt = 255 := rfl
  obtain ⟨k, hk⟩ : ∃ k : Nat, c.toInt = k := ⟨c.toInt.toNat, by omega⟩
  have hx : c = Int32.ofNat k := Int32.toInt_inj.mp (by rw [hk, Int32.toInt_ofNat_small (by omega)])
  rw [hx]
  exact t ⟨k, by omega⟩
theorem narrow_ch {c : Int32} (h0 : ¬ c < 0) (h1 : ¬ 65535 < c) : narrow .char (.int c) = .int c := by
  have q : narrow .char (.int (pairCh (lo8 c) (hi8 c))) = .int (pairCh (lo8 c) (hi8 c)) := narrow_c _
  rwa [pair_says h0 h1] at q
/-- the array's cell V codes the n chars f 0 .. f (n - 1) by the coder cd, as the JDK does: coder 1 just where some char is above 255 -/
def Cod (cd : Int32) (n : Nat) (f : Nat → Int32) (V : Cell) : Prop := (cd = 0 ∧ V.slots.size = n ∧ ∀ j, j < n → V.slots[j]? = some (.int (lo8 (f j))) ∧ ¬ 255 < f j) ∨ (cd = 1 ∧ V.slots.size = 2 * n ∧ (∀ j, j < n → V.slots[2 * j]? = some (.int (lo8 (f j))) ∧ V.slots[2 * j + 1]? = some (.int (hi8 (f j)))) ∧ ∃ j, j < n ∧ 255 < f j)
theorem Cod.cd {cd : Int32} {n : Nat} {f : Nat → Int32} {V : Cell} (h : Cod cd n f V) : cd = 0 ∨ cd = 1 := h.imp (fun q => q.1) fun q => q.1
theorem Cod.len {cd : Int32} {n : Nat} {f : Nat → Int32} {V : Cell} (h : Cod cd n f V) (hs : V.slots.size < 2 ^ 31) : Int32.ofNat V.slots.size >>> (cd &&& 31) = Int32.ofNat n := by
  rcases h with ⟨rfl, h, -⟩ | ⟨rfl, h, -⟩
  · rw [shr0, h]
  · rw [h, shr1 (by omega)]
/-- **x is a String of the n chars f 0 .. f (n - 1)**, Latin-1 or UTF-16; its array at t has the cell V -/
def Txt (x t : Addr) (V : Cell) (cd : Int32) (n : Nat) (f : Nat → Int32) (U : State) : Prop := Exact "java/lang/String" x U ∧ Has x "java/lang/String" "value" "[B" (.ref t) U ∧ Has x "java/lang/String" "coder" "B" (.int cd) U ∧ XT.Arr .byte t V U ∧ Cod cd n f V ∧ ∀ j, j < n → ¬ f j < 0 ∧ ¬ 65535 < f j
theorem Txt.mv {x t : Addr} {V : Cell} {cd : Int32} {n : Nat} {f : Nat → Int32} {U U' : State} (h : Txt x t V cd n f U) (hal : U.vm.Alike U'.vm) (hh : U'.heap = U.heap) : Txt x t V cd n f U' := ⟨h.1.mv hal hh, h.2.1.mv hal hh, h.2.2.1.mv hal hh, h.2.2.2.1.mv hal hh, h.2.2.2.2⟩
namespace Cdr
def yN : MethodName := ⟨"java/lang/String", "coder", "()B"⟩
abbrev yB : ByteArray := jdk_42_method_152_code
theorem d0 : decode yB 0 = .ok (.getstatic 38, 3) := by decide +kernel
theorem d3 : decode yB 3 = .ok (.ifCond (.eq) 10, 3) := by decide +kernel
theorem d6 : decode yB 6 = .ok (.aload_n 0, 1) := by decide +kernel
theorem d7 : decode yB 7 = .ok (.getfield 15, 3) := by decide +kernel
theorem d10 : decode yB 10 = .ok (.goto 4, 3) := by decide +kernel
theorem d14 : decode yB 14 = .ok (.ireturn, 1) := by decide +kernel
def site : List Cond := [.fieldLink "java/lang/String" 38 "java/lang/String" "COMPACT_STRINGS" "Z", .fieldLink "java/lang/String" 15 "java/lang/String" "coder" "B"]
def tab : Cond := tabOf yN yB 1 (some .byte) site
def P (x : Addr) (cd z : Int32) (args : Array Value) (s : State) : Prop := args = #[.ref x] ∧ Has x "java/lang/String" "coder" "B" (.int cd) s ∧ (cd = 0 ∨ cd = 1) ∧ StaticIs s "java/lang/String" "COMPACT_STRINGS" "Z" (.int z) ∧ ¬ z = 0
def E (cd : Int32) (r : Option Value) (s u : State) : Prop := XT.PureE (some (.int cd)) r s u
theorem law (l : Launch) (x : Addr) (cd z : Int32) : Law l yN 1 0 0 0 yB 1 (some .byte) site (P x cd z) (E cd) [] 0 0 := by
  refine Law.of_walk (plainFor_of_name (by decide +kernel)) (by decide +kernel) (by decide +kernel) (by decide) (fun _ _ h => by rw [h.1]; rfl) (fun _ U U' hal hh h => ⟨h.1, h.2.1.mv hal hh, h.2.2.1, h.2.2.2.1.there hal hh, h.2.2.2.2⟩) (fun r U U' V V' h1 hal h2 h => XT.PureE.mv r U U' V V' h1 hal h2 h) ?_
  intro p e s m args below meth c s₁ X0 hexec hbytes hml hret hlk hnm hown hh0 W hP
  obtain ⟨rfl, hx, hc, s1, hz⟩ := hP
  have c1 : Steps p.tables e below (s₁.setTop (entryFrame m #[.ref x] 1)) (s₁.setTop (mkF m 0 #[.val (.ref x)] [])) := entry rfl
  obtain ⟨T2, X2, q2, st2⟩ := X0.sget hexec hown (wk W (.fieldLink "java/lang/String" 38 "java/lang/String" "COMPACT_STRINGS" "Z")) s1 (fun _ _ h => by rw [hh0]; exact h) (g := (mkF m 0 #[.val (.ref x)] [])) rfl (hb hbytes d0)
  have hh2 := q2.trans hh0
  have c3 : Steps p.tables e below (s₁.setTop (entryFrame m #[.ref x] 1)) (T2.setTop (mkF m 7 #[.val (.ref x)] [.ref x])) := (c1.trans (st2 _ (Steps.refl _))).trans (by
    refine XS.ifNo X2.here hexec rfl (hb hbytes d3) rfl (i0_eq_f hz) ?_
    refine XS.aloadN X2.here hexec rfl (hb hbytes d6) rfl rfl ?_
    exact Steps.refl _)
  obtain ⟨T4, X4, q4, st4⟩ := X2.hget hexec hown (wk W (.fieldLink "java/lang/String" 15 "java/lang/String" "coder" "B")) (hx.mv X2.warmed.alike hh2) (g := (mkF m 7 #[.val (.ref x)] [.ref x])) rfl (rest := []) rfl (hb hbytes d7)
  have c5 : Steps p.tables e below (s₁.setTop (entryFrame m #[.ref x] 1)) (T4.setTop (mkF m 14 #[.val (.ref x)] [.int cd])) := (c3.trans (st4 _ (Steps.refl _))).trans (by
    refine XS.goto X4.here hexec rfl (pc0 := 10) rfl (hb hbytes d10) (by decide) rfl ?_
    exact Steps.refl _)
  exact ⟨T4, some (.int cd), _, _, _, X4, rfl, rfl, rfl, (fun h => by cases h), ⟨rfl, q4.trans hh2⟩, fun fs hl => c5.trans (X4.ireturnOut hexec hret (by rcases hc with rfl | rfl <;> rfl) (Or.inr (Or.inr (Or.inl rfl))) (hb hbytes d14) hl)⟩
end Cdr
namespace Len
def yN : MethodName := ⟨"java/lang/String", "length", "()I"⟩
abbrev yB : ByteArray := jdk_42_method_54_code
theorem d0 : decode yB 0 = .ok (.aload_n 0, 1) := by decide +kernel
theorem d1 : decode yB 1 = .ok (.getfield 9, 3) := by decide +kernel
theorem d4 : decode yB 4 = .ok (.arraylength, 1) := by decide +kernel
theorem d5 : decode yB 5 = .ok (.aload_n 0, 1) := by decide +kernel
theorem d6 : decode yB 6 = .ok (.invokevirtual 335, 3) := by decide +kernel
theorem d9 : decode yB 9 = .ok (.ishr, 1) := by decide +kernel
theorem d10 : decode yB 10 = .ok (.ireturn, 1) := by decide +kernel
def site : List Cond := [.fieldLink "java/lang/String" 9 "java/lang/String" "value" "[B", Cdr.tab] ++ virtW "java/lang/String" 335 "java/lang/String" Cdr.yN Cdr.yN
def tab : Cond := tabOf yN yB 1 (some .int) site
def P (x t : Addr) (V : Cell) (cd : Int32) (n : Nat) (f : Nat → Int32) (z : Int32) (args : Array Value) (s : State) : Prop := args = #[.ref x] ∧ Txt x t V cd n f s ∧ StaticIs s "java/lang/String" "COMPACT_STRINGS" "Z" (.int z) ∧ ¬ z = 0
def E (n : Nat) (r : Option Value) (s u : State) : Prop := XT.PureE (some (.int (Int32.ofNat n))) r s u
/-- length() of a String of n chars, in either coding -/
theorem law (l : Launch) (x t : Addr) (V : Cell) (cd : Int32) (n : Nat) (f : Nat → Int32) (z : Int32) : Law l yN 1 0 1 13 yB 1 (some .int) site (P x t V cd n f z) (E n) [] 0 0 := by
  refine Law.of_walk (plainFor_of_name (by decide +kernel)) (by decide +kernel) (by decide +kernel) (by decide) (fun _ _ h => by rw [h.1]; rfl) (fun _ U U' hal hh h => ⟨h.1, h.2.1.mv hal hh, h.2.2.1.there hal hh, h.2.2.2⟩) (fun r U U' V V' h1 hal h2 h => XT.PureE.mv r U U' V V' h1 hal h2 h) ?_
  intro p e s m args below meth c s₁ X0 hexec hbytes hml hret hlk hnm hown hh0 W hP
  obtain ⟨rfl, hx, s1, hz⟩ := hP
  have v31 := hx.2.2.2.1.2.2.2
  have c1 : Steps p.tables e below (s₁.setTop (entryFrame m #[.ref x] 1)) (s₁.setTop (mkF m 1 #[.val (.ref x)] [.ref x])) := Steps.trans (entry rfl) (by
    show Steps p.tables e below (s₁.setTop (mkF m 0 #[.val (.ref x)] [])) _
    refine XS.aloadN X0.here hexec rfl (hb hbytes d0) rfl rfl ?_
    exact Steps.refl _)
  obtain ⟨T2, X2, q2, st2⟩ := X0.hget hexec hown (wk W (.fieldLink "java/lang/String" 9 "java/lang/String" "value" "[B")) (hx.mv X0.warmed.alike hh0).2.1 (g := (mkF m 1 #[.val (.ref x)] [.ref x])) rfl (rest := []) rfl (hb hbytes d1)
  have hh2 := q2.trans hh0
  have hx2 := hx.mv X2.warmed.alike hh2
  have c3 : Steps p.tables e below (s₁.setTop (entryFrame m #[.ref x] 1)) (T2.setTop (mkF m 6 #[.val (.ref x)] [.ref x, .int (Int32.ofNat V.slots.size)])) := (c1.trans (st2 _ (Steps.refl _))).trans (by
    refine X2.alen hexec hx2.2.2.2.1 rfl rfl (hb hbytes d4) ?_
    refine XS.aloadN X2.here hexec rfl (hb hbytes d5) rfl rfl ?_
    exact Steps.refl _)
  obtain ⟨v4, T4, X4, E4, g4⟩ := X2.callV hexec (Cdr.law l x cd z) hown (wks W (virtW "java/lang/String" 335 "java/lang/String" Cdr.yN Cdr.yN)) rfl (by decide) (wk W Cdr.tab) (W := 1) (Nat.le_of_ble_eq_true rfl) (Nat.le_of_ble_eq_true rfl) (Nat.le_refl _) (Nat.le_refl _) (hx2.1.fc X2.warmed.alike) hx2.1.is (g := (mkF m 6 #[.val (.ref x)] [.ref x, .int (Int32.ofNat V.slots.size)])) rfl (by rw [hml]; rfl) c3 (argsL := []) (rest := [.int (Int32.ofNat V.slots.size)]) rfl rfl (by show 2 * 0 + (1 + 0) ≤ _; decide) (hb hbytes d6) (⟨rfl, hx2.2.2.1, hx.2.2.2.2.1.cd, s1.there X2.warmed.alike hh2, hz⟩)
  obtain ⟨rfl, q4⟩ := E4
  have c5 : Steps p.tables e below (s₁.setTop (entryFrame m #[.ref x] 1)) (T4.setTop (mkF m 10 #[.val (.ref x)] [.int (Int32.ofNat V.slots.size >>> (cd &&& 31))])) := Steps.trans g4 (by
    refine ishr X4.here hexec rfl (hb hbytes d9) rfl ?_
    exact Steps.refl _)
  rw [hx.2.2.2.2.1.len v31] at c5
  exact ⟨T4, some (.int (Int32.ofNat n)), _, _, _, X4, rfl, rfl, rfl, (fun h => by cases h), ⟨rfl, q4.trans hh2⟩, fun fs hl => c5.trans (X4.ireturnOut hexec hret rfl (Or.inl rfl) (hb hbytes d10) hl)⟩
theorem pays {l : Launch} {R : Room} {p : Program} {e : Env} {below : List Frame} {s : State} {sargs : Array Value} {len W : Nat} (x t : Addr) (V : Cell) (cd : Int32) (n : Nat) (f : Nat → Int32) (z : Int32) (htab : tab.before sargs s = true) (hfr : 2 ≤ R.frames) (hlo : W + 25 ≤ R.locals) :
    Back l R p e below s sargs yN len W (fun A₁ a₁ => A₁.cells + 0 ≤ R.cells ∧ A₁.slots + 0 ≤ R.slots ∧ P x t V cd n f z a₁ A₁.U) (fun A₁ _ v₁ B₁ => E n v₁ A₁.U B₁.U ∧ B₁.locs = A₁.locs ++ [] ∧ B₁.cells = A₁.cells + 0 ∧ B₁.slots = A₁.slots + 0) :=
  (law l x t V cd n f z).pays htab hfr (by omega)
end Len
namespace IsL
def yN : MethodName := ⟨"java/lang/String", "isLatin1", "()Z"⟩
abbrev yB : ByteArray := jdk_42_method_154_code
theorem d0 : decode yB 0 = .ok (.getstatic 38, 3) := by decide +kernel
theorem d3 : decode yB 3 = .ok (.ifCond (.eq) 14, 3) := by decide +kernel
theorem d6 : decode yB 6 = .ok (.aload_n 0, 1) := by decide +kernel
theorem d7 : decode yB 7 = .ok (.getfield 15, 3) := by decide +kernel
theorem d10 : decode yB 10 = .ok (.ifCond (.ne) 7, 3) := by decide +kernel
theorem d13 : decode yB 13 = .ok (.iconst 1, 1) := by decide +kernel
theorem d14 : decode yB 14 = .ok (.goto 4, 3) := by decide +kernel
theorem d17 : decode yB 17 = .ok (.iconst 0, 1) := by decide +kernel
theorem d18 : decode yB 18 = .ok (.ireturn, 1) := by decide +kernel
def site : List Cond := [.fieldLink "java/lang/String" 38 "java/lang/String" "COMPACT_STRINGS" "Z", .fieldLink "java/lang/String" 15 "java/lang/String" "coder" "B"]
def tab : Cond := tabOf yN yB 1 (some .boolean) site
def P (x : Addr) (cd z : Int32) (args : Array Value) (s : State) : Prop := args = #[.ref x] ∧ Has x "java/lang/String" "coder" "B" (.int cd) s ∧ (cd = 0 ∨ cd = 1) ∧ StaticIs s "java/lang/String" "COMPACT_STRINGS" "Z" (.int z) ∧ ¬ z = 0
def E (cd : Int32) (r : Option Value) (s u : State) : Prop := XT.PureE (some (.int (1 - cd))) r s u
theorem law (l : Launch) (x : Addr) (cd z : Int32) : Law l yN 1 0 0 0 yB 1 (some .boolean) site (P x cd z) (E cd) [] 0 0 := by
  refine Law.of_walk (plainFor_of_name (by decide +kernel)) (by decide +kernel) (by decide +kernel) (by decide) (fun _ _ h => by rw [h.1]; rfl) (fun _ U U' hal hh h => ⟨h.1, h.2.1.mv hal hh, h.2.2.1, h.2.2.2.1.there hal hh, h.2.2.2.2⟩) (fun r U U' V V' h1 hal h2 h => XT.PureE.mv r U U' V V' h1 hal h2 h) ?_
  intro p e s m args below meth c s₁ X0 hexec hbytes hml hret hlk hnm hown hh0 W hP
  obtain ⟨rfl, hx, hc, s1, hz⟩ := hP
  have c1 : Steps p.tables e below (s₁.setTop (entryFrame m #[.ref x] 1)) (s₁.setTop (mkF m 0 #[.val (.ref x)] [])) := entry rfl
  obtain ⟨T2, X2, q2, st2⟩ := X0.sget hexec hown (wk W (.fieldLink "java/lang/String" 38 "java/lang/String" "COMPACT_STRINGS" "Z")) s1 (fun _ _ h => by rw [hh0]; exact h) (g := (mkF m 0 #[.val (.ref x)] [])) rfl (hb hbytes d0)
  have hh2 := q2.trans hh0
  have c3 : Steps p.tables e below (s₁.setTop (entryFrame m #[.ref x] 1)) (T2.setTop (mkF m 7 #[.val (.ref x)] [.ref x])) := (c1.trans (st2 _ (Steps.refl _))).trans (by
    refine XS.ifNo X2.here hexec rfl (hb hbytes d3) rfl (i0_eq_f hz) ?_
    refine XS.aloadN X2.here hexec rfl (hb hbytes d6) rfl rfl ?_
    exact Steps.refl _)
  obtain ⟨T4, X4, q4, st4⟩ := X2.hget hexec hown (wk W (.fieldLink "java/lang/String" 15 "java/lang/String" "coder" "B")) (hx.mv X2.warmed.alike hh2) (g := (mkF m 7 #[.val (.ref x)] [.ref x])) rfl (rest := []) rfl (hb hbytes d7)
  have c5 : Steps p.tables e below (s₁.setTop (entryFrame m #[.ref x] 1)) (T4.setTop (mkF m 10 #[.val (.ref x)] [.int cd])) := c3.trans (st4 _ (Steps.refl _))
  have c6 : Steps p.tables e below (s₁.setTop (entryFrame m #[.ref x] 1)) (T4.setTop (mkF m 18 #[.val (.ref x)] [.int (1 - cd)])) := by
    rcases hc with rfl | rfl
    · exact c5.trans (by
        refine XS.ifNo X4.here hexec rfl (hb hbytes d10) rfl (i0_ne_f rfl) ?_
        refine iconstV X4.here hexec rfl 1 (hb hbytes d13) (by decide) ?_
        refine XS.goto X4.here hexec rfl (pc0 := 14) rfl (hb hbytes d14) (by decide) rfl ?_
        exact Steps.refl _)
    · exact c5.trans (by
        refine XS.ifYes X4.here hexec rfl (pc0 := 10) rfl (hb hbytes d10) rfl (i0_ne_t (by decide)) (by decide) rfl ?_
        refine iconstV X4.here hexec rfl 0 (hb hbytes d17) (by decide) ?_
        exact Steps.refl _)
  exact ⟨T4, some (.int (1 - cd)), _, _, _, X4, rfl, rfl, rfl, (fun h => by cases h), ⟨rfl, q4.trans hh2⟩, fun fs hl => c6.trans (X4.ireturnOut hexec hret (by rcases hc with rfl | rfl <;> rfl) (Or.inr (Or.inl rfl)) (hb hbytes d18) hl)⟩
end IsL
namespace LChA
def yN : MethodName := ⟨"java/lang/StringLatin1", "charAt", "([BI)C"⟩
abbrev yB : ByteArray := jdk_43_method_2_code
theorem d0 : decode yB 0 = .ok (.iload_n 1, 1) := by decide +kernel
theorem d1 : decode yB 1 = .ok (.aload_n 0, 1) := by decide +kernel
theorem d2 : decode yB 2 = .ok (.arraylength, 1) := by decide +kernel
theorem d3 : decode yB 3 = .ok (.invokestatic 9, 3) := by decide +kernel
theorem d6 : decode yB 6 = .ok (.aload_n 0, 1) := by decide +kernel
theorem d7 : decode yB 7 = .ok (.iload_n 1, 1) := by decide +kernel
theorem d8 : decode yB 8 = .ok (.baload, 1) := by decide +kernel
theorem d9 : decode yB 9 = .ok (.sipush 255, 3) := by decide +kernel
theorem d12 : decode yB 12 = .ok (.iand, 1) := by decide +kernel
theorem d13 : decode yB 13 = .ok (.i2c, 1) := by decide +kernel
theorem d14 : decode yB 14 = .ok (.ireturn, 1) := by decide +kernel
def site : List Cond := [JO.Str_checkIndex.tab] ++ staticW "java/lang/StringLatin1" 9 JO.Str_checkIndex.yN
def tab : Cond := tabOf yN yB 2 (some .char) site
def P (t : Addr) (V : Cell) (i : Nat) (u : Int32) (fm : Value) (args : Array Value) (s : State) : Prop := args = #[.ref t, .int (Int32.ofNat i)] ∧ XT.Arr .byte t V s ∧ V.slots[i]? = some (.int u) ∧ (StaticIs s "jdk/internal/util/Preconditions" "SIOOBE_FORMATTER" "Ljava/util/function/BiFunction;" fm ∧ fm.isRef = true)
def E (u : Int32) (r : Option Value) (s w : State) : Prop := XT.PureE (some (.int (chr8 u))) r s w
theorem law (l : Launch) (t : Addr) (V : Cell) (i : Nat) (u : Int32) (fm : Value) : Law l yN 2 2 2 27 yB 2 (some .char) site (P t V i u fm) (E u) [] 0 0 := by
  refine Law.of_walk (plainFor_of_name (by decide +kernel)) (by decide +kernel) (by decide +kernel) (by decide) (fun _ _ h => by rw [h.1]; rfl) (fun _ U U' hal hh h => ⟨h.1, h.2.1.mv hal hh, h.2.2.1, h.2.2.2.1.there hal hh, h.2.2.2.2⟩) (fun r U U' V V' h1 hal h2 h => XT.PureE.mv r U U' V V' h1 hal h2 h) ?_
  intro p e s m args below meth c s₁ X0 hexec hbytes hml hret hlk hnm hown hh0 W hP
  obtain ⟨rfl, hV, hu, s1, rf⟩ := hP
  have v31 := hV.2.2.2
  have hi : i < V.slots.size := (Array.getElem?_eq_some_iff.mp hu).1
  have c1 : Steps p.tables e below (s₁.setTop (entryFrame m #[.ref t, .int (Int32.ofNat i)] 2)) (s₁.setTop (mkF m 0 #[.val (.ref t), .val (.int (Int32.ofNat i))] [])) := entry rfl
  have c2 : Steps p.tables e below (s₁.setTop (entryFrame m #[.ref t, .int (Int32.ofNat i)] 2)) (s₁.setTop (mkF m 3 #[.val (.ref t), .val (.int (Int32.ofNat i))] [.int (Int32.ofNat V.slots.size), .int (Int32.ofNat i)])) := c1.trans (by
    refine XS.iloadN X0.here hexec rfl (hb hbytes d0) rfl ?_
    refine XS.aloadN X0.here hexec rfl (hb hbytes d1) rfl rfl ?_
    refine X0.alen hexec (hV.mv X0.warmed.alike hh0) rfl rfl (hb hbytes d2) ?_
    exact Steps.refl _)
  obtain ⟨v3, T3, X3, E3, g3⟩ := X0.callS hexec (JO.Str_checkIndex.law l (Int32.ofNat i) (Int32.ofNat V.slots.size) fm) hown (wks W (staticW "java/lang/StringLatin1" 9 JO.Str_checkIndex.yN)) (wk W JO.Str_checkIndex.tab) (W := 0) (Nat.le_of_ble_eq_true rfl) (Nat.le_of_ble_eq_true rfl) (Nat.le_refl _) (Nat.le_refl _) (g := (mkF m 3 #[.val (.ref t), .val (.int (Int32.ofNat i))] [.int (Int32.ofNat V.slots.size), .int (Int32.ofNat i)])) rfl (by rw [hml]; rfl) c2 (argsL := [.int (Int32.ofNat i), .int (Int32.ofNat V.slots.size)]) (rest := []) rfl rfl (by show 2 * 0 + 0 ≤ _; decide) (hb hbytes d3) (⟨rfl, rf, s1.there X0.warmed.alike hh0, Int32.ofNat_not_neg (by omega), lt32 v31 hi⟩)
  obtain ⟨rfl, q3⟩ := E3
  have hh3 := q3.trans hh0
  have c4 : Steps p.tables e below (s₁.setTop (entryFrame m #[.ref t, .int (Int32.ofNat i)] 2)) (T3.setTop (mkF m 14 #[.val (.ref t), .val (.int (Int32.ofNat i))] [.int (chr8 u)])) := Steps.trans g3 (by
    refine XS.aloadN X3.here hexec rfl (hb hbytes d6) rfl rfl ?_
    refine XS.iloadN X3.here hexec rfl (hb hbytes d7) rfl ?_
    refine X3.aget hexec (hV.mv X3.warmed.alike hh3) rfl hu rfl rfl (hb hbytes d8) ?_
    refine sipushV X3.here hexec rfl 255 (hb hbytes d9) (by decide) ?_
    refine XS.iand X3.here hexec rfl (hb hbytes d12) rfl ?_
    refine i2c X3.here hexec rfl (hb hbytes d13) rfl ?_
    exact Steps.refl _)
  exact ⟨T3, some (.int (chr8 u)), _, _, _, X3, rfl, rfl, rfl, (fun h => by cases h), ⟨rfl, hh3⟩, fun fs hl => c4.trans (X3.ireturnOut hexec hret (narrow_c _) (Or.inr (Or.inr (Or.inr (Or.inl rfl)))) (hb hbytes d14) hl)⟩
end LChA
end StrChars
namespace StrChars.Road
open Jvm Sem ClassFile Op Lib Jvm.Stand Jvm.Free Jvm.Free.XT
open Jvm.Lib.Cold (StaticIs)
theorem consq {a : Array Value} {s : State} {c : Jvm.Cond} {L : List Jvm.Cond} (h0 : c.before a s = true) (h : ∀ w ∈ L, w.before a s = true) : ∀ w ∈ c :: L, w.before a s = true := fun w hw => (List.mem_cons.mp hw).elim (fun e => e ▸ h0) (h w)
/-- the words of String.length(), either coding -/
abbrev wordsLen : List Jvm.Cond := [.code Len.yN Len.yB 1 (some .int), .initialized ST, .fieldLink ST 9 ST "value" "[B", .fieldLink ST 38 ST "COMPACT_STRINGS" "Z", .fieldLink ST 15 ST "coder" "B", .code Cdr.yN Cdr.yB 1 (some .byte), .methodLink ST 335 Cdr.yN, .declares Cdr.yN, .selects ST Cdr.yN Cdr.yN, .instanceMethod Cdr.yN]
theorem tabLen_of {a : Array Value} {s : State} (h : ∀ w ∈ wordsLen, w.before a s = true) : Len.tab.before a s = true := by
  have hc : Cdr.tab.before a s = true := unparts (wk h (.code Cdr.yN Cdr.yB 1 (some .byte))) (wks h (.initialized Cdr.yN.cls :: Cdr.site))
  have q := consq hc h
  exact unparts (wk q (.code Len.yN Len.yB 1 (some .int))) (wks q (.initialized Len.yN.cls :: Len.site))
theorem movedLen {Z s : State} {a0 args : Array Value} (hZ : Z.Warmed39 s.vm) (hw : ∀ d ∈ wordsLen, d.before a0 Z = true) : ∀ d ∈ wordsLen, d.before args s = true := fun d hd => by
  have q := hw d hd
  have t : ∀ d ∈ wordsLen, d = .arrayClass .byte ∨ (d.onTables && d.keepsFace) = true := by decide +kernel
  rcases t d hd with rfl | t
  · exact RoadKit.mvA hZ q
  · exact RoadKit.mv hZ q t
/-- the bytes of the chars cs, low before high -/
def wideBytes : List Int32 → List Value
  | [] => []
  | c :: cs => .int (lo8 c) :: .int (hi8 c) :: wideBytes cs
theorem wide_lo (d : Value) : ∀ (cs : List Int32) (j : Nat), j < cs.length → (wideBytes cs).getD (2 * j) d = .int (lo8 (cs.getD j 0))
  | [], j, h => absurd h (Nat.not_lt_zero j)
  | c :: cs, 0, _ => rfl
  | c :: cs, j + 1, h => by
    have q := wide_lo d cs j (by simpa using h)
    rw [show 2 * (j + 1) = 2 * j + 1 + 1 from by omega]
    simpa [wideBytes] using q
theorem wide_hi (d : Value) : ∀ (cs : List Int32) (j : Nat), j < cs.length → (wideBytes cs).getD (2 * j + 1) d = .int (hi8 (cs.getD j 0))
  | [], j, h => absurd h (Nat.not_lt_zero j)
  | c :: cs, 0, _ => rfl
  | c :: cs, j + 1, h => by
    have q := wide_hi d cs j (by simpa using h)
    rw [show 2 * (j + 1) + 1 = 2 * j + 1 + 1 + 1 from by omega]
    simpa [wideBytes] using q
theorem low_at (d : Value) (cs : List Int32) (j : Nat) (h : j < cs.length) : (cs.map fun c => Value.int (lo8 c)).getD j d = .int (lo8 (cs.getD j 0)) := by
  simp [List.getD_eq_getElem?_getD, h]
/-- an array of N2 bytes vs codes the chars cs by the coder cd -/
def CodA (cs : List Int32) (cd N2 : Int32) (vs : List Value) : Prop := (cd = 0 ∧ N2 = Int32.ofNat cs.length ∧ vs = (cs.map fun c => Value.int (lo8 c)) ∧ ∀ c ∈ cs, ¬ 255 < c) ∨ (cd = 1 ∧ N2 = Int32.ofNat (2 * cs.length) ∧ vs = wideBytes cs ∧ ∃ c ∈ cs, 255 < c)
theorem CodA.cod {cs : List Int32} {cd N2 : Int32} {vs : List Value} {V : Cell} (h : CodA cs cd N2 vs) (hn : 2 * cs.length < 2 ^ 31) (hs : V.slots.size = N2.toNatClampNeg) (hv : RoadKit.Has V vs (.int 0)) : Cod cd cs.length (fun j => cs.getD j 0) V := by
  rcases h with ⟨rfl, rfl, rfl, h⟩ | ⟨rfl, rfl, rfl, c, hc, hw⟩
  · rw [n32 (by omega)] at hs
    exact Or.inl ⟨rfl, hs, fun j hj => ⟨by rw [hv j (by omega), low_at _ _ _ hj], by
      have e : cs.getD j 0 = cs[j] := by simp [List.getD_eq_getElem?_getD, hj]
      show ¬ 255 < cs.getD j 0
      rw [e]; exact h _ (List.getElem_mem _)⟩⟩
  · rw [n32 (by omega)] at hs
    obtain ⟨j, hj, rfl⟩ := List.getElem_of_mem hc
    exact Or.inr ⟨rfl, hs, fun j hj => ⟨by rw [hv _ (by omega), wide_lo _ _ _ hj], by rw [hv _ (by omega), wide_hi _ _ _ hj]⟩, j, hj, by
      have e : cs.getD j 0 = cs[j] := by simp [List.getD_eq_getElem?_getD, hj]
      show 255 < cs.getD j 0
      rw [e]; exact hw⟩
/-- an object of exactly java/lang/String, its two fields found: as the laws ask it -/
theorem strObj {Z U : State} {a0 : Array Value} {kI : Nat} (wi : (Jvm.Cond.instantiable ST kI).before a0 Z = true) (al : Z.vm.Alike U.vm) {x : Addr} {v0 c0 : Value} (E : RoadKit.Exa Z U.heap x ST) (V : RoadKit.Fld Z U.heap x ST "value" "[B" v0) (C : RoadKit.Fld Z U.heap x ST "coder" "B" c0) :
    ∃ (D : Cell) (fV fC : Field), Blank ST x D U ∧ Found ST "value" "[B" fV U ∧ Found ST "coder" "B" fC U ∧ D.slots[fV.slot]? = some v0 ∧ D.slots[fC.slot]? = some c0 ∧ RoadKit.slotOf Z ST "value" "[B" = fV.slot ∧ RoadKit.slotOf Z ST "coder" "B" = fC.slot := by
  obtain ⟨D, cfV, kV, iV, fV, hD, gV, stV, knV, obV, asV, slV⟩ := V
  obtain ⟨D', cfC, kC, iC, fC, hD', gC, stC, -, -, asC, slC⟩ := C
  cases hD.symm.trans hD'
  obtain ⟨D2, kD, e1, e2, e3, e4, e5⟩ := E
  cases hD.symm.trans e1
  obtain ⟨c2, k2, i1, i2, i3, -⟩ := Cond.instantiable_spec wi
  cases e2.symm.trans i1
  cases e3.symm.trans i2
  obtain ⟨kU, u1, u2⟩ := al.2.2 _ _ e3
  exact ⟨D, fV, fC, ⟨hD, ⟨knV, fun q hq => by rw [hq] at obV; cases obV⟩, by rw [al.findClass]; exact e2, kU, u1, by rw [u2]; exact i3, by rw [u2]; exact e5 i3⟩, ⟨SBG.found_only al ⟨cfV, kV, iV, gV⟩, stV⟩, ⟨SBG.found_only al ⟨cfC, kC, iC, gC⟩, stC⟩, slV, slC, by simp [RoadKit.slotOf, gV], by simp [RoadKit.slotOf, gC]⟩
theorem sta_is {Z U : State} (al : Z.vm.Alike U.vm) {C n d : String} {v : Value} (S : RoadKit.Sta Z U.heap C n d v) : StaticIs U C n d v := by
  obtain ⟨cfS, iS, kS, fS, st, cS, t1, t2, t3, t4, t5, t6, t7⟩ := S
  exact StaticIs.there (s := { Z with heap := U.heap }) ⟨cfS, iS, kS, fS, st, cS, t1, t2, t3, t4, t5, (fun q => by rw [q] at t6; cases t6), t7⟩ al rfl
/-- **length() OF SUCH A STRING** -/
theorem lenW {p : Program} {l : Launch} {e : Env} {R : Room} {s : State} {args : Array Value} {below : List Frame} {len W : Nat} {Z : State} {a0 : Array Value} {h : Heap} (hZ : Z.Warmed39 s.vm) (hw : ∀ d ∈ wordsLen, d.before a0 Z = true) {kI : Nat} (wi : (Jvm.Cond.instantiable ST kI).before a0 Z = true)
    {x t : Addr} {kb : ClassId} {cs : List Int32} {cd N2 z : Int32} {vs : List Value} (E : RoadKit.Exa Z h x ST) (V : RoadKit.Fld Z h x ST "value" "[B" (.ref t)) (C : RoadKit.Fld Z h x ST "coder" "B" (.int cd)) (K : RoadKit.Arv Z h t kb .byte N2 vs (.int 0)) (hc : CodA cs cd N2 vs) (hb : ∀ c ∈ cs, ¬ c < 0 ∧ ¬ (65535 : Int32) < c)
    (S : RoadKit.Sta Z h ST "COMPACT_STRINGS" "Z" (.int z)) (hz : ¬ z = 0) (l2 : cs.length ≤ 4000) (hfr : 2 ≤ R.frames) (hlo : W + 25 ≤ R.locals) :
    Back l R p e below s args (⟨"java/lang/String", "length", "()I"⟩ : MethodName) len W (fun P a => a = #[.ref x] ∧ P.U.heap = h ∧ P.cells + 0 ≤ R.cells ∧ P.slots + 0 ≤ R.slots)
      (fun P _ v B => ∃ L, (v = some (.int (Int32.ofNat cs.length)) ∧ L = [] ∧ B.U.heap = h) ∧ B.locs = P.locs ++ L ∧ B.cells = P.cells + 0 ∧ B.slots = P.slots + 0) := by
  obtain ⟨A, K1, K2, K3, K4, K5, K6⟩ := K
  have hcod := hc.cod (by omega) K3 K5
  intro m meth c P g ig mk a X hg hsize hdg hW hn hp'
  obtain ⟨rfl, rfl, r1, r2⟩ := hp'
  have al : Z.vm.Alike P.U.vm := hZ.alike.trans X.warmed.alike
  obtain ⟨D, fV, fC, hB, F1, F2, g1, g2, -, -⟩ := strObj wi al E V C
  have hx : Txt x t A cd cs.length (fun j => cs.getD j 0) P.U := ⟨⟨_, hB.2.2.1, D, hB.1, rfl, by cases q : D.vm <;> first | rfl | exact absurd q (hB.2.1.2 _)⟩, Has.of hB F1 g1, Has.of hB F2 g2, ⟨K1.1, State.isArrayOf_alike al K1.2.1, K1.2.2, by rcases hcod with ⟨-, q, -⟩ | ⟨-, q, -⟩ <;> omega⟩, hcod, fun j hj => by
    have e : cs.getD j 0 = cs[j] := by simp [List.getD_eq_getElem?_getD, hj]
    show ¬ cs.getD j 0 < 0 ∧ ¬ 65535 < cs.getD j 0
    rw [e]; exact hb _ (List.getElem_mem _)⟩
  obtain ⟨v, B, X', ⟨⟨hv, hh⟩, hl, hk, hs⟩, st⟩ := Len.pays x t A cd cs.length (fun j => cs.getD j 0) z (tabLen_of (movedLen hZ hw)) hfr hlo m meth c P g ig mk _ X hg hsize hdg hW hn ⟨r1, r2, rfl, hx, sta_is al S, hz⟩
  exact ⟨v, B, X', ⟨[], ⟨hv, rfl, hh⟩, hl, hk, hs⟩, st⟩
end StrChars.Road
namespace StrChars
open Jvm Sem ClassFile Op Lib Jvm.Stand Jvm.Free.XT Jvm.Free.ALB Jvm.Free.JM Jvm.Free
open Jvm.Lib.Cold (StaticIs)
/-- what place i of a byte[]'s cell holds -/
def yv (A : Cell) (i : Nat) : Int32 := match A.slots[i]? with | some (.int x) => x | _ => 0
theorem yv_get {a : Addr} {A : Cell} {U : State} (h : XT.Arr .byte a A U) (ht : Typed .byte A) {i : Nat} (hi : i < A.slots.size) : A.slots[i]? = some (.int (yv A i)) := by
  have e := Array.getElem?_eq_getElem hi
  have f := ht i _ e
  unfold yv; rw [e]
  generalize A.slots[i] = v at f
  cases v <;> simp [fits] at f ⊢
/-- the two arrays are equal, place for place -/
def EqC (A B : Cell) : Prop := A.slots.size = B.slots.size ∧ ∀ i, i < A.slots.size → yv A i = yv B i
/-- a boolean that says whether p -/
def Says01 (q : Prop) (r : Option Value) (s u : State) : Prop := ∃ v : Int32, r = some (.int v) ∧ u.heap = s.heap ∧ ((v = 1 ∧ q) ∨ (v = 0 ∧ ¬ q))
theorem Says01.mv {q : Prop} : ∀ r (U U' V V' : State), U'.heap = U.heap → V.vm.Alike V'.vm → V'.heap = V.heap → Says01 q r U V → Says01 q r U' V' :=
  fun r U U' V V' h1 _ h2 ⟨v, a, b, c⟩ => ⟨v, a, by rw [h1, h2]; exact b, c⟩
namespace LEq
def yN : MethodName := ⟨"java/lang/StringLatin1", "equals", "([B[B)Z"⟩
abbrev yB : ByteArray := jdk_43_method_13_code
theorem d0 : decode yB 0 = .ok (.aload_n 0, 1) := by decide +kernel
theorem d1 : decode yB 1 = .ok (.arraylength, 1) := by decide +kernel
theorem d2 : decode yB 2 = .ok (.aload_n 1, 1) := by decide +kernel
theorem d3 : decode yB 3 = .ok (.arraylength, 1) := by decide +kernel
theorem d4 : decode yB 4 = .ok (.if_icmp (.ne) 30, 3) := by decide +kernel
theorem d7 : decode yB 7 = .ok (.iconst 0, 1) := by decide +kernel
theorem d8 : decode yB 8 = .ok (.istore_n 2, 1) := by decide +kernel
theorem d9 : decode yB 9 = .ok (.iload_n 2, 1) := by decide +kernel
theorem d10 : decode yB 10 = .ok (.aload_n 0, 1) := by decide +kernel
theorem d11 : decode yB 11 = .ok (.arraylength, 1) := by decide +kernel
theorem d12 : decode yB 12 = .ok (.if_icmp (.ge) 20, 3) := by decide +kernel
theorem d15 : decode yB 15 = .ok (.aload_n 0, 1) := by decide +kernel
theorem d16 : decode yB 16 = .ok (.iload_n 2, 1) := by decide +kernel
theorem d17 : decode yB 17 = .ok (.baload, 1) := by decide +kernel
theorem d18 : decode yB 18 = .ok (.aload_n 1, 1) := by decide +kernel
theorem d19 : decode yB 19 = .ok (.iload_n 2, 1) := by decide +kernel
theorem d20 : decode yB 20 = .ok (.baload, 1) := by decide +kernel
theorem d21 : decode yB 21 = .ok (.if_icmp (.eq) 5, 3) := by decide +kernel
theorem d24 : decode yB 24 = .ok (.iconst 0, 1) := by decide +kernel
theorem d25 : decode yB 25 = .ok (.ireturn, 1) := by decide +kernel
theorem d26 : decode yB 26 = .ok (.iinc 2 1, 3) := by decide +kernel
theorem d29 : decode yB 29 = .ok (.goto (-20), 3) := by decide +kernel
theorem d32 : decode yB 32 = .ok (.iconst 1, 1) := by decide +kernel
theorem d33 : decode yB 33 = .ok (.ireturn, 1) := by decide +kernel
theorem d34 : decode yB 34 = .ok (.iconst 0, 1) := by decide +kernel
theorem d35 : decode yB 35 = .ok (.ireturn, 1) := by decide +kernel
def site : List Cond := []
def tab : Cond := tabOf yN yB 3 (some .boolean) site
def P (a : Addr) (A : Cell) (b : Addr) (B : Cell) (args : Array Value) (s : State) : Prop := args = #[.ref a, .ref b] ∧ XT.Arr .byte a A s ∧ Typed .byte A ∧ XT.Arr .byte b B s ∧ Typed .byte B
/-- whether two byte[] are equal, place for place -/
theorem law (l : Launch) (a : Addr) (A : Cell) (b : Addr) (B : Cell) : Law l yN 2 2 0 0 yB 3 (some .boolean) site (P a A b B) (Says01 (EqC A B)) [] 0 0 := by
  refine Law.of_walk (plainFor_of_name (by decide +kernel)) (by decide +kernel) (by decide +kernel) (by decide) (fun _ _ h => by rw [h.1]; rfl) (fun _ U U' hal hh h => ⟨h.1, h.2.1.mv hal hh, h.2.2.1, h.2.2.2.1.mv hal hh, h.2.2.2.2⟩) (fun r U U' V V' h1 hal h2 h => Says01.mv r U U' V V' h1 hal h2 h) ?_
  intro p e s m args below meth c s₁ X0 hexec hbytes hml hret hlk hnm hown hh0 W hP
  obtain ⟨rfl, hA, tA, hB, tB⟩ := hP
  have a31 := hA.2.2.2
  have b31 := hB.2.2.2
  have hA0 := hA.mv X0.warmed.alike hh0
  have hB0 := hB.mv X0.warmed.alike hh0
  have c1 : Steps p.tables e below (s₁.setTop (entryFrame m #[.ref a, .ref b] 3)) (s₁.setTop (mkF m 0 #[.val (.ref a), .val (.ref b), .unset] [])) := entry rfl
  have c2 : Steps p.tables e below (s₁.setTop (entryFrame m #[.ref a, .ref b] 3)) (s₁.setTop (mkF m 4 #[.val (.ref a), .val (.ref b), .unset] [.int (Int32.ofNat B.slots.size), .int (Int32.ofNat A.slots.size)])) := c1.trans (by
    refine XS.aloadN X0.here hexec rfl (hb hbytes d0) rfl rfl ?_
    refine X0.alen hexec hA0 rfl rfl (hb hbytes d1) ?_
    refine XS.aloadN X0.here hexec rfl (hb hbytes d2) rfl rfl ?_
    refine X0.alen hexec hB0 rfl rfl (hb hbytes d3) ?_
    exact Steps.refl _)
  by_cases hs : A.slots.size = B.slots.size
  · have c3 : Steps p.tables e below (s₁.setTop (entryFrame m #[.ref a, .ref b] 3)) (s₁.setTop (mkF m 9 #[.val (.ref a), .val (.ref b), .val (.int 0)] [])) := c2.trans (by
      refine XS.icmpNo X0.here hexec rfl (hb hbytes d4) rfl (ii_ne_f (by rw [hs])) ?_
      refine iconstV X0.here hexec rfl 0 (hb hbytes d7) (by decide) ?_
      refine XS.istoreN X0.here hexec rfl (hb hbytes d8) rfl rfl ?_
      exact Steps.refl _)
    have loop : ∀ (r i : Nat), i + r = A.slots.size → (∀ j, j < i → yv A j = yv B j) → Steps p.tables e below (s₁.setTop (entryFrame m #[.ref a, .ref b] 3)) (s₁.setTop (mkF m 9 #[.val (.ref a), .val (.ref b), .val (.int (Int32.ofNat i))] [])) → ∃ (pc : Nat) (Ls : Array Slot) (v : Int32), (pc = 25 ∨ pc = 33) ∧ ((v = 1 ∧ EqC A B) ∨ (v = 0 ∧ ¬ EqC A B)) ∧ Steps p.tables e below (s₁.setTop (entryFrame m #[.ref a, .ref b] 3)) (s₁.setTop (mkF m pc Ls [.int v])) := by
      intro r
      induction r with
      | zero =>
        intro i hi he cl
        exact ⟨33, _, 1, Or.inr rfl, Or.inl ⟨rfl, hs, fun j hj => he j (by omega)⟩, cl.trans (by
          refine XS.iloadN X0.here hexec rfl (hb hbytes d9) rfl ?_
          refine XS.aloadN X0.here hexec rfl (hb hbytes d10) rfl rfl ?_
          refine X0.alen hexec hA0 rfl rfl (hb hbytes d11) ?_
          refine XS.icmpYes X0.here hexec rfl (pc0 := 12) rfl (hb hbytes d12) rfl (ii_ge_t (nlt32 (by omega) (by omega))) (by decide) rfl ?_
          refine iconstV X0.here hexec rfl 1 (hb hbytes d32) (by decide) ?_
          exact Steps.refl _)⟩
      | succ r ih =>
        intro i hi he cl
        have c4 : Steps p.tables e below (s₁.setTop (entryFrame m #[.ref a, .ref b] 3)) (s₁.setTop (mkF m 21 #[.val (.ref a), .val (.ref b), .val (.int (Int32.ofNat i))] [.int (yv B i), .int (yv A i)])) := cl.trans (by
          refine XS.iloadN X0.here hexec rfl (hb hbytes d9) rfl ?_
          refine XS.aloadN X0.here hexec rfl (hb hbytes d10) rfl rfl ?_
          refine X0.alen hexec hA0 rfl rfl (hb hbytes d11) ?_
          refine XS.icmpNo X0.here hexec rfl (hb hbytes d12) rfl (ii_ge_f (lt32 (by omega) (by omega))) ?_
          refine XS.aloadN X0.here hexec rfl (hb hbytes d15) rfl rfl ?_
          refine XS.iloadN X0.here hexec rfl (hb hbytes d16) rfl ?_
          refine X0.aget hexec hA0 rfl (yv_get hA tA (i := i) (by omega)) rfl rfl (hb hbytes d17) ?_
          refine XS.aloadN X0.here hexec rfl (hb hbytes d18) rfl rfl ?_
          refine XS.iloadN X0.here hexec rfl (hb hbytes d19) rfl ?_
          refine X0.aget hexec hB0 rfl (yv_get hB tB (i := i) (by omega)) rfl rfl (hb hbytes d20) ?_
          exact Steps.refl _)
        by_cases hv : yv A i = yv B i
        · have c5 : Steps p.tables e below (s₁.setTop (entryFrame m #[.ref a, .ref b] 3)) (s₁.setTop (mkF m 9 #[.val (.ref a), .val (.ref b), .val (.int (Int32.ofNat i + 1))] [])) := c4.trans (by
            refine XS.icmpYes X0.here hexec rfl (pc0 := 21) rfl (hb hbytes d21) rfl (ii_eq_t hv) (by decide) rfl ?_
            refine iincV X0.here hexec rfl 1 (hb hbytes d26) (by decide) rfl rfl ?_
            refine XS.goto X0.here hexec rfl (pc0 := 29) rfl (hb hbytes d29) (by decide) rfl ?_
            exact Steps.refl _)
          rw [succ32] at c5
          exact ih (i + 1) (by omega) (fun j hj => by
            by_cases e : j = i
            · rw [e]; exact hv
            · exact he j (by omega)) c5
        · exact ⟨25, _, 0, Or.inl rfl, Or.inr ⟨rfl, fun q => hv (q.2 i (by omega))⟩, c4.trans (by
            refine XS.icmpNo X0.here hexec rfl (hb hbytes d21) rfl (ii_eq_f hv) ?_
            refine iconstV X0.here hexec rfl 0 (hb hbytes d24) (by decide) ?_
            exact Steps.refl _)⟩
    obtain ⟨pc, Ls, v, hpc, hv, cz⟩ := loop A.slots.size 0 (by omega) (fun j hj => absurd hj (Nat.not_lt_zero j)) c3
    have nv : narrow .boolean (.int v) = .int v := by rcases hv with ⟨rfl, -⟩ | ⟨rfl, -⟩ <;> rfl
    rcases hpc with rfl | rfl
    · exact ⟨s₁, some (.int v), _, _, _, X0, rfl, rfl, rfl, (fun h => by cases h), ⟨v, rfl, hh0, hv⟩, fun fs hl => cz.trans (X0.ireturnOut hexec hret nv (Or.inr (Or.inl rfl)) (hb hbytes d25) hl)⟩
    · exact ⟨s₁, some (.int v), _, _, _, X0, rfl, rfl, rfl, (fun h => by cases h), ⟨v, rfl, hh0, hv⟩, fun fs hl => cz.trans (X0.ireturnOut hexec hret nv (Or.inr (Or.inl rfl)) (hb hbytes d33) hl)⟩
  · have c3 : Steps p.tables e below (s₁.setTop (entryFrame m #[.ref a, .ref b] 3)) (s₁.setTop (mkF m 35 #[.val (.ref a), .val (.ref b), .unset] [.int 0])) := c2.trans (by
      refine XS.icmpYes X0.here hexec rfl (pc0 := 4) rfl (hb hbytes d4) rfl (ii_ne_t (ne32 a31 b31 hs)) (by decide) rfl ?_
      refine iconstV X0.here hexec rfl 0 (hb hbytes d34) (by decide) ?_
      exact Steps.refl _)
    exact ⟨s₁, some (.int 0), _, _, _, X0, rfl, rfl, rfl, (fun h => by cases h), ⟨0, rfl, hh0, Or.inr ⟨rfl, fun q => hs q.1⟩⟩, fun fs hl => c3.trans (X0.ireturnOut hexec hret rfl (Or.inr (Or.inl rfl)) (hb hbytes d35) hl)⟩
end LEq
theorem Cod.ty {cd : Int32} {n : Nat} {f : Nat → Int32} {V : Cell} (h : Cod cd n f V) : Typed .byte V := fun i v hv => by
  have hi : i < V.slots.size := (Array.getElem?_eq_some_iff.mp hv).1
  rcases h with ⟨-, k1, k2⟩ | ⟨-, k1, k2, -⟩
  · rw [(k2 i (by omega)).1] at hv; cases hv; exact fits_lo8 _
  · rcases Nat.mod_two_eq_zero_or_one i with e | e
    · obtain ⟨j, rfl⟩ : ∃ j, i = 2 * j := ⟨i / 2, by omega⟩
      rw [(k2 j (by omega)).1] at hv; cases hv; exact fits_lo8 _
    · obtain ⟨j, rfl⟩ : ∃ j, i = 2 * j + 1 := ⟨i / 2, by omega⟩
      rw [(k2 j (by omega)).2] at hv; cases hv; exact fits_lo8 _
/-- the same text -/
def SameT (n : Nat) (f : Nat → Int32) (k : Nat) (g : Nat → Int32) : Prop := n = k ∧ ∀ j, j < n → f j = g j
theorem lo8_inj {x y : Int32} (h0 : ¬ x < 0) (h1 : ¬ 255 < x) (k0 : ¬ y < 0) (k1 : ¬ 255 < y) (h : lo8 x = lo8 y) : x = y := by
  rw [← lo8_mask h0 h1, ← lo8_mask k0 k1, h]
/-- arrays coded by one coder are equal just where the texts are -/
theorem Cod.eqv {cd : Int32} {n k : Nat} {f g : Nat → Int32} {V V' : Cell} (h : Cod cd n f V) (h' : Cod cd k g V') (hf : ∀ j, j < n → ¬ f j < 0 ∧ ¬ 65535 < f j) (hg : ∀ j, j < k → ¬ g j < 0 ∧ ¬ 65535 < g j) : EqC V V' ↔ SameT n f k g := by
  have yvv : ∀ {W : Cell} {i : Nat} {x : Int32}, W.slots[i]? = some (.int x) → yv W i = x := fun q => by unfold yv; rw [q]
  rcases h with ⟨rfl, k1, k2⟩ | ⟨rfl, k1, k2, -⟩
  · rcases h' with ⟨-, m1, m2⟩ | ⟨e, -⟩
    · constructor
      · rintro ⟨e1, e2⟩
        refine ⟨by omega, fun j hj => ?_⟩
        have q := e2 j (by omega)
        rw [yvv (k2 j hj).1, yvv (m2 j (by omega)).1] at q
        exact lo8_inj (hf j hj).1 (k2 j hj).2 (hg j (by omega)).1 (m2 j (by omega)).2 q
      · rintro ⟨rfl, e2⟩
        refine ⟨by omega, fun j hj => ?_⟩
        rw [yvv (k2 j (by omega)).1, yvv (m2 j (by omega)).1, e2 j (by omega)]
    · exact absurd e (by decide)
  · rcases h' with ⟨e, -⟩ | ⟨-, m1, m2, -⟩
    · exact absurd e (by decide)
    · constructor
      · rintro ⟨e1, e2⟩
        refine ⟨by omega, fun j hj => ?_⟩
        have q1 := e2 (2 * j) (by omega)
        have q2 := e2 (2 * j + 1) (by omega)
        rw [yvv (k2 j hj).1, yvv (m2 j (by omega)).1] at q1
        rw [yvv (k2 j hj).2, yvv (m2 j (by omega)).2] at q2
        rw [← pair_says (hf j hj).1 (hf j hj).2, ← pair_says (hg j (by omega)).1 (hg j (by omega)).2, q1, q2]
      · rintro ⟨rfl, e2⟩
        refine ⟨by omega, fun i hi => ?_⟩
        rcases Nat.mod_two_eq_zero_or_one i with e | e
        · obtain ⟨j, rfl⟩ : ∃ j, i = 2 * j := ⟨i / 2, by omega⟩
          rw [yvv (k2 j (by omega)).1, yvv (m2 j (by omega)).1, e2 j (by omega)]
        · obtain ⟨j, rfl⟩ : ∃ j, i = 2 * j + 1 := ⟨i / 2, by omega⟩
          rw [yvv (k2 j (by omega)).2, yvv (m2 j (by omega)).2, e2 j (by omega)]
/-- two codings differ: so do the texts -/
theorem Cod.dif {cd cd' : Int32} {n k : Nat} {f g : Nat → Int32} {V V' : Cell} (h : Cod cd n f V) (h' : Cod cd' k g V') (hne : ¬ cd = cd') : ¬ SameT n f k g := by
  rintro ⟨rfl, e⟩
  rcases h with ⟨rfl, -, k2⟩ | ⟨rfl, -, -, j, hj, hw⟩
  · rcases h' with ⟨rfl, -⟩ | ⟨-, -, -, j, hj, hw⟩
    · exact hne rfl
    · exact (k2 j hj).2 (by rw [e j hj]; exact hw)
  · rcases h' with ⟨-, -, m2⟩ | ⟨rfl, -⟩
    · exact (m2 j hj).2 (by rw [← e j hj]; exact hw)
    · exact hne rfl
/-- an object of exactly C is an instance of C -/
theorem cinst {p : Program} {l : Launch} {e : Env} {R : Room} {s : State} {m : MethodId} {args : Array Value} {below : List Frame} {meth : Method} {c : Code} {T : State} {locs : List Loc} {cells slots : Nat} (X : Stand p l e R s m args below meth c T locs cells slots) (hexec : p.tables.exec = Jvm.exec) {own C : String} {index : Nat} (hown : s.vm.findClass own = some m.cls) (hlink : (Cond.classLink own index C).before args s = true) {a : Addr} (hE : Exact C a T)
    {g : JFrame} (hg : g.method = m) {rest : List Value} (hstack : g.stack = .ref a :: rest) (hdg : decode c.code g.pc = .ok (.instanceof index, 3)) :
    ∃ T', Stand p l e R s m args below meth c T' locs cells slots ∧ T'.heap = T.heap ∧ ∀ target, Steps p.tables e below (T'.setTop { g with pc := g.pc + 3, stack := .int 1 :: rest }) target → Steps p.tables e below (T.setTop g) target := by
  obtain ⟨cB, h1, D, h2, h3, h4⟩ := hE
  have h1' : s.vm.findClass C = some cB := by rw [← X.warmed.alike.findClass]; exact h1
  obtain ⟨vm', X', st⟩ := X.instanceofYes hexec hown hlink h2 h4 h1' (by rw [h3]; exact Jvm.Free.SB.assignable_self _ _) hg hstack hdg
  exact ⟨_, X', rfl, st⟩
theorem cself {p : Program} {l : Launch} {e : Env} {R : Room} {s : State} {m : MethodId} {args : Array Value} {below : List Frame} {meth : Method} {c : Code} {T : State} {locs : List Loc} {cells slots : Nat} (X : Stand p l e R s m args below meth c T locs cells slots) (hexec : p.tables.exec = Jvm.exec) {own C : String} {index : Nat} (hown : s.vm.findClass own = some m.cls) (hlink : (Cond.classLink own index C).before args s = true) {a : Addr} (hE : Exact C a T)
    {g : JFrame} (hg : g.method = m) {rest : List Value} (hstack : g.stack = .ref a :: rest) (hdg : decode c.code g.pc = .ok (.checkcast index, 3)) :
    ∃ T', Stand p l e R s m args below meth c T' locs cells slots ∧ T'.heap = T.heap ∧ ∀ target, Steps p.tables e below (T'.setTop { g with pc := g.pc + 3, stack := .ref a :: rest }) target → Steps p.tables e below (T.setTop g) target := by
  obtain ⟨cB, h1, D, h2, h3, h4⟩ := hE
  have h1' : s.vm.findClass C = some cB := by rw [← X.warmed.alike.findClass]; exact h1
  obtain ⟨vm', X', st⟩ := X.checkcastYes hexec hown hlink h2 h4 h1' (by rw [h3]; exact Jvm.Free.SB.assignable_self _ _) hg hstack hdg
  exact ⟨_, X', rfl, fun t h => st t (by rw [← hstack] at h; exact h)⟩
namespace SEq
def yN : MethodName := ⟨"java/lang/String", "equals", "(Ljava/lang/Object;)Z"⟩
abbrev yB : ByteArray := jdk_42_method_66_code
theorem d0 : decode yB 0 = .ok (.aload_n 0, 1) := by decide +kernel
theorem d1 : decode yB 1 = .ok (.aload_n 1, 1) := by decide +kernel
theorem d2 : decode yB 2 = .ok (.if_acmp (.ne) 5, 3) := by decide +kernel
theorem d5 : decode yB 5 = .ok (.iconst 1, 1) := by decide +kernel
theorem d6 : decode yB 6 = .ok (.ireturn, 1) := by decide +kernel
theorem d7 : decode yB 7 = .ok (.aload_n 1, 1) := by decide +kernel
theorem d8 : decode yB 8 = .ok (.instanceof 10, 3) := by decide +kernel
theorem d11 : decode yB 11 = .ok (.ifCond (.eq) 43, 3) := by decide +kernel
theorem d14 : decode yB 14 = .ok (.aload_n 1, 1) := by decide +kernel
theorem d15 : decode yB 15 = .ok (.checkcast 10, 3) := by decide +kernel
theorem d18 : decode yB 18 = .ok (.astore_n 2, 1) := by decide +kernel
theorem d19 : decode yB 19 = .ok (.getstatic 38, 3) := by decide +kernel
theorem d22 : decode yB 22 = .ok (.ifCond (.eq) 14, 3) := by decide +kernel
theorem d25 : decode yB 25 = .ok (.aload_n 0, 1) := by decide +kernel
theorem d26 : decode yB 26 = .ok (.getfield 15, 3) := by decide +kernel
theorem d29 : decode yB 29 = .ok (.aload_n 2, 1) := by decide +kernel
theorem d30 : decode yB 30 = .ok (.getfield 15, 3) := by decide +kernel
theorem d33 : decode yB 33 = .ok (.if_icmp (.ne) 21, 3) := by decide +kernel
theorem d36 : decode yB 36 = .ok (.aload_n 0, 1) := by decide +kernel
theorem d37 : decode yB 37 = .ok (.getfield 9, 3) := by decide +kernel
theorem d40 : decode yB 40 = .ok (.aload_n 2, 1) := by decide +kernel
theorem d41 : decode yB 41 = .ok (.getfield 9, 3) := by decide +kernel
theorem d44 : decode yB 44 = .ok (.invokestatic 541, 3) := by decide +kernel
theorem d47 : decode yB 47 = .ok (.ifCond (.eq) 7, 3) := by decide +kernel
theorem d50 : decode yB 50 = .ok (.iconst 1, 1) := by decide +kernel
theorem d51 : decode yB 51 = .ok (.goto 4, 3) := by decide +kernel
theorem d54 : decode yB 54 = .ok (.iconst 0, 1) := by decide +kernel
theorem d55 : decode yB 55 = .ok (.ireturn, 1) := by decide +kernel
def site : List Cond := [.classLink "java/lang/String" 10 "java/lang/String", .fieldLink "java/lang/String" 38 "java/lang/String" "COMPACT_STRINGS" "Z", .fieldLink "java/lang/String" 15 "java/lang/String" "coder" "B", .fieldLink "java/lang/String" 9 "java/lang/String" "value" "[B", LEq.tab] ++ staticW "java/lang/String" 541 LEq.yN
def tab : Cond := tabOf yN yB 3 (some .boolean) site
def P (x t : Addr) (V : Cell) (cd : Int32) (n : Nat) (f : Nat → Int32) (y t' : Addr) (V' : Cell) (cd' : Int32) (k : Nat) (g : Nat → Int32) (z : Int32) (args : Array Value) (s : State) : Prop := args = #[.ref x, .ref y] ∧ Txt x t V cd n f s ∧ Txt y t' V' cd' k g s ∧ StaticIs s "java/lang/String" "COMPACT_STRINGS" "Z" (.int z) ∧ ¬ z = 0
/-- equals(Object) of two Strings: whether the texts are the same -/
theorem law (l : Launch) (x t : Addr) (V : Cell) (cd : Int32) (n : Nat) (f : Nat → Int32) (y t' : Addr) (V' : Cell) (cd' : Int32) (k : Nat) (g : Nat → Int32) (z : Int32) : Law l yN 2 1 1 14 yB 3 (some .boolean) site (P x t V cd n f y t' V' cd' k g z) (Says01 (SameT n f k g)) [] 0 0 := by
  refine Law.of_walk (plainFor_of_name (by decide +kernel)) (by decide +kernel) (by decide +kernel) (by decide) (fun _ _ h => by rw [h.1]; rfl) (fun _ U U' hal hh h => ⟨h.1, h.2.1.mv hal hh, h.2.2.1.mv hal hh, h.2.2.2.1.there hal hh, h.2.2.2.2⟩) (fun r U U' V V' h1 hal h2 h => Says01.mv r U U' V V' h1 hal h2 h) ?_
  intro p e s m args below meth c s₁ X0 hexec hbytes hml hret hlk hnm hown hh0 W hP
  obtain ⟨rfl, hx, hy, s1, hz⟩ := hP
  have c1 : Steps p.tables e below (s₁.setTop (entryFrame m #[.ref x, .ref y] 3)) (s₁.setTop (mkF m 2 #[.val (.ref x), .val (.ref y), .unset] [.ref y, .ref x])) := Steps.trans (entry rfl) (by
    show Steps p.tables e below (s₁.setTop (mkF m 0 #[.val (.ref x), .val (.ref y), .unset] [])) _
    refine XS.aloadN X0.here hexec rfl (hb hbytes d0) rfl rfl ?_
    refine XS.aloadN X0.here hexec rfl (hb hbytes d1) rfl rfl ?_
    exact Steps.refl _)
  by_cases hxy : x = y
  · have c2 : Steps p.tables e below (s₁.setTop (entryFrame m #[.ref x, .ref y] 3)) (s₁.setTop (mkF m 6 #[.val (.ref x), .val (.ref y), .unset] [.int 1])) := c1.trans (by
      refine acmpNo X0.here hexec rfl (hb hbytes d2) rfl rfl rfl (by simp [acmp, hxy]) ?_
      refine iconstV X0.here hexec rfl 1 (hb hbytes d5) (by decide) ?_
      exact Steps.refl _)
    subst hxy
    have ec : cd = cd' := by
      obtain ⟨D, fd, a1, a2, a3⟩ := hx.2.2.1
      obtain ⟨D', fd', b1, b2, b3⟩ := hy.2.2.1
      cases a1.symm.trans b1
      obtain ⟨q1, q2, q3, q4⟩ := a2.1
      obtain ⟨r1, r2, r3, r4⟩ := b2.1
      cases q4.symm.trans r4
      cases a3.symm.trans b3; rfl
    have et : t = t' := by
      obtain ⟨D, fd, a1, a2, a3⟩ := hx.2.1
      obtain ⟨D', fd', b1, b2, b3⟩ := hy.2.1
      cases a1.symm.trans b1
      obtain ⟨q1, q2, q3, q4⟩ := a2.1
      obtain ⟨r1, r2, r3, r4⟩ := b2.1
      cases q4.symm.trans r4
      cases a3.symm.trans b3; rfl
    subst ec et
    have ev : V = V' := by cases hx.2.2.2.1.1.symm.trans hy.2.2.2.1.1; rfl
    subst ev
    have hs : SameT n f k g := (Cod.eqv hx.2.2.2.2.1 hy.2.2.2.2.1 hx.2.2.2.2.2 hy.2.2.2.2.2).mp ⟨rfl, fun _ _ => rfl⟩
    exact ⟨s₁, some (.int 1), _, _, _, X0, rfl, rfl, rfl, (fun h => by cases h), ⟨1, rfl, hh0, Or.inl ⟨rfl, hs⟩⟩, fun fs hl => c2.trans (X0.ireturnOut hexec hret rfl (Or.inr (Or.inl rfl)) (hb hbytes d6) hl)⟩
  · have c2 : Steps p.tables e below (s₁.setTop (entryFrame m #[.ref x, .ref y] 3)) (s₁.setTop (mkF m 8 #[.val (.ref x), .val (.ref y), .unset] [.ref y])) := c1.trans (by
      refine acmpYes X0.here hexec rfl (pc0 := 2) rfl (hb hbytes d2) rfl rfl rfl (by simp [acmp, hxy]) (by decide) rfl ?_
      refine XS.aloadN X0.here hexec rfl (hb hbytes d7) rfl rfl ?_
      exact Steps.refl _)
    obtain ⟨T3, X3, q3, st3⟩ := cinst X0 hexec hown (wk W (.classLink "java/lang/String" 10 "java/lang/String")) (hy.mv X0.warmed.alike hh0).1 (g := (mkF m 8 #[.val (.ref x), .val (.ref y), .unset] [.ref y])) rfl (rest := []) rfl (hb hbytes d8)
    have hh3 := q3.trans hh0
    have c4 : Steps p.tables e below (s₁.setTop (entryFrame m #[.ref x, .ref y] 3)) (T3.setTop (mkF m 15 #[.val (.ref x), .val (.ref y), .unset] [.ref y])) := (c2.trans (st3 _ (Steps.refl _))).trans (by
      refine XS.ifNo X3.here hexec rfl (hb hbytes d11) rfl (i0_eq_f (by decide)) ?_
      refine XS.aloadN X3.here hexec rfl (hb hbytes d14) rfl rfl ?_
      exact Steps.refl _)
    obtain ⟨T5, X5, q5, st5⟩ := cself X3 hexec hown (wk W (.classLink "java/lang/String" 10 "java/lang/String")) (hy.mv X3.warmed.alike hh3).1 (g := (mkF m 15 #[.val (.ref x), .val (.ref y), .unset] [.ref y])) rfl (rest := []) rfl (hb hbytes d15)
    have hh5 := q5.trans hh3
    have c6 : Steps p.tables e below (s₁.setTop (entryFrame m #[.ref x, .ref y] 3)) (T5.setTop (mkF m 19 #[.val (.ref x), .val (.ref y), .val (.ref y)] [])) := (c4.trans (st5 _ (Steps.refl _))).trans (by
      refine XS.astoreN X5.here hexec rfl (hb hbytes d18) rfl rfl rfl ?_
      exact Steps.refl _)
    obtain ⟨T7, X7, q7, st7⟩ := X5.sget hexec hown (wk W (.fieldLink "java/lang/String" 38 "java/lang/String" "COMPACT_STRINGS" "Z")) s1 (fun _ _ h => by rw [hh5]; exact h) (g := (mkF m 19 #[.val (.ref x), .val (.ref y), .val (.ref y)] [])) rfl (hb hbytes d19)
    have hh7 := q7.trans hh5
    have c8 : Steps p.tables e below (s₁.setTop (entryFrame m #[.ref x, .ref y] 3)) (T7.setTop (mkF m 26 #[.val (.ref x), .val (.ref y), .val (.ref y)] [.ref x])) := (c6.trans (st7 _ (Steps.refl _))).trans (by
      refine XS.ifNo X7.here hexec rfl (hb hbytes d22) rfl (i0_eq_f hz) ?_
      refine XS.aloadN X7.here hexec rfl (hb hbytes d25) rfl rfl ?_
      exact Steps.refl _)
    obtain ⟨T9, X9, q9, st9⟩ := X7.hget hexec hown (wk W (.fieldLink "java/lang/String" 15 "java/lang/String" "coder" "B")) (hx.mv X7.warmed.alike hh7).2.2.1 (g := (mkF m 26 #[.val (.ref x), .val (.ref y), .val (.ref y)] [.ref x])) rfl (rest := []) rfl (hb hbytes d26)
    have hh9 := q9.trans hh7
    have c10 : Steps p.tables e below (s₁.setTop (entryFrame m #[.ref x, .ref y] 3)) (T9.setTop (mkF m 30 #[.val (.ref x), .val (.ref y), .val (.ref y)] [.ref y, .int cd])) := (c8.trans (st9 _ (Steps.refl _))).trans (by
      refine XS.aloadN X9.here hexec rfl (hb hbytes d29) rfl rfl ?_
      exact Steps.refl _)
    obtain ⟨T11, X11, q11, st11⟩ := X9.hget hexec hown (wk W (.fieldLink "java/lang/String" 15 "java/lang/String" "coder" "B")) (hy.mv X9.warmed.alike hh9).2.2.1 (g := (mkF m 30 #[.val (.ref x), .val (.ref y), .val (.ref y)] [.ref y, .int cd])) rfl (rest := [.int cd]) rfl (hb hbytes d30)
    have hh11 := q11.trans hh9
    have c12 : Steps p.tables e below (s₁.setTop (entryFrame m #[.ref x, .ref y] 3)) (T11.setTop (mkF m 33 #[.val (.ref x), .val (.ref y), .val (.ref y)] [.int cd', .int cd])) := c10.trans (st11 _ (Steps.refl _))
    by_cases hcd : cd = cd'
    · subst hcd
      have c13 : Steps p.tables e below (s₁.setTop (entryFrame m #[.ref x, .ref y] 3)) (T11.setTop (mkF m 37 #[.val (.ref x), .val (.ref y), .val (.ref y)] [.ref x])) := c12.trans (by
        refine XS.icmpNo X11.here hexec rfl (hb hbytes d33) rfl (ii_ne_f rfl) ?_
        refine XS.aloadN X11.here hexec rfl (hb hbytes d36) rfl rfl ?_
        exact Steps.refl _)
      obtain ⟨T14, X14, q14, st14⟩ := X11.hget hexec hown (wk W (.fieldLink "java/lang/String" 9 "java/lang/String" "value" "[B")) (hx.mv X11.warmed.alike hh11).2.1 (g := (mkF m 37 #[.val (.ref x), .val (.ref y), .val (.ref y)] [.ref x])) rfl (rest := []) rfl (hb hbytes d37)
      have hh14 := q14.trans hh11
      have c15 : Steps p.tables e below (s₁.setTop (entryFrame m #[.ref x, .ref y] 3)) (T14.setTop (mkF m 41 #[.val (.ref x), .val (.ref y), .val (.ref y)] [.ref y, .ref t])) := (c13.trans (st14 _ (Steps.refl _))).trans (by
        refine XS.aloadN X14.here hexec rfl (hb hbytes d40) rfl rfl ?_
        exact Steps.refl _)
      obtain ⟨T16, X16, q16, st16⟩ := X14.hget hexec hown (wk W (.fieldLink "java/lang/String" 9 "java/lang/String" "value" "[B")) (hy.mv X14.warmed.alike hh14).2.1 (g := (mkF m 41 #[.val (.ref x), .val (.ref y), .val (.ref y)] [.ref y, .ref t])) rfl (rest := [.ref t]) rfl (hb hbytes d41)
      have hh16 := q16.trans hh14
      have c17 : Steps p.tables e below (s₁.setTop (entryFrame m #[.ref x, .ref y] 3)) (T16.setTop (mkF m 44 #[.val (.ref x), .val (.ref y), .val (.ref y)] [.ref t', .ref t])) := c15.trans (st16 _ (Steps.refl _))
      obtain ⟨v18, T18, X18, E18, g18⟩ := X16.callS hexec (LEq.law l t V t' V') hown (wks W (staticW "java/lang/String" 541 LEq.yN)) (wk W LEq.tab) (W := 0) (Nat.le_of_ble_eq_true rfl) (Nat.le_of_ble_eq_true rfl) (Nat.le_refl _) (Nat.le_refl _) (g := (mkF m 44 #[.val (.ref x), .val (.ref y), .val (.ref y)] [.ref t', .ref t])) rfl (by rw [hml]; rfl) c17 (argsL := [.ref t, .ref t']) (rest := []) rfl rfl (by show 2 * 0 + 0 ≤ _; decide) (hb hbytes d44) (⟨rfl, hx.2.2.2.1.mv X16.warmed.alike hh16, hx.2.2.2.2.1.ty, hy.2.2.2.1.mv X16.warmed.alike hh16, hy.2.2.2.2.1.ty⟩)
      obtain ⟨v, rfl, q18, hv⟩ := E18
      have iff := Cod.eqv hx.2.2.2.2.1 hy.2.2.2.2.1 hx.2.2.2.2.2 hy.2.2.2.2.2
      rcases hv with ⟨rfl, he⟩ | ⟨rfl, he⟩
      · have c19 : Steps p.tables e below (s₁.setTop (entryFrame m #[.ref x, .ref y] 3)) (T18.setTop (mkF m 55 #[.val (.ref x), .val (.ref y), .val (.ref y)] [.int 1])) := Steps.trans g18 (by
          refine XS.ifNo X18.here hexec rfl (hb hbytes d47) rfl (i0_eq_f (by decide)) ?_
          refine iconstV X18.here hexec rfl 1 (hb hbytes d50) (by decide) ?_
          refine XS.goto X18.here hexec rfl (pc0 := 51) rfl (hb hbytes d51) (by decide) rfl ?_
          exact Steps.refl _)
        exact ⟨T18, some (.int 1), _, _, _, X18, rfl, rfl, rfl, (fun h => by cases h), ⟨1, rfl, q18.trans hh16, Or.inl ⟨rfl, iff.mp he⟩⟩, fun fs hl => c19.trans (X18.ireturnOut hexec hret rfl (Or.inr (Or.inl rfl)) (hb hbytes d55) hl)⟩
      · have c19 : Steps p.tables e below (s₁.setTop (entryFrame m #[.ref x, .ref y] 3)) (T18.setTop (mkF m 55 #[.val (.ref x), .val (.ref y), .val (.ref y)] [.int 0])) := Steps.trans g18 (by
          refine XS.ifYes X18.here hexec rfl (pc0 := 47) rfl (hb hbytes d47) rfl (i0_eq_t rfl) (by decide) rfl ?_
          refine iconstV X18.here hexec rfl 0 (hb hbytes d54) (by decide) ?_
          exact Steps.refl _)
        exact ⟨T18, some (.int 0), _, _, _, X18, rfl, rfl, rfl, (fun h => by cases h), ⟨0, rfl, q18.trans hh16, Or.inr ⟨rfl, fun q => he (iff.mpr q)⟩⟩, fun fs hl => c19.trans (X18.ireturnOut hexec hret rfl (Or.inr (Or.inl rfl)) (hb hbytes d55) hl)⟩
    · have c13 : Steps p.tables e below (s₁.setTop (entryFrame m #[.ref x, .ref y] 3)) (T11.setTop (mkF m 55 #[.val (.ref x), .val (.ref y), .val (.ref y)] [.int 0])) := c12.trans (by
        refine XS.icmpYes X11.here hexec rfl (pc0 := 33) rfl (hb hbytes d33) rfl (ii_ne_t hcd) (by decide) rfl ?_
        refine iconstV X11.here hexec rfl 0 (hb hbytes d54) (by decide) ?_
        exact Steps.refl _)
      exact ⟨T11, some (.int 0), _, _, _, X11, rfl, rfl, rfl, (fun h => by cases h), ⟨0, rfl, hh11, Or.inr ⟨rfl, Cod.dif hx.2.2.2.2.1 hy.2.2.2.2.1 hcd⟩⟩, fun fs hl => c13.trans (X11.ireturnOut hexec hret rfl (Or.inr (Or.inl rfl)) (hb hbytes d55) hl)⟩
theorem pays {l : Launch} {R : Room} {p : Program} {e : Env} {below : List Frame} {s : State} {sargs : Array Value} {len W : Nat} (x t : Addr) (V : Cell) (cd : Int32) (n : Nat) (f : Nat → Int32) (y t' : Addr) (V' : Cell) (cd' : Int32) (k : Nat) (g : Nat → Int32) (z : Int32) (htab : tab.before sargs s = true) (hfr : 2 ≤ R.frames) (hlo : W + 28 ≤ R.locals) :
    Back l R p e below s sargs yN len W (fun A₁ a₁ => A₁.cells + 0 ≤ R.cells ∧ A₁.slots + 0 ≤ R.slots ∧ P x t V cd n f y t' V' cd' k g z a₁ A₁.U) (fun A₁ _ v₁ B₁ => Says01 (SameT n f k g) v₁ A₁.U B₁.U ∧ B₁.locs = A₁.locs ++ [] ∧ B₁.cells = A₁.cells + 0 ∧ B₁.slots = A₁.slots + 0) :=
  (law l x t V cd n f y t' V' cd' k g z).pays htab hfr (by omega)
end SEq
end StrChars
namespace StrChars.Road
open Jvm Sem ClassFile Op Lib Jvm.Stand Jvm.Free Jvm.Free.XT
open Jvm.Lib.Cold (StaticIs)
/-- the words of String.equals(Object) -/
abbrev wordsEq : List Jvm.Cond := [.code SEq.yN SEq.yB 3 (some .boolean), .initialized ST, .classLink ST 10 ST, .fieldLink ST 38 ST "COMPACT_STRINGS" "Z", .fieldLink ST 15 ST "coder" "B", .fieldLink ST 9 ST "value" "[B", .methodLink ST 541 LEq.yN, .static LEq.yN, .code LEq.yN LEq.yB 3 (some .boolean), .initialized "java/lang/StringLatin1"]
theorem tabEq_of {a : Array Value} {s : State} (h : ∀ w ∈ wordsEq, w.before a s = true) : SEq.tab.before a s = true := by
  have hl : LEq.tab.before a s = true := unparts (wk h (.code LEq.yN LEq.yB 3 (some .boolean))) (wks h (.initialized LEq.yN.cls :: LEq.site))
  have q := consq hl h
  exact unparts (wk q (.code SEq.yN SEq.yB 3 (some .boolean))) (wks q (.initialized SEq.yN.cls :: SEq.site))
theorem movedEq {Z s : State} {a0 args : Array Value} (hZ : Z.Warmed39 s.vm) (hw : ∀ d ∈ wordsEq, d.before a0 Z = true) : ∀ d ∈ wordsEq, d.before args s = true := fun d hd => by
  have t : ∀ d ∈ wordsEq, (d.onTables && d.keepsFace) = true := by decide +kernel
  exact RoadKit.mv hZ (hw d hd) (t d hd)
/-- the road's facts of a String, as the laws ask it -/
theorem txt_of {Z U : State} {a0 : Array Value} {kI : Nat} (wi : (Jvm.Cond.instantiable ST kI).before a0 Z = true) (al : Z.vm.Alike U.vm) {x t : Addr} {kb : ClassId} {cs : List Int32} {cd N2 : Int32} {vs : List Value} (E : RoadKit.Exa Z U.heap x ST) (V : RoadKit.Fld Z U.heap x ST "value" "[B" (.ref t)) (C : RoadKit.Fld Z U.heap x ST "coder" "B" (.int cd)) (K : RoadKit.Arv Z U.heap t kb .byte N2 vs (.int 0)) (hc : CodA cs cd N2 vs) (hb : ∀ c ∈ cs, ¬ c < 0 ∧ ¬ (65535 : Int32) < c) (l2 : cs.length ≤ 4000) :
    ∃ A, Txt x t A cd cs.length (fun j => cs.getD j 0) U := by
  obtain ⟨A, K1, K2, K3, K4, K5, K6⟩ := K
  have hcod := hc.cod (by omega) K3 K5
  obtain ⟨D, fV, fC, hB, F1, F2, g1, g2, -, -⟩ := strObj wi al E V C
  exact ⟨A, ⟨_, hB.2.2.1, D, hB.1, rfl, by cases q : D.vm <;> first | rfl | exact absurd q (hB.2.1.2 _)⟩, Has.of hB F1 g1, Has.of hB F2 g2, ⟨K1.1, State.isArrayOf_alike al K1.2.1, K1.2.2, by rcases hcod with ⟨-, q, -⟩ | ⟨-, q, -⟩ <;> omega⟩, hcod, fun j hj => by
    have e : cs.getD j 0 = cs[j] := by simp [List.getD_eq_getElem?_getD, hj]
    show ¬ cs.getD j 0 < 0 ∧ ¬ 65535 < cs.getD j 0
    rw [e]; exact hb _ (List.getElem_mem _)⟩
theorem same_list (cs ds : List Int32) : SameT cs.length (fun j => cs.getD j 0) ds.length (fun j => ds.getD j 0) ↔ cs = ds := by
  constructor
  · rintro ⟨e, q⟩
    refine List.ext_getElem e fun j h1 h2 => ?_
    have := q j h1
    simpa [List.getD_eq_getElem?_getD, h1, h2] using this
  · rintro rfl
    exact ⟨rfl, fun _ _ => rfl⟩
/-- **equals(Object) OF TWO SUCH STRINGS**: 1 just where the chars are the same -/
theorem eqW {p : Program} {l : Launch} {e : Env} {R : Room} {s : State} {args : Array Value} {below : List Frame} {len W : Nat} {Z : State} {a0 : Array Value} {h : Heap} (hZ : Z.Warmed39 s.vm) (hw : ∀ d ∈ wordsEq, d.before a0 Z = true) {kI : Nat} (wi : (Jvm.Cond.instantiable ST kI).before a0 Z = true)
    {x t : Addr} {kb : ClassId} {cs : List Int32} {cd N2 : Int32} {vs : List Value} (E : RoadKit.Exa Z h x ST) (V : RoadKit.Fld Z h x ST "value" "[B" (.ref t)) (C : RoadKit.Fld Z h x ST "coder" "B" (.int cd)) (K : RoadKit.Arv Z h t kb .byte N2 vs (.int 0)) (hc : CodA cs cd N2 vs) (hb : ∀ c ∈ cs, ¬ c < 0 ∧ ¬ (65535 : Int32) < c) (l2 : cs.length ≤ 4000)
    {y t' : Addr} {kb' : ClassId} {ds : List Int32} {cd' N2' : Int32} {vs' : List Value} (E' : RoadKit.Exa Z h y ST) (V' : RoadKit.Fld Z h y ST "value" "[B" (.ref t')) (C' : RoadKit.Fld Z h y ST "coder" "B" (.int cd')) (K' : RoadKit.Arv Z h t' kb' .byte N2' vs' (.int 0)) (hc' : CodA ds cd' N2' vs') (hb' : ∀ c ∈ ds, ¬ c < 0 ∧ ¬ (65535 : Int32) < c) (l2' : ds.length ≤ 4000)
    {z : Int32} (S : RoadKit.Sta Z h ST "COMPACT_STRINGS" "Z" (.int z)) (hz : ¬ z = 0) (hfr : 2 ≤ R.frames) (hlo : W + 28 ≤ R.locals) :
    Back l R p e below s args (⟨"java/lang/String", "equals", "(Ljava/lang/Object;)Z"⟩ : MethodName) len W (fun P a => a = #[.ref x, .ref y] ∧ P.U.heap = h ∧ P.cells + 0 ≤ R.cells ∧ P.slots + 0 ≤ R.slots)
      (fun P _ v B => ∃ L, (((v = some (.int 1) ∧ cs = ds) ∨ (v = some (.int 0) ∧ ¬ cs = ds)) ∧ L = [] ∧ B.U.heap = h) ∧ B.locs = P.locs ++ L ∧ B.cells = P.cells + 0 ∧ B.slots = P.slots + 0) := by
  intro m meth c P g ig mk a X hg hsize hdg hW hn hp'
  obtain ⟨rfl, rfl, r1, r2⟩ := hp'
  have al : Z.vm.Alike P.U.vm := hZ.alike.trans X.warmed.alike
  obtain ⟨A, hx⟩ := txt_of wi al E V C K hc hb l2
  obtain ⟨A', hy⟩ := txt_of wi al E' V' C' K' hc' hb' l2'
  obtain ⟨v, B, X', ⟨⟨w, hv, hh, hq⟩, hl, hk, hs⟩, st⟩ := SEq.pays x t A cd cs.length (fun j => cs.getD j 0) y t' A' cd' ds.length (fun j => ds.getD j 0) z (tabEq_of (movedEq hZ hw)) hfr hlo m meth c P g ig mk _ X hg hsize hdg hW hn ⟨r1, r2, rfl, hx, hy, sta_is al S, hz⟩
  refine ⟨v, B, X', ⟨[], ⟨?_, rfl, hh⟩, hl, hk, hs⟩, st⟩
  rcases hq with ⟨rfl, q⟩ | ⟨rfl, q⟩
  · exact Or.inl ⟨hv, (same_list cs ds).mp q⟩
  · exact Or.inr ⟨hv, fun e => q ((same_list cs ds).mpr e)⟩
end StrChars.Road
namespace StrChars
open Jvm Sem ClassFile Op Lib Jvm.Stand Jvm.Free.XT Jvm.Free.ALB Jvm.Free.JM Jvm.Free
open Jvm.Lib.Cold (StaticIs)
namespace ChN
def yN : MethodName := ⟨"java/lang/String", "charAt", "(I)C"⟩
abbrev yB : ByteArray := jdk_42_method_56_code
theorem d0 : decode yB 0 = .ok (.aload_n 0, 1) := by decide +kernel
theorem d1 : decode yB 1 = .ok (.invokevirtual 492, 3) := by decide +kernel
theorem d4 : decode yB 4 = .ok (.ifCond (.eq) 12, 3) := by decide +kernel
theorem d7 : decode yB 7 = .ok (.aload_n 0, 1) := by decide +kernel
theorem d8 : decode yB 8 = .ok (.getfield 9, 3) := by decide +kernel
theorem d11 : decode yB 11 = .ok (.iload_n 1, 1) := by decide +kernel
theorem d12 : decode yB 12 = .ok (.invokestatic 495, 3) := by decide +kernel
theorem d15 : decode yB 15 = .ok (.ireturn, 1) := by decide +kernel
def site : List Cond := [.fieldLink "java/lang/String" 9 "java/lang/String" "value" "[B", IsL.tab, LChA.tab] ++ virtW "java/lang/String" 492 "java/lang/String" IsL.yN IsL.yN ++ staticW "java/lang/String" 495 LChA.yN
def tab : Cond := tabOf yN yB 2 (some .char) site
def P (x t : Addr) (V : Cell) (n : Nat) (f : Nat → Int32) (z : Int32) (fm : Value) (i : Nat) (args : Array Value) (s : State) : Prop := args = #[.ref x, .int (Int32.ofNat i)] ∧ Txt x t V 0 n f s ∧ i < n ∧ StaticIs s "java/lang/String" "COMPACT_STRINGS" "Z" (.int z) ∧ ¬ z = 0 ∧ StaticIs s "jdk/internal/util/Preconditions" "SIOOBE_FORMATTER" "Ljava/util/function/BiFunction;" fm ∧ fm.isRef = true
def E (f : Nat → Int32) (i : Nat) (r : Option Value) (s u : State) : Prop := XT.PureE (some (.int (f i))) r s u
/-- charAt(i) of a Latin-1 String of n chars, i < n: f i -/
theorem law (l : Launch) (x t : Addr) (V : Cell) (n : Nat) (f : Nat → Int32) (z : Int32) (fm : Value) (i : Nat) : Law l yN 2 1 3 40 yB 2 (some .char) site (P x t V n f z fm i) (E f i) [] 0 0 := by
  refine Law.of_walk (plainFor_of_name (by decide +kernel)) (by decide +kernel) (by decide +kernel) (by decide) (fun _ _ h => by rw [h.1]; rfl) (fun _ U U' hal hh h => ⟨h.1, h.2.1.mv hal hh, h.2.2.1, h.2.2.2.1.there hal hh, h.2.2.2.2.1, h.2.2.2.2.2.1.there hal hh, h.2.2.2.2.2.2⟩) (fun r U U' V V' h1 hal h2 h => XT.PureE.mv r U U' V V' h1 hal h2 h) ?_
  intro p e s m args below meth c s₁ X0 hexec hbytes hml hret hlk hnm hown hh0 W hP
  obtain ⟨rfl, hx, hi, s1, hz, s3, rf⟩ := hP
  have v31 := hx.2.2.2.1.2.2.2
  have hr := hx.2.2.2.2.2 i hi
  have hx0 := hx.mv X0.warmed.alike hh0
  have c1 : Steps p.tables e below (s₁.setTop (entryFrame m #[.ref x, .int (Int32.ofNat i)] 2)) (s₁.setTop (mkF m 1 #[.val (.ref x), .val (.int (Int32.ofNat i))] [.ref x])) := Steps.trans (entry rfl) (by
    show Steps p.tables e below (s₁.setTop (mkF m 0 #[.val (.ref x), .val (.int (Int32.ofNat i))] [])) _
    refine XS.aloadN X0.here hexec rfl (hb hbytes d0) rfl rfl ?_
    exact Steps.refl _)
  obtain ⟨v2, T2, X2, E2, g2⟩ := X0.callV hexec (IsL.law l x 0 z) hown (wks W (virtW "java/lang/String" 492 "java/lang/String" IsL.yN IsL.yN)) rfl (by decide) (wk W IsL.tab) (W := 0) (Nat.le_of_ble_eq_true rfl) (Nat.le_of_ble_eq_true rfl) (Nat.le_refl _) (Nat.le_refl _) (hx0.1.fc X0.warmed.alike) hx0.1.is (g := (mkF m 1 #[.val (.ref x), .val (.int (Int32.ofNat i))] [.ref x])) rfl (by rw [hml]; rfl) c1 (argsL := []) (rest := []) rfl rfl (by show 2 * 0 + 0 ≤ _; decide) (hb hbytes d1) (⟨rfl, hx0.2.2.1, hx.2.2.2.2.1.cd, s1.there X0.warmed.alike hh0, hz⟩)
  obtain ⟨rfl, q2⟩ := E2
  have hh2 := q2.trans hh0
  have hx2 := hx.mv X2.warmed.alike hh2
  obtain ⟨-, k1, k2⟩ | ⟨k0, -⟩ := hx.2.2.2.2.1
  · have c3 : Steps p.tables e below (s₁.setTop (entryFrame m #[.ref x, .int (Int32.ofNat i)] 2)) (T2.setTop (mkF m 8 #[.val (.ref x), .val (.int (Int32.ofNat i))] [.ref x])) := Steps.trans g2 (by
      refine XS.ifNo X2.here hexec rfl (hb hbytes d4) rfl (i0_eq_f (by decide)) ?_
      refine XS.aloadN X2.here hexec rfl (hb hbytes d7) rfl rfl ?_
      exact Steps.refl _)
    obtain ⟨T4, X4, q4, st4⟩ := X2.hget hexec hown (wk W (.fieldLink "java/lang/String" 9 "java/lang/String" "value" "[B")) hx2.2.1 (g := (mkF m 8 #[.val (.ref x), .val (.int (Int32.ofNat i))] [.ref x])) rfl (rest := []) rfl (hb hbytes d8)
    have hh4 := q4.trans hh2
    have c5 : Steps p.tables e below (s₁.setTop (entryFrame m #[.ref x, .int (Int32.ofNat i)] 2)) (T4.setTop (mkF m 12 #[.val (.ref x), .val (.int (Int32.ofNat i))] [.int (Int32.ofNat i), .ref t])) := (c3.trans (st4 _ (Steps.refl _))).trans (by
      refine XS.iloadN X4.here hexec rfl (hb hbytes d11) rfl ?_
      exact Steps.refl _)
    obtain ⟨v6, T6, X6, E6, g6⟩ := X4.callS hexec (LChA.law l t V i (lo8 (f i)) fm) hown (wks W (staticW "java/lang/String" 495 LChA.yN)) (wk W LChA.tab) (W := 0) (Nat.le_of_ble_eq_true rfl) (Nat.le_of_ble_eq_true rfl) (Nat.le_refl _) (Nat.le_refl _) (g := (mkF m 12 #[.val (.ref x), .val (.int (Int32.ofNat i))] [.int (Int32.ofNat i), .ref t])) rfl (by rw [hml]; rfl) c5 (argsL := [.ref t, .int (Int32.ofNat i)]) (rest := []) rfl rfl (by show 2 * 0 + 0 ≤ _; decide) (hb hbytes d12) (⟨rfl, hx.2.2.2.1.mv X4.warmed.alike hh4, (k2 i hi).1, s3.there X4.warmed.alike hh4, rf⟩)
    obtain ⟨rfl, q6⟩ := E6
    rw [chr8_lo8 hr.1 (k2 i hi).2] at g6
    exact ⟨T6, some (.int (f i)), _, _, _, X6, rfl, rfl, rfl, (fun h => by cases h), ⟨rfl, q6.trans hh4⟩, fun fs hl => Steps.trans g6 (X6.ireturnOut hexec hret (narrow_ch hr.1 hr.2) (Or.inr (Or.inr (Or.inr (Or.inl rfl)))) (hb hbytes d15) hl)⟩
  · exact absurd k0 (by decide)
theorem pays {l : Launch} {R : Room} {p : Program} {e : Env} {below : List Frame} {s : State} {sargs : Array Value} {len W : Nat} (x t : Addr) (V : Cell) (n : Nat) (f : Nat → Int32) (z : Int32) (fm : Value) (i : Nat) (htab : tab.before sargs s = true) (hfr : 4 ≤ R.frames) (hlo : W + 53 ≤ R.locals) :
    Back l R p e below s sargs yN len W (fun A₁ a₁ => A₁.cells + 0 ≤ R.cells ∧ A₁.slots + 0 ≤ R.slots ∧ P x t V n f z fm i a₁ A₁.U) (fun A₁ _ v₁ B₁ => E f i v₁ A₁.U B₁.U ∧ B₁.locs = A₁.locs ++ [] ∧ B₁.cells = A₁.cells + 0 ∧ B₁.slots = A₁.slots + 0) :=
  (law l x t V n f z fm i).pays htab hfr (by omega)
end ChN
end StrChars
namespace StrChars.Road
open Jvm Sem ClassFile Op Lib Jvm.Stand Jvm.Free Jvm.Free.XT
open Jvm.Lib.Cold (StaticIs)
/-- the words of String.charAt(int), the Latin-1 road alone -/
abbrev wordsChN : List Jvm.Cond := [.code ChN.yN ChN.yB 2 (some .char), .initialized ST, .fieldLink ST 9 ST "value" "[B", .fieldLink ST 38 ST "COMPACT_STRINGS" "Z", .fieldLink ST 15 ST "coder" "B", .code IsL.yN IsL.yB 1 (some .boolean), .methodLink ST 492 IsL.yN, .declares IsL.yN, .selects ST IsL.yN IsL.yN, .instanceMethod IsL.yN,
  .methodLink ST 495 LChA.yN, .static LChA.yN, .code LChA.yN LChA.yB 2 (some .char), .initialized "java/lang/StringLatin1", .methodLink "java/lang/StringLatin1" 9 JO.Str_checkIndex.yN, .static JO.Str_checkIndex.yN, .code JO.Str_checkIndex.yN JO.Str_checkIndex.yB 2 none,
  .fieldLink ST 1053 "jdk/internal/util/Preconditions" "SIOOBE_FORMATTER" "Ljava/util/function/BiFunction;", .methodLink ST 1059 JC.PreCheck.yN, .static JC.PreCheck.yN, .code JC.PreCheck.yN JC.PreCheck.yB 3 (some .int), .initialized "jdk/internal/util/Preconditions"]
theorem tabChN_of {a : Array Value} {s : State} (h : ∀ w ∈ wordsChN, w.before a s = true) : ChN.tab.before a s = true := by
  have hp : JC.PreCheck.tab.before a s = true := unparts (wk h (.code JC.PreCheck.yN JC.PreCheck.yB 3 (some .int))) (wks h (.initialized JC.PreCheck.yN.cls :: JC.PreCheck.site))
  have qk := consq hp h
  have hk : JO.Str_checkIndex.tab.before a s = true := unparts (wk qk (.code JO.Str_checkIndex.yN JO.Str_checkIndex.yB 2 none)) (wks qk (.initialized JO.Str_checkIndex.yN.cls :: JO.Str_checkIndex.site))
  have ql := consq hk h
  have hl : LChA.tab.before a s = true := unparts (wk ql (.code LChA.yN LChA.yB 2 (some .char))) (wks ql (.initialized LChA.yN.cls :: LChA.site))
  have hi : IsL.tab.before a s = true := unparts (wk h (.code IsL.yN IsL.yB 1 (some .boolean))) (wks h (.initialized IsL.yN.cls :: IsL.site))
  have q := consq hi (consq hl h)
  exact unparts (wk q (.code ChN.yN ChN.yB 2 (some .char))) (wks q (.initialized ChN.yN.cls :: ChN.site))
theorem movedChN {Z s : State} {a0 args : Array Value} (hZ : Z.Warmed39 s.vm) (hw : ∀ d ∈ wordsChN, d.before a0 Z = true) : ∀ d ∈ wordsChN, d.before args s = true := fun d hd => by
  have t : ∀ d ∈ wordsChN, (d.onTables && d.keepsFace) = true := by decide +kernel
  exact RoadKit.mv hZ (hw d hd) (t d hd)
/-- **charAt(i) OF A LATIN-1 STRING**, i < n: the char -/
theorem chN {p : Program} {l : Launch} {e : Env} {R : Room} {s : State} {args : Array Value} {below : List Frame} {len W : Nat} {Z : State} {a0 : Array Value} {h : Heap} (hZ : Z.Warmed39 s.vm) (hw : ∀ d ∈ wordsChN, d.before a0 Z = true) {kI : Nat} (wi : (Jvm.Cond.instantiable ST kI).before a0 Z = true)
    {x t : Addr} {kb : ClassId} {cs : List Int32} {N2 z : Int32} {vs : List Value} {fm : Value} {i : Nat} {j : Int32} (E : RoadKit.Exa Z h x ST) (V : RoadKit.Fld Z h x ST "value" "[B" (.ref t)) (C : RoadKit.Fld Z h x ST "coder" "B" (.int 0)) (K : RoadKit.Arv Z h t kb .byte N2 vs (.int 0)) (hc : CodA cs 0 N2 vs) (hb : ∀ c ∈ cs, ¬ c < 0 ∧ ¬ (65535 : Int32) < c)
    (S : RoadKit.Sta Z h ST "COMPACT_STRINGS" "Z" (.int z)) (hz : ¬ z = 0) (F : RoadKit.Sta Z h "jdk/internal/util/Preconditions" "SIOOBE_FORMATTER" "Ljava/util/function/BiFunction;" fm) (rf : fm.isRef = true) (l2 : cs.length ≤ 4000) (hi : i < cs.length) (hj : j = Int32.ofNat i) (hfr : 4 ≤ R.frames) (hlo : W + 53 ≤ R.locals) :
    Back l R p e below s args (⟨"java/lang/String", "charAt", "(I)C"⟩ : MethodName) len W (fun P a => a = #[.ref x, .int j] ∧ P.U.heap = h ∧ P.cells + 0 ≤ R.cells ∧ P.slots + 0 ≤ R.slots)
      (fun P _ v B => ∃ L, (v = some (.int (cs.getD i 0)) ∧ L = [] ∧ B.U.heap = h) ∧ B.locs = P.locs ++ L ∧ B.cells = P.cells + 0 ∧ B.slots = P.slots + 0) := by
  subst hj
  intro m meth c P g ig mk a X hg hsize hdg hW hn hp'
  obtain ⟨rfl, rfl, r1, r2⟩ := hp'
  have al : Z.vm.Alike P.U.vm := hZ.alike.trans X.warmed.alike
  obtain ⟨A, hx⟩ := txt_of wi al E V C K hc hb l2
  obtain ⟨v, B, X', ⟨⟨hv, hh⟩, hl, hk, hs⟩, st⟩ := ChN.pays x t A cs.length (fun j => cs.getD j 0) z fm i (tabChN_of (movedChN hZ hw)) hfr hlo m meth c P g ig mk _ X hg hsize hdg hW hn ⟨r1, r2, rfl, hx, hi, sta_is al S, hz, sta_is al F, rf⟩
  exact ⟨v, B, X', ⟨[], ⟨hv, rfl, hh⟩, hl, hk, hs⟩, st⟩
/-- what backV says of its String, as the contracts of this text ask it: cs's low bytes, coder 0 -/
theorem codOf {cs : List Int32} {n : Nat} (hn : cs.length = n) (hb : ∀ c ∈ cs, ¬ 255 < c) : CodA cs 0 (Int32.ofNat n) ((cs.map lo8).map Value.int) := Or.inl ⟨rfl, by rw [hn], by simp [List.map_map, Function.comp_def], hb⟩
end StrChars.Road
end Jvm.Pilot.@@N@@
namespace Jvm.Pilot.@@N@@
open Jvm Jvm.ClassFile Sem Op Lib Jvm.Free Jvm.Stand Jvm.LawKit Jvm.RoadKit Bundle Jvm.Pilot.@@N@@.Jvm.D
/-! OWN KIT, core: where a walk stands (own_S), what is left to run (own_Go), a body's contract (own_Met), and the rules that join them. -/
section OwnCore
variable {p : Program} {l : Launch} {e : Env} {R : Room} {s : State} {m : MethodId} {args : Array Value} {below : List Frame} {meth : Method} {c : Code} {T T' : State} {cells slots : Nat} {Z : State} {a0 : Array Value} {h h' h0 : Heap} {w kf : Bool} {EL : List (String × Nat)} {own : String} {ws ws' fs : List Addr} {Q : Option Value → Heap → Prop} {vm0 vm1 : Vm} {locs L : List Loc} {k0 : Nat} {tb : Tables} {P : Outcome → State → Prop}

/-- from T, with the frame f on top, the run comes to its end and P says how -/
def own_Go (tb : Tables) (e : Env) (below : List Frame) (P : Outcome → State → Prop) (T : State) (f : JFrame) : Prop :=
  ∃ s₂ o, Steps tb e below (T.setTop f) s₂ ∧ s₂.status = .running ∧ Ended s₂ below o ∧ P o s₂
theorem own_by {f f' : JFrame} (k : ∀ t, Steps tb e below (T'.setTop f') t → Steps tb e below (T.setTop f) t) (g : own_Go tb e below P T' f') : own_Go tb e below P T f := by
  obtain ⟨s₂, o, h1, r⟩ := g
  exact ⟨s₂, o, k _ h1, r⟩
theorem own_on {f f' : JFrame} (k : Steps tb e below (T.setTop f) (T'.setTop f')) (g : own_Go tb e below P T' f') : own_Go tb e below P T f := own_by (fun _ q => k.trans q) g

def own_End (w : Bool) (s : State) (o : Outcome) (t : State) (L : List Loc) (k n : Nat) : Prop := (w = true → ReturnedEndW s o t L k n) ∧ (w = false → FrameEnd s o t L k n)
/-- what every contract says besides its own Q -/
def own_Post (w : Bool) (EL : List (String × Nat)) (Z : State) (rm : Room) (h0 : Heap) (ws : List Addr) (Q : Option Value → Heap → Prop) (U : State) (o : Outcome) (U' : State) : Prop :=
  ∃ v L, o = .returned v ∧ Q v U'.heap ∧ Keep h0 U'.heap ws ∧ Fr Z.heap.size L ∧ CHr Z EL U.vm h0 U'.vm U'.heap ∧ own_End w U o U' L rm.cells rm.slots
/-- what every contract asks -/
def own_Pre (EL : List (String × Nat)) (Z : State) (a0 : Array Value) (as' : Array Value) (h0 : Heap) (ws : List Addr) (a : Array Value) (U : State) : Prop :=
  a = as' ∧ Z.Warmed39 U.vm ∧ U.heap = h0 ∧ Ext Z.heap h0 ∧ EW Z a0 EL ∧ CHv Z EL U.vm h0 ∧ ∀ x ∈ ws, Z.heap.size ≤ x ∧ x < h0.size ∧ Safe Z EL U.vm h0 x
def own_K (kf : Bool) : Program → Env → List Frame → State → Array Value → Prop := fun _ _ bl s _ => kf = true → s.vm.MethodsKnown ∧ s.vm.FramesKnown bl
/-- the contract of a body -/
def own_Met (w kf : Bool) (EL : List (String × Nat)) (l : Launch) (Z : State) (a0 : Array Value) (y : MethodName) (bytes : ByteArray) (maxL : Nat) (ret : Option FieldType) (more : List Cond) (rm : Room) (as' : Array Value) (h0 : Heap) (ws : List Addr) (Q : Option Value → Heap → Prop) : Prop :=
  MetFree l y (head1 (Cond.code y bytes maxL ret :: more) rm) (own_Pre EL Z a0 as' h0 ws) (own_K kf) (fun _ U o U' => own_Post w EL Z rm h0 ws Q U o U')
/-- what a walk bears besides its Stand -/
def own_I (w kf : Bool) (EL : List (String × Nat)) (s : State) (m : MethodId) (below : List Frame) (Z : State) (a0 : Array Value) (own : String) (h0 : Heap) (ws : List Addr) (h : Heap) (fs : List Addr) (vm0 : Vm) (locs : List Loc) (k0 : Nat) : Prop :=
  Z.Warmed39 vm0 ∧ vm0.findClass own = some m.cls ∧ Fr Z.heap.size locs ∧ Ext Z.heap h ∧ Keep h0 h ws ∧ s.Since vm0 k0 ∧ k0 ≤ h.size ∧ EW Z a0 EL ∧ CHr Z EL s.vm h0 vm0 h ∧ (w = false → vm0 = s.vm) ∧ (kf = true → vm0.MethodsKnown ∧ vm0.FramesKnown below) ∧ (s.heap = h0 ∧ Ext Z.heap h0) ∧
    ∀ x ∈ fs, (x ∈ ws ∨ h0.size ≤ x) ∧ Z.heap.size ≤ x ∧ x < h.size ∧ Safe Z EL vm0 h x
/-- where the walk stands: the state T, its heap h, the cells fs that it may write -/
def own_S (w kf : Bool) (EL : List (String × Nat)) (p : Program) (l : Launch) (e : Env) (R : Room) (s : State) (m : MethodId) (args : Array Value) (below : List Frame) (meth : Method) (c : Code) (Z : State) (a0 : Array Value) (own : String) (h0 : Heap) (ws : List Addr) (T : State) (h : Heap) (fs : List Addr) (cells slots : Nat) : Prop :=
  ∃ vm0 locs k0, Stand p l e R (s.setVm vm0) m args below meth c T locs cells slots ∧ T.heap = h ∧ own_I w kf EL s m below Z a0 own h0 ws h fs vm0 locs k0

theorem own_here (K : own_S w kf EL p l e R s m args below meth c Z a0 own h0 ws T h fs cells slots) : At T m c below := by
  obtain ⟨vm0, locs, k0, X, -⟩ := K; exact X.here
theorem own_more (K : own_S w kf EL p l e R s m args below meth c Z a0 own h0 ws T h fs cells slots) {cells' slots' : Nat} (hc : cells ≤ cells') (hs : slots ≤ slots') : own_S w kf EL p l e R s m args below meth c Z a0 own h0 ws T h fs cells' slots' := by
  obtain ⟨vm0, locs, k0, X, r⟩ := K; exact ⟨vm0, locs, k0, X.more hc hs, r⟩
theorem own_sub (K : own_S w kf EL p l e R s m args below meth c Z a0 own h0 ws T h fs cells slots) {fs' : List Addr} (q : ∀ x ∈ fs', x ∈ fs) : own_S w kf EL p l e R s m args below meth c Z a0 own h0 ws T h fs' cells slots := by
  obtain ⟨vm0, locs, k0, X, eT, h1, h2, h3, h4, h5, h6, h7, h8, h9, h10, h11, hst, h12⟩ := K
  exact ⟨vm0, locs, k0, X, eT, h1, h2, h3, h4, h5, h6, h7, h8, h9, h10, h11, hst, fun x hx => h12 x (q x hx)⟩
theorem own_ext0 (K : own_S w kf EL p l e R s m args below meth c Z a0 own h0 ws T h fs cells slots) : Ext Z.heap h := by
  obtain ⟨vm0, locs, k0, X, eT, h1, h2, h3, h4, -⟩ := K; exact h4
theorem own_fresh (K : own_S w kf EL p l e R s m args below meth c Z a0 own h0 ws T h fs cells slots) {x : Addr} (hx : x ∈ fs) : Z.heap.size ≤ x ∧ x < h.size := by
  obtain ⟨vm0, locs, k0, X, eT, h1, h2, h3, h4, h5, h6, h7, h8, h9, h10, h11, hst, h12⟩ := K; exact ⟨(h12 x hx).2.1, (h12 x hx).2.2.1⟩
theorem own_fits {v : Value} {C : String} (q : v.isRef = true) : fits (.object C) v = true := by rcases ref_cases q with rfl | ⟨_, rfl⟩ <;> rfl
theorem own_mem1 {x : Addr} (q : x ∈ fs) : ∀ y ∈ [x], y ∈ fs := fun y hy => by cases List.mem_singleton.mp hy; exact q
theorem own_mem2 {x y : Addr} (q : x ∈ fs) (r : y ∈ fs) : ∀ z ∈ [x, y], z ∈ fs := fun z hz => by
  rcases List.mem_cons.mp hz with rfl | hz
  · exact q
  · cases List.mem_singleton.mp hz; exact r
theorem own_sta (K : own_S w kf EL p l e R s m args below meth c Z a0 own h0 ws T h fs cells slots) {C n d : String} {v : Value} (F : Sta Z Z.heap C n d v) : Sta Z h C n d v := F.ext (own_ext0 K)

/-- the heap moves on, the tables stay -/
theorem own_I.keep (I : own_I w kf EL s m below Z a0 own h0 ws h fs vm0 locs k0) (Kp : Keep h h' ws') (hw : ∀ x ∈ ws', x ∈ fs) (hL : Fr Z.heap.size L) : own_I w kf EL s m below Z a0 own h0 ws h' fs vm0 (locs ++ L) k0 := by
  obtain ⟨h1, h2, h3, h4, h5, h6, h7, h8, h9, h10, h11, hst, h12⟩ := I
  have C : CHr Z EL vm0 h vm0 h' := CHr.keep Kp (fun x hx => (h12 x (hw x hx)).2.2.2) h9.1
  refine ⟨h1, h2, h3.app hL, ?_, h5.trans Kp (fun x hx => (h12 x (hw x hx)).1), h6, Nat.le_trans h7 Kp.1, h8, h9.trans C, h10, h11, hst, fun x hx => ?_⟩
  · exact (Old.keep (show Old Z Z.heap.size h from ⟨rfl, h4⟩) Kp fun x hx => (h12 x (hw x hx)).2.1).2
  · obtain ⟨q1, q2, q3, q4⟩ := h12 x hx
    exact ⟨q1, q2, Nat.lt_of_lt_of_le q3 Kp.1, C.safe q3 q4⟩
/-- a new cell at the heap's end -/
theorem own_I.grow (I : own_I w kf EL s m below Z a0 own h0 ws h fs vm0 locs k0) (E : Ext h h') (hlt : h.size < h'.size) : own_I w kf EL s m below Z a0 own h0 ws h' (h.size :: fs) vm0 locs k0 := by
  have I' := I.keep (L := []) ((Keep.refl h []).ext E) (fun _ q => nomatch q) (Fr.nil _)
  rw [List.append_nil] at I'
  obtain ⟨h1, h2, h3, h4, h5, h6, h7, h8, h9, h10, h11, hst, h12⟩ := I'
  refine ⟨h1, h2, h3, h4, h5, h6, h7, h8, h9, h10, h11, hst, fun x hx => ?_⟩
  rcases List.mem_cons.mp hx with rfl | hx
  · obtain ⟨-, -, -, g4, g5, -, -, -, g9, -⟩ := I
    exact ⟨Or.inr g5.1, g4.1, hlt, Safe.ext E g9.1 (Safe.new (Nat.le_refl _))⟩
  · exact h12 x hx
/-- the tables move on (literals were interned) -/
theorem own_I.wide (I : own_I w kf EL s m below Z a0 own h0 ws h fs vm0 locs k0) (hw1 : w = true) (C : CHr Z EL vm0 h vm1 h') {k1 : Nat} (S : (s.setVm vm0).Since vm1 k1) (hk : h.size ≤ k1) (hk1 : k1 ≤ h'.size) (Kp : Keep h h' ws') (hw : ∀ x ∈ ws', x ∈ fs) (hL : Fr Z.heap.size L) : own_I w kf EL s m below Z a0 own h0 ws h' fs vm1 (locs ++ L) k1 := by
  obtain ⟨h1, h2, h3, h4, h5, h6, h7, h8, h9, h10, h11, hst, h12⟩ := I
  have al : vm0.Alike vm1 := S.1.alike
  refine ⟨State.Warmed39.trans (t := s.setVm vm0) h1 S.1, (al.findClass _ _).trans h2, h3.app hL, ?_, h5.trans Kp (fun x hx => (h12 x (hw x hx)).1), h6.trans S (Nat.le_trans h7 hk), hk1, h8, h9.trans C, (fun q => by rw [hw1] at q; cases q), fun q => ?_, hst, fun x hx => ?_⟩
  · exact (Old.keep (show Old Z Z.heap.size h from ⟨rfl, h4⟩) Kp fun x hx => (h12 x (hw x hx)).2.1).2
  · obtain ⟨g1, g2⟩ := h11 q
    exact ⟨Vm.MethodsKnown.alikeC al g1, Vm.FramesKnown.alikeC al g2⟩
  · obtain ⟨q1, q2, q3, q4⟩ := h12 x hx
    exact ⟨q1, q2, Nat.lt_of_lt_of_le q3 Kp.1, C.safe q3 q4⟩

/-- entering a body -/
theorem own_enter {y : MethodName} {bytes : ByteArray} {maxL : Nat} {ret : Option FieldType} {more : List Cond} {rm : Room} {as' : Array Value} (ho : y.cls = own) (hpl : plainFor y = true)
    (body : ∀ (p : Program) (e : Env) (s : State) (m : MethodId) (below : List Frame) (meth : Method) (c : Code) (T : State), p.tables.exec = Jvm.exec → c.code = bytes → c.maxLocals = maxL → meth.sig.returnType = ret → meth.locks = false → meth.name = y.name →
      own_S w kf EL p l e rm s m as' below meth c Z a0 own h0 ws T h0 ws 0 0 → own_Go p.tables e below (own_Post w EL Z rm h0 ws Q s) T (entryFrame m as' maxL)) :
    own_Met w kf EL l Z a0 y bytes maxL ret more rm as' h0 ws Q := by
  subst ho
  refine MetFree.of_bodySF hpl hisR ?_
  intro p e s m args below meth c s₁ Bd hml hP hK
  obtain ⟨rfl, hZ, hh, hE, hEL, hC, hws⟩ := hP
  have X0 : Stand p l e rm s m args below meth c s₁ [] 0 0 := Stand.of_body Bd
  have e0 : s₁.heap = h0 := by rw [← hh, Bd.state]; rfl
  exact body p e s m below meth c s₁ Bd.exec Bd.bytes hml Bd.returns Bd.notSynchronized (name_of_methodNamed Bd.named Bd.method).1
    ⟨s.vm, [], h0.size, X0, e0, hZ, findClass_of_methodNamed Bd.named, Fr.nil _, hE, Keep.refl _ _, (State.WarmedH.refl s).since _, Nat.le_refl _, hEL, CHr.refl hC, fun _ => rfl, hK, ⟨hh, hE⟩, fun x hx => ⟨Or.inl hx, hws x hx⟩⟩

/-- leaving it -/
theorem own_leave (K : own_S w kf EL p l e R s m args below meth c Z a0 own h0 ws T h fs cells slots) (hlk : meth.locks = false) {v : Option Value} (hv : meth.sig.returnType = none → v = none) (hc : cells ≤ R.cells) (hs : slots ≤ R.slots) (hQ : Q v h) {f : JFrame}
    (st : ∀ (locs : List Loc) (vm0 : Vm), Stand p l e R (s.setVm vm0) m args below meth c T locs cells slots → ∀ frs : List Frame, (∀ (f : JFrame) (acts : List Action), f.method = m → f.locked = none → f.entered = [] → (doReturn e (T.setTop f) acts v).1 = T.setFrames frs) → Steps p.tables e below (T.setTop f) (T.setFrames frs)) :
    own_Go p.tables e below (own_Post w EL Z R h0 ws Q s) T f := by
  obtain ⟨vm0, locs, k0, X, eT, h1, h2, h3, h4, h5, h6, h7, h8, h9, h10, h11, hst, h12⟩ := K
  have C : CHr Z EL vm0 h T.vm h := CHv.at X h1 h8 h9.1
  cases w with
  | true =>
    obtain ⟨frs, hr, hrun, hended, e1, e2, e3, e4⟩ := X.leaveW h6 (by rw [eT]; exact h7) hv hlk
    refine ⟨_, _, st locs vm0 X frs hr, hrun, hended, v, locs, rfl, by show Q v T.heap; rw [eT]; exact hQ, by show Keep h0 T.heap ws; rw [eT]; exact h5, h3, ?_, And.intro (fun _ => ⟨e1, e2, e3, e4.mono hc hs⟩) (fun q => by cases q)⟩
    show CHr Z EL s.vm h0 T.vm T.heap
    rw [eT]; exact h9.trans C
  | false =>
    obtain rfl := h10 rfl
    obtain ⟨frs, hr, hrun, hended, hW, hsame⟩ := X.leave hv hlk
    refine ⟨_, _, st locs _ X frs hr, hrun, hended, v, locs, rfl, by show Q v T.heap; rw [eT]; exact hQ, by show Keep h0 T.heap ws; rw [eT]; exact h5, h3, ?_, And.intro (fun q => by cases q) (fun _ => ⟨⟨_, rfl⟩, hW, hsame.mono hc hs⟩)⟩
    show CHr Z EL s.vm h0 T.vm T.heap
    rw [eT]; exact h9.trans C
variable {pc : Nat} {Ls : Array Slot} {St : List Value}
theorem own_retV (K : own_S w kf EL p l e R s m args below meth c Z a0 own h0 ws T h fs cells slots) (hx : p.tables.exec = Jvm.exec) (hlk : meth.locks = false) (hret : meth.sig.returnType = none) (hd : decode c.code pc = .ok (.return_, 1)) (hc : cells ≤ R.cells) (hs : slots ≤ R.slots) (hQ : Q none h) :
    own_Go p.tables e below (own_Post w EL Z R h0 ws Q s) T (mkF m pc Ls []) :=
  own_leave K hlk (fun _ => rfl) hc hs hQ fun locs vm0 X frs hr => X.returnOut hx hret hd hr
theorem own_ret (K : own_S w kf EL p l e R s m args below meth c Z a0 own h0 ws T h fs cells slots) (hx : p.tables.exec = Jvm.exec) (hlk : meth.locks = false) {t : FieldType} {i : Instr} {v : Value} (hret : meth.sig.returnType = some t) (hn : narrow t v = v)
    (hi : (i = .ireturn ∧ (t = .int ∨ t = .boolean ∨ t = .byte ∨ t = .char ∨ t = .short) ∧ ∃ z, v = .int z) ∨ (i = .lreturn ∧ t = .long ∧ ∃ z, v = .long z) ∨ (i = .dreturn ∧ t = .double ∧ ∃ z, v = .double z) ∨ (i = .freturn ∧ t = .float ∧ ∃ z, v = .float z) ∨ (i = .areturn ∧ t.isReference = true ∧ v.isRef = true))
    (hd : decode c.code pc = .ok (i, 1)) (hc : cells ≤ R.cells) (hs : slots ≤ R.slots) (hQ : Q (some v) h) :
    own_Go p.tables e below (own_Post w EL Z R h0 ws Q s) T (mkF m pc Ls (v :: St)) :=
  own_leave K hlk (fun q => by rw [hret] at q; cases q) hc hs hQ fun locs vm0 X frs hr => retOut X hx hret hn hi hd hr
/-- ireturn of an int -/
theorem own_retI (K : own_S w kf EL p l e R s m args below meth c Z a0 own h0 ws T h fs cells slots) (hx : p.tables.exec = Jvm.exec) (hlk : meth.locks = false) {z : Int32} (hret : meth.sig.returnType = some .int) (hd : decode c.code pc = .ok (.ireturn, 1)) (hc : cells ≤ R.cells) (hs : slots ≤ R.slots) (hQ : Q (some (.int z)) h) :
    own_Go p.tables e below (own_Post w EL Z R h0 ws Q s) T (mkF m pc Ls (.int z :: St)) :=
  own_ret K hx hlk hret rfl (Or.inl ⟨rfl, Or.inl rfl, z, rfl⟩) hd hc hs hQ
/-- ireturn of a boolean, byte, char or short: narrowed -/
theorem own_retN (K : own_S w kf EL p l e R s m args below meth c Z a0 own h0 ws T h fs cells slots) (hx : p.tables.exec = Jvm.exec) (hlk : meth.locks = false) {t : FieldType} {z : Int32} (hret : meth.sig.returnType = some t) (ht : t = .boolean ∨ t = .byte ∨ t = .char ∨ t = .short) (hd : decode c.code pc = .ok (.ireturn, 1)) (hc : cells ≤ R.cells) (hs : slots ≤ R.slots) (hQ : Q (some (.int (nar t z))) h) :
    own_Go p.tables e below (own_Post w EL Z R h0 ws Q s) T (mkF m pc Ls (.int z :: St)) :=
  own_leave K hlk (fun q => by rw [hret] at q; cases q) hc hs hQ fun locs vm0 X frs hr => retN X hx hret ht hd hr
/-- areturn -/
theorem own_retR (K : own_S w kf EL p l e R s m args below meth c Z a0 own h0 ws T h fs cells slots) (hx : p.tables.exec = Jvm.exec) (hlk : meth.locks = false) {t : FieldType} {v : Value} (hret : meth.sig.returnType = some t) (ht : t.isReference = true) (hv : v.isRef = true) (hd : decode c.code pc = .ok (.areturn, 1)) (hc : cells ≤ R.cells) (hs : slots ≤ R.slots) (hQ : Q (some v) h) :
    own_Go p.tables e below (own_Post w EL Z R h0 ws Q s) T (mkF m pc Ls (v :: St)) :=
  own_ret K hx hlk hret (by cases t <;> cases v <;> first | rfl | (simp [FieldType.isReference] at ht) | (simp [Value.isRef] at hv)) (Or.inr (Or.inr (Or.inr (Or.inr ⟨rfl, ht, hv⟩)))) hd hc hs hQ
end OwnCore
section OwnWords
variable {args : Array Value} {first s : State} {o : Option Outcome} {idx : List Nat}
end OwnWords
/-! OWN KIT, single steps (printed by mkrules.py) -/
section OwnSteps
variable {p : Program} {e : Env} {m : MethodId} {below : List Frame} {c : Code} {T : State} {P : Outcome → State → Prop} {pc : Nat} {Ls : Array Slot} {St : List Value}
theorem own_iload (A : At T m c below) (hx : p.tables.exec = Jvm.exec) {pc' : Nat} {k : Nat} {v : Int32} (hd : decode c.code pc = .ok (.iload k, 2)) (hl : Ls[k]? = some (.val (.int v))) (hp : pc + 2 = pc') (G : own_Go p.tables e below P T (mkF m pc' Ls (.int v :: St))) : own_Go p.tables e below P T (mkF m pc Ls (St)) := by
  subst hp
  exact own_by (fun t q => XS.iload A hx rfl hd hl q) G
theorem own_iloadN (A : At T m c below) (hx : p.tables.exec = Jvm.exec) {pc' : Nat} {k : Fin 4} {v : Int32} (hd : decode c.code pc = .ok (.iload_n k, 1)) (hl : Ls[k.val]? = some (.val (.int v))) (hp : pc + 1 = pc') (G : own_Go p.tables e below P T (mkF m pc' Ls (.int v :: St))) : own_Go p.tables e below P T (mkF m pc Ls (St)) := by
  subst hp
  exact own_by (fun t q => XS.iloadN A hx rfl hd hl q) G
theorem own_aload (A : At T m c below) (hx : p.tables.exec = Jvm.exec) {pc' : Nat} {k : Nat} {v : Value} (hd : decode c.code pc = .ok (.aload k, 2)) (hl : Ls[k]? = some (.val v)) (hv : v.isRef = true) (hp : pc + 2 = pc') (G : own_Go p.tables e below P T (mkF m pc' Ls (v :: St))) : own_Go p.tables e below P T (mkF m pc Ls (St)) := by
  subst hp
  exact own_by (fun t q => XS.aload A hx rfl hd hl hv q) G
theorem own_aloadN (A : At T m c below) (hx : p.tables.exec = Jvm.exec) {pc' : Nat} {k : Fin 4} {v : Value} (hd : decode c.code pc = .ok (.aload_n k, 1)) (hl : Ls[k.val]? = some (.val v)) (hv : v.isRef = true) (hp : pc + 1 = pc') (G : own_Go p.tables e below P T (mkF m pc' Ls (v :: St))) : own_Go p.tables e below P T (mkF m pc Ls (St)) := by
  subst hp
  exact own_by (fun t q => XS.aloadN A hx rfl hd hl hv q) G
theorem own_istore (A : At T m c below) (hx : p.tables.exec = Jvm.exec) {pc' : Nat} {k : Nat} {v : Int32} (l' : Array Slot) (hd : decode c.code pc = .ok (.istore k, 2)) (hl : storeLocals Ls k (.int v) = some l') (hp : pc + 2 = pc') (G : own_Go p.tables e below P T (mkF m pc' l' (St))) : own_Go p.tables e below P T (mkF m pc Ls (.int v :: St)) := by
  subst hp
  exact own_by (fun t q => XS.istore A hx rfl hd rfl hl q) G
theorem own_istoreN (A : At T m c below) (hx : p.tables.exec = Jvm.exec) {pc' : Nat} {k : Fin 4} {v : Int32} (l' : Array Slot) (hd : decode c.code pc = .ok (.istore_n k, 1)) (hl : storeLocals Ls k.val (.int v) = some l') (hp : pc + 1 = pc') (G : own_Go p.tables e below P T (mkF m pc' l' (St))) : own_Go p.tables e below P T (mkF m pc Ls (.int v :: St)) := by
  subst hp
  exact own_by (fun t q => XS.istoreN A hx rfl hd rfl hl q) G
theorem own_astore (A : At T m c below) (hx : p.tables.exec = Jvm.exec) {pc' : Nat} {k : Nat} {v : Value} (l' : Array Slot) (hd : decode c.code pc = .ok (.astore k, 2)) (hv : v.isRef = true) (hl : storeLocals Ls k v = some l') (hp : pc + 2 = pc') (G : own_Go p.tables e below P T (mkF m pc' l' (St))) : own_Go p.tables e below P T (mkF m pc Ls (v :: St)) := by
  subst hp
  exact own_by (fun t q => XS.astore A hx rfl hd rfl hv hl q) G
theorem own_astoreN (A : At T m c below) (hx : p.tables.exec = Jvm.exec) {pc' : Nat} {k : Fin 4} {v : Value} (l' : Array Slot) (hd : decode c.code pc = .ok (.astore_n k, 1)) (hv : v.isRef = true) (hl : storeLocals Ls k.val v = some l') (hp : pc + 1 = pc') (G : own_Go p.tables e below P T (mkF m pc' l' (St))) : own_Go p.tables e below P T (mkF m pc Ls (v :: St)) := by
  subst hp
  exact own_by (fun t q => XS.astoreN A hx rfl hd rfl hv hl q) G
theorem own_iconst (A : At T m c below) (hx : p.tables.exec = Jvm.exec) {pc' : Nat} {i : Int} {z : Int32} (hd : decode c.code pc = .ok (.iconst i, 1))  (hz : Int32.ofInt i = z) (hp : pc + 1 = pc') (G : own_Go p.tables e below P T (mkF m pc' Ls (.int z :: St))) : own_Go p.tables e below P T (mkF m pc Ls (St)) := by
  subst hz hp
  exact own_by (fun t q => XS.iconst A hx rfl hd  q) G
theorem own_bipush (A : At T m c below) (hx : p.tables.exec = Jvm.exec) {pc' : Nat} {i : Int} {z : Int32} (hd : decode c.code pc = .ok (.bipush i, 2))  (hz : (Int8.ofInt i).toInt32 = z) (hp : pc + 2 = pc') (G : own_Go p.tables e below P T (mkF m pc' Ls (.int z :: St))) : own_Go p.tables e below P T (mkF m pc Ls (St)) := by
  subst hz hp
  exact own_by (fun t q => XS.bipush A hx rfl hd  q) G
theorem own_sipush (A : At T m c below) (hx : p.tables.exec = Jvm.exec) {pc' : Nat} {i : Int} {z : Int32} (hd : decode c.code pc = .ok (.sipush i, 3))  (hz : (Int16.ofInt i).toInt32 = z) (hp : pc + 3 = pc') (G : own_Go p.tables e below P T (mkF m pc' Ls (.int z :: St))) : own_Go p.tables e below P T (mkF m pc Ls (St)) := by
  subst hz hp
  exact own_by (fun t q => XS.sipush A hx rfl hd  q) G
theorem own_null (A : At T m c below) (hx : p.tables.exec = Jvm.exec) {pc' : Nat}  (hd : decode c.code pc = .ok (.aconst_null, 1))  (hp : pc + 1 = pc') (G : own_Go p.tables e below P T (mkF m pc' Ls (.null :: St))) : own_Go p.tables e below P T (mkF m pc Ls (St)) := by
  subst hp
  exact own_by (fun t q => XS.aconstNull A hx rfl hd  q) G
theorem own_iadd (A : At T m c below) (hx : p.tables.exec = Jvm.exec) {pc' : Nat} {x y : Int32} {z : Int32} (hd : decode c.code pc = .ok (.iadd, 1))  (hz : x + y = z) (hp : pc + 1 = pc') (G : own_Go p.tables e below P T (mkF m pc' Ls (.int z :: St))) : own_Go p.tables e below P T (mkF m pc Ls (.int y :: .int x :: St)) := by
  subst hz hp
  exact own_by (fun t q => XS.iadd A hx rfl hd rfl q) G
theorem own_isub (A : At T m c below) (hx : p.tables.exec = Jvm.exec) {pc' : Nat} {x y : Int32} {z : Int32} (hd : decode c.code pc = .ok (.isub, 1))  (hz : x - y = z) (hp : pc + 1 = pc') (G : own_Go p.tables e below P T (mkF m pc' Ls (.int z :: St))) : own_Go p.tables e below P T (mkF m pc Ls (.int y :: .int x :: St)) := by
  subst hz hp
  exact own_by (fun t q => XS.isub A hx rfl hd rfl q) G
theorem own_iand (A : At T m c below) (hx : p.tables.exec = Jvm.exec) {pc' : Nat} {x y : Int32} {z : Int32} (hd : decode c.code pc = .ok (.iand, 1))  (hz : x &&& y = z) (hp : pc + 1 = pc') (G : own_Go p.tables e below P T (mkF m pc' Ls (.int z :: St))) : own_Go p.tables e below P T (mkF m pc Ls (.int y :: .int x :: St)) := by
  subst hz hp
  exact own_by (fun t q => XS.iand A hx rfl hd rfl q) G
theorem own_ishl (A : At T m c below) (hx : p.tables.exec = Jvm.exec) {pc' : Nat} {x y : Int32} {z : Int32} (hd : decode c.code pc = .ok (.ishl, 1))  (hz : x <<< (y &&& 31) = z) (hp : pc + 1 = pc') (G : own_Go p.tables e below P T (mkF m pc' Ls (.int z :: St))) : own_Go p.tables e below P T (mkF m pc Ls (.int y :: .int x :: St)) := by
  subst hz hp
  exact own_by (fun t q => XS.ishl A hx rfl hd rfl q) G
theorem own_ishr (A : At T m c below) (hx : p.tables.exec = Jvm.exec) {pc' : Nat} {x y : Int32} {z : Int32} (hd : decode c.code pc = .ok (.ishr, 1))  (hz : x >>> (y &&& 31) = z) (hp : pc + 1 = pc') (G : own_Go p.tables e below P T (mkF m pc' Ls (.int z :: St))) : own_Go p.tables e below P T (mkF m pc Ls (.int y :: .int x :: St)) := by
  subst hz hp
  exact own_by (fun t q => XS.ishr A hx rfl hd rfl q) G
theorem own_iushr (A : At T m c below) (hx : p.tables.exec = Jvm.exec) {pc' : Nat} {x y : Int32} {z : Int32} (hd : decode c.code pc = .ok (.iushr, 1))  (hz : (x.toUInt32 >>> (y &&& 31).toUInt32).toInt32 = z) (hp : pc + 1 = pc') (G : own_Go p.tables e below P T (mkF m pc' Ls (.int z :: St))) : own_Go p.tables e below P T (mkF m pc Ls (.int y :: .int x :: St)) := by
  subst hz hp
  exact own_by (fun t q => XS.iushr A hx rfl hd rfl q) G
theorem own_i2c (A : At T m c below) (hx : p.tables.exec = Jvm.exec) {pc' : Nat} {x : Int32} {z : Int32} (hd : decode c.code pc = .ok (.i2c, 1))  (hz : x.toUInt32.toUInt16.toUInt32.toInt32 = z) (hp : pc + 1 = pc') (G : own_Go p.tables e below P T (mkF m pc' Ls (.int z :: St))) : own_Go p.tables e below P T (mkF m pc Ls (.int x :: St)) := by
  subst hz hp
  exact own_by (fun t q => XS.i2c A hx rfl hd rfl q) G
theorem own_dup (A : At T m c below) (hx : p.tables.exec = Jvm.exec) {pc' : Nat} {v : Value} (hd : decode c.code pc = .ok (.dup, 1)) (hv : v.category = 1) (hp : pc + 1 = pc') (G : own_Go p.tables e below P T (mkF m pc' Ls (v :: v :: St))) : own_Go p.tables e below P T (mkF m pc Ls (v :: St)) := by
  subst hp
  exact own_by (fun t q => XS.dup A hx rfl hd rfl hv q) G
theorem own_pop (A : At T m c below) (hx : p.tables.exec = Jvm.exec) {pc' : Nat} {v : Value} (hd : decode c.code pc = .ok (.pop, 1)) (hv : v.category = 1) (hp : pc + 1 = pc') (G : own_Go p.tables e below P T (mkF m pc' Ls (St))) : own_Go p.tables e below P T (mkF m pc Ls (v :: St)) := by
  subst hp
  exact own_by (fun t q => XS.pop A hx rfl hd rfl hv q) G
theorem own_dupX1 (A : At T m c below) (hx : p.tables.exec = Jvm.exec) {pc' : Nat} {v u : Value} (hd : decode c.code pc = .ok (.dup_x1, 1)) (hv : v.category = 1) (hu : u.category = 1) (hp : pc + 1 = pc') (G : own_Go p.tables e below P T (mkF m pc' Ls (v :: u :: v :: St))) : own_Go p.tables e below P T (mkF m pc Ls (v :: u :: St)) := by
  subst hp
  exact own_by (fun t q => XS.dupX1 A hx rfl hd rfl hv hu q) G
theorem own_goto (A : At T m c below) (hx : p.tables.exec = Jvm.exec) {o : Int} (pc' : Nat) (hd : decode c.code pc = .ok (.goto o, 3)) (ho : 0 ≤ (pc : Int) + o) (hp : ((pc : Int) + o).toNat = pc') (G : own_Go p.tables e below P T (mkF m pc' Ls St)) : own_Go p.tables e below P T (mkF m pc Ls St) :=
  own_by (fun t q => XS.goto A hx rfl rfl hd ho hp q) G
theorem own_icmp_eq (A : At T m c below) (hx : p.tables.exec = Jvm.exec) {o : Int} {x y : Int32} (pcY pcN : Nat) (hd : decode c.code pc = .ok (.if_icmp .eq o, 3)) (ho : 0 ≤ (pc : Int) + o) (hY : ((pc : Int) + o).toNat = pcY) (hN : pc + 3 = pcN) (GY : x = y → own_Go p.tables e below P T (mkF m pcY Ls St)) (GN : ¬ x = y → own_Go p.tables e below P T (mkF m pcN Ls St)) : own_Go p.tables e below P T (mkF m pc Ls (.int y :: .int x :: St)) := by
  by_cases q : x = y
  · exact own_by (fun t k => XS.icmpYes A hx rfl rfl hd rfl (teq q).1 ho hY k) (GY q)
  · have q : ¬ x = y := q
    subst hN
    exact own_by (fun t k => XS.icmpNo A hx rfl hd rfl (feq q).1 k) (GN q)
theorem own_if_eq (A : At T m c below) (hx : p.tables.exec = Jvm.exec) {o : Int} {x : Int32} (pcY pcN : Nat) (hd : decode c.code pc = .ok (.ifCond .eq o, 3)) (ho : 0 ≤ (pc : Int) + o) (hY : ((pc : Int) + o).toNat = pcY) (hN : pc + 3 = pcN) (GY : x = 0 → own_Go p.tables e below P T (mkF m pcY Ls St)) (GN : ¬ x = 0 → own_Go p.tables e below P T (mkF m pcN Ls St)) : own_Go p.tables e below P T (mkF m pc Ls (.int x :: St)) := by
  by_cases q : x = 0
  · exact own_by (fun t k => XS.ifYes A hx rfl rfl hd rfl ((if0 _ _).trans (teq q).1) ho hY k) (GY q)
  · have q : ¬ x = 0 := q
    subst hN
    exact own_by (fun t k => XS.ifNo A hx rfl hd rfl ((if0 _ _).trans (feq q).1) k) (GN q)
theorem own_icmp_ne (A : At T m c below) (hx : p.tables.exec = Jvm.exec) {o : Int} {x y : Int32} (pcY pcN : Nat) (hd : decode c.code pc = .ok (.if_icmp .ne o, 3)) (ho : 0 ≤ (pc : Int) + o) (hY : ((pc : Int) + o).toNat = pcY) (hN : pc + 3 = pcN) (GY : ¬ x = y → own_Go p.tables e below P T (mkF m pcY Ls St)) (GN : x = y → own_Go p.tables e below P T (mkF m pcN Ls St)) : own_Go p.tables e below P T (mkF m pc Ls (.int y :: .int x :: St)) := by
  by_cases q : ¬ x = y
  · exact own_by (fun t k => XS.icmpYes A hx rfl rfl hd rfl (feq q).2 ho hY k) (GY q)
  · have q : x = y := Classical.not_not.mp q
    subst hN
    exact own_by (fun t k => XS.icmpNo A hx rfl hd rfl (teq q).2 k) (GN q)
theorem own_if_ne (A : At T m c below) (hx : p.tables.exec = Jvm.exec) {o : Int} {x : Int32} (pcY pcN : Nat) (hd : decode c.code pc = .ok (.ifCond .ne o, 3)) (ho : 0 ≤ (pc : Int) + o) (hY : ((pc : Int) + o).toNat = pcY) (hN : pc + 3 = pcN) (GY : ¬ x = 0 → own_Go p.tables e below P T (mkF m pcY Ls St)) (GN : x = 0 → own_Go p.tables e below P T (mkF m pcN Ls St)) : own_Go p.tables e below P T (mkF m pc Ls (.int x :: St)) := by
  by_cases q : ¬ x = 0
  · exact own_by (fun t k => XS.ifYes A hx rfl rfl hd rfl ((if0 _ _).trans (feq q).2) ho hY k) (GY q)
  · have q : x = 0 := Classical.not_not.mp q
    subst hN
    exact own_by (fun t k => XS.ifNo A hx rfl hd rfl ((if0 _ _).trans (teq q).2) k) (GN q)
theorem own_icmp_lt (A : At T m c below) (hx : p.tables.exec = Jvm.exec) {o : Int} {x y : Int32} (pcY pcN : Nat) (hd : decode c.code pc = .ok (.if_icmp .lt o, 3)) (ho : 0 ≤ (pc : Int) + o) (hY : ((pc : Int) + o).toNat = pcY) (hN : pc + 3 = pcN) (GY : x < y → own_Go p.tables e below P T (mkF m pcY Ls St)) (GN : ¬ x < y → own_Go p.tables e below P T (mkF m pcN Ls St)) : own_Go p.tables e below P T (mkF m pc Ls (.int y :: .int x :: St)) := by
  by_cases q : x < y
  · exact own_by (fun t k => XS.icmpYes A hx rfl rfl hd rfl (tlt q).1 ho hY k) (GY q)
  · have q : ¬ x < y := q
    subst hN
    exact own_by (fun t k => XS.icmpNo A hx rfl hd rfl (flt q).1 k) (GN q)
theorem own_icmp_ge (A : At T m c below) (hx : p.tables.exec = Jvm.exec) {o : Int} {x y : Int32} (pcY pcN : Nat) (hd : decode c.code pc = .ok (.if_icmp .ge o, 3)) (ho : 0 ≤ (pc : Int) + o) (hY : ((pc : Int) + o).toNat = pcY) (hN : pc + 3 = pcN) (GY : ¬ x < y → own_Go p.tables e below P T (mkF m pcY Ls St)) (GN : x < y → own_Go p.tables e below P T (mkF m pcN Ls St)) : own_Go p.tables e below P T (mkF m pc Ls (.int y :: .int x :: St)) := by
  by_cases q : ¬ x < y
  · exact own_by (fun t k => XS.icmpYes A hx rfl rfl hd rfl (flt q).2.1 ho hY k) (GY q)
  · have q : x < y := Classical.not_not.mp q
    subst hN
    exact own_by (fun t k => XS.icmpNo A hx rfl hd rfl (tlt q).2.1 k) (GN q)
theorem own_icmp_gt (A : At T m c below) (hx : p.tables.exec = Jvm.exec) {o : Int} {x y : Int32} (pcY pcN : Nat) (hd : decode c.code pc = .ok (.if_icmp .gt o, 3)) (ho : 0 ≤ (pc : Int) + o) (hY : ((pc : Int) + o).toNat = pcY) (hN : pc + 3 = pcN) (GY : y < x → own_Go p.tables e below P T (mkF m pcY Ls St)) (GN : ¬ y < x → own_Go p.tables e below P T (mkF m pcN Ls St)) : own_Go p.tables e below P T (mkF m pc Ls (.int y :: .int x :: St)) := by
  by_cases q : y < x
  · exact own_by (fun t k => XS.icmpYes A hx rfl rfl hd rfl (tlt q).2.2.1 ho hY k) (GY q)
  · have q : ¬ y < x := q
    subst hN
    exact own_by (fun t k => XS.icmpNo A hx rfl hd rfl (flt q).2.2.1 k) (GN q)
theorem own_if_gt (A : At T m c below) (hx : p.tables.exec = Jvm.exec) {o : Int} {x : Int32} (pcY pcN : Nat) (hd : decode c.code pc = .ok (.ifCond .gt o, 3)) (ho : 0 ≤ (pc : Int) + o) (hY : ((pc : Int) + o).toNat = pcY) (hN : pc + 3 = pcN) (GY : 0 < x → own_Go p.tables e below P T (mkF m pcY Ls St)) (GN : ¬ 0 < x → own_Go p.tables e below P T (mkF m pcN Ls St)) : own_Go p.tables e below P T (mkF m pc Ls (.int x :: St)) := by
  by_cases q : 0 < x
  · exact own_by (fun t k => XS.ifYes A hx rfl rfl hd rfl ((if0 _ _).trans (tlt q).2.2.1) ho hY k) (GY q)
  · have q : ¬ 0 < x := q
    subst hN
    exact own_by (fun t k => XS.ifNo A hx rfl hd rfl ((if0 _ _).trans (flt q).2.2.1) k) (GN q)
theorem own_icmp_le (A : At T m c below) (hx : p.tables.exec = Jvm.exec) {o : Int} {x y : Int32} (pcY pcN : Nat) (hd : decode c.code pc = .ok (.if_icmp .le o, 3)) (ho : 0 ≤ (pc : Int) + o) (hY : ((pc : Int) + o).toNat = pcY) (hN : pc + 3 = pcN) (GY : ¬ y < x → own_Go p.tables e below P T (mkF m pcY Ls St)) (GN : y < x → own_Go p.tables e below P T (mkF m pcN Ls St)) : own_Go p.tables e below P T (mkF m pc Ls (.int y :: .int x :: St)) := by
  by_cases q : ¬ y < x
  · exact own_by (fun t k => XS.icmpYes A hx rfl rfl hd rfl (flt q).2.2.2 ho hY k) (GY q)
  · have q : y < x := Classical.not_not.mp q
    subst hN
    exact own_by (fun t k => XS.icmpNo A hx rfl hd rfl (tlt q).2.2.2 k) (GN q)
theorem own_if_le (A : At T m c below) (hx : p.tables.exec = Jvm.exec) {o : Int} {x : Int32} (pcY pcN : Nat) (hd : decode c.code pc = .ok (.ifCond .le o, 3)) (ho : 0 ≤ (pc : Int) + o) (hY : ((pc : Int) + o).toNat = pcY) (hN : pc + 3 = pcN) (GY : ¬ 0 < x → own_Go p.tables e below P T (mkF m pcY Ls St)) (GN : 0 < x → own_Go p.tables e below P T (mkF m pcN Ls St)) : own_Go p.tables e below P T (mkF m pc Ls (.int x :: St)) := by
  by_cases q : ¬ 0 < x
  · exact own_by (fun t k => XS.ifYes A hx rfl rfl hd rfl ((if0 _ _).trans (flt q).2.2.2) ho hY k) (GY q)
  · have q : 0 < x := Classical.not_not.mp q
    subst hN
    exact own_by (fun t k => XS.ifNo A hx rfl hd rfl ((if0 _ _).trans (tlt q).2.2.2) k) (GN q)
theorem own_ifnull_t (A : At T m c below) (hx : p.tables.exec = Jvm.exec) {o : Int} (pcY : Nat) (hd : decode c.code pc = .ok (.ifnull o, 3)) (ho : 0 ≤ (pc : Int) + o) (hY : ((pc : Int) + o).toNat = pcY) (G : own_Go p.tables e below P T (mkF m pcY Ls St)) : own_Go p.tables e below P T (mkF m pc Ls (.null :: St)) := own_by (fun t k => XS.ifnullYes A hx rfl rfl hd rfl ho hY k) G
theorem own_ifnull_f (A : At T m c below) (hx : p.tables.exec = Jvm.exec) {o : Int} {b : Addr} (pcN : Nat) (hd : decode c.code pc = .ok (.ifnull o, 3)) (hN : pc + 3 = pcN) (G : own_Go p.tables e below P T (mkF m pcN Ls St)) : own_Go p.tables e below P T (mkF m pc Ls (.ref b :: St)) := by subst hN; exact own_by (fun t k => XS.ifnullNo A hx rfl hd rfl k) G
theorem own_ifnonnull_t (A : At T m c below) (hx : p.tables.exec = Jvm.exec) {o : Int} {b : Addr} (pcY : Nat) (hd : decode c.code pc = .ok (.ifnonnull o, 3)) (ho : 0 ≤ (pc : Int) + o) (hY : ((pc : Int) + o).toNat = pcY) (G : own_Go p.tables e below P T (mkF m pcY Ls St)) : own_Go p.tables e below P T (mkF m pc Ls (.ref b :: St)) := own_by (fun t k => XS.ifnonnullYes A hx rfl rfl hd rfl ho hY k) G
theorem own_ifnonnull_f (A : At T m c below) (hx : p.tables.exec = Jvm.exec) {o : Int} (pcN : Nat) (hd : decode c.code pc = .ok (.ifnonnull o, 3)) (hN : pc + 3 = pcN) (G : own_Go p.tables e below P T (mkF m pcN Ls St)) : own_Go p.tables e below P T (mkF m pc Ls (.null :: St)) := by subst hN; exact own_by (fun t k => XS.ifnonnullNo A hx rfl hd rfl k) G
end OwnSteps
/-! OWN KIT, steps on the heap -/
section OwnHeap
variable {p : Program} {l : Launch} {e : Env} {R : Room} {s : State} {m : MethodId} {args : Array Value} {below : List Frame} {meth : Method} {c : Code} {T : State} {cells slots : Nat} {Z : State} {a0 : Array Value} {h h0 : Heap} {w kf : Bool} {EL : List (String × Nat)} {own : String} {ws fs : List Addr} {P : Outcome → State → Prop} {pc pc' : Nat} {Ls : Array Slot} {St : List Value} {index : Nat}
theorem own_new {C : String} {n : Nat} (K : own_S w kf EL p l e R s m args below meth c Z a0 own h0 ws T h fs cells slots) (hx : p.tables.exec = Jvm.exec) (w1 : (Cond.classLink own index C).before a0 Z = true) (wi : (Cond.instantiable C n).before a0 Z = true) (wz : (Cond.initialized C).before a0 Z = true)
    (hd : decode c.code pc = .ok (.new index, 3)) (hp : pc + 3 = pc') (hc : cells + 1 ≤ R.cells) (hl : slots + n ≤ R.slots)
    (G : ∀ (T' : State) (h' : Heap) (a : Addr), a = h.size → own_S w kf EL p l e R s m args below meth c Z a0 own h0 ws T' h' (a :: fs) (cells + 1) (slots + n) → Ext h h' → Exa Z h' a C → (∀ {O nm d : String} {ty : FieldType}, Laid Z a0 C O nm d → parseFieldDescriptor d = some ty → Fld Z h' a O nm d (defaultValue ty)) → Unt h' a →
      own_Go p.tables e below P T' (mkF m pc' Ls (.ref a :: St))) : own_Go p.tables e below P T (mkF m pc Ls St) := by
  subst hp
  obtain ⟨vm0, locs, k0, X, eT, I⟩ := K
  obtain ⟨T', h', X', e', E, F, D, N, st⟩ := newO X hx I.1 I.2.1 w1 wi wz eT (g := mkF m pc Ls St) rfl hd hc hl
  exact own_by st (G T' h' _ rfl ⟨vm0, locs, k0, X', e', I.grow E F.lt⟩ E F D N)
theorem own_newarr {aty : ArrayType} {n : Int32} (K : own_S w kf EL p l e R s m args below meth c Z a0 own h0 ws T h fs cells slots) (hx : p.tables.exec = Jvm.exec) (w1 : (Cond.arrayClass (newarray.typeOf aty)).before a0 Z = true)
    (hd : decode c.code pc = .ok (.newarray aty, 2)) (hp : pc + 2 = pc') (hn : ¬ n < 0) (cap : Nat) (hcap : n.toNatClampNeg ≤ cap) (hb : cap * 8 ≤ 536870912) (hc : cells + 1 ≤ R.cells) (hl : slots + cap ≤ R.slots)
    (G : ∀ (T' : State) (h' : Heap) (a : Addr) (k : ClassId), a = h.size → own_S w kf EL p l e R s m args below meth c Z a0 own h0 ws T' h' (a :: fs) (cells + 1) (slots + cap) → Ext h h' → Arv Z h' a k (newarray.typeOf aty) n [] (defaultValue (newarray.typeOf aty)) →
      own_Go p.tables e below P T' (mkF m pc' Ls (.ref a :: St))) : own_Go p.tables e below P T (mkF m pc Ls (.int n :: St)) := by
  subst hp
  obtain ⟨vm0, locs, k0, X, eT, I⟩ := K
  obtain ⟨T', h', k, X', e', E, F, st⟩ := newP X hx I.1 w1 eT (g := mkF m pc Ls (.int n :: St)) rfl hd rfl hn hcap hb hc hl
  exact own_by st (G T' h' _ k rfl ⟨vm0, locs, k0, X', e', I.grow E F.lt⟩ E (Arv.new F hn))
/-- a place of a cell that the walk may write is written -/
theorem own_wrote {vm0 : Vm} {locs : List Loc} {k0 : Nat} {T' : State} {h' : Heap} {a : Addr} {sl : Nat} {v : Value} (I : own_I w kf EL s m below Z a0 own h0 ws h fs vm0 locs k0) (X' : Stand p l e R (s.setVm vm0) m args below meth c T' (locs ++ [⟨a, sl⟩]) cells slots) (e' : T'.heap = h') (W : Wr h h' a sl v) (ha : a ∈ fs) :
    own_S w kf EL p l e R s m args below meth c Z a0 own h0 ws T' h' fs cells slots :=
  ⟨vm0, _, k0, X', e', I.keep (Keep.of_wr W) (fun x hx => by cases List.mem_singleton.mp hx; exact ha) (fun y hy => by cases List.mem_singleton.mp hy; obtain ⟨-, -, -, -, -, -, -, -, -, -, -, -, h12⟩ := I; exact (h12 a ha).2.1)⟩
theorem own_putF {R0 O n d C host : String} {kk : Nat} {ty : FieldType} {a : Addr} {v old : Value} (K : own_S w kf EL p l e R s m args below meth c Z a0 own h0 ws T h fs cells slots) (hx : p.tables.exec = Jvm.exec)
    (w1 : (Cond.fieldLink own index R0 n d).before a0 Z = true ∨ (Cond.fieldLinkNest own index R0 n d host).before a0 Z = true) (via : Via Z R0 O n d) (F : Fld Z h a O n d old) (E : Exa Z h a C) (L : (Cond.lays C O n d).before a0 Z = true ∨ ((Cond.laysFinal C O n d).before a0 Z = true ∧ own = O ∧ meth.name = "<init>")) (wi : (Cond.instantiable C kk).before a0 Z = true)
    (hty : parseFieldDescriptor d = some ty) (hn : narrow ty v = v) (hf : fits ty v = true) (ha : a ∈ fs) (hd : decode c.code pc = .ok (.putfield index, 3)) (hp : pc + 3 = pc')
    (G : ∀ (T' : State) (h' : Heap), own_S w kf EL p l e R s m args below meth c Z a0 own h0 ws T' h' fs cells slots → Wr h h' a (Jvm.RoadKit.slotOf Z O n d) v → own_Go p.tables e below P T' (mkF m pc' Ls St)) : own_Go p.tables e below P T (mkF m pc Ls (v :: .ref a :: St)) := by
  subst hp
  obtain ⟨vm0, locs, k0, X, eT, I⟩ := K
  obtain ⟨T', h', X', e', W, st⟩ := putF X hx I.1 I.2.1 w1 via eT F E L wi hty hn hf (g := mkF m pc Ls (v :: .ref a :: St)) rfl rfl hd
  exact own_by st (G T' h' (own_wrote I X' e' W ha) W)
theorem own_getF {R0 O n d host : String} {a : Addr} {v : Value} (K : own_S w kf EL p l e R s m args below meth c Z a0 own h0 ws T h fs cells slots) (hx : p.tables.exec = Jvm.exec)
    (w1 : (Cond.fieldLink own index R0 n d).before a0 Z = true ∨ (Cond.fieldLinkNest own index R0 n d host).before a0 Z = true) (via : Via Z R0 O n d) (F : Fld Z h a O n d v) (hd : decode c.code pc = .ok (.getfield index, 3)) (hp : pc + 3 = pc')
    (G : ∀ T' : State, own_S w kf EL p l e R s m args below meth c Z a0 own h0 ws T' h fs cells slots → own_Go p.tables e below P T' (mkF m pc' Ls (v :: St))) : own_Go p.tables e below P T (mkF m pc Ls (.ref a :: St)) := by
  subst hp
  obtain ⟨vm0, locs, k0, X, eT, I⟩ := K
  obtain ⟨T', X', e', st⟩ := getF X hx I.1 I.2.1 w1 via eT F (g := mkF m pc Ls (.ref a :: St)) rfl rfl hd
  exact own_by st (G T' ⟨vm0, locs, k0, X', e', I⟩)
theorem own_getS {R0 O n d host : String} {v : Value} (K : own_S w kf EL p l e R s m args below meth c Z a0 own h0 ws T h fs cells slots) (hx : p.tables.exec = Jvm.exec)
    (w1 : (Cond.fieldLink own index R0 n d).before a0 Z = true ∨ (Cond.fieldLinkNest own index R0 n d host).before a0 Z = true) (via : Via Z R0 O n d) (F : Sta Z Z.heap O n d v) (hd : decode c.code pc = .ok (.getstatic index, 3)) (hp : pc + 3 = pc')
    (G : ∀ T' : State, own_S w kf EL p l e R s m args below meth c Z a0 own h0 ws T' h fs cells slots → own_Go p.tables e below P T' (mkF m pc' Ls (v :: St))) : own_Go p.tables e below P T (mkF m pc Ls St) := by
  subst hp
  have F' := own_sta K F
  obtain ⟨vm0, locs, k0, X, eT, I⟩ := K
  obtain ⟨T', X', e', st⟩ := getS2 X hx I.1 I.2.1 w1 via eT F' (g := mkF m pc Ls St) rfl hd
  exact own_by st (G T' ⟨vm0, locs, k0, X', e', I⟩)
theorem own_cast {C : String} {a : Addr} (K : own_S w kf EL p l e R s m args below meth c Z a0 own h0 ws T h fs cells slots) (hx : p.tables.exec = Jvm.exec) (w1 : (Cond.classLink own index C).before a0 Z = true) (F : Ins Z h a C true) (hd : decode c.code pc = .ok (.checkcast index, 3)) (hp : pc + 3 = pc')
    (G : ∀ T' : State, own_S w kf EL p l e R s m args below meth c Z a0 own h0 ws T' h fs cells slots → own_Go p.tables e below P T' (mkF m pc' Ls (.ref a :: St))) : own_Go p.tables e below P T (mkF m pc Ls (.ref a :: St)) := by
  subst hp
  obtain ⟨vm0, locs, k0, X, eT, I⟩ := K
  obtain ⟨T', X', e', st⟩ := castY X hx I.1 I.2.1 w1 eT F (g := mkF m pc Ls (.ref a :: St)) rfl rfl hd
  exact own_by st (G T' ⟨vm0, locs, k0, X', e', I⟩)
theorem own_instY {C : String} {a : Addr} (K : own_S w kf EL p l e R s m args below meth c Z a0 own h0 ws T h fs cells slots) (hx : p.tables.exec = Jvm.exec) (w1 : (Cond.classLink own index C).before a0 Z = true) (F : Ins Z h a C true) (hd : decode c.code pc = .ok (.instanceof index, 3)) (hp : pc + 3 = pc')
    (G : ∀ T' : State, own_S w kf EL p l e R s m args below meth c Z a0 own h0 ws T' h fs cells slots → own_Go p.tables e below P T' (mkF m pc' Ls (.int 1 :: St))) : own_Go p.tables e below P T (mkF m pc Ls (.ref a :: St)) := by
  subst hp
  obtain ⟨vm0, locs, k0, X, eT, I⟩ := K
  obtain ⟨T', X', e', st⟩ := instY X hx I.1 I.2.1 w1 eT F (g := mkF m pc Ls (.ref a :: St)) rfl rfl hd
  exact own_by st (G T' ⟨vm0, locs, k0, X', e', I⟩)
/-- Object.<init> -/
theorem own_initO {a : Addr} (K : own_S w kf EL p l e R s m args below meth c Z a0 own h0 ws T h fs cells slots) (hx : p.tables.exec = Jvm.exec) (w1 : (Cond.methodLink own index Lib.objectInit).before a0 Z = true) (w2 : (Cond.instanceMethod Lib.objectInit).before a0 Z = true) (w3 : (Cond.code Lib.objectInit ⟨#[0xb1]⟩ 1 none).before a0 Z = true)
    (hsz : Ls.size = c.maxLocals) (W : Nat) (hW : (St.map fun v => v.category).sum ≤ W) (hf : 1 ≤ R.frames) (hl : W + 12 ≤ R.locals) (hd : decode c.code pc = .ok (.invokespecial index, 3)) (hp : pc + 3 = pc')
    (G : ∀ T' : State, own_S w kf EL p l e R s m args below meth c Z a0 own h0 ws T' h fs cells slots → own_Go p.tables e below P T' (mkF m pc' Ls St)) : own_Go p.tables e below P T (mkF m pc Ls (.ref a :: St)) := by
  subst hp
  obtain ⟨vm0, locs, k0, X, eT, I⟩ := K
  obtain ⟨T', X', e', st⟩ := initO X hx I.1 I.2.1 w1 w2 w3 eT (g := mkF m pc Ls (.ref a :: St)) rfl hsz rfl hd hf (W := W) (by show 2 * 0 + _ ≤ _; omega) hl
  exact own_by st (G T' ⟨vm0, locs, k0, X', e', I⟩)
section OwnArr
variable {a : Addr} {k : ClassId} {n j : Int32} {vs : List Value} {dv : Value}
/-- castore into an array whose first components are said -/
theorem own_stC {x : Int32} (K : own_S w kf EL p l e R s m args below meth c Z a0 own h0 ws T h fs cells slots) (hx : p.tables.exec = Jvm.exec) (F : Arv Z h a k .char n vs dv) (ha : a ∈ fs) (hj : ¬ j < 0 ∧ j < n) (i : Nat) (hi : j.toNatClampNeg = i) (hl : i < vs.length) (hd : decode c.code pc = .ok (.castore, 1)) (hp : pc + 1 = pc')
    (G : ∀ (T' : State) (h' : Heap), own_S w kf EL p l e R s m args below meth c Z a0 own h0 ws T' h' fs cells slots → Wr h h' a j.toNatClampNeg (.int (nar .char x)) → Arv Z h' a k .char n (vs.set i (.int (nar .char x))) dv → own_Go p.tables e below P T' (mkF m pc' Ls St)) : own_Go p.tables e below P T (mkF m pc Ls (.int x :: .int j :: .ref a :: St)) := by
  subst hp
  obtain ⟨vm0, locs, k0, X, eT, I⟩ := K
  obtain ⟨cl, A, q1, q2, q3, q4, q5⟩ := F
  obtain ⟨T', h', X', e', W, st⟩ := stC X hx I.1 eT A (j := j) (x := x) (inb_of q2 hj) (g := mkF m pc Ls (.int x :: .int j :: .ref a :: St)) rfl rfl hd
  exact own_by st (G T' h' (own_wrote I X' e' W ha) W (Arv.set A q1 q2 q3 q4 q5 (fits_nar_char _) W i hi hl))
theorem own_stR {C : String} {v : Value} (K : own_S w kf EL p l e R s m args below meth c Z a0 own h0 ws T h fs cells slots) (hx : p.tables.exec = Jvm.exec) (F : Arv Z h a k (.object C) n vs dv) (hS : Sto Z h a v) (hv : v.isRef = true) (ha : a ∈ fs) (hj : ¬ j < 0 ∧ j < n) (i : Nat) (hi : j.toNatClampNeg = i) (hl : i < vs.length) (hd : decode c.code pc = .ok (.aastore, 1)) (hp : pc + 1 = pc')
    (G : ∀ (T' : State) (h' : Heap), own_S w kf EL p l e R s m args below meth c Z a0 own h0 ws T' h' fs cells slots → Wr h h' a j.toNatClampNeg v → Arv Z h' a k (.object C) n (vs.set i v) dv → own_Go p.tables e below P T' (mkF m pc' Ls St)) : own_Go p.tables e below P T (mkF m pc Ls (v :: .int j :: .ref a :: St)) := by
  subst hp
  obtain ⟨vm0, locs, k0, X, eT, I⟩ := K
  obtain ⟨cl, A, q1, q2, q3, q4, q5⟩ := F
  obtain ⟨T', h', X', e', W, st⟩ := stR X hx I.1 eT A (j := j) (v := v) (inb_of q2 hj) rfl hS (g := mkF m pc Ls (v :: .int j :: .ref a :: St)) rfl rfl hd
  exact own_by st (G T' h' (own_wrote I X' e' W ha) W (Arv.set A q1 q2 q3 q4 q5 (by rcases ref_cases hv with rfl | ⟨_, rfl⟩ <;> rfl) W i hi hl))
theorem own_ldR {C : String} {v : Value} (K : own_S w kf EL p l e R s m args below meth c Z a0 own h0 ws T h fs cells slots) (hx : p.tables.exec = Jvm.exec) (F : Arv Z h a k (.object C) n vs dv) (hj : ¬ j < 0 ∧ j < n) (hv : vs.getD j.toNatClampNeg dv = v) (hd : decode c.code pc = .ok (.aaload, 1)) (hp : pc + 1 = pc')
    (G : own_Go p.tables e below P T (mkF m pc' Ls (v :: St))) : own_Go p.tables e below P T (mkF m pc Ls (.int j :: .ref a :: St)) := by
  subst hp
  obtain ⟨vm0, locs, k0, X, eT, I⟩ := K
  obtain ⟨cl, A, q1, q2, q3, q4, q5⟩ := F
  exact own_by (fun t q => X.aaload hx (j := j) (v := v) (by rw [eT]; exact A.1) (State.isArrayOf_alike I.1.alike A.2.1) rfl A.2.2 (inb_of q2 hj) (q4.at (inb_of q2 hj) hv) (g := mkF m pc Ls (.int j :: .ref a :: St)) rfl rfl hd _ q) G
theorem own_len {ty : FieldType} (K : own_S w kf EL p l e R s m args below meth c Z a0 own h0 ws T h fs cells slots) (hx : p.tables.exec = Jvm.exec) (F : Arv Z h a k ty n vs dv) (hd : decode c.code pc = .ok (.arraylength, 1)) (hp : pc + 1 = pc')
    (G : own_Go p.tables e below P T (mkF m pc' Ls (.int n :: St))) : own_Go p.tables e below P T (mkF m pc Ls (.ref a :: St)) := by
  subst hp
  obtain ⟨vm0, locs, k0, X, eT, I⟩ := K
  obtain ⟨cl, A, q1, q2, q3, q4, q5⟩ := F
  refine own_by (fun t q => X.arraylength hx (by rw [eT]; exact A.1) (State.isArrayOf_alike I.1.alike A.2.1) (g := mkF m pc Ls (.ref a :: St)) rfl rfl hd _ ?_) G
  rw [len_of q2 q3]; exact q
end OwnArr
theorem own_acmp {x y : Value} {cd : ACond} {o : Int} (K : own_S w kf EL p l e R s m args below meth c Z a0 own h0 ws T h fs cells slots) (hx : p.tables.exec = Jvm.exec) (h1 : x.isRef = true) (h2 : y.isRef = true) (same : Bool) (hq : decide (x = y) = same) (hd : decode c.code pc = .ok (.if_acmp cd o, 3)) (ho : 0 ≤ (pc : Int) + o) (hp : pc' = if acV cd same = true then ((pc : Int) + o).toNat else pc + 3)
    (G : own_Go p.tables e below P T (mkF m pc' Ls St)) : own_Go p.tables e below P T (mkF m pc Ls (y :: x :: St)) := by
  obtain ⟨vm0, locs, k0, X, eT, I⟩ := K
  exact own_by (fun t q => acmp X hx (g := mkF m pc Ls (y :: x :: St)) rfl h1 h2 rfl hd rfl hq ho hp q) G
end OwnHeap
section OwnInst
variable {p : Program} {l : Launch} {e : Env} {R : Room} {s : State} {m : MethodId} {args : Array Value} {below : List Frame} {meth : Method} {c : Code} {T : State} {cells slots : Nat} {Z : State} {a0 : Array Value} {h h0 : Heap} {w kf : Bool} {EL : List (String × Nat)} {own : String} {ws fs : List Addr} {P : Outcome → State → Prop} {pc pc' : Nat} {Ls : Array Slot} {St : List Value} {index : Nat}
theorem own_instN {C K : String} {a : Addr} (Kk : own_S w kf EL p l e R s m args below meth c Z a0 own h0 ws T h fs cells slots) (hx : p.tables.exec = Jvm.exec) (w1 : (Cond.classLink own index K).before a0 Z = true) (E : Exa Z h a C) (F : ∃ cc t, Z.vm.findClass C = some cc ∧ Z.vm.findClass K = some t ∧ Z.vm.assignable cc t = false) (hd : decode c.code pc = .ok (.instanceof index, 3)) (hp : pc + 3 = pc')
    (G : ∀ T' : State, own_S w kf EL p l e R s m args below meth c Z a0 own h0 ws T' h fs cells slots → own_Go p.tables e below P T' (mkF m pc' Ls (.int 0 :: St))) : own_Go p.tables e below P T (mkF m pc Ls (.ref a :: St)) := by
  subst hp
  obtain ⟨vm0, locs, k0, X, eT, I⟩ := Kk
  obtain ⟨T', X', e', st⟩ := instNo X hx I.1 I.2.1 w1 eT E F (g := mkF m pc Ls (.ref a :: St)) rfl rfl hd
  exact own_by st (G T' ⟨vm0, locs, k0, X', e', I⟩)
end OwnInst
/-! OWN KIT, calls -/
section OwnCalls
variable {p : Program} {l : Launch} {e : Env} {R : Room} {s : State} {m : MethodId} {args : Array Value} {below : List Frame} {meth : Method} {c : Code} {T : State} {cells slots : Nat} {Z : State} {a0 : Array Value} {h h0 : Heap} {w kf : Bool} {EL : List (String × Nat)} {own : String} {ws ws' fs : List Addr} {P : Outcome → State → Prop} {pc pc' : Nat} {Ls : Array Slot} {St : List Value} {index : Nat}
variable {y z : MethodName} {bytes : ByteArray} {maxL len W : Nat} {ret : Option FieldType} {rm : Room} {as' : Array Value} {Q' : Option Value → Heap → Prop} {vm0 : Vm} {locs : List Loc} {k0 : Nat} {argsL rest : List Value}
abbrev own_BackF (l : Launch) (R : Room) (p : Program) (e : Env) (below : List Frame) (s : State) (args : Array Value) (y : MethodName) (len W : Nat) (as' : Array Value) (h : Heap) (kc ks : Nat) (Q : Option Value → Heap → List Loc → Prop) : Prop :=
  Back l R p e below s args y len W (fun A a => a = as' ∧ A.U.heap = h ∧ A.cells + kc ≤ R.cells ∧ A.slots + ks ≤ R.slots) (fun A _ v B => ∃ L, Q v B.U.heap L ∧ B.locs = A.locs ++ L ∧ B.cells = A.cells + kc ∧ B.slots = A.slots + ks)
/-- a callee's contract, where the tables stay -/
theorem own_backN (hM : own_Met false kf EL l Z a0 y bytes maxL ret [] rm as' h ws' Q') (I : own_I false kf EL s m below Z a0 own h0 ws h fs vm0 locs k0) (hw : ∀ x ∈ ws', x ∈ fs) (wc : (Cond.code y bytes maxL ret).before a0 Z = true) (wz : (Cond.initialized y.cls).before a0 Z = true) (hf : rm.frames + 1 ≤ R.frames) (hl : W + (maxL + 11) + rm.locals ≤ R.locals) :
    own_BackF l R p e below (s.setVm vm0) args y len W as' h rm.cells rm.slots (fun v h' L => Q' v h' ∧ Keep h h' ws' ∧ Fr Z.heap.size L) := by
  obtain ⟨h1, h2, h3, h4, h5, h6, h7, h8, h9, h10, h11, hst0, h12⟩ := I
  exact Back.of_freeG (bytes := bytes) (maxL := maxL) (ret := ret) (E := fun _ _ o t L k n => k = rm.cells ∧ n = rm.slots ∧ ∃ v, o = .returned v ∧ Q' v t.heap ∧ Keep h t.heap ws' ∧ Fr Z.heap.size L) hM hf hl
    (fun m meth c A a Y hp => have hU : Z.Warmed39 A.U.vm := wtrans (s := s.setVm vm0) h1 Y.warmed
      ⟨by show (Cond.and _ .tt).before a A.U = true; rw [Cond.before_and, mv hU wc]; rfl, mv hU wc, mv hU wz, hp.2.2.1, hp.2.2.2⟩)
    (fun m meth c A a g mk Y hp => have C : CHr Z EL vm0 h A.U.vm h := CHv.at Y h1 h8 h9.1
      ⟨hp.1, wtrans (s := s.setVm vm0) h1 Y.warmed, hp.2.1, h4, h8, C.1, fun x hx => have q := h12 x (hw x hx); ⟨q.2.1, q.2.2.1, C.safe q.2.2.1 q.2.2.2⟩⟩)
    (fun m meth c A a g mk Y _ hg q => known_frames Y hg (h11 q).1 (h11 q).2)
    (fun _ _ _ _ ⟨v, L, g1, g2, g3, g4, g5, g6⟩ => ⟨L, _, _, g6.2 rfl, rfl, rfl, v, g1, g2, g3, g4⟩)
    (fun m meth c A a g mk v t L k n Y hp _ _ ⟨e1, e2, v', e3, e4⟩ => by cases e3; subst e1 e2; exact ⟨L, e4, rfl, rfl, rfl⟩)
/-- a callee's contract, where it may intern -/
theorem own_backW (hM : own_Met true kf EL l Z a0 y bytes maxL ret [] rm as' h ws' Q') (I : own_I true kf EL s m below Z a0 own h0 ws h fs vm0 locs k0) (hw : ∀ x ∈ ws', x ∈ fs) (wc : (Cond.code y bytes maxL ret).before a0 Z = true) (wz : (Cond.initialized y.cls).before a0 Z = true) (hf : rm.frames + 1 ≤ R.frames) (hl : W + (maxL + 11) + rm.locals ≤ R.locals) :
    BackS l R p e below (s.setVm vm0) args y len W (fun A a => a = as' ∧ A.U.heap = h ∧ A.cells + rm.cells ≤ R.cells ∧ A.slots + rm.slots ≤ R.slots)
      (fun A _ v B => ∃ L, (Q' v B.U.heap ∧ Keep h B.U.heap ws' ∧ Fr Z.heap.size L ∧ CHr Z EL vm0 h B.U.vm B.U.heap) ∧ B.locs = A.locs ++ L ∧ B.cells = A.cells + rm.cells ∧ B.slots = A.slots + rm.slots) := by
  obtain ⟨h1, h2, h3, h4, h5, h6, h7, h8, h9, h10, h11, hst0, h12⟩ := I
  exact BackS.of_freeWG (bytes := bytes) (maxL := maxL) (ret := ret) (E := fun _ first o t L k n => k = rm.cells ∧ n = rm.slots ∧ (∃ v, o = .returned v ∧ Q' v t.heap ∧ Keep h t.heap ws' ∧ Fr Z.heap.size L) ∧ CHr Z EL first.vm h t.vm t.heap) hM hf hl
    (fun m meth c A a Y hp => have hU : Z.Warmed39 A.U.vm := wtrans (s := s.setVm vm0) h1 Y.warmed
      ⟨by show (Cond.and _ .tt).before a A.U = true; rw [Cond.before_and, mv hU wc]; rfl, mv hU wc, mv hU wz, hp.2.2.1, hp.2.2.2⟩)
    (fun m meth c A a g mk Y hp => have C : CHr Z EL vm0 h A.U.vm h := CHv.at Y h1 h8 h9.1
      ⟨hp.1, wtrans (s := s.setVm vm0) h1 Y.warmed, hp.2.1, h4, h8, C.1, fun x hx => have q := h12 x (hw x hx); ⟨q.2.1, q.2.2.1, C.safe q.2.2.1 q.2.2.2⟩⟩)
    (fun m meth c A a g mk Y _ hg q => known_frames Y hg (h11 q).1 (h11 q).2)
    (fun _ _ _ _ ⟨v, L, g1, g2, g3, g4, g5, g6⟩ => ⟨L, _, _, g6.1 rfl, rfl, rfl, ⟨v, g1, g2, g3, g4⟩, g5⟩)
    (fun m meth c A a g mk v t L k n Y hp _ _ ⟨e1, e2, ⟨v', e3, e4, e5, e6⟩, e7⟩ => by
      cases e3; subst e1 e2
      exact ⟨L, ⟨e4, e5, e6, (CHv.at Y h1 h8 h9.1).trans e7⟩, rfl, rfl, rfl⟩)
/-- where the walk stands behind a callee that leaves the tables -/
theorem own_afterN {B : Pt} {kc ks : Nat} {L : List Loc} (I : own_I w kf EL s m below Z a0 own h0 ws h fs vm0 locs k0) (X' : Stand p l e R (s.setVm vm0) m args below meth c B.U B.locs B.cells B.slots) (Kp : Keep h B.U.heap ws') (hw : ∀ x ∈ ws', x ∈ fs) (hL : Fr Z.heap.size L) (e1 : B.locs = locs ++ L) (e2 : B.cells = cells + kc) (e3 : B.slots = slots + ks) :
    own_S w kf EL p l e R s m args below meth c Z a0 own h0 ws B.U B.U.heap fs (cells + kc) (slots + ks) := by
  rw [e1, e2, e3] at X'
  exact ⟨vm0, _, k0, X', rfl, I.keep Kp hw hL⟩
theorem own_afterW {B : Pt} {kc ks : Nat} {L : List Loc} (I : own_I true kf EL s m below Z a0 own h0 ws h fs vm0 locs k0) (X' : Stand p l e R ((s.setVm vm0).setVm B.U.vm) m args below meth c B.U B.locs B.cells B.slots) (S : (s.setVm vm0).Since B.U.vm B.U.heap.size) (C : CHr Z EL vm0 h B.U.vm B.U.heap) (Kp : Keep h B.U.heap ws') (hw : ∀ x ∈ ws', x ∈ fs) (hL : Fr Z.heap.size L) (e1 : B.locs = locs ++ L) (e2 : B.cells = cells + kc) (e3 : B.slots = slots + ks) :
    own_S true kf EL p l e R s m args below meth c Z a0 own h0 ws B.U B.U.heap fs (cells + kc) (slots + ks) := by
  rw [e1, e2, e3] at X'
  exact ⟨B.U.vm, _, _, X', rfl, I.wide rfl C S Kp.1 (Nat.le_refl _) Kp hw hL⟩

/-- invokestatic of a body by its contract -/
theorem own_callS (K : own_S w kf EL p l e R s m args below meth c Z a0 own h0 ws T h fs cells slots) (hx : p.tables.exec = Jvm.exec) (hsz : Ls.size = c.maxLocals)
    (w1 : (Cond.methodLink own index y).before a0 Z = true) (w2 : (Cond.static y).before a0 Z = true) (wz : (Cond.initialized y.cls).before a0 Z = true) (wc : (Cond.code y bytes maxL ret).before a0 Z = true) (hy : y.cls ≠ "java/lang/invoke/MethodHandle" ∧ y.cls ≠ "java/lang/invoke/VarHandle")
    (hM : own_Met w kf EL l Z a0 y bytes maxL ret [] rm argsL.toArray h ws' Q') (hw : ∀ x ∈ ws', x ∈ fs) (hlen : ∀ sig, parseMethodDescriptor y.desc = some sig → argsL.length = sig.parameters.length) (hst : St = argsL.reverse ++ rest) (W : Nat) (hW : (rest.map fun v => v.category).sum ≤ W)
    (hd : decode c.code pc = .ok (.invokestatic index, 3)) (hp : pc + 3 = pc') (hf : rm.frames + 1 ≤ R.frames) (hl : W + (maxL + 11) + rm.locals ≤ R.locals) (hc : cells + rm.cells ≤ R.cells) (hs : slots + rm.slots ≤ R.slots)
    (G : ∀ (v : Option Value) (T' : State) (h' : Heap), own_S w kf EL p l e R s m args below meth c Z a0 own h0 ws T' h' fs (cells + rm.cells) (slots + rm.slots) → Keep h h' ws' → Q' v h' → own_Go p.tables e below P T' (mkF m pc' Ls (v.toList ++ rest))) :
    own_Go p.tables e below P T (mkF m pc Ls St) := by
  subst hp
  obtain ⟨vm0, locs, k0, X, eT, I⟩ := K
  have hZ : Z.Warmed39 (s.setVm vm0).vm := I.1
  cases w with
  | false =>
    obtain ⟨v, vm₁, B, -, X', ⟨L, ⟨q1, q2, q3⟩, e1, e2, e3⟩, st⟩ := Jvm.LawKit.callS X hx (y := y) I.2.1 (mvT hZ w1) (mvT hZ w2) (mvT hZ wz) (mvT hZ wc) hy (own_backN (len := 3) (W := W) hM I hw wc wz hf hl) (g := mkF m pc Ls St) rfl hsz (argsL := argsL) (rest := rest) hlen hst (by show 2 * 0 + _ ≤ _; omega) hd (fun _ _ => ⟨rfl, eT, hc, hs⟩)
    exact own_by st (G v B.U _ (own_afterN I X' q2 hw q3 e1 e2 e3) q2 q1)
  | true =>
    obtain ⟨v, vm₁, B, -, X', hS, hgr, ⟨L, ⟨q1, q2, q3, q4⟩, e1, e2, e3⟩, st⟩ := callSS X hx (y := y) I.2.1 (mvT hZ w1) (mvT hZ w2) (mvT hZ wz) (mvT hZ wc) hy (own_backW (len := 3) (W := W) hM I hw wc wz hf hl) (g := mkF m pc Ls St) rfl hsz (argsL := argsL) (rest := rest) hlen hst (by show 2 * 0 + _ ≤ _; omega) hd (fun _ _ => ⟨rfl, eT, hc, hs⟩)
    exact own_on st (G v B.U _ (own_afterW I X' hS q4 q2 hw q3 e1 e2 e3) q2 q1)
/-- a constructor by its contract -/
theorem own_callSp {a : Addr} (K : own_S w kf EL p l e R s m args below meth c Z a0 own h0 ws T h fs cells slots) (hx : p.tables.exec = Jvm.exec) (hsz : Ls.size = c.maxLocals) (hy1 : y.name = "<init>")
    (w1 : (Cond.methodLink own index y).before a0 Z = true) (w2 : (Cond.instanceMethod y).before a0 Z = true) (wz : (Cond.initialized y.cls).before a0 Z = true) (wc : (Cond.code y bytes maxL none).before a0 Z = true) (hy : y.cls ≠ "java/lang/invoke/MethodHandle" ∧ y.cls ≠ "java/lang/invoke/VarHandle")
    (hM : own_Met w kf EL l Z a0 y bytes maxL none [] rm (.ref a :: argsL).toArray h ws' Q') (hw : ∀ x ∈ ws', x ∈ fs) (hlen : ∀ sig, parseMethodDescriptor y.desc = some sig → argsL.length = sig.parameters.length) (hst : St = argsL.reverse ++ .ref a :: rest) (W : Nat) (hW : (rest.map fun v => v.category).sum ≤ W)
    (hd : decode c.code pc = .ok (.invokespecial index, 3)) (hp : pc + 3 = pc') (hf : rm.frames + 1 ≤ R.frames) (hl : W + (maxL + 11) + rm.locals ≤ R.locals) (hc : cells + rm.cells ≤ R.cells) (hs : slots + rm.slots ≤ R.slots)
    (G : ∀ (v : Option Value) (T' : State) (h' : Heap), own_S w kf EL p l e R s m args below meth c Z a0 own h0 ws T' h' fs (cells + rm.cells) (slots + rm.slots) → Keep h h' ws' → Q' v h' → own_Go p.tables e below P T' (mkF m pc' Ls (v.toList ++ rest))) :
    own_Go p.tables e below P T (mkF m pc Ls St) := by
  subst hp
  obtain ⟨vm0, locs, k0, X, eT, I⟩ := K
  have hZ : Z.Warmed39 (s.setVm vm0).vm := I.1
  cases w with
  | false =>
    obtain ⟨v, vm₁, B, -, X', ⟨L, ⟨q1, q2, q3⟩, e1, e2, e3⟩, st⟩ := X.specialBack hx (y := y) hy1 I.2.1 (mvT hZ w1) (mvT hZ w2) (mvT hZ wc) hy (own_backN (len := 3) (W := W) hM I hw wc wz hf hl) (g := mkF m pc Ls St) rfl hsz (Steps.refl _) (a := a) (argsL := argsL) (rest := rest) hlen hst (by show 2 * 0 + _ ≤ _; omega) hd (fun _ _ => ⟨rfl, eT, hc, hs⟩)
    exact own_on st (G v B.U _ (own_afterN I X' q2 hw q3 e1 e2 e3) q2 q1)
  | true =>
    obtain ⟨v, vm₁, B, -, X', hS, hgr, ⟨L, ⟨q1, q2, q3, q4⟩, e1, e2, e3⟩, st⟩ := X.specialBackS hx (y := y) hy1 I.2.1 (mvT hZ w1) (mvT hZ w2) (mvT hZ wc) hy (own_backW (len := 3) (W := W) hM I hw wc wz hf hl) (g := mkF m pc Ls St) rfl hsz (Steps.refl _) (a := a) (argsL := argsL) (rest := rest) hlen hst (by show 2 * 0 + _ ≤ _; omega) hd (fun _ _ => ⟨rfl, eT, hc, hs⟩)
    exact own_on st (G v B.U _ (own_afterW I X' hS q4 q2 hw q3 e1 e2 e3) q2 q1)
/-- invokevirtual by the contract of the body that the receiver's class selects -/
theorem own_callV {C : String} {b : Addr} (K : own_S w kf EL p l e R s m args below meth c Z a0 own h0 ws T h fs cells slots) (hx : p.tables.exec = Jvm.exec) (hsz : Ls.size = c.maxLocals)
    (w1 : (Cond.methodLink own index y).before a0 Z = true) (w2 : (Cond.declares y).before a0 Z = true) (hnf : ∀ U : State, Z.Warmed39 U.vm → NotFace U y) (w3 : (Cond.selects C y z).before a0 Z = true) (w4 : (Cond.instanceMethod z).before a0 Z = true) (wz : (Cond.initialized z.cls).before a0 Z = true) (wc : (Cond.code z bytes maxL ret).before a0 Z = true) (hy : y.cls ≠ "java/lang/invoke/MethodHandle" ∧ y.cls ≠ "java/lang/invoke/VarHandle") (E : Exa Z h b C)
    (hM : own_Met w kf EL l Z a0 z bytes maxL ret [] rm (.ref b :: argsL).toArray h ws' Q') (hw : ∀ x ∈ ws', x ∈ fs) (hlen : ∀ sig, parseMethodDescriptor y.desc = some sig → argsL.length = sig.parameters.length) (hst : St = argsL.reverse ++ .ref b :: rest) (W : Nat) (hW : (rest.map fun v => v.category).sum ≤ W)
    (hd : decode c.code pc = .ok (.invokevirtual index, 3)) (hp : pc + 3 = pc') (hf : rm.frames + 1 ≤ R.frames) (hl : W + (maxL + 11) + rm.locals ≤ R.locals) (hc : cells + rm.cells ≤ R.cells) (hs : slots + rm.slots ≤ R.slots)
    (G : ∀ (v : Option Value) (T' : State) (h' : Heap), own_S w kf EL p l e R s m args below meth c Z a0 own h0 ws T' h' fs (cells + rm.cells) (slots + rm.slots) → Keep h h' ws' → Q' v h' → own_Go p.tables e below P T' (mkF m pc' Ls (v.toList ++ rest))) :
    own_Go p.tables e below P T (mkF m pc Ls St) := by
  subst hp
  obtain ⟨vm0, locs, k0, X, eT, I⟩ := K
  have hZ : Z.Warmed39 (s.setVm vm0).vm := I.1
  obtain ⟨cB, kB, b1, b2, b3⟩ := isOf hZ eT E
  cases w with
  | false =>
    obtain ⟨v, vm₁, B, -, X', ⟨L, ⟨q1, q2, q3⟩, e1, e2, e3⟩, st⟩ := X.virtualBack hx (y := y) (z := z) I.2.1 (mvT hZ w1) (mvT hZ w2) (hnf _ hZ) (mvT hZ w3) (mvT hZ w4) hy (own_backN (len := 3) (W := W) hM I hw wc wz hf hl) b1 b3 (g := mkF m pc Ls St) rfl hsz (Steps.refl _) (argsL := argsL) (rest := rest) hlen hst (by show 2 * 0 + _ ≤ _; omega) hd (fun _ _ => ⟨rfl, eT, hc, hs⟩)
    exact own_on st (G v B.U _ (own_afterN I X' q2 hw q3 e1 e2 e3) q2 q1)
  | true =>
    obtain ⟨v, vm₁, B, -, X', hS, hgr, ⟨L, ⟨q1, q2, q3, q4⟩, e1, e2, e3⟩, st⟩ := X.virtualBackS hx (y := y) (z := z) I.2.1 (mvT hZ w1) (mvT hZ w2) (hnf _ hZ) (mvT hZ w3) (mvT hZ w4) hy (own_backW (len := 3) (W := W) hM I hw wc wz hf hl) b1 b3 (g := mkF m pc Ls St) rfl hsz (Steps.refl _) (argsL := argsL) (rest := rest) hlen hst (by show 2 * 0 + _ ≤ _; omega) hd (fun _ _ => ⟨rfl, eT, hc, hs⟩)
    exact own_on st (G v B.U _ (own_afterW I X' hS q4 q2 hw q3 e1 e2 e3) q2 q1)
/-- invokevirtual where the entry names a class beneath the declaring one -/
theorem own_callVU {C owner : String} {b : Addr} (K : own_S w kf EL p l e R s m args below meth c Z a0 own h0 ws T h fs cells slots) (hx : p.tables.exec = Jvm.exec) (hsz : Ls.size = c.maxLocals)
    (w1 : (Cond.methodLink own index y).before a0 Z = true) (wsm : (Cond.sameMethod y.cls owner y.name y.desc).before a0 Z = true) (w2 : (Cond.declares ⟨owner, y.name, y.desc⟩).before a0 Z = true) (w3 : (Cond.selects C y z).before a0 Z = true) (w4 : (Cond.instanceMethod z).before a0 Z = true) (wz : (Cond.initialized z.cls).before a0 Z = true) (wc : (Cond.code z bytes maxL ret).before a0 Z = true) (hy : owner ≠ "java/lang/invoke/MethodHandle" ∧ owner ≠ "java/lang/invoke/VarHandle") (E : Exa Z h b C)
    (hM : own_Met w kf EL l Z a0 z bytes maxL ret [] rm (.ref b :: argsL).toArray h ws' Q') (hw : ∀ x ∈ ws', x ∈ fs) (hlen : ∀ sig, parseMethodDescriptor y.desc = some sig → argsL.length = sig.parameters.length) (hst : St = argsL.reverse ++ .ref b :: rest) (W : Nat) (hW : (rest.map fun v => v.category).sum ≤ W)
    (hd : decode c.code pc = .ok (.invokevirtual index, 3)) (hp : pc + 3 = pc') (hf : rm.frames + 1 ≤ R.frames) (hl : W + (maxL + 11) + rm.locals ≤ R.locals) (hc : cells + rm.cells ≤ R.cells) (hs : slots + rm.slots ≤ R.slots)
    (G : ∀ (v : Option Value) (T' : State) (h' : Heap), own_S w kf EL p l e R s m args below meth c Z a0 own h0 ws T' h' fs (cells + rm.cells) (slots + rm.slots) → Keep h h' ws' → Q' v h' → own_Go p.tables e below P T' (mkF m pc' Ls (v.toList ++ rest))) :
    own_Go p.tables e below P T (mkF m pc Ls St) := by
  subst hp
  obtain ⟨vm0, locs, k0, X, eT, I⟩ := K
  have hZ : Z.Warmed39 (s.setVm vm0).vm := I.1
  obtain ⟨cB, kB, b1, b2, b3⟩ := isOf hZ eT E
  cases w with
  | false =>
    obtain ⟨v, vm₁, B, -, X', ⟨L, ⟨q1, q2, q3⟩, e1, e2, e3⟩, st⟩ := X.virtualBackUp hx (x := y) (y := z) I.2.1 (mvT hZ w1) (mvT hZ wsm) (mvT hZ w2) hy (mvT hZ w3) (mvT hZ w4) (own_backN (len := 3) (W := W) hM I hw wc wz hf hl) b1 b3 (g := mkF m pc Ls St) rfl hsz (Steps.refl _) (argsL := argsL) (rest := rest) hlen hst (by show 2 * 0 + _ ≤ _; omega) hd (fun _ _ => ⟨rfl, eT, hc, hs⟩)
    exact own_on st (G v B.U _ (own_afterN I X' q2 hw q3 e1 e2 e3) q2 q1)
  | true =>
    obtain ⟨v, vm₁, B, -, X', hS, hgr, ⟨L, ⟨q1, q2, q3, q4⟩, e1, e2, e3⟩, st⟩ := virtualBackUpS X hx (x := y) (y := z) I.2.1 (mvT hZ w1) (mvT hZ wsm) (mvT hZ w2) hy (mvT hZ w3) (mvT hZ w4) (own_backW (len := 3) (W := W) hM I hw wc wz hf hl) b1 b3 (g := mkF m pc Ls St) rfl hsz (Steps.refl _) (argsL := argsL) (rest := rest) hlen hst (by show 2 * 0 + _ ≤ _; omega) hd (fun _ _ => ⟨rfl, eT, hc, hs⟩)
    exact own_on st (G v B.U _ (own_afterW I X' hS q4 q2 hw q3 e1 e2 e3) q2 q1)
/-- a constructor of the JDK by a law of its own -/
theorem own_bySp {a : Addr} {kc ks : Nat} {QL : Option Value → Heap → List Loc → Prop} (K : own_S w kf EL p l e R s m args below meth c Z a0 own h0 ws T h fs cells slots) (hx : p.tables.exec = Jvm.exec) (hsz : Ls.size = c.maxLocals) (hy1 : y.name = "<init>")
    (w1 : (Cond.methodLink own index y).before a0 Z = true) (w2 : (Cond.instanceMethod y).before a0 Z = true) (wc : (Cond.code y bytes maxL none).before a0 Z = true) (hy : y.cls ≠ "java/lang/invoke/MethodHandle" ∧ y.cls ≠ "java/lang/invoke/VarHandle")
    (hB : ∀ vm0 : Vm, Z.Warmed39 (s.setVm vm0).vm → own_BackF l R p e below (s.setVm vm0) args y 3 W (.ref a :: argsL).toArray h kc ks QL) (hQ : ∀ v h' L, QL v h' L → Keep h h' ws' ∧ Fr Z.heap.size L) (hw : ∀ x ∈ ws', x ∈ fs) (hlen : ∀ sig, parseMethodDescriptor y.desc = some sig → argsL.length = sig.parameters.length) (hst : St = argsL.reverse ++ .ref a :: rest) (hW : (rest.map fun v => v.category).sum ≤ W)
    (hd : decode c.code pc = .ok (.invokespecial index, 3)) (hp : pc + 3 = pc') (hc : cells + kc ≤ R.cells) (hs : slots + ks ≤ R.slots)
    (G : ∀ (v : Option Value) (T' : State) (h' : Heap) (L : List Loc), own_S w kf EL p l e R s m args below meth c Z a0 own h0 ws T' h' fs (cells + kc) (slots + ks) → Keep h h' ws' → QL v h' L → own_Go p.tables e below P T' (mkF m pc' Ls (v.toList ++ rest))) :
    own_Go p.tables e below P T (mkF m pc Ls St) := by
  subst hp
  obtain ⟨vm0, locs, k0, X, eT, I⟩ := K
  have hZ : Z.Warmed39 (s.setVm vm0).vm := I.1
  obtain ⟨v, vm₁, B, -, X', ⟨L, q1, e1, e2, e3⟩, st⟩ := X.specialBack hx (y := y) hy1 I.2.1 (mvT hZ w1) (mvT hZ w2) (mvT hZ wc) hy (hB vm0 hZ) (g := mkF m pc Ls St) rfl hsz (Steps.refl _) (a := a) (argsL := argsL) (rest := rest) hlen hst (by show 2 * 0 + _ ≤ _; omega) hd (fun _ _ => ⟨rfl, eT, hc, hs⟩)
  obtain ⟨q2, q3⟩ := hQ _ _ _ q1
  exact own_on st (G v B.U _ L (own_afterN I X' q2 hw q3 e1 e2 e3) q2 q1)
/-- an instance method of the JDK by a law of its own -/
theorem own_byV {C : String} {b : Addr} {kc ks : Nat} {QL : Option Value → Heap → List Loc → Prop} (K : own_S w kf EL p l e R s m args below meth c Z a0 own h0 ws T h fs cells slots) (hx : p.tables.exec = Jvm.exec) (hsz : Ls.size = c.maxLocals)
    (w1 : (Cond.methodLink own index y).before a0 Z = true) (w2 : (Cond.declares y).before a0 Z = true) (hnf : ∀ U : State, Z.Warmed39 U.vm → NotFace U y) (w3 : (Cond.selects C y z).before a0 Z = true) (w4 : (Cond.instanceMethod z).before a0 Z = true) (hy : y.cls ≠ "java/lang/invoke/MethodHandle" ∧ y.cls ≠ "java/lang/invoke/VarHandle") (E : Exa Z h b C)
    (hB : ∀ vm0 : Vm, Z.Warmed39 (s.setVm vm0).vm → own_BackF l R p e below (s.setVm vm0) args z 3 W (.ref b :: argsL).toArray h kc ks QL) (hQ : ∀ v h' L, QL v h' L → Keep h h' ws' ∧ Fr Z.heap.size L) (hw : ∀ x ∈ ws', x ∈ fs) (hlen : ∀ sig, parseMethodDescriptor y.desc = some sig → argsL.length = sig.parameters.length) (hst : St = argsL.reverse ++ .ref b :: rest) (hW : (rest.map fun v => v.category).sum ≤ W)
    (hd : decode c.code pc = .ok (.invokevirtual index, 3)) (hp : pc + 3 = pc') (hc : cells + kc ≤ R.cells) (hs : slots + ks ≤ R.slots)
    (G : ∀ (v : Option Value) (T' : State) (h' : Heap) (L : List Loc), own_S w kf EL p l e R s m args below meth c Z a0 own h0 ws T' h' fs (cells + kc) (slots + ks) → Keep h h' ws' → QL v h' L → own_Go p.tables e below P T' (mkF m pc' Ls (v.toList ++ rest))) :
    own_Go p.tables e below P T (mkF m pc Ls St) := by
  subst hp
  obtain ⟨vm0, locs, k0, X, eT, I⟩ := K
  have hZ : Z.Warmed39 (s.setVm vm0).vm := I.1
  obtain ⟨cB, kB, b1, b2, b3⟩ := isOf hZ eT E
  obtain ⟨v, vm₁, B, -, X', ⟨L, q1, e1, e2, e3⟩, st⟩ := X.virtualBack hx (y := y) (z := z) I.2.1 (mvT hZ w1) (mvT hZ w2) (hnf _ hZ) (mvT hZ w3) (mvT hZ w4) hy (hB vm0 hZ) b1 b3 (g := mkF m pc Ls St) rfl hsz (Steps.refl _) (argsL := argsL) (rest := rest) hlen hst (by show 2 * 0 + _ ≤ _; omega) hd (fun _ _ => ⟨rfl, eT, hc, hs⟩)
  obtain ⟨q2, q3⟩ := hQ _ _ _ q1
  exact own_on st (G v B.U _ L (own_afterN I X' q2 hw q3 e1 e2 e3) q2 q1)
/-- ldc of a String constant of EL, read -/
theorem own_ldcR {text : String} {n : Nat} {vs : List Value} {zn : Int32} (K : own_S true kf EL p l e R s m args below meth c Z a0 own h0 ws T h fs cells slots) (hx : p.tables.exec = Jvm.exec) (w1 : (Cond.stringLink own index text).before a0 Z = true) (wS : ∀ a ∈ Bundle.stringAtoms, a.before a0 Z = true) (hmem : (own, index) ∈ EL)
    (ht : (∀ c ∈ text.toList, c.toNat < 256) ∧ text.toList.map (fun c => Value.int (Jvm.Lit.byteI c.toNat.toUInt16)) = vs) (hz : ¬ zn < 0) (hlz : zn.toNatClampNeg = vs.length)
    (hd : decode c.code pc = .ok (.ldc index, 2)) (hp : pc + 2 = pc') (hn : 4 * text.toList.length ≤ n) (hbig : n ≤ 536870912) (hc : cells + 2 ≤ R.cells) (hs : slots + (n + 4) ≤ R.slots)
    (G : ∀ (a : Addr) (T' : State) (h' : Heap) (b : Addr) (k : ClassId), own_S true kf EL p l e R s m args below meth c Z a0 own h0 ws T' h' fs (cells + 2) (slots + (n + 4)) → Ext h h' → Exa Z h' a "java/lang/String" → Fld Z h' a "java/lang/String" "coder" "B" (.int 0) → Fld Z h' a "java/lang/String" "value" "[B" (.ref b) → Arv Z h' b k .byte zn vs (.int 0) → (∀ x ∈ fs, x ≠ a ∧ x ≠ b) →
      own_Go p.tables e below P T' (mkF m pc' Ls (.ref a :: St))) : own_Go p.tables e below P T (mkF m pc Ls St) := by
  subst hp
  obtain ⟨vm0, locs, k0, X, eT, I⟩ := K
  obtain ⟨h1, h2, h3, h4, h5, h6, h7, h8, h9, h10, h11, hst0, h12⟩ := id I
  obtain ⟨a, T', h', k1, b, k, X', e', E, hS, hk, hZ', ho', Ex, Fc, Fv, Ar, -, -, C, -, hne, st⟩ := ldcCH X hx h1 h2 w1 wS eT (s := s.setVm vm0) (k0 := h.size) ((State.WarmedH.refl (s.setVm vm0)).since _) (Nat.le_refl _) h8 hmem h9.1 ht hz hlz (g := mkF m pc Ls St) rfl hd hn hbig hc hs
  have I' := I.wide (L := []) rfl C (k1 := h'.size) ⟨hS.1, fun j q hj hq => ⟨(hS.2 j q hj hq).1, Nat.lt_of_lt_of_le (hS.2 j q hj hq).2 hk⟩⟩ E.1 (Nat.le_refl _) ((Keep.refl h []).ext E) (fun _ q => nomatch q) (Fr.nil _)
  rw [List.append_nil] at I'
  have h12' : ∀ x ∈ fs, x ≠ a ∧ x ≠ b := fun x hx => hne x (C.safe (h12 x hx).2.2.1 (h12 x hx).2.2.2)
  exact own_by st (G a T' h' b k ⟨T'.vm, locs, _, X', e', I'⟩ E Ex Fc Fv Ar h12')
end OwnCalls
/-! OWN KIT, Strings: own_Str: the object at a is a String that spells cs -/
section OwnStr
variable {Z : State} {h h' : Heap} {a x : Addr} {cs ds : List Int32} {a0 : Array Value}
def own_Str (Z : State) (h : Heap) (a : Addr) (cs : List Int32) : Prop :=
  ∃ (t : Addr) (kb : ClassId) (cd N2 : Int32) (vs : List Value), Exa Z h a "java/lang/String" ∧ Fld Z h a "java/lang/String" "value" "[B" (.ref t) ∧ Fld Z h a "java/lang/String" "coder" "B" (.int cd) ∧ Arv Z h t kb .byte N2 vs (.int 0) ∧ StrChars.Road.CodA cs cd N2 vs ∧ (∀ c ∈ cs, ¬ c < 0 ∧ ¬ (65535 : Int32) < c) ∧ cs.length ≤ 4000
theorem own_Str.exa (F : own_Str Z h a cs) : Exa Z h a "java/lang/String" := by obtain ⟨t, kb, cd, N2, vs, E, -⟩ := F; exact E
theorem own_Str.lt (F : own_Str Z h a cs) : a < h.size := F.exa.lt
theorem own_Str.ext (F : own_Str Z h a cs) (E : Ext h h') : own_Str Z h' a cs := by
  obtain ⟨t, kb, cd, N2, vs, q1, q2, q3, q4, r⟩ := F; exact ⟨t, kb, cd, N2, vs, q1.ext E, q2.ext E, q3.ext E, q4.ext E, r⟩
/-- x is neither a String's cell nor a byte[]'s -/
def own_Off (Z : State) (h : Heap) (x : Addr) : Prop := ∀ cell : Cell, h[x]? = some cell → Z.vm.findClass "java/lang/String" ≠ some cell.cls ∧ ∀ ty, Z.isArrayOf cell ty → ty ≠ .byte
theorem own_Off.exa {C : String} {n : Nat} (E : Exa Z h x C) (wi : (Cond.instantiable C n).before a0 Z = true) (hC : C ≠ "java/lang/String") : own_Off Z h x := fun cell hc => by
  obtain ⟨cell', k, h1, h2, h3, -⟩ := E
  cases hc.symm.trans h1
  obtain ⟨c2, k2, i1, i2, i3, -⟩ := Cond.instantiable_spec wi
  cases h2.symm.trans i1
  refine ⟨fun q => ?_, fun ty ⟨_, kk, hk, comp, hkind⟩ => ?_⟩
  · obtain ⟨k1, a1, a2⟩ := Vm.findClass_spec h2
    obtain ⟨k2, b1, b2⟩ := Vm.findClass_spec q
    cases a1.symm.trans b1
    exact hC (a2.symm.trans b2)
  · rw [i2] at hk; cases hk; rw [i3] at hkind; cases hkind
theorem own_Str.keep {ws : List Addr} (F : own_Str Z h a cs) (K : Keep h h' ws) (hn : ∀ x ∈ ws, own_Off Z h x) : own_Str Z h' a cs := by
  obtain ⟨t, kb, cd, N2, vs, q1, q2, q3, q4, r⟩ := F
  have na : a ∉ ws := fun hm => by
    obtain ⟨cell, k, h1, h2, -⟩ := q1
    exact (hn a hm cell h1).1 h2
  have nt : t ∉ ws := fun hm => by
    obtain ⟨c, A, -⟩ := q4
    exact (hn t hm c A.1).2 _ A.2.1 rfl
  exact ⟨t, kb, cd, N2, vs, q1.keep K, q2.keep K na, q3.keep K na, q4.keep K nt, r⟩
theorem own_off0 : ∀ x ∈ ([] : List Addr), own_Off Z h x := fun _ q => nomatch q
theorem own_off1 (q : own_Off Z h x) : ∀ y ∈ [x], own_Off Z h y := fun y hy => by cases List.mem_singleton.mp hy; exact q
theorem own_Str.wr {sl : Nat} {v : Value} (F : own_Str Z h a cs) (W : Wr h h' x sl v) (hn : own_Off Z h x) : own_Str Z h' a cs := F.keep (Keep.of_wr W) (own_off1 hn)
theorem own_Str.of0 {t : Addr} {kb : ClassId} {N2 : Int32} {vs : List Value} (E : Exa Z h a "java/lang/String") (V : Fld Z h a "java/lang/String" "value" "[B" (.ref t)) (C : Fld Z h a "java/lang/String" "coder" "B" (.int 0)) (K : Arv Z h t kb .byte N2 vs (.int 0)) (hN : N2 = Int32.ofNat cs.length) (hv : vs = (cs.map (fun c => c.toInt8.toInt32)).map Value.int) (hp : ∀ c ∈ cs, ¬ c < 0 ∧ ¬ (255 : Int32) < c) (hl : cs.length ≤ 4000) : own_Str Z h a cs := by
  subst hN hv
  refine ⟨t, kb, 0, _, _, E, V, C, K, StrChars.Road.codOf rfl (fun c hc => (hp c hc).2), fun c hc => ⟨(hp c hc).1, fun q => (hp c hc).2 ?_⟩, hl⟩
  rw [Int32.lt_iff_toInt_lt] at q ⊢
  have e1 : (65535 : Int32).toInt = 65535 := rfl
  have e2 : (255 : Int32).toInt = 255 := rfl
  omega
end OwnStr
section OwnStrCalls
variable {p : Program} {l : Launch} {e : Env} {R : Room} {s : State} {m : MethodId} {args : Array Value} {below : List Frame} {meth : Method} {c : Code} {T : State} {cells slots : Nat} {Z : State} {a0 : Array Value} {h h0 : Heap} {w kf : Bool} {EL : List (String × Nat)} {own : String} {ws fs : List Addr} {P : Outcome → State → Prop} {pc pc' : Nat} {Ls : Array Slot} {index : Nat} {rest : List Value} {W : Nat} {z : Int32}
/-- new String(char[]) of 1 to 4000 chars, each 0 to 255 -/
theorem own_strNew {x b : Addr} {kC : ClassId} {cs : List Int32} {d v0 c0 : Value} {N : Int32} {n : Nat} {bytes : ByteArray} {maxL : Nat} (K : own_S w kf EL p l e R s m args below meth c Z a0 own h0 ws T h fs cells slots) (hx : p.tables.exec = Jvm.exec) (hsz : Ls.size = c.maxLocals)
    (w1 : (Cond.methodLink own index (⟨"java/lang/String", "<init>", "([C)V"⟩ : MethodName)).before a0 Z = true) (w2 : (Cond.instanceMethod (⟨"java/lang/String", "<init>", "([C)V"⟩ : MethodName)).before a0 Z = true) (wc : (Cond.code (⟨"java/lang/String", "<init>", "([C)V"⟩ : MethodName) bytes maxL none).before a0 Z = true)
    (hws : ∀ d ∈ StrChars.Road.words, d.before a0 Z = true) (wi : (Cond.instantiable "java/lang/String" 4).before a0 Z = true) (ha : x ∈ fs) (E : Exa Z h x "java/lang/String") (V : Fld Z h x "java/lang/String" "value" "[B" v0) (C : Fld Z h x "java/lang/String" "coder" "B" c0) (A : Arv Z h b kC .char N (cs.map Value.int) d)
    (O2 : Sta Z Z.heap "java/lang/String" "COMPACT_STRINGS" "Z" (.int z)) (P5 : ¬ z = 0) (hn : cs.length = n) (hN : N = Int32.ofNat n) (l0 : 0 < n) (l2 : n ≤ 4000) (hp : ∀ c ∈ cs, ¬ c < 0 ∧ ¬ (255 : Int32) < c) (hpd : ∀ sig, parseMethodDescriptor "([C)V" = some sig → [Value.ref b].length = sig.parameters.length)
    (W : Nat) (hW : (rest.map fun v => v.category).sum ≤ W) (hd : decode c.code pc = .ok (.invokespecial index, 3)) (hpc : pc + 3 = pc') (hfr : 4 ≤ R.frames) (hlo : W + 65 ≤ R.locals) (hc : cells + 1 ≤ R.cells) (hs : slots + n ≤ R.slots)
    (G : ∀ (T' : State) (h' : Heap), own_S w kf EL p l e R s m args below meth c Z a0 own h0 ws T' h' fs (cells + 1) (slots + n) → Keep h h' [x] → own_Str Z h' x cs → own_Go p.tables e below P T' (mkF m pc' Ls rest)) : own_Go p.tables e below P T (mkF m pc Ls (.ref b :: .ref x :: rest)) :=
  own_bySp (W := W) K hx hsz rfl w1 w2 wc (by decide) (argsL := [.ref b]) (rest := rest) (fun vm0 hZ => StrChars.Road.backV (W := W) hZ hws wi (n0 := Z.heap.size) (own_fresh K ha).1 (own_ext0 K).1 E V C A (own_sta K O2) P5 hn hN l0 l2 hp rfl hfr hlo) (fun v h' L q => ⟨q.2.2.1, q.2.1⟩) (own_mem1 ha) hpd rfl hW hd hpc hc hs
    fun v T' h' L K' Kp ⟨hv, _, _, E', C', t, kb, _, _, _, V', A'⟩ => by subst hv; exact G T' h' K' Kp (own_Str.of0 E' V' C' A' (by rw [hN, hn]) rfl hp (by omega))
theorem own_strLen {x : Addr} {cs : List Int32} (K : own_S w kf EL p l e R s m args below meth c Z a0 own h0 ws T h fs cells slots) (hx : p.tables.exec = Jvm.exec) (hsz : Ls.size = c.maxLocals)
    (w1 : (Cond.methodLink own index (⟨"java/lang/String", "length", "()I"⟩ : MethodName)).before a0 Z = true) (w2 : (Cond.declares (⟨"java/lang/String", "length", "()I"⟩ : MethodName)).before a0 Z = true) (w3 : (Cond.selects "java/lang/String" (⟨"java/lang/String", "length", "()I"⟩ : MethodName) (⟨"java/lang/String", "length", "()I"⟩ : MethodName)).before a0 Z = true) (w4 : (Cond.instanceMethod (⟨"java/lang/String", "length", "()I"⟩ : MethodName)).before a0 Z = true)
    (hwl : ∀ d ∈ StrChars.Road.wordsLen, d.before a0 Z = true) (wi : (Cond.instantiable "java/lang/String" 4).before a0 Z = true) (F : own_Str Z h x cs) (O2 : Sta Z Z.heap "java/lang/String" "COMPACT_STRINGS" "Z" (.int z)) (P5 : ¬ z = 0) (hpd : ∀ sig, parseMethodDescriptor "()I" = some sig → ([] : List Value).length = sig.parameters.length)
    (W : Nat) (hW : (rest.map fun v => v.category).sum ≤ W) (hd : decode c.code pc = .ok (.invokevirtual index, 3)) (hpc : pc + 3 = pc') (hfr : 2 ≤ R.frames) (hlo : W + 25 ≤ R.locals) (hc : cells ≤ R.cells) (hs : slots ≤ R.slots)
    (G : ∀ T' : State, own_S w kf EL p l e R s m args below meth c Z a0 own h0 ws T' h fs cells slots → own_Go p.tables e below P T' (mkF m pc' Ls (.int (Int32.ofNat cs.length) :: rest))) : own_Go p.tables e below P T (mkF m pc Ls (.ref x :: rest)) := by
  obtain ⟨t, kb, cd, N2, vs, q1, q2, q3, q4, q5, q6, q7⟩ := id F
  refine own_byV (W := W) (QL := fun v h' L => v = some (.int (Int32.ofNat cs.length)) ∧ L = [] ∧ h' = h) K hx hsz w1 w2 (fun U hU => notFace_of_selects (args := #[]) (mvT hU w3)) w3 w4 (by decide) q1 (argsL := []) (rest := rest) (ws' := []) (fun vm0 hZ => StrChars.Road.lenW (W := W) hZ hwl wi q1 q2 q3 q4 q5 q6 (own_sta K O2) P5 q7 hfr hlo) (fun v h' L q => ⟨by rw [q.2.2]; exact Keep.refl _ _, by rw [q.2.1]; exact Fr.nil _⟩) (fun _ q => nomatch q) hpd rfl hW hd hpc hc hs ?_
  rintro v T' h' L K' Kp ⟨rfl, rfl, rfl⟩
  exact G T' K'
theorem own_strCh {x : Addr} {cs : List Int32} {fm : Value} {i : Nat} {j : Int32} (K : own_S w kf EL p l e R s m args below meth c Z a0 own h0 ws T h fs cells slots) (hx : p.tables.exec = Jvm.exec) (hsz : Ls.size = c.maxLocals)
    (w1 : (Cond.methodLink own index (⟨"java/lang/String", "charAt", "(I)C"⟩ : MethodName)).before a0 Z = true) (w2 : (Cond.declares (⟨"java/lang/String", "charAt", "(I)C"⟩ : MethodName)).before a0 Z = true) (w3 : (Cond.selects "java/lang/String" (⟨"java/lang/String", "charAt", "(I)C"⟩ : MethodName) (⟨"java/lang/String", "charAt", "(I)C"⟩ : MethodName)).before a0 Z = true) (w4 : (Cond.instanceMethod (⟨"java/lang/String", "charAt", "(I)C"⟩ : MethodName)).before a0 Z = true)
    (hwl : ∀ d ∈ StrChars.Road.wordsChN, d.before a0 Z = true) (wi : (Cond.instantiable "java/lang/String" 4).before a0 Z = true) (F : own_Str Z h x cs) (hlat : ∀ c ∈ cs, ¬ (255 : Int32) < c) (O2 : Sta Z Z.heap "java/lang/String" "COMPACT_STRINGS" "Z" (.int z)) (P5 : ¬ z = 0) (O4 : Sta Z Z.heap "jdk/internal/util/Preconditions" "SIOOBE_FORMATTER" "Ljava/util/function/BiFunction;" fm) (rf : fm.isRef = true) (hi : i < cs.length) (hj : j = Int32.ofNat i) (hpd : ∀ sig, parseMethodDescriptor "(I)C" = some sig → [Value.int j].length = sig.parameters.length)
    (W : Nat) (hW : (rest.map fun v => v.category).sum ≤ W) (hd : decode c.code pc = .ok (.invokevirtual index, 3)) (hpc : pc + 3 = pc') (hfr : 4 ≤ R.frames) (hlo : W + 53 ≤ R.locals) (hc : cells ≤ R.cells) (hs : slots ≤ R.slots)
    (G : ∀ T' : State, own_S w kf EL p l e R s m args below meth c Z a0 own h0 ws T' h fs cells slots → own_Go p.tables e below P T' (mkF m pc' Ls (.int (cs.getD i 0) :: rest))) : own_Go p.tables e below P T (mkF m pc Ls (.int j :: .ref x :: rest)) := by
  obtain ⟨t, kb, cd, N2, vs, q1, q2, q3, q4, q5, q6, q7⟩ := id F
  have hcd : cd = 0 := by
    rcases q5 with q | ⟨-, -, -, c, hc, hb⟩
    · exact q.1
    · exact absurd hb (hlat c hc)
  subst hcd
  refine own_byV (W := W) (QL := fun v h' L => v = some (.int (cs.getD i 0)) ∧ L = [] ∧ h' = h) K hx hsz w1 w2 (fun U hU => notFace_of_selects (args := #[]) (mvT hU w3)) w3 w4 (by decide) q1 (argsL := [.int j]) (rest := rest) (ws' := []) (fun vm0 hZ => StrChars.Road.chN (W := W) hZ hwl wi q1 q2 q3 q4 q5 q6 (own_sta K O2) P5 (own_sta K O4) rf q7 hi hj hfr hlo) (fun v h' L q => ⟨by rw [q.2.2]; exact Keep.refl _ _, by rw [q.2.1]; exact Fr.nil _⟩) (fun _ q => nomatch q) hpd rfl hW hd hpc hc hs ?_
  rintro v T' h' L K' Kp ⟨rfl, rfl, rfl⟩
  exact G T' K'
theorem own_strEq {x y : Addr} {cs ds : List Int32} (K : own_S w kf EL p l e R s m args below meth c Z a0 own h0 ws T h fs cells slots) (hx : p.tables.exec = Jvm.exec) (hsz : Ls.size = c.maxLocals)
    (w1 : (Cond.methodLink own index (⟨"java/lang/String", "equals", "(Ljava/lang/Object;)Z"⟩ : MethodName)).before a0 Z = true) (w2 : (Cond.declares (⟨"java/lang/String", "equals", "(Ljava/lang/Object;)Z"⟩ : MethodName)).before a0 Z = true) (w3 : (Cond.selects "java/lang/String" (⟨"java/lang/String", "equals", "(Ljava/lang/Object;)Z"⟩ : MethodName) (⟨"java/lang/String", "equals", "(Ljava/lang/Object;)Z"⟩ : MethodName)).before a0 Z = true) (w4 : (Cond.instanceMethod (⟨"java/lang/String", "equals", "(Ljava/lang/Object;)Z"⟩ : MethodName)).before a0 Z = true)
    (hwl : ∀ d ∈ StrChars.Road.wordsEq, d.before a0 Z = true) (wi : (Cond.instantiable "java/lang/String" 4).before a0 Z = true) (F : own_Str Z h x cs) (F' : own_Str Z h y ds) (O2 : Sta Z Z.heap "java/lang/String" "COMPACT_STRINGS" "Z" (.int z)) (P5 : ¬ z = 0) (hpd : ∀ sig, parseMethodDescriptor "(Ljava/lang/Object;)Z" = some sig → [Value.ref y].length = sig.parameters.length)
    (W : Nat) (hW : (rest.map fun v => v.category).sum ≤ W) (hd : decode c.code pc = .ok (.invokevirtual index, 3)) (hpc : pc + 3 = pc') (hfr : 2 ≤ R.frames) (hlo : W + 28 ≤ R.locals) (hc : cells ≤ R.cells) (hs : slots ≤ R.slots)
    (G : ∀ T' : State, own_S w kf EL p l e R s m args below meth c Z a0 own h0 ws T' h fs cells slots → own_Go p.tables e below P T' (mkF m pc' Ls (.int (if cs = ds then 1 else 0) :: rest))) : own_Go p.tables e below P T (mkF m pc Ls (.ref y :: .ref x :: rest)) := by
  obtain ⟨t, kb, cd, N2, vs, q1, q2, q3, q4, q5, q6, q7⟩ := id F
  obtain ⟨t', kb', cd', N2', vs', r1, r2, r3, r4, r5, r6, r7⟩ := id F'
  refine own_byV (W := W) (QL := fun v h' L => ((v = some (.int 1) ∧ cs = ds) ∨ (v = some (.int 0) ∧ ¬ cs = ds)) ∧ L = [] ∧ h' = h) K hx hsz w1 w2 (fun U hU => notFace_of_selects (args := #[]) (mvT hU w3)) w3 w4 (by decide) q1 (argsL := [.ref y]) (rest := rest) (ws' := []) (fun vm0 hZ => StrChars.Road.eqW (W := W) hZ hwl wi q1 q2 q3 q4 q5 q6 q7 r1 r2 r3 r4 r5 r6 r7 (own_sta K O2) P5 hfr hlo) (fun v h' L q => ⟨by rw [q.2.2]; exact Keep.refl _ _, by rw [q.2.1]; exact Fr.nil _⟩) (fun _ q => nomatch q) hpd rfl hW hd hpc hc hs ?_
  rintro v T' h' L K' Kp ⟨⟨rfl, hq⟩ | ⟨rfl, hq⟩, rfl, rfl⟩
  · have := G T' K'; rw [if_pos hq] at this; exact this
  · have := G T' K'; rw [if_neg hq] at this; exact this
end OwnStrCalls
/-! OWN KIT, contracts that hand back cells which the caller may write (ns) -/
section OwnCoreR
variable {p : Program} {l : Launch} {e : Env} {R : Room} {s : State} {m : MethodId} {args : Array Value} {below : List Frame} {meth : Method} {c : Code} {T T' : State} {cells slots : Nat} {Z : State} {a0 : Array Value} {h h' h0 : Heap} {w kf : Bool} {EL : List (String × Nat)} {own : String} {ws ws' fs : List Addr} {Q : Option Value → Heap → List Addr → Prop} {vm0 vm1 : Vm} {locs L : List Loc} {k0 : Nat} {tb : Tables} {P : Outcome → State → Prop}
def own_PostR (w : Bool) (EL : List (String × Nat)) (Z : State) (rm : Room) (h0 : Heap) (ws : List Addr) (Q : Option Value → Heap → List Addr → Prop) (U : State) (o : Outcome) (U' : State) : Prop :=
  ∃ v L ns, o = .returned v ∧ Q v U'.heap ns ∧ Keep h0 U'.heap ws ∧ Fr Z.heap.size L ∧ CHr Z EL U.vm h0 U'.vm U'.heap ∧ own_End w U o U' L rm.cells rm.slots ∧ ∀ x ∈ ns, Z.heap.size ≤ x ∧ h0.size ≤ x ∧ x < U'.heap.size ∧ Safe Z EL U'.vm U'.heap x
def own_MetR (w kf : Bool) (EL : List (String × Nat)) (l : Launch) (Z : State) (a0 : Array Value) (y : MethodName) (bytes : ByteArray) (maxL : Nat) (ret : Option FieldType) (more : List Cond) (rm : Room) (as' : Array Value) (h0 : Heap) (ws : List Addr) (Q : Option Value → Heap → List Addr → Prop) : Prop :=
  MetFree l y (head1 (Cond.code y bytes maxL ret :: more) rm) (own_Pre EL Z a0 as' h0 ws) (own_K kf) (fun _ U o U' => own_PostR w EL Z rm h0 ws Q U o U')
theorem own_enterR {y : MethodName} {bytes : ByteArray} {maxL : Nat} {ret : Option FieldType} {more : List Cond} {rm : Room} {as' : Array Value} (ho : y.cls = own) (hpl : plainFor y = true)
    (body : ∀ (p : Program) (e : Env) (s : State) (m : MethodId) (below : List Frame) (meth : Method) (c : Code) (T : State), p.tables.exec = Jvm.exec → c.code = bytes → c.maxLocals = maxL → meth.sig.returnType = ret → meth.locks = false → meth.name = y.name →
      own_S w kf EL p l e rm s m as' below meth c Z a0 own h0 ws T h0 ws 0 0 → own_Go p.tables e below (own_PostR w EL Z rm h0 ws Q s) T (entryFrame m as' maxL)) :
    own_MetR w kf EL l Z a0 y bytes maxL ret more rm as' h0 ws Q := by
  subst ho
  refine MetFree.of_bodySF hpl hisR ?_
  intro p e s m args below meth c s₁ Bd hml hP hK
  obtain ⟨rfl, hZ, hh, hE, hEL, hC, hws⟩ := hP
  have X0 : Stand p l e rm s m args below meth c s₁ [] 0 0 := Stand.of_body Bd
  have e0 : s₁.heap = h0 := by rw [← hh, Bd.state]; rfl
  exact body p e s m below meth c s₁ Bd.exec Bd.bytes hml Bd.returns Bd.notSynchronized (name_of_methodNamed Bd.named Bd.method).1
    ⟨s.vm, [], h0.size, X0, e0, hZ, findClass_of_methodNamed Bd.named, Fr.nil _, hE, Keep.refl _ _, (State.WarmedH.refl s).since _, Nat.le_refl _, hEL, CHr.refl hC, fun _ => rfl, hK, ⟨hh, hE⟩, fun x hx => ⟨Or.inl hx, hws x hx⟩⟩
/-- areturn of what may be written -/
theorem own_retRR {pc : Nat} {Ls : Array Slot} {St : List Value} (K : own_S w kf EL p l e R s m args below meth c Z a0 own h0 ws T h fs cells slots) (hx : p.tables.exec = Jvm.exec) (hlk : meth.locks = false) {t : FieldType} {v : Value} (hret : meth.sig.returnType = some t) (ht : t.isReference = true) (hv : v.isRef = true) (hd : decode c.code pc = .ok (.areturn, 1)) (hc : cells ≤ R.cells) (hs : slots ≤ R.slots) (ns : List Addr) (hn : ∀ x ∈ ns, x ∈ fs ∧ h0.size ≤ x) (hQ : Q (some v) h ns) :
    own_Go p.tables e below (own_PostR w EL Z R h0 ws Q s) T (mkF m pc Ls (v :: St)) := by
  have K' := K
  have g : own_Go p.tables e below (own_Post w EL Z R h0 ws (fun v' h' => v' = some v ∧ h' = h) s) T (mkF m pc Ls (v :: St)) := own_retR K hx hlk hret ht hv hd hc hs ⟨rfl, rfl⟩
  obtain ⟨vm0, locs, k0, X, eT, h1, h2, h3, h4, h5, h6, h7, h8, h9, h10, h11, hst, h12⟩ := K'
  have C : CHr Z EL vm0 h T.vm h := CHv.at X h1 h8 h9.1
  have hd' : ∀ frs : List Frame, (T.setFrames frs).vm = T.vm := fun _ => rfl
  have hdir : own_Go p.tables e below (fun o U' => own_Post w EL Z R h0 ws (fun v' h' => v' = some v ∧ h' = h) s o U' ∧ U'.vm = T.vm) T (mkF m pc Ls (v :: St)) := by
    have e1 : CHr Z EL s.vm h0 T.vm T.heap := by rw [eT]; exact h9.trans C
    cases w with
    | true =>
      obtain ⟨frs, hr, hrun, hended, a1, a2, a3, a4⟩ := X.leaveW h6 (by rw [eT]; exact h7) (v := some v) (fun q => by rw [hret] at q; cases q) hlk
      refine ⟨_, _, retOut X hx hret (by cases t <;> cases v <;> first | rfl | (simp [FieldType.isReference] at ht) | (simp [Value.isRef] at hv)) (Or.inr (Or.inr (Or.inr (Or.inr ⟨rfl, ht, hv⟩)))) hd hr, hrun, hended, ⟨_, locs, rfl, ⟨rfl, eT⟩, by show Keep h0 T.heap ws; rw [eT]; exact h5, h3, e1, And.intro (fun _ => ⟨a1, a2, a3, a4.mono hc hs⟩) (fun q => by cases q)⟩, rfl⟩
    | false =>
      obtain rfl := h10 rfl
      obtain ⟨frs, hr, hrun, hended, hW, hsame⟩ := X.leave (v := some v) (fun q => by rw [hret] at q; cases q) hlk
      refine ⟨_, _, retOut X hx hret (by cases t <;> cases v <;> first | rfl | (simp [FieldType.isReference] at ht) | (simp [Value.isRef] at hv)) (Or.inr (Or.inr (Or.inr (Or.inr ⟨rfl, ht, hv⟩)))) hd hr, hrun, hended, ⟨_, locs, rfl, ⟨rfl, eT⟩, by show Keep h0 T.heap ws; rw [eT]; exact h5, h3, e1, And.intro (fun q => by cases q) (fun _ => ⟨⟨_, rfl⟩, hW, hsame.mono hc hs⟩)⟩, rfl⟩
  obtain ⟨s₂, o, g1, g2, g3, ⟨v', L', rfl, ⟨rfl, q2⟩, q3, q4, q5, q6⟩, q7⟩ := hdir
  refine ⟨s₂, _, g1, g2, g3, _, L', ns, rfl, by rw [q2]; exact hQ, q3, q4, q5, q6, fun x hx => ?_⟩
  obtain ⟨r1, r2⟩ := hn x hx
  obtain ⟨-, r3, r4, r5⟩ := h12 x r1
  rw [q2, q7]
  exact ⟨r3, r2, r4, C.safe r4 r5⟩
end OwnCoreR
section OwnCallsR
variable {p : Program} {l : Launch} {e : Env} {R : Room} {s : State} {m : MethodId} {args : Array Value} {below : List Frame} {meth : Method} {c : Code} {T : State} {cells slots : Nat} {Z : State} {a0 : Array Value} {h h0 : Heap} {w kf : Bool} {EL : List (String × Nat)} {own : String} {ws ws' fs : List Addr} {P : Outcome → State → Prop} {pc pc' : Nat} {Ls : Array Slot} {St : List Value} {index : Nat}
variable {y z : MethodName} {bytes : ByteArray} {maxL len W : Nat} {ret : Option FieldType} {rm : Room} {as' : Array Value} {Q' : Option Value → Heap → List Addr → Prop} {vm0 : Vm} {locs : List Loc} {k0 : Nat} {argsL rest : List Value}
theorem own_backNR (hM : own_MetR false kf EL l Z a0 y bytes maxL ret [] rm as' h ws' Q') (I : own_I false kf EL s m below Z a0 own h0 ws h fs vm0 locs k0) (hw : ∀ x ∈ ws', x ∈ fs) (wc : (Cond.code y bytes maxL ret).before a0 Z = true) (wz : (Cond.initialized y.cls).before a0 Z = true) (hf : rm.frames + 1 ≤ R.frames) (hl : W + (maxL + 11) + rm.locals ≤ R.locals) :
    own_BackF l R p e below (s.setVm vm0) args y len W as' h rm.cells rm.slots (fun v h' L => ∃ ns, Q' v h' ns ∧ Keep h h' ws' ∧ Fr Z.heap.size L ∧ ∀ x ∈ ns, Z.heap.size ≤ x ∧ h.size ≤ x ∧ x < h'.size) := by
  obtain ⟨h1, h2, h3, h4, h5, h6, h7, h8, h9, h10, h11, hst0, h12⟩ := I
  exact Back.of_freeG (bytes := bytes) (maxL := maxL) (ret := ret) (E := fun _ _ o t L k n => k = rm.cells ∧ n = rm.slots ∧ ∃ v, o = .returned v ∧ ∃ ns, Q' v t.heap ns ∧ Keep h t.heap ws' ∧ Fr Z.heap.size L ∧ ∀ x ∈ ns, Z.heap.size ≤ x ∧ h.size ≤ x ∧ x < t.heap.size) hM hf hl
    (fun m meth c A a Y hp => have hU : Z.Warmed39 A.U.vm := wtrans (s := s.setVm vm0) h1 Y.warmed
      ⟨by show (Cond.and _ .tt).before a A.U = true; rw [Cond.before_and, mv hU wc]; rfl, mv hU wc, mv hU wz, hp.2.2.1, hp.2.2.2⟩)
    (fun m meth c A a g mk Y hp => have C : CHr Z EL vm0 h A.U.vm h := CHv.at Y h1 h8 h9.1
      ⟨hp.1, wtrans (s := s.setVm vm0) h1 Y.warmed, hp.2.1, h4, h8, C.1, fun x hx => have q := h12 x (hw x hx); ⟨q.2.1, q.2.2.1, C.safe q.2.2.1 q.2.2.2⟩⟩)
    (fun m meth c A a g mk Y _ hg q => known_frames Y hg (h11 q).1 (h11 q).2)
    (fun _ _ _ _ ⟨v, L, ns, g1, g2, g3, g4, g5, g6, g7⟩ => ⟨L, _, _, g6.2 rfl, rfl, rfl, v, g1, ns, g2, g3, g4, fun x hx => ⟨(g7 x hx).1, (g7 x hx).2.1, (g7 x hx).2.2.1⟩⟩)
    (fun m meth c A a g mk v t L k n Y hp _ _ ⟨e1, e2, v', e3, e4⟩ => by cases e3; subst e1 e2; exact ⟨L, e4, rfl, rfl, rfl⟩)
theorem own_backWR (hM : own_MetR true kf EL l Z a0 y bytes maxL ret [] rm as' h ws' Q') (I : own_I true kf EL s m below Z a0 own h0 ws h fs vm0 locs k0) (hw : ∀ x ∈ ws', x ∈ fs) (wc : (Cond.code y bytes maxL ret).before a0 Z = true) (wz : (Cond.initialized y.cls).before a0 Z = true) (hf : rm.frames + 1 ≤ R.frames) (hl : W + (maxL + 11) + rm.locals ≤ R.locals) :
    BackS l R p e below (s.setVm vm0) args y len W (fun A a => a = as' ∧ A.U.heap = h ∧ A.cells + rm.cells ≤ R.cells ∧ A.slots + rm.slots ≤ R.slots)
      (fun A _ v B => ∃ L, (∃ ns, Q' v B.U.heap ns ∧ Keep h B.U.heap ws' ∧ Fr Z.heap.size L ∧ CHr Z EL vm0 h B.U.vm B.U.heap ∧ ∀ x ∈ ns, Z.heap.size ≤ x ∧ h.size ≤ x ∧ x < B.U.heap.size ∧ Safe Z EL B.U.vm B.U.heap x) ∧ B.locs = A.locs ++ L ∧ B.cells = A.cells + rm.cells ∧ B.slots = A.slots + rm.slots) := by
  obtain ⟨h1, h2, h3, h4, h5, h6, h7, h8, h9, h10, h11, hst0, h12⟩ := I
  exact BackS.of_freeWG (bytes := bytes) (maxL := maxL) (ret := ret) (E := fun _ first o t L k n => k = rm.cells ∧ n = rm.slots ∧ (∃ v, o = .returned v ∧ ∃ ns, Q' v t.heap ns ∧ Keep h t.heap ws' ∧ Fr Z.heap.size L ∧ ∀ x ∈ ns, Z.heap.size ≤ x ∧ h.size ≤ x ∧ x < t.heap.size ∧ Safe Z EL t.vm t.heap x) ∧ CHr Z EL first.vm h t.vm t.heap) hM hf hl
    (fun m meth c A a Y hp => have hU : Z.Warmed39 A.U.vm := wtrans (s := s.setVm vm0) h1 Y.warmed
      ⟨by show (Cond.and _ .tt).before a A.U = true; rw [Cond.before_and, mv hU wc]; rfl, mv hU wc, mv hU wz, hp.2.2.1, hp.2.2.2⟩)
    (fun m meth c A a g mk Y hp => have C : CHr Z EL vm0 h A.U.vm h := CHv.at Y h1 h8 h9.1
      ⟨hp.1, wtrans (s := s.setVm vm0) h1 Y.warmed, hp.2.1, h4, h8, C.1, fun x hx => have q := h12 x (hw x hx); ⟨q.2.1, q.2.2.1, C.safe q.2.2.1 q.2.2.2⟩⟩)
    (fun m meth c A a g mk Y _ hg q => known_frames Y hg (h11 q).1 (h11 q).2)
    (fun _ _ _ _ ⟨v, L, ns, g1, g2, g3, g4, g5, g6, g7⟩ => ⟨L, _, _, g6.1 rfl, rfl, rfl, ⟨v, g1, ns, g2, g3, g4, g7⟩, g5⟩)
    (fun m meth c A a g mk v t L k n Y hp _ _ ⟨e1, e2, ⟨v', e3, ns, e4, e5, e6, e8⟩, e7⟩ => by
      cases e3; subst e1 e2
      exact ⟨L, ⟨ns, e4, e5, e6, (CHv.at Y h1 h8 h9.1).trans e7, e8⟩, rfl, rfl, rfl⟩)
/-- more cells that may be written -/
theorem own_S.plus {ns : List Addr} (K : own_S w kf EL p l e R s m args below meth c Z a0 own h0 ws T h fs cells slots) (hn : ∀ vm0 : Vm, Z.vm.Alike vm0 → ∀ x ∈ ns, h0.size ≤ x ∧ Z.heap.size ≤ x ∧ x < h.size ∧ Safe Z EL vm0 h x) : own_S w kf EL p l e R s m args below meth c Z a0 own h0 ws T h (ns ++ fs) cells slots := by
  obtain ⟨vm0, locs, k0, X, eT, h1, h2, h3, h4, h5, h6, h7, h8, h9, h10, h11, hst, h12⟩ := K
  refine ⟨vm0, locs, k0, X, eT, h1, h2, h3, h4, h5, h6, h7, h8, h9, h10, h11, hst, fun x hx => ?_⟩
  rcases List.mem_append.mp hx with hx | hx
  · obtain ⟨q1, q2⟩ := hn vm0 h1.alike x hx; exact ⟨Or.inr q1, q2⟩
  · exact h12 x hx
theorem own_safe0 {Z : State} {vm : Vm} {h : Heap} {x : Addr} : Safe Z [] vm h x := fun ⟨p, hp, _⟩ => nomatch hp
/-- invokestatic of a body that hands back what may be written -/
theorem own_callSR (K : own_S w kf EL p l e R s m args below meth c Z a0 own h0 ws T h fs cells slots) (hx : p.tables.exec = Jvm.exec) (hsz : Ls.size = c.maxLocals) (hEL : w = false → EL = [])
    (w1 : (Cond.methodLink own index y).before a0 Z = true) (w2 : (Cond.static y).before a0 Z = true) (wz : (Cond.initialized y.cls).before a0 Z = true) (wc : (Cond.code y bytes maxL ret).before a0 Z = true) (hy : y.cls ≠ "java/lang/invoke/MethodHandle" ∧ y.cls ≠ "java/lang/invoke/VarHandle")
    (hM : own_MetR w kf EL l Z a0 y bytes maxL ret [] rm argsL.toArray h ws' Q') (hw : ∀ x ∈ ws', x ∈ fs) (hlen : ∀ sig, parseMethodDescriptor y.desc = some sig → argsL.length = sig.parameters.length) (hst : St = argsL.reverse ++ rest) (W : Nat) (hW : (rest.map fun v => v.category).sum ≤ W)
    (hd : decode c.code pc = .ok (.invokestatic index, 3)) (hp : pc + 3 = pc') (hf : rm.frames + 1 ≤ R.frames) (hl : W + (maxL + 11) + rm.locals ≤ R.locals) (hc : cells + rm.cells ≤ R.cells) (hs : slots + rm.slots ≤ R.slots)
    (G : ∀ (v : Option Value) (T' : State) (h' : Heap) (ns : List Addr), own_S w kf EL p l e R s m args below meth c Z a0 own h0 ws T' h' (ns ++ fs) (cells + rm.cells) (slots + rm.slots) → Keep h h' ws' → Q' v h' ns → own_Go p.tables e below P T' (mkF m pc' Ls (v.toList ++ rest))) :
    own_Go p.tables e below P T (mkF m pc Ls St) := by
  subst hp
  obtain ⟨vm0, locs, k0, X, eT, I⟩ := K
  have hZ : Z.Warmed39 (s.setVm vm0).vm := I.1
  have hk0 : h0.size ≤ h.size := I.2.2.2.2.1.1
  cases w with
  | false =>
    obtain rfl := hEL rfl
    obtain ⟨v, vm₁, B, -, X', ⟨L, ⟨ns, q1, q2, q3, q4⟩, e1, e2, e3⟩, st⟩ := Jvm.LawKit.callS X hx (y := y) I.2.1 (mvT hZ w1) (mvT hZ w2) (mvT hZ wz) (mvT hZ wc) hy (own_backNR (len := 3) (W := W) hM I hw wc wz hf hl) (g := mkF m pc Ls St) rfl hsz (argsL := argsL) (rest := rest) hlen hst (by show 2 * 0 + _ ≤ _; omega) hd (fun _ _ => ⟨rfl, eT, hc, hs⟩)
    exact own_by st (G v B.U _ ns ((own_afterN I X' q2 hw q3 e1 e2 e3).plus fun vm _ x hx => ⟨Nat.le_trans hk0 (q4 x hx).2.1, (q4 x hx).1, (q4 x hx).2.2, own_safe0⟩) q2 q1)
  | true =>
    obtain ⟨v, vm₁, B, -, X', hS, hgr, ⟨L, ⟨ns, q1, q2, q3, q4, q5⟩, e1, e2, e3⟩, st⟩ := callSS X hx (y := y) I.2.1 (mvT hZ w1) (mvT hZ w2) (mvT hZ wz) (mvT hZ wc) hy (own_backWR (len := 3) (W := W) hM I hw wc wz hf hl) (g := mkF m pc Ls St) rfl hsz (argsL := argsL) (rest := rest) hlen hst (by show 2 * 0 + _ ≤ _; omega) hd (fun _ _ => ⟨rfl, eT, hc, hs⟩)
    rw [e1, e2, e3] at X'
    obtain ⟨j1, j2, j3, j4, j5, j6, j7, j8, j9, j10, j11, j12, j13⟩ := I.wide rfl q4 hS q2.1 (Nat.le_refl _) q2 hw q3
    exact own_on st (G v B.U _ ns ⟨B.U.vm, _, _, X', rfl, j1, j2, j3, j4, j5, j6, j7, j8, j9, j10, j11, j12, fun x hx => by
      rcases List.mem_append.mp hx with hx | hx
      · exact ⟨Or.inr (Nat.le_trans hk0 (q5 x hx).2.1), (q5 x hx).1, (q5 x hx).2.2.1, (q5 x hx).2.2.2⟩
      · exact j13 x hx⟩ q2 q1)
end OwnCallsR
/-! OWN KIT, UTF-16: plain facts on bytes of wide Strings -/
section OwnUtf
open StrChars StrChars.Road
theorem own_nat0 {i : Nat} (h : i < 2 ^ 31) : ¬ Int32.ofNat i < 0 := by
  rw [Int32.lt_iff_toInt_lt, Int32.toInt_ofNat_small h]
  have e0 : (0 : Int32).toInt = 0 := rfl
  omega
theorem own_natcl {i : Nat} (h : i < 2 ^ 31) : (Int32.ofNat i).toNatClampNeg = i := by
  rw [Int32.toNatClampNeg, Int32.toInt_ofNat_small h]; simp
theorem own_natinj {i n : Nat} (hi : i < 2 ^ 31) (hn : n < 2 ^ 31) (h : Int32.ofNat i = Int32.ofNat n) : i = n := by
  have := congrArg Int32.toInt h
  rw [Int32.toInt_ofNat_small hi, Int32.toInt_ofNat_small hn] at this; omega
end OwnUtf
section OwnLdcI
variable {p : Program} {l : Launch} {e : Env} {R : Room} {s : State} {m : MethodId} {args : Array Value} {below : List Frame} {meth : Method} {c : Code} {T : State} {cells slots : Nat} {Z : State} {a0 : Array Value} {h h0 : Heap} {w kf : Bool} {EL : List (String × Nat)} {own : String} {ws fs : List Addr} {P : Outcome → State → Prop} {pc pc' : Nat} {Ls : Array Slot} {St : List Value} {index : Nat}
/-- ldc of an int -/
theorem own_ldcI {v : Int32} (K : own_S w kf EL p l e R s m args below meth c Z a0 own h0 ws T h fs cells slots) (hx : p.tables.exec = Jvm.exec) (w1 : (Cond.constant own index v).before a0 Z = true) (hd : decode c.code pc = .ok (.ldc index, 2)) (hp : pc + 2 = pc')
    (G : own_Go p.tables e below P T (mkF m pc' Ls (.int v :: St))) : own_Go p.tables e below P T (mkF m pc Ls St) := by
  subst hp
  obtain ⟨vm0, locs, k0, X, eT, I⟩ := K
  exact own_by (fun t q => X.ldcInt hx (own := own) (index := index) (v := v) I.2.1 (mvT (s := s.setVm vm0) I.1 w1) (g := mkF m pc Ls St) rfl hd _ q) G
end OwnLdcI
/-! OWN KIT, System.arraycopy of bytes into a new array of just that length -/
section OwnCopy
open Jvm.Stand
variable {p : Program} {l : Launch} {e : Env} {R : Room} {s : State} {m : MethodId} {args : Array Value} {below : List Frame} {meth : Method} {c : Code} {T : State} {cells slots : Nat} {Z : State} {a0 : Array Value} {h h0 : Heap} {w kf : Bool} {EL : List (String × Nat)} {own : String} {ws fs : List Addr} {P : Outcome → State → Prop} {pc pc' : Nat} {Ls : Array Slot} {rest : List Value} {index : Nat}
theorem own_copyN {i : Nat} (q : i < 2 ^ 31) : (Int32.ofNat i).toNatClampNeg = i := by show (Int32.ofNat i).toInt.toNat = i; rw [Int32.toInt_ofNat_small q]; rfl
theorem own_copyG {i : Nat} (q : i < 2 ^ 31) : ¬ Int32.ofNat i < 0 := by
  rw [Int32.lt_iff_toInt_lt, Int32.toInt_ofNat_small q]
  have e0 : (0 : Int32).toInt = 0 := rfl
  omega
end OwnCopy
section OwnLdI
variable {p : Program} {l : Launch} {e : Env} {R : Room} {s : State} {m : MethodId} {args : Array Value} {below : List Frame} {meth : Method} {c : Code} {T : State} {cells slots : Nat} {Z : State} {a0 : Array Value} {h h0 : Heap} {w kf : Bool} {EL : List (String × Nat)} {own : String} {ws fs : List Addr} {P : Outcome → State → Prop} {pc pc' : Nat} {Ls : Array Slot} {St : List Value} {a : Addr} {k : ClassId} {n j : Int32} {vs : List Value} {dv : Value}
theorem own_lenV {a0 : Array Value} {t : Term} {c : Cell} {z : Int32} (ev : t.eval a0 s none [] s = some (.ref a)) (ha : s.arrayAt? a = some c) (q : (Term.length t).eval a0 s none [] s = some (.int z)) : c.slots.size < 2 ^ 31 ∧ c.slots.size.toInt32 = z := by
  simp only [Term.eval, ev, ha, Option.bind_eq_bind, Option.bind_some] at q
  split at q
  · rename_i r; exact ⟨r, by simpa using q⟩
  · cases q
end OwnLdI
section OwnLdc2
variable {p : Program} {l : Launch} {e : Env} {R : Room} {s : State} {m : MethodId} {args : Array Value} {below : List Frame} {meth : Method} {c : Code} {T : State} {cells slots : Nat} {Z : State} {a0 : Array Value} {h h0 : Heap} {w kf : Bool} {EL : List (String × Nat)} {own : String} {ws fs : List Addr} {P : Outcome → State → Prop} {pc pc' : Nat} {Ls : Array Slot} {St : List Value} {index : Nat}
end OwnLdc2
/-! OWN KIT, more calls: private and interface methods, a super method, contracts that hand back cells at virtual calls, bodies with an exception table; class constants, getClass, tableswitch, arraycopy -/
section OwnMore
open Jvm.Stand
variable {p : Program} {l : Launch} {e : Env} {R : Room} {s : State} {m : MethodId} {args : Array Value} {below : List Frame} {meth : Method} {c : Code} {T : State} {cells slots : Nat} {Z : State} {a0 : Array Value} {h h0 : Heap} {w kf : Bool} {EL : List (String × Nat)} {own : String} {ws ws' fs : List Addr} {P : Outcome → State → Prop} {pc pc' : Nat} {Ls : Array Slot} {St : List Value} {index : Nat}
variable {y z : MethodName} {bytes : ByteArray} {maxL len W : Nat} {ret : Option FieldType} {rm : Room} {as' : Array Value} {Q' : Option Value → Heap → Prop} {QR : Option Value → Heap → List Addr → Prop} {vm0 : Vm} {locs : List Loc} {k0 : Nat} {argsL rest : List Value}
theorem own_decl (w1 : (Cond.instanceMethod y).before a0 Z = true) (wc : (Cond.code y bytes maxL ret).before a0 Z = true) : (Cond.declares y).before a0 Z = true := by
  obtain ⟨mk, methM, hnamed, hmethM, hst, -⟩ := Cond.instanceMethod_spec w1
  obtain ⟨m2, cM, q1, -, -, -, -, -, -, hsig⟩ := Cond.code_spec hnamed wc
  cases hmethM.symm.trans q1
  simp [Cond.before, Cond.holds, Cond.value, hnamed, hmethM, hst, hsig]
theorem own_nf {C : String} (w : (Cond.selects C z z).before a0 Z = true) (he : z.cls = y.cls) : ∀ U : State, Z.Warmed39 U.vm → NotFace U y := fun U hU r0 h0 => by
  obtain ⟨c2, r2, m2, q1, q2, q3, q4, kP, hkP, hkPi⟩ := Cond.selects_spec (mvT (args := a0) hU w)
  have e1 := findClass_of_methodNamed q3
  have e2 := findClass_of_methodNamed h0
  rw [he] at e1
  have e3 : m2.cls = r0.cls := Option.some.inj (e1.symm.trans e2)
  exact ⟨kP, by rw [← e3]; exact hkP, hkPi⟩
theorem own_kept (K : own_S w kf EL p l e R s m args below meth c Z a0 own h0 ws T h fs cells slots) : Keep h0 h ws := by
  obtain ⟨vm0, locs, k0, X, eT, h1, h2, h3, h4, h5, -⟩ := K; exact h5
theorem own_Met.r (hM : own_Met w kf EL l Z a0 y bytes maxL ret [] rm as' h0 ws Q') : own_MetR w kf EL l Z a0 y bytes maxL ret [] rm as' h0 ws (fun v h ns => Q' v h ∧ ns = []) := fun p e a b c s m args below hf happ hP hK => by
  obtain ⟨n, o, g1, g2, g3, v, L, q1, q2, q3, q4, q5, q6⟩ := hM p e a b c s m args below hf happ hP hK
  exact ⟨n, o, g1, g2, g3, v, L, [], q1, ⟨q2, rfl⟩, q3, q4, q5, q6, fun _ q => nomatch q⟩
theorem own_afterWR {B : Pt} {kc ks : Nat} {L : List Loc} {ns : List Addr} (I : own_I true kf EL s m below Z a0 own h0 ws h fs vm0 locs k0) (X' : Stand p l e R ((s.setVm vm0).setVm B.U.vm) m args below meth c B.U B.locs B.cells B.slots) (S : (s.setVm vm0).Since B.U.vm B.U.heap.size) (C : CHr Z EL vm0 h B.U.vm B.U.heap) (Kp : Keep h B.U.heap ws') (hw : ∀ x ∈ ws', x ∈ fs) (hL : Fr Z.heap.size L) (e1 : B.locs = locs ++ L) (e2 : B.cells = cells + kc) (e3 : B.slots = slots + ks)
    (q5 : ∀ x ∈ ns, Z.heap.size ≤ x ∧ h.size ≤ x ∧ x < B.U.heap.size ∧ Safe Z EL B.U.vm B.U.heap x) : own_S true kf EL p l e R s m args below meth c Z a0 own h0 ws B.U B.U.heap (ns ++ fs) (cells + kc) (slots + ks) := by
  rw [e1, e2, e3] at X'
  have hk0 : h0.size ≤ h.size := I.2.2.2.2.1.1
  obtain ⟨j1, j2, j3, j4, j5, j6, j7, j8, j9, j10, j11, j12, j13⟩ := I.wide rfl C S Kp.1 (Nat.le_refl _) Kp hw hL
  exact ⟨B.U.vm, _, _, X', rfl, j1, j2, j3, j4, j5, j6, j7, j8, j9, j10, j11, j12, fun x hx => by
      rcases List.mem_append.mp hx with hx | hx
      · exact ⟨Or.inr (Nat.le_trans hk0 (q5 x hx).2.1), (q5 x hx).1, (q5 x hx).2.2.1, (q5 x hx).2.2.2⟩
      · exact j13 x hx⟩
/-- invokevirtual of a body that hands back what may be written -/
theorem own_callVR {C : String} {b : Addr} (K : own_S true kf EL p l e R s m args below meth c Z a0 own h0 ws T h fs cells slots) (hx : p.tables.exec = Jvm.exec) (hsz : Ls.size = c.maxLocals)
    (w1 : (Cond.methodLink own index y).before a0 Z = true) (w2 : (Cond.declares y).before a0 Z = true) (hnf : ∀ U : State, Z.Warmed39 U.vm → NotFace U y) (w3 : (Cond.selects C y z).before a0 Z = true) (w4 : (Cond.instanceMethod z).before a0 Z = true) (wz : (Cond.initialized z.cls).before a0 Z = true) (wc : (Cond.code z bytes maxL ret).before a0 Z = true) (hy : y.cls ≠ "java/lang/invoke/MethodHandle" ∧ y.cls ≠ "java/lang/invoke/VarHandle") (E : Exa Z h b C)
    (hM : own_MetR true kf EL l Z a0 z bytes maxL ret [] rm (.ref b :: argsL).toArray h ws' QR) (hw : ∀ x ∈ ws', x ∈ fs) (hlen : ∀ sig, parseMethodDescriptor y.desc = some sig → argsL.length = sig.parameters.length) (hst : St = argsL.reverse ++ .ref b :: rest) (W : Nat) (hW : (rest.map fun v => v.category).sum ≤ W)
    (hd : decode c.code pc = .ok (.invokevirtual index, 3)) (hp : pc + 3 = pc') (hf : rm.frames + 1 ≤ R.frames) (hl : W + (maxL + 11) + rm.locals ≤ R.locals) (hc : cells + rm.cells ≤ R.cells) (hs : slots + rm.slots ≤ R.slots)
    (G : ∀ (v : Option Value) (T' : State) (h' : Heap) (ns : List Addr), own_S true kf EL p l e R s m args below meth c Z a0 own h0 ws T' h' (ns ++ fs) (cells + rm.cells) (slots + rm.slots) → Keep h h' ws' → QR v h' ns → own_Go p.tables e below P T' (mkF m pc' Ls (v.toList ++ rest))) :
    own_Go p.tables e below P T (mkF m pc Ls St) := by
  subst hp
  obtain ⟨vm0, locs, k0, X, eT, I⟩ := K
  have hZ : Z.Warmed39 (s.setVm vm0).vm := I.1
  obtain ⟨cB, kB, b1, b2, b3⟩ := isOf hZ eT E
  obtain ⟨v, vm₁, B, -, X', hS, hgr, ⟨L, ⟨ns, q1, q2, q3, q4, q5⟩, e1, e2, e3⟩, st⟩ := X.virtualBackS hx (y := y) (z := z) I.2.1 (mvT hZ w1) (mvT hZ w2) (hnf _ hZ) (mvT hZ w3) (mvT hZ w4) hy (own_backWR (len := 3) (W := W) hM I hw wc wz hf hl) b1 b3 (g := mkF m pc Ls St) rfl hsz (Steps.refl _) (argsL := argsL) (rest := rest) hlen hst (by show 2 * 0 + _ ≤ _; omega) hd (fun _ _ => ⟨rfl, eT, hc, hs⟩)
  exact own_on st (G v B.U _ ns (own_afterWR I X' hS q4 q2 hw q3 e1 e2 e3 q5) q2 q1)
/-- invokespecial of a superclass's method -/
theorem own_superR {C : String} {b : Addr} (K : own_S true kf EL p l e R s m args below meth c Z a0 own h0 ws T h fs cells slots) (hx : p.tables.exec = Jvm.exec) (hsz : Ls.size = c.maxLocals)
    (w1 : (Cond.methodLink own index y).before a0 Z = true) (w2 : (Cond.declares y).before a0 Z = true) (w3 : (Cond.instanceMethod y).before a0 Z = true) (w4 : (Cond.superclass own y.cls).before a0 Z = true) (hnf : ∀ U : State, Z.Warmed39 U.vm → NotFace U y) (hn : y.name ≠ "<init>") (hn2 : y.cls ≠ "java/lang/invoke/MethodHandle" ∧ y.cls ≠ "java/lang/invoke/VarHandle") (wz : (Cond.initialized y.cls).before a0 Z = true) (wc : (Cond.code y bytes maxL ret).before a0 Z = true) (E : Exa Z h b C)
    (hM : own_MetR true kf EL l Z a0 y bytes maxL ret [] rm (.ref b :: argsL).toArray h ws' QR) (hw : ∀ x ∈ ws', x ∈ fs) (hlen : ∀ sig, parseMethodDescriptor y.desc = some sig → argsL.length = sig.parameters.length) (hst : St = argsL.reverse ++ .ref b :: rest) (W : Nat) (hW : (rest.map fun v => v.category).sum ≤ W)
    (hd : decode c.code pc = .ok (.invokespecial index, 3)) (hp : pc + 3 = pc') (hf : rm.frames + 1 ≤ R.frames) (hl : W + (maxL + 11) + rm.locals ≤ R.locals) (hc : cells + rm.cells ≤ R.cells) (hs : slots + rm.slots ≤ R.slots)
    (G : ∀ (v : Option Value) (T' : State) (h' : Heap) (ns : List Addr), own_S true kf EL p l e R s m args below meth c Z a0 own h0 ws T' h' (ns ++ fs) (cells + rm.cells) (slots + rm.slots) → Keep h h' ws' → QR v h' ns → own_Go p.tables e below P T' (mkF m pc' Ls (v.toList ++ rest))) :
    own_Go p.tables e below P T (mkF m pc Ls St) := by
  subst hp
  have w2' : (Cond.sameMethod y.cls y.cls y.name y.desc).before a0 Z = true := by
    obtain ⟨r0, r, hnm, hrm, -, -⟩ := Cond.declares_spec w2
    obtain ⟨kr, hkr, hki⟩ := hnf Z (State.Warmed39.refl Z) r0 hnm
    have hf := State.methodFound?_of_named hnm hn2
    have hc := findClass_of_methodNamed hnm
    simp [Cond.before, Cond.holds, Cond.value, hc, hf, hnm, hkr, hki]
  obtain ⟨vm0, locs, k0, X, eT, I⟩ := K
  have hZ : Z.Warmed39 (s.setVm vm0).vm := I.1
  obtain ⟨v, vm₁, B, -, X', hS, hgr, ⟨L, ⟨ns, q1, q2, q3, q4, q5⟩, e1, e2, e3⟩, st⟩ := superBackS X hx hZ (y := y) I.2.1 w1 w2' w3 w4 hn (own_backWR (len := 3) (W := W) hM I hw wc wz hf hl) eT (Ins.self E) (g := mkF m pc Ls St) rfl hsz wc (argsL := argsL) (rest := rest) hlen hst (by show 2 * 0 + _ ≤ _; omega) hd (fun _ _ => ⟨rfl, eT, hc, hs⟩)
  exact own_on st (G v B.U _ ns (own_afterWR I X' hS q4 q2 hw q3 e1 e2 e3 q5) q2 q1)
/-- invokeinterface by the contract of the body that the receiver's class selects -/
theorem own_callI {C : String} {b : Addr} {count : Nat} (K : own_S w kf EL p l e R s m args below meth c Z a0 own h0 ws T h fs cells slots) (hx : p.tables.exec = Jvm.exec) (hsz : Ls.size = c.maxLocals)
    (w1 : (Cond.methodLink own index y).before a0 Z = true) (w2 : (Cond.declares y).before a0 Z = true) (wf : (Cond.interfaceMethod y.cls y.cls y.name y.desc).before a0 Z = true) (hfa : ((Cond.interfaceMethod y.cls y.cls y.name y.desc).onTables && (Cond.interfaceMethod y.cls y.cls y.name y.desc).keepsFace) = true) (w3 : (Cond.selects C y z).before a0 Z = true) (w4 : (Cond.instanceMethod z).before a0 Z = true) (w5 : (Cond.publicMethod z).before a0 Z = true) (w6 : (Cond.unhidden C y.name y.desc).before a0 Z = true) (w7 : (Cond.castable C y.cls).before a0 Z = true) (wz : (Cond.initialized z.cls).before a0 Z = true) (wc : (Cond.code z bytes maxL ret).before a0 Z = true) (hy : y.cls ≠ "java/lang/invoke/MethodHandle" ∧ y.cls ≠ "java/lang/invoke/VarHandle") (E : Exa Z h b C)
    (hM : own_Met w kf EL l Z a0 z bytes maxL ret [] rm (.ref b :: argsL).toArray h ws' Q') (hw : ∀ x ∈ ws', x ∈ fs) (hlen : ∀ sig, parseMethodDescriptor y.desc = some sig → argsL.length = sig.parameters.length) (hst : St = argsL.reverse ++ .ref b :: rest) (W : Nat) (hW : (rest.map fun v => v.category).sum ≤ W)
    (hd : decode c.code pc = .ok (.invokeinterface index count, 5)) (hp : pc + 5 = pc') (hf : rm.frames + 1 ≤ R.frames) (hl : W + (maxL + 11) + rm.locals ≤ R.locals) (hc : cells + rm.cells ≤ R.cells) (hs : slots + rm.slots ≤ R.slots)
    (G : ∀ (v : Option Value) (T' : State) (h' : Heap), own_S w kf EL p l e R s m args below meth c Z a0 own h0 ws T' h' fs (cells + rm.cells) (slots + rm.slots) → Keep h h' ws' → Q' v h' → own_Go p.tables e below P T' (mkF m pc' Ls (v.toList ++ rest))) :
    own_Go p.tables e below P T (mkF m pc Ls St) := by
  subst hp
  obtain ⟨vm0, locs, k0, X, eT, I⟩ := K
  have hZ : Z.Warmed39 (s.setVm vm0).vm := I.1
  obtain ⟨cB, kB, b1, b2, b3⟩ := isOf hZ eT E
  cases w with
  | false =>
    obtain ⟨v, vm₁, B, -, X', ⟨L, ⟨q1, q2, q3⟩, e1, e2, e3⟩, st⟩ := X.interfaceBack hx (xi := y) (y := z) I.2.1 (mvT hZ w1) (mvT hZ w2) (mvT hZ wf hfa) (mvT hZ w3) (mvT hZ w4) (mvT hZ w5) (mvT hZ w6) (mvT hZ w7) hy (own_backN (len := 5) (W := W) hM I hw wc wz hf hl) b1 b2 b3 (g := mkF m pc Ls St) rfl hsz (Steps.refl _) (argsL := argsL) (rest := rest) hlen hst (by show 2 * 0 + _ ≤ _; omega) hd (fun _ _ => ⟨rfl, eT, hc, hs⟩)
    exact own_on st (G v B.U _ (own_afterN I X' q2 hw q3 e1 e2 e3) q2 q1)
  | true =>
    obtain ⟨v, vm₁, B, -, X', hS, hgr, ⟨L, ⟨q1, q2, q3, q4⟩, e1, e2, e3⟩, st⟩ := X.interfaceBackS hx (xi := y) (y := z) I.2.1 (mvT hZ w1) (mvT hZ w2) (mvT hZ wf hfa) (mvT hZ w3) (mvT hZ w4) (mvT hZ w5) (mvT hZ w6) (mvT hZ w7) hy (own_backW (len := 5) (W := W) hM I hw wc wz hf hl) b1 b2 b3 (g := mkF m pc Ls St) rfl hsz (Steps.refl _) (argsL := argsL) (rest := rest) hlen hst (by show 2 * 0 + _ ≤ _; omega) hd (fun _ _ => ⟨rfl, eT, hc, hs⟩)
    exact own_on st (G v B.U _ (own_afterW I X' hS q4 q2 hw q3 e1 e2 e3) q2 q1)
/-- void return of what may be written -/
theorem own_retVR (K : own_S true kf EL p l e R s m args below meth c Z a0 own h0 ws T h fs cells slots) (hx : p.tables.exec = Jvm.exec) (hlk : meth.locks = false) (hret : meth.sig.returnType = none) (hd : decode c.code pc = .ok (.return_, 1)) (hc : cells ≤ R.cells) (hs : slots ≤ R.slots) (ns : List Addr) (hn : ∀ x ∈ ns, x ∈ fs ∧ h0.size ≤ x) (hQ : QR none h ns) :
    own_Go p.tables e below (own_PostR true EL Z R h0 ws QR s) T (mkF m pc Ls []) := by
  obtain ⟨vm0, locs, k0, X, eT, h1, h2, h3, h4, h5, h6, h7, h8, h9, h10, h11, hst, h12⟩ := K
  have C : CHr Z EL vm0 h T.vm h := CHv.at X h1 h8 h9.1
  obtain ⟨frs, hr, hrun, hended, e1, e2, e3, e4⟩ := X.leaveW h6 (by rw [eT]; exact h7) (v := none) (fun _ => rfl) hlk
  refine ⟨_, _, X.returnOut hx hret hd hr, hrun, hended, none, locs, ns, rfl, by show QR none T.heap ns; rw [eT]; exact hQ, by show Keep h0 T.heap ws; rw [eT]; exact h5, h3, ?_, And.intro (fun _ => ⟨e1, e2, e3, e4.mono hc hs⟩) (fun q => by cases q), fun x hx => ?_⟩
  · show CHr Z EL s.vm h0 T.vm T.heap; rw [eT]; exact h9.trans C
  · obtain ⟨r1, r2⟩ := hn x hx
    obtain ⟨-, r3, r4, r5⟩ := h12 x r1
    show Z.heap.size ≤ x ∧ h0.size ≤ x ∧ x < T.heap.size ∧ Safe Z EL T.vm T.heap x
    rw [eT]; exact ⟨r3, r2, r4, C.safe r4 r5⟩
/-- a body with an exception table whose walk throws nothing -/
def own_MetH (EL : List (String × Nat)) (l : Launch) (Z : State) (a0 : Array Value) (y : MethodName) (bytes : ByteArray) (maxL : Nat) (ret : Option FieldType) (hs : List (Nat × Nat × Nat × Nat)) (rm : Room) (as' : Array Value) (h0 : Heap) (ws : List Addr) (Q : Option Value → Heap → Prop) : Prop :=
  MetFree l y (head1 [Cond.codeWith y bytes maxL ret hs] rm) (own_Pre EL Z a0 as' h0 ws) (own_K false) (fun _ U o U' => own_Post false EL Z rm h0 ws Q U o U')
theorem own_enterH {hs : List (Nat × Nat × Nat × Nat)} (ho : y.cls = own) (hpl : plainFor y = true)
    (body : ∀ (p : Program) (e : Env) (s : State) (m : MethodId) (below : List Frame) (meth : Method) (c : Code) (T : State), p.tables.exec = Jvm.exec → c.code = bytes → c.maxLocals = maxL → meth.sig.returnType = ret → meth.locks = false → meth.name = y.name →
      own_S false false EL p l e rm s m as' below meth c Z a0 own h0 ws T h0 ws 0 0 → own_Go p.tables e below (own_Post false EL Z rm h0 ws Q' s) T (entryFrame m as' maxL)) :
    own_MetH EL l Z a0 y bytes maxL ret hs rm as' h0 ws Q' := by
  subst ho
  refine MetFree.of_bodySF hpl hisWith ?_
  intro p e s m args below meth c s₁ Bd hml hP hK
  obtain ⟨rfl, hZ, hh, hE, hEL, hC, hws⟩ := hP
  have X0 : Stand p l e rm s m args below meth c s₁ [] 0 0 := Stand.of_body Bd
  have e0 : s₁.heap = h0 := by rw [← hh, Bd.state]; rfl
  exact body p e s m below meth c s₁ Bd.exec Bd.bytes hml Bd.returns Bd.notSynchronized (name_of_methodNamed Bd.named Bd.method).1
    ⟨s.vm, [], h0.size, X0, e0, hZ, findClass_of_methodNamed Bd.named, Fr.nil _, hE, Keep.refl _ _, (State.WarmedH.refl s).since _, Nat.le_refl _, hEL, CHr.refl hC, fun _ => rfl, hK, ⟨hh, hE⟩, fun x hx => ⟨Or.inl hx, hws x hx⟩⟩
theorem own_backH {hs : List (Nat × Nat × Nat × Nat)} (hM : own_MetH EL l Z a0 y bytes maxL ret hs rm as' h ws' Q') (I : own_I w kf EL s m below Z a0 own h0 ws h fs vm0 locs k0) (hw : ∀ x ∈ ws', x ∈ fs) (wc : (Cond.codeWith y bytes maxL ret hs).before a0 Z = true) (wz : (Cond.initialized y.cls).before a0 Z = true) (hf : rm.frames + 1 ≤ R.frames) (hl : W + (maxL + 11) + rm.locals ≤ R.locals) :
    own_BackF l R p e below (s.setVm vm0) args y len W as' h rm.cells rm.slots (fun v h' L => Q' v h' ∧ Keep h h' ws' ∧ Fr Z.heap.size L) := by
  obtain ⟨h1, h2, h3, h4, h5, h6, h7, h8, h9, h10, h11, hst0, h12⟩ := I
  exact Back.of_freeWith (handlers := hs) (bytes := bytes) (maxL := maxL) (ret := ret) (E := fun _ _ o t L k n => k = rm.cells ∧ n = rm.slots ∧ ∃ v, o = .returned v ∧ Q' v t.heap ∧ Keep h t.heap ws' ∧ Fr Z.heap.size L) hM hf hl
    (fun m meth c A a Y hp => have hU : Z.Warmed39 A.U.vm := wtrans (s := s.setVm vm0) h1 Y.warmed
      ⟨by show (Cond.and _ .tt).before a A.U = true; rw [Cond.before_and, mv hU wc]; rfl, mv hU wc, mv hU wz, hp.2.2.1, hp.2.2.2⟩)
    (fun m meth c A a g mk Y hp => have C : CHr Z EL vm0 h A.U.vm h := CHv.at Y h1 h8 h9.1
      ⟨hp.1, wtrans (s := s.setVm vm0) h1 Y.warmed, hp.2.1, h4, h8, C.1, fun x hx => have q := h12 x (hw x hx); ⟨q.2.1, q.2.2.1, C.safe q.2.2.1 q.2.2.2⟩⟩)
    (fun m meth c A a g mk Y _ q => by cases q)
    (fun _ _ _ _ ⟨v, L, g1, g2, g3, g4, g5, g6⟩ => ⟨L, _, _, g6.2 rfl, rfl, rfl, v, g1, g2, g3, g4⟩)
    (fun m meth c A a g mk v t L k n Y hp _ _ ⟨e1, e2, v', e3, e4⟩ => by cases e3; subst e1 e2; exact ⟨L, e4, rfl, rfl, rfl⟩)
/-- invokeinterface of such a body -/
theorem own_callIH {C : String} {b : Addr} {count : Nat} {hds : List (Nat × Nat × Nat × Nat)} (K : own_S w kf EL p l e R s m args below meth c Z a0 own h0 ws T h fs cells slots) (hx : p.tables.exec = Jvm.exec) (hsz : Ls.size = c.maxLocals)
    (w1 : (Cond.methodLink own index y).before a0 Z = true) (w2 : (Cond.declares y).before a0 Z = true) (wf : (Cond.interfaceMethod y.cls y.cls y.name y.desc).before a0 Z = true) (hfa : ((Cond.interfaceMethod y.cls y.cls y.name y.desc).onTables && (Cond.interfaceMethod y.cls y.cls y.name y.desc).keepsFace) = true) (w3 : (Cond.selects C y z).before a0 Z = true) (w4 : (Cond.instanceMethod z).before a0 Z = true) (w5 : (Cond.publicMethod z).before a0 Z = true) (w6 : (Cond.unhidden C y.name y.desc).before a0 Z = true) (w7 : (Cond.castable C y.cls).before a0 Z = true) (wz : (Cond.initialized z.cls).before a0 Z = true) (wc : (Cond.codeWith z bytes maxL ret hds).before a0 Z = true) (hy : y.cls ≠ "java/lang/invoke/MethodHandle" ∧ y.cls ≠ "java/lang/invoke/VarHandle") (E : Exa Z h b C)
    (hM : own_MetH EL l Z a0 z bytes maxL ret hds rm (.ref b :: argsL).toArray h ws' Q') (hw : ∀ x ∈ ws', x ∈ fs) (hlen : ∀ sig, parseMethodDescriptor y.desc = some sig → argsL.length = sig.parameters.length) (hst : St = argsL.reverse ++ .ref b :: rest) (W : Nat) (hW : (rest.map fun v => v.category).sum ≤ W)
    (hd : decode c.code pc = .ok (.invokeinterface index count, 5)) (hp : pc + 5 = pc') (hf : rm.frames + 1 ≤ R.frames) (hl : W + (maxL + 11) + rm.locals ≤ R.locals) (hc : cells + rm.cells ≤ R.cells) (hs : slots + rm.slots ≤ R.slots)
    (G : ∀ (v : Option Value) (T' : State) (h' : Heap), own_S w kf EL p l e R s m args below meth c Z a0 own h0 ws T' h' fs (cells + rm.cells) (slots + rm.slots) → Keep h h' ws' → Q' v h' → own_Go p.tables e below P T' (mkF m pc' Ls (v.toList ++ rest))) :
    own_Go p.tables e below P T (mkF m pc Ls St) := by
  subst hp
  obtain ⟨vm0, locs, k0, X, eT, I⟩ := K
  have hZ : Z.Warmed39 (s.setVm vm0).vm := I.1
  obtain ⟨cB, kB, b1, b2, b3⟩ := isOf hZ eT E
  obtain ⟨v, vm₁, B, -, X', ⟨L, ⟨q1, q2, q3⟩, e1, e2, e3⟩, st⟩ := X.interfaceBack hx (xi := y) (y := z) I.2.1 (mvT hZ w1) (mvT hZ w2) (mvT hZ wf hfa) (mvT hZ w3) (mvT hZ w4) (mvT hZ w5) (mvT hZ w6) (mvT hZ w7) hy (own_backH (len := 5) (W := W) hM I hw wc wz hf hl) b1 b2 b3 (g := mkF m pc Ls St) rfl hsz (Steps.refl _) (argsL := argsL) (rest := rest) hlen hst (by show 2 * 0 + _ ≤ _; omega) hd (fun _ _ => ⟨rfl, eT, hc, hs⟩)
  exact own_on st (G v B.U _ (own_afterN I X' q2 hw q3 e1 e2 e3) q2 q1)
/-- tableswitch, the int within -/
theorem own_tsw (A : At T m c below) (hx : p.tables.exec = Jvm.exec) {dflt low high o : Int} {offs : Array Int} {i : Int32} (hd : decode c.code pc = .ok (.tableswitch dflt low high offs, len)) (hin : ¬ (i.toInt < low ∨ i.toInt > high)) (hoff : offs[(i.toInt - low).toNat]? = some o) (ho : 0 ≤ (pc : Int) + o) (hp : ((pc : Int) + o).toNat = pc')
    (G : own_Go p.tables e below P T (mkF m pc' Ls St)) : own_Go p.tables e below P T (mkF m pc Ls (.int i :: St)) :=
  own_by (fun t q => Jvm.Free.XS.tswIn A hx (g := mkF m pc Ls (.int i :: St)) rfl (pc0 := pc) rfl hd (rest := St) rfl hin hoff ho hp q) G
/-- the Class object of a class -/
def own_Mir (Z : State) (C : String) (mr : Addr) : Prop := ∃ (cc : ClassId) (k : Class), Z.vm.findClass C = some cc ∧ Z.vm.classes[cc]? = some k ∧ k.mirror = some mr
theorem own_ldcK {C : String} {mr : Addr} (K : own_S w kf EL p l e R s m args below meth c Z a0 own h0 ws T h fs cells slots) (hx : p.tables.exec = Jvm.exec) (w1 : (Cond.classLink own index C).before a0 Z = true) (M : own_Mir Z C mr) (hd : decode c.code pc = .ok (.ldc index, 2)) (hp : pc + 2 = pc')
    (G : ∀ T' : State, own_S w kf EL p l e R s m args below meth c Z a0 own h0 ws T' h fs cells slots → own_Go p.tables e below P T' (mkF m pc' Ls (.ref mr :: St))) : own_Go p.tables e below P T (mkF m pc Ls St) := by
  subst hp
  obtain ⟨vm0, locs, k0, X, eT, I⟩ := K
  have hZ : Z.Warmed39 (s.setVm vm0).vm := I.1
  obtain ⟨cc, k, m1, m2, m3⟩ := M
  obtain ⟨k', n2, ne⟩ := hZ.alike.2.2 _ _ m2
  have n1 : (s.setVm vm0).vm.findClass C = some cc := by rw [hZ.alike.findClass]; exact m1
  have n3 : k'.mirror = some mr := by rw [ne]; exact m3
  have n1' : vm0.findClass C = some cc := n1
  have n2' : vm0.classes[cc]? = some k' := n2
  obtain ⟨vm', X', st⟩ := X.ldcMirror hx I.2.1 (mvT hZ w1) (a := mr) (by simp [Term.eval, n1', n2', n3]) (g := mkF m pc Ls St) rfl hd
  exact own_by st (G _ ⟨vm0, locs, k0, X', eT, I⟩)
theorem own_getCls {C : String} {b mr : Addr} (K : own_S w kf EL p l e R s m args below meth c Z a0 own h0 ws T h fs cells slots) (hx : p.tables.exec = Jvm.exec) (hsz : Ls.size = c.maxLocals) (w1 : (Cond.methodLink own index Jvm.Stand.gcN).before a0 Z = true) (w2 : (Cond.declares Jvm.Stand.gcN).before a0 Z = true) (w3 : (Cond.selects C Jvm.Stand.gcN Jvm.Stand.gcN).before a0 Z = true) (w4 : (Cond.instanceMethod Jvm.Stand.gcN).before a0 Z = true) (w5 : (Cond.native Jvm.Stand.gcN).before a0 Z = true) (E : Exa Z h b C) (M : own_Mir Z C mr)
    (hd : decode c.code pc = .ok (.invokevirtual index, 3)) (hp : pc + 3 = pc') (W : Nat) (hW : (rest.map fun v => v.category).sum ≤ W) (hf : 1 ≤ R.frames) (hl : W + 14 ≤ R.locals)
    (G : ∀ T' : State, own_S w kf EL p l e R s m args below meth c Z a0 own h0 ws T' h fs cells slots → own_Go p.tables e below P T' (mkF m pc' Ls (.ref mr :: rest))) : own_Go p.tables e below P T (mkF m pc Ls (.ref b :: rest)) := by
  subst hp
  obtain ⟨vm0, locs, k0, X, eT, I⟩ := K
  have hZ : Z.Warmed39 (s.setVm vm0).vm := I.1
  obtain ⟨cc, k, m1, m2, m3⟩ := M
  obtain ⟨k', n2, ne⟩ := hZ.alike.2.2 _ _ m2
  obtain ⟨cB, kB, b1, b2, b3⟩ := isOf hZ eT E
  have n1 : (s.setVm vm0).vm.findClass C = some cc := by rw [hZ.alike.findClass]; exact m1
  obtain rfl : cB = cc := Option.some.inj (b1.symm.trans n1)
  have n3 : k'.mirror = some mr := by rw [ne]; exact m3
  obtain ⟨vm', X', st⟩ := X.getClassOf hx I.2.1 (mvT hZ w1) (mvT hZ w2) (notFace_of_selects (args := #[]) (mvT hZ w3)) (mvT hZ w3) (mvT hZ w4) (mvT hZ w5) b1 b3 n2 n3 (g := mkF m pc Ls (.ref b :: rest)) rfl hsz (rest := rest) rfl hd hf (by rw [show nativeFrameWords "java/lang/Object" "getClass" 1 = 3 from by decide]; show 2 * 0 + _ + (3 + 11) ≤ _; omega)
  exact own_by st (G _ ⟨vm0, locs, k0, X', eT, I⟩)
/-- anewarray, the array's class said too -/
theorem own_newrefX {C D : String} {n : Int32} (K : own_S w kf EL p l e R s m args below meth c Z a0 own h0 ws T h fs cells slots) (hx : p.tables.exec = Jvm.exec) (w1 : (Cond.classLink own index C).before a0 Z = true) (w2 : (Cond.arrayOver (.object C)).before a0 Z = true) (hD : "[" ++ (FieldType.object C).toString = D)
    (hd : decode c.code pc = .ok (.anewarray index, 3)) (hp : pc + 3 = pc') (hn : ¬ n < 0) (cap : Nat) (hcap : n.toNatClampNeg ≤ cap) (hb : cap * 8 ≤ 536870912) (hc : cells + 1 ≤ R.cells) (hl : slots + cap ≤ R.slots)
    (G : ∀ (T' : State) (h' : Heap) (a : Addr) (k : ClassId), a = h.size → own_S w kf EL p l e R s m args below meth c Z a0 own h0 ws T' h' (a :: fs) (cells + 1) (slots + cap) → Ext h h' → Arv Z h' a k (.object C) n [] .null → Ovr Z k C → Exa Z h' a D →
      own_Go p.tables e below P T' (mkF m pc' Ls (.ref a :: St))) : own_Go p.tables e below P T (mkF m pc Ls (.int n :: St)) := by
  subst hp
  obtain ⟨vm0, locs, k0, X, eT, I⟩ := K
  have hZ : Z.Warmed39 (s.setVm vm0).vm := I.1
  have w2' : (Cond.arrayOver (.object C)).before args (s.setVm vm0) = true := Cond.arrayOver_alike hZ.alike w2
  obtain ⟨vm₁, cA, kA, comp, -, h1, h2, h3, h4, X', st⟩ := X.anewarrayRefK hx I.2.1 (mvT hZ w1) w2' (g := mkF m pc Ls (.int n :: St)) rfl hd rfl hn (by omega) hc (by omega)
  subst eT
  rw [hZ.alike.findClass, hD] at h1
  obtain ⟨kZ, z1, -⟩ := Vm.findClass_spec h1
  obtain ⟨k', z2, z3⟩ := hZ.alike.2.2 _ _ z1
  cases h2.symm.trans z2
  have hk : kZ.kind = .array comp (.object C) := by rw [← h3, z3]
  have hget : (T.heap.push { cls := cA, slots := Array.replicate n.toNatClampNeg .null, vm := .none })[T.heap.size]? = some { cls := cA, slots := Array.replicate n.toNatClampNeg .null, vm := .none } := by simp
  have E : Ext T.heap (T.heap.push { cls := cA, slots := Array.replicate n.toNatClampNeg .null, vm := .none }) := ext_of fun a q => Array.getElem?_push_lt q |>.trans (Array.getElem?_eq_getElem q).symm
  have A : Arr Z (T.heap.push { cls := cA, slots := Array.replicate n.toNatClampNeg .null, vm := .none }) T.heap.size (newA cA (.object C) n) (.object C) := ⟨by simp [newA, defaultValue], ⟨by simp [newA], kZ, z1, comp, hk⟩, by simp [newA]⟩
  exact own_by st (G _ _ _ cA rfl ⟨vm0, locs, k0, X'.more (Nat.le_refl _) (by omega), rfl, I.grow E (by show _ < (T.heap.push _).size; simp)⟩ E (Arv.new A hn) ⟨kZ, comp, z1, hk, by rw [← hZ.alike.findClass]; exact h4⟩ ⟨_, kZ, hget, h1, z1, rfl, fun q => by rw [hk] at q; cases q⟩)
/-- C's chain of superclasses doesn't hold K, which is no interface -/
theorem own_chain3 {C1 C2 C3 O K : String} (w1 : (Cond.superclass C1 C2).before a0 Z = true) (w2 : (Cond.superclass C2 C3).before a0 Z = true) (w3 : (Cond.superclass C3 O).before a0 Z = true) (w4 : (Cond.noSuperclass O).before a0 Z = true) (hk : ∃ (t : ClassId) (kt : Class), Z.vm.findClass K = some t ∧ Z.vm.classes[t]? = some kt ∧ kt.isInterface = false) (n1 : C1 ≠ K) (n2 : C2 ≠ K) (n3 : C3 ≠ K) (n4 : O ≠ K) :
    ∃ cc t, Z.vm.findClass C1 = some cc ∧ Z.vm.findClass K = some t ∧ Z.vm.assignable cc t = false := by
  obtain ⟨t, kt, g1, g2, g4⟩ := hk
  obtain ⟨o, ko, o1, o2, o3, -, -⟩ := Cond.noSuperclass_spec w4
  obtain ⟨c1, a1⟩ := found_sup w1
  obtain ⟨c2, k1, kp1, b1, b2, -, b4, b5, -, -⟩ := Cond.superclass_spec a1 w1
  obtain ⟨c3, k2, kp2, d1, d2, -, d4, d5, -, -⟩ := Cond.superclass_spec b1 w2
  obtain ⟨c4, k3, kp3, f1, f2, -, f4, f5, -, -⟩ := Cond.superclass_spec d1 w3
  cases o1.symm.trans f1
  have e1 := ids_ne a1 g1 n1
  have e2 := ids_ne b1 g1 n2
  have e3 := ids_ne d1 g1 n3
  have e4 := ids_ne o1 g1 n4
  have s4 : ∀ fuel, Z.vm.isSubclassAux fuel o t = false := fun fuel => by cases fuel <;> simp [Vm.isSubclassAux, e4, o2, o3]
  have s3 : ∀ fuel, Z.vm.isSubclassAux fuel c3 t = false := fun fuel => by cases fuel <;> simp [Vm.isSubclassAux, e3, f2, f4, s4]
  have s2 : ∀ fuel, Z.vm.isSubclassAux fuel c2 t = false := fun fuel => by cases fuel <;> simp [Vm.isSubclassAux, e2, d2, d4, s3]
  have s1 : ∀ fuel, Z.vm.isSubclassAux fuel c1 t = false := fun fuel => by cases fuel <;> simp [Vm.isSubclassAux, e1, b2, b4, s2]
  refine ⟨c1, t, a1, g1, ?_⟩
  show Z.vm.assignableAux (255 + 1) c1 t = false
  cases hkk : kt.kind <;> simp [Vm.assignableAux, e1, b2, g2, b5, hkk, g4, Vm.isSubclass, s1]
theorem own_noFaceI {K : String} {n : Nat} (wi : (Cond.instantiable K n).before a0 Z = true) : ∃ (t : ClassId) (kt : Class), Z.vm.findClass K = some t ∧ Z.vm.classes[t]? = some kt ∧ kt.isInterface = false := by
  obtain ⟨t, kt, g1, g2, g3, g4, -⟩ := Cond.instantiable_spec wi
  refine ⟨t, kt, g1, g2, ?_⟩
  cases hi : kt.isInterface
  · rfl
  · rw [hi] at g4; cases g4
theorem own_noFaceS {C : String} (w : (Cond.selects C y z).before a0 Z = true) : ∃ (t : ClassId) (kt : Class), Z.vm.findClass z.cls = some t ∧ Z.vm.classes[t]? = some kt ∧ kt.isInterface = false := by
  obtain ⟨c2, r2, m2, q1, q2, q3, q4, kP, hkP, hkPi⟩ := Cond.selects_spec w
  exact ⟨_, kP, findClass_of_methodNamed q3, hkP, hkPi⟩
theorem own_spl {α : Type} {us vs : List α} {i j n q : Nat} (hin : i + n ≤ vs.length) (hon : j + n ≤ us.length) : (us.take j ++ (vs.drop i).take n ++ us.drop (j + n))[q]? = if j ≤ q ∧ q < j + n then vs[i + (q - j)]? else us[q]? := by
  have e1 : (us.take j).length = j := by rw [List.length_take]; omega
  have e2 : ((vs.drop i).take n).length = n := by rw [List.length_take, List.length_drop]; omega
  rw [List.append_assoc, List.getElem?_append, e1]
  by_cases c1 : q < j
  · rw [if_pos c1, if_neg (by omega), List.getElem?_take, if_pos c1]
  · rw [if_neg c1, List.getElem?_append, e2]
    by_cases c2 : q - j < n
    · rw [if_pos c2, if_pos (by omega), List.getElem?_take, if_pos c2, List.getElem?_drop]
    · rw [if_neg c2, if_neg (by omega), List.getElem?_drop]; congr 1; omega
set_option maxHeartbeats 4000000 in
/-- System.arraycopy of values that the array takes -/
theorem own_acopyG {src dst : Addr} {ks kd : ClassId} {ty : FieldType} {vs us : List Value} {dv dw : Value} {i j n : Nat} (K : own_S w kf EL p l e R s m args below meth c Z a0 own h0 ws T h fs cells slots) (hx : p.tables.exec = Jvm.exec)
    (w1 : (Cond.methodLink own index (⟨"java/lang/System", "arraycopy", "(Ljava/lang/Object;ILjava/lang/Object;II)V"⟩ : MethodName)).before a0 Z = true) (w2 : (Cond.native (⟨"java/lang/System", "arraycopy", "(Ljava/lang/Object;ILjava/lang/Object;II)V"⟩ : MethodName)).before a0 Z = true) (w3 : (Cond.static (⟨"java/lang/System", "arraycopy", "(Ljava/lang/Object;ILjava/lang/Object;II)V"⟩ : MethodName)).before a0 Z = true) (w4 : (Cond.initialized "java/lang/System").before a0 Z = true)
    (F : Arv Z h src ks ty (Int32.ofNat vs.length) vs dv) (D : Arv Z h dst kd ty (Int32.ofNat us.length) us dw) (hty : ((refKind ty != refKind ty) || (!refKind ty && ty != ty)) = false) (hS : ∀ q, q < n → (∃ x, vs.getD (i + q) dv = .int x) ∨ Sto Z h dst (vs.getD (i + q) dv)) (ha : dst ∈ fs) (hin : i + n ≤ vs.length) (hon : j + n ≤ us.length) (hb : vs.length < 2 ^ 31) (hb' : us.length < 2 ^ 31) (hsz : Ls.size = c.maxLocals) (hd : decode c.code pc = .ok (.invokestatic index, 3)) (hp : pc + 3 = pc') (hf : 1 ≤ R.frames) (hlo : (rest.map fun v => v.category).sum + 18 ≤ R.locals)
    (G : ∀ (T' : State) (h' : Heap), own_S w kf EL p l e R s m args below meth c Z a0 own h0 ws T' h' fs cells slots → Keep h h' [dst] → Arv Z h' dst kd ty (Int32.ofNat us.length) (us.take j ++ (vs.drop i).take n ++ us.drop (j + n)) dw → own_Go p.tables e below P T' (mkF m pc' Ls rest)) :
    own_Go p.tables e below P T (mkF m pc Ls (.int (Int32.ofNat n) :: .int (Int32.ofNat j) :: .ref dst :: .int (Int32.ofNat i) :: .ref src :: rest)) := by
  subst hp
  obtain ⟨vm0, locs, k0, X, eT, I⟩ := K
  have hZ : Z.Warmed39 (s.setVm vm0).vm := I.1
  obtain ⟨cs, A, q1, q2, q3, q4, q5⟩ := F
  obtain ⟨cd, B, r1, r2, r3, r4, r5⟩ := D
  rw [own_copyN hb] at q2
  rw [own_copyN hb'] at r2
  obtain ⟨s1, kS, s2, sc, s3⟩ := State.isArrayOf_alike hZ.alike A.2.1
  obtain ⟨d1, kD, d2, dc, d3⟩ := State.isArrayOf_alike hZ.alike B.2.1
  have ei : (Int32.ofNat i).toNatClampNeg = i := own_copyN (by omega)
  have ej : (Int32.ofNat j).toNatClampNeg = j := own_copyN (by omega)
  have en : (Int32.ofNat n).toNatClampNeg = n := own_copyN (by omega)
  have ti : (Int32.ofNat i).toInt = i := Int32.toInt_ofNat_small (by omega)
  have tj : (Int32.ofNat j).toInt = j := Int32.toInt_ofNat_small (by omega)
  have tn : (Int32.ofNat n).toInt = n := Int32.toInt_ofNat_small (by omega)
  have at_ : ∀ q, q < n → cs.slots.getD (i + q) .null = vs.getD (i + q) dv ∧ fits ty (vs.getD (i + q) dv) = true := fun q hq => by
    have hl : i + q < cs.slots.size := by omega
    have g := q4 (i + q) hl
    have g' : cs.slots.getD (i + q) .null = vs.getD (i + q) dv := by rw [Array.getD_eq_getD_getElem?, g]; rfl
    exact ⟨g', q5 (i + q) hl⟩
  obtain ⟨vm1, -, X1, st⟩ := X.arraycopyK hx (own := own) (index := index) I.2.1 (mvT hZ w1) (mvT hZ w2) (mvT hZ w3) (mvT hZ w4) (src := src) (dst := dst) (srcPos := Int32.ofNat i) (destPos := Int32.ofNat j) (n := Int32.ofNat n) (cs := cs) (cd := cd) (ks := kS) (kd := kD) (sComp := sc) (dComp := dc) (sType := ty) (dType := ty)
    (by rw [eT]; exact A.1) (by rw [eT]; exact B.1) s1 d1 A.2.2 B.2.2 s2 d2 s3 d3 hty (own_copyG (by omega)) (own_copyG (by omega)) (own_copyG (by omega)) (by rw [ti, tn, q2]; omega) (by rw [tj, tn, r2]; omega)
    (fun vm₁ hv q hq => by
      rw [en] at hq
      obtain ⟨g1, g2⟩ := at_ q hq
      rw [ei, g1]
      refine ⟨g2, ?_⟩
      rcases hS q hq with ⟨x, hx'⟩ | h1 | ⟨cl1, cv, k1, kv, kc, cp, t, y, g3, g4, g5, g6, g7, g8, g9, g10, g11⟩
      · rw [hx']; trivial
      · rw [h1]; trivial
      · rw [g7]
        cases B.1.symm.trans g3
        obtain ⟨k', u1, u2⟩ := hZ.alike.2.2 _ _ g4
        cases d2.symm.trans u1
        have u3 : kD.kind = .array cp t := by rw [u2]; exact g5
        cases d3.symm.trans u3
        obtain ⟨kc', u4, -⟩ := hZ.alike.2.2 _ _ g6
        obtain ⟨kc'', u5, -⟩ := hv.alike.2.2 _ _ u4
        obtain ⟨kv', u6, -⟩ := hZ.alike.2.2 _ _ g10
        obtain ⟨kv'', u7, -⟩ := hv.alike.2.2 _ _ u6
        refine ⟨cv, by show T.heap[y]? = some cv; rw [eT]; exact g8, (fun z e => by rw [e] at g9; cases g9), ⟨kv'', u7⟩, ⟨kc'', u5⟩, ?_⟩
        show vm₁.assignable cv.cls dc = true
        rw [hv.alike.assignable, hZ.alike.assignable]; exact g11)
    (g := mkF m pc Ls (.int (Int32.ofNat n) :: .int (Int32.ofNat j) :: .ref dst :: .int (Int32.ofNat i) :: .ref src :: rest)) rfl hsz (rest := rest) rfl hd hf (by show 2 * 0 + _ + (7 + 11) ≤ _; omega)
  have hlt : dst < h.size := (Array.getElem?_eq_some_iff.mp B.1).1
  obtain ⟨f1, f2, f3, -, -⟩ := Cell.storeRun_facts cd (Int32.ofNat j).toNatClampNeg (cs.stretch (Int32.ofNat i).toNatClampNeg (Int32.ofNat n).toNatClampNeg)
  have hh : ((T.setVm vm1).setCell dst (copied cs cd (Int32.ofNat i) (Int32.ofNat j) (Int32.ofNat n))).heap = h.setIfInBounds dst (copied cs cd (Int32.ofNat i) (Int32.ofNat j) (Int32.ofNat n)) := by rw [← eT]; rfl
  have kp : Keep h (h.setIfInBounds dst (copied cs cd (Int32.ofNat i) (Int32.ofNat j) (Int32.ofNat n))) [dst] := by
    refine ⟨by simp, fun x cx hx hn => ?_, fun x cx hx => ?_⟩
    · rw [Array.getElem?_setIfInBounds_ne (fun q => hn (by rw [q]; exact List.mem_singleton.mpr rfl))]; exact hx
    · by_cases q : dst = x
      · subst q; cases B.1.symm.trans hx
        exact ⟨_, Array.getElem?_setIfInBounds_self_of_lt hlt, f1, f2, f3⟩
      · exact ⟨cx, by rw [Array.getElem?_setIfInBounds_ne q]; exact hx, rfl, rfl, rfl⟩
  have hD : Arv Z (h.setIfInBounds dst (copied cs cd (Int32.ofNat i) (Int32.ofNat j) (Int32.ofNat n))) dst kd ty (Int32.ofNat us.length) (us.take j ++ (vs.drop i).take n ++ us.drop (j + n)) dw := by
    have gets : ∀ q, q < us.length → (copied cs cd (Int32.ofNat i) (Int32.ofNat j) (Int32.ofNat n)).slots[q]? = some ((us.take j ++ (vs.drop i).take n ++ us.drop (j + n)).getD q dw) ∧ fits ty ((us.take j ++ (vs.drop i).take n ++ us.drop (j + n)).getD q dw) = true := fun q hq => by
      have g := Cell.storeRun_get cd (Int32.ofNat j).toNatClampNeg (cs.stretch (Int32.ofNat i).toNatClampNeg (Int32.ofNat n).toNatClampNeg) q (by rw [Cell.stretch_length, en, ej, r2]; exact hon)
      rw [Cell.stretch_length, en, ei, ej] at g
      have sp := own_spl (q := q) hin hon
      have cE : (copied cs cd (Int32.ofNat i) (Int32.ofNat j) (Int32.ofNat n)).slots[q]? = if j ≤ q ∧ q < j + n then (cs.stretch i n)[q - j]? else cd.slots[q]? := by
        show (cd.storeRun _ _).slots[q]? = _
        rw [ei, en, ej]; exact g
      rw [cE, List.getD_eq_getElem?_getD, sp]
      by_cases cc : j ≤ q ∧ q < j + n
      · rw [if_pos cc, if_pos cc]
        obtain ⟨g3, g4⟩ := at_ (q - j) (by omega)
        have g2 : (cs.stretch i n)[q - j]? = some (cs.slots.getD (i + (q - j)) .null) := by simp [Cell.stretch, show q - j < n by omega]
        have g5 : vs[i + (q - j)]?.getD dw = vs.getD (i + (q - j)) dv := by
          rw [List.getD_eq_getElem?_getD, List.getElem?_eq_getElem (show i + (q - j) < vs.length by omega)]; rfl
        rw [g2, g3, g5]; exact ⟨rfl, g4⟩
      · rw [if_neg cc, if_neg cc, r4 q (by omega), List.getD_eq_getElem?_getD]
        exact ⟨rfl, by rw [← List.getD_eq_getElem?_getD]; exact r5 q (by omega)⟩
    have sz : (copied cs cd (Int32.ofNat i) (Int32.ofNat j) (Int32.ofNat n)).slots.size = us.length := f3.trans r2
    refine ⟨_, ⟨Array.getElem?_setIfInBounds_self_of_lt hlt, ?_, by rw [f2]; exact B.2.2⟩, f1.trans r1, by rw [own_copyN hb']; exact sz, r3, fun q hq => (gets q (by rw [← sz]; exact hq)).1, fun q hq => (gets q (by rw [← sz]; exact hq)).2⟩
    obtain ⟨b1, kb, b2, cb, b3⟩ := B.2.1
    exact ⟨fun q => by rw [f2]; exact b1 q, kb, by rw [f1]; exact b2, cb, b3⟩
  have hfr : Fr Z.heap.size (copyLocs dst (Int32.ofNat j).toNatClampNeg (Int32.ofNat n).toNatClampNeg) := fun y hy => by
    obtain ⟨q, -, rfl⟩ := List.mem_map.mp hy
    exact (I.2.2.2.2.2.2.2.2.2.2.2.2 dst ha).2.1
  exact own_by st (G _ _ ⟨vm0, _, k0, X1, hh, I.keep kp (own_mem1 ha) hfr⟩ kp hD)
end OwnMore
section OwnMoreI
open Jvm.Stand
variable {p : Program} {l : Launch} {e : Env} {R : Room} {s : State} {m : MethodId} {args : Array Value} {below : List Frame} {meth : Method} {c : Code} {T : State} {cells slots : Nat} {Z : State} {a0 : Array Value} {h h0 : Heap} {w kf : Bool} {EL : List (String × Nat)} {own : String} {ws ws' fs : List Addr} {P : Outcome → State → Prop} {pc pc' : Nat} {Ls : Array Slot} {St : List Value} {index : Nat}
variable {y z : MethodName} {bytes : ByteArray} {maxL len W : Nat} {ret : Option FieldType} {rm : Room} {QR : Option Value → Heap → List Addr → Prop} {argsL rest : List Value}
/-- invokeinterface of a body that hands back what may be written -/
theorem own_callIR {C : String} {b : Addr} {count : Nat} (K : own_S true kf EL p l e R s m args below meth c Z a0 own h0 ws T h fs cells slots) (hx : p.tables.exec = Jvm.exec) (hsz : Ls.size = c.maxLocals)
    (w1 : (Cond.methodLink own index y).before a0 Z = true) (w2 : (Cond.declares y).before a0 Z = true) (wf : (Cond.interfaceMethod y.cls y.cls y.name y.desc).before a0 Z = true) (hfa : ((Cond.interfaceMethod y.cls y.cls y.name y.desc).onTables && (Cond.interfaceMethod y.cls y.cls y.name y.desc).keepsFace) = true) (w3 : (Cond.selects C y z).before a0 Z = true) (w4 : (Cond.instanceMethod z).before a0 Z = true) (w5 : (Cond.publicMethod z).before a0 Z = true) (w6 : (Cond.unhidden C y.name y.desc).before a0 Z = true) (w7 : (Cond.castable C y.cls).before a0 Z = true) (wz : (Cond.initialized z.cls).before a0 Z = true) (wc : (Cond.code z bytes maxL ret).before a0 Z = true) (hy : y.cls ≠ "java/lang/invoke/MethodHandle" ∧ y.cls ≠ "java/lang/invoke/VarHandle") (E : Exa Z h b C)
    (hM : own_MetR true kf EL l Z a0 z bytes maxL ret [] rm (.ref b :: argsL).toArray h ws' QR) (hw : ∀ x ∈ ws', x ∈ fs) (hlen : ∀ sig, parseMethodDescriptor y.desc = some sig → argsL.length = sig.parameters.length) (hst : St = argsL.reverse ++ .ref b :: rest) (W : Nat) (hW : (rest.map fun v => v.category).sum ≤ W)
    (hd : decode c.code pc = .ok (.invokeinterface index count, 5)) (hp : pc + 5 = pc') (hf : rm.frames + 1 ≤ R.frames) (hl : W + (maxL + 11) + rm.locals ≤ R.locals) (hc : cells + rm.cells ≤ R.cells) (hs : slots + rm.slots ≤ R.slots)
    (G : ∀ (v : Option Value) (T' : State) (h' : Heap) (ns : List Addr), own_S true kf EL p l e R s m args below meth c Z a0 own h0 ws T' h' (ns ++ fs) (cells + rm.cells) (slots + rm.slots) → Keep h h' ws' → QR v h' ns → own_Go p.tables e below P T' (mkF m pc' Ls (v.toList ++ rest))) :
    own_Go p.tables e below P T (mkF m pc Ls St) := by
  subst hp
  obtain ⟨vm0, locs, k0, X, eT, I⟩ := K
  have hZ : Z.Warmed39 (s.setVm vm0).vm := I.1
  obtain ⟨cB, kB, b1, b2, b3⟩ := isOf hZ eT E
  obtain ⟨v, vm₁, B, -, X', hS, hgr, ⟨L, ⟨ns, q1, q2, q3, q4, q5⟩, e1, e2, e3⟩, st⟩ := X.interfaceBackS hx (xi := y) (y := z) I.2.1 (mvT hZ w1) (mvT hZ w2) (mvT hZ wf hfa) (mvT hZ w3) (mvT hZ w4) (mvT hZ w5) (mvT hZ w6) (mvT hZ w7) hy (own_backWR (len := 5) (W := W) hM I hw wc wz hf hl) b1 b2 b3 (g := mkF m pc Ls St) rfl hsz (Steps.refl _) (argsL := argsL) (rest := rest) hlen hst (by show 2 * 0 + _ ≤ _; omega) hd (fun _ _ => ⟨rfl, eT, hc, hs⟩)
  exact own_on st (G v B.U _ ns (own_afterWR I X' hS q4 q2 hw q3 e1 e2 e3 q5) q2 q1)
end OwnMoreI

theorem own_dk {c : Code} {b : ByteArray} {L : List (Nat × Instr × Nat)} (hby : c.code = b) (h : ∀ r ∈ L, decode b r.1 = .ok (r.2.1, r.2.2)) (i : Nat) {pc n : Nat} {x : Instr} (q : L[i]? = some (pc, x, n)) : decode c.code pc = .ok (x, n) := hb hby (h (pc, x, n) (List.mem_of_getElem? q))
theorem own_w {Z : State} {a0 : Array Value} (hw : ∀ d ∈ tables_1, d.before a0 Z = true) {d : Cond} (i : Nat) (q : tables_1[i]? = some d) : d.before a0 Z = true := hw d (List.mem_of_getElem? q)
theorem own_sa {Z : State} {a0 : Array Value} (hw : ∀ d ∈ tables_1, d.before a0 Z = true) : ∀ a ∈ Bundle.stringAtoms, a.before a0 Z = true := fun d hd => hw d ((by decide +kernel : ∀ d ∈ Bundle.stringAtoms, d ∈ tables_1) d hd)
theorem own_wn {Z : State} {a0 : Array Value} (hw : ∀ d ∈ tables_1, d.before a0 Z = true) : ∀ d ∈ StrChars.Road.words, d.before a0 Z = true := fun d hd => hw d ((by decide +kernel : ∀ d ∈ StrChars.Road.words, d ∈ tables_1) d hd)
theorem own_wl {Z : State} {a0 : Array Value} (hw : ∀ d ∈ tables_1, d.before a0 Z = true) : ∀ d ∈ StrChars.Road.wordsLen, d.before a0 Z = true := fun d hd => hw d ((by decide +kernel : ∀ d ∈ StrChars.Road.wordsLen, d ∈ tables_1) d hd)
theorem own_wc {Z : State} {a0 : Array Value} (hw : ∀ d ∈ tables_1, d.before a0 Z = true) : ∀ d ∈ StrChars.Road.wordsChN, d.before a0 Z = true := fun d hd => hw d ((by decide +kernel : ∀ d ∈ StrChars.Road.wordsChN, d ∈ tables_1) d hd)
theorem own_we {Z : State} {a0 : Array Value} (hw : ∀ d ∈ tables_1, d.before a0 Z = true) : ∀ d ∈ StrChars.Road.wordsEq, d.before a0 Z = true := fun d hd => hw d ((by decide +kernel : ∀ d ∈ StrChars.Road.wordsEq, d ∈ tables_1) d hd)
theorem own_m255 (x : Int32) : ¬ (x &&& (255 : Int32)) < 0 ∧ ¬ (255 : Int32) < (x &&& (255 : Int32)) := by
  have h : (x &&& 255).toBitVec.toNat < 256 := by
    simp only [Int32.toBitVec_and, BitVec.toNat_and]
    exact Nat.lt_succ_of_le Nat.and_le_right
  have t : ∀ k : Fin 256, ¬ (Int32.ofNat k.val) < 0 ∧ ¬ (255 : Int32) < (Int32.ofNat k.val) := by decide +kernel
  have e : (x &&& 255) = Int32.ofNat (x &&& 255).toBitVec.toNat := by
    apply Int32.toBitVec_inj.mp
    show _ = BitVec.ofNat 32 _
    rw [BitVec.ofNat_toNat]; simp
  rw [e]
  exact t ⟨_, h⟩
theorem own_c255 (x : Int32) : ¬ ((x &&& (255 : Int32)).toUInt32.toUInt16.toUInt32.toInt32) < 0 ∧ ¬ (255 : Int32) < ((x &&& (255 : Int32)).toUInt32.toUInt16.toUInt32.toInt32) := by
  rw [i2c_mask]; exact own_m255 x
theorem own_n255 (x : Int32) : nar .char ((x &&& (255 : Int32)).toUInt32.toUInt16.toUInt32.toInt32) = ((x &&& (255 : Int32)).toUInt32.toUInt16.toUInt32.toInt32) := by simp only [nar, UInt32.toUInt32_toInt32, UInt16.toUInt16_toUInt32]
theorem own_and255 (x : Int32) : ¬ nar .char ((x &&& (255 : Int32)).toUInt32.toUInt16.toUInt32.toInt32) < 0 ∧ ¬ (255 : Int32) < nar .char ((x &&& (255 : Int32)).toUInt32.toUInt16.toUInt32.toInt32) := by
  rw [own_n255]; exact own_c255 x
abbrev own_T1 : List Int32 := [108, 101, 97, 100, 101, 114, 32, 112, 111, 115, 105, 116, 105, 111, 110, 32, 48, 53, 32, 34, 100, 34, 32, 109, 97, 114, 107, 115, 32, 105, 116, 32, 100, 101, 108, 101, 116, 101, 100]
abbrev own_T2 : List Int32 := [108, 101, 97, 100, 101, 114, 32, 112, 111, 115, 105, 116, 105, 111, 110, 32, 48, 53, 32, 34, 100, 34, 32, 109, 97, 114, 107, 115, 32, 105, 116, 115, 32, 116, 105, 116, 108, 101, 32]
abbrev own_T3 : List Int32 := [32, 100, 101, 108, 101, 116, 101, 100]
abbrev own_NO : List Int32 := [40, 110, 111, 32, 48, 48, 49, 41]
def own_ld (z c : Int32) : List Int32 := if z = 0 then [100, 100, 100, 100, 100] else [48, 48, 48, 48, 48, c]
def own_del (z c : Int32) : Int32 := if z = 0 then 0 else if c = 100 then 1 else 0
def own_id (z c d : Int32) : List Int32 := if z = 0 then own_NO else [c, d]
def own_cv (z : Int32) (s : Addr) : Value := if z = 0 then .null else .ref s
theorem own_cvR (z : Int32) (s : Addr) : (own_cv z s).isRef = true := by unfold own_cv; split <;> rfl
theorem own_del01 (z c : Int32) : own_del z c = 0 ∨ own_del z c = 1 := by unfold own_del; split; exact Or.inl rfl; split; exact Or.inr rfl; exact Or.inl rfl
theorem own_nr {x : Int32} (h : ¬ x < 0 ∧ ¬ (255 : Int32) < x) : nar .char x = x := by
  obtain ⟨h0, h1⟩ := h
  rw [Int32.lt_iff_toInt_lt] at h0 h1
  have e0 : (0 : Int32).toInt = 0 := rfl
  have e1 : (255 : Int32).toInt = 255 := rfl
  have hk : x = Int32.ofNat x.toInt.toNat := by
    apply Int32.toInt_inj.mp
    rw [Int32.toInt_ofNat_small (by omega)]; omega
  have t : ∀ k : Fin 256, nar .char (Int32.ofNat k.val) = Int32.ofNat k.val := by decide +kernel
  rw [hk]; exact t ⟨x.toInt.toNat, by omega⟩
section OwnL
variable {Z : State} {h h' : Heap} {a f L : Addr} {z : Int32} {ws : List Addr}
/-- a list: the empty one, or a List12 of f alone -/
def own_Fs (Z : State) (h : Heap) (L : Addr) (z : Int32) (f aL aM : Addr) : Prop := (z = 0 ∧ L = aL) ∨ (z = 1 ∧ Exa Z h L "java/util/ImmutableCollections$List12" ∧ Fld Z h L "java/util/ImmutableCollections$List12" "e0" "Ljava/lang/Object;" (.ref f) ∧ Fld Z h L "java/util/ImmutableCollections$List12" "e1" "Ljava/lang/Object;" (.ref aM))
theorem own_Fs.keep {aL aM : Addr} (F : own_Fs Z h L z f aL aM) (K : Keep h h' ws) (hn : ∀ x ∈ ws, ∃ C, Exa Z h x C ∧ C ≠ "java/util/ImmutableCollections$List12") : own_Fs Z h' L z f aL aM := by
  rcases F with F | ⟨e, X, F0, F1⟩
  · exact Or.inl F
  · have nL : L ∉ ws := fun q => by obtain ⟨C, XC, ne⟩ := hn L q; exact absurd rfl (XC.ne X ne)
    exact Or.inr ⟨e, X.keep K, F0.keep K nL, F1.keep K nL⟩
theorem own_Fs.ext {aL aM : Addr} (F : own_Fs Z h L z f aL aM) (E : Ext h h') : own_Fs Z h' L z f aL aM := F.keep ((Keep.refl h []).ext E) (fun _ q => nomatch q)
theorem own_not0 : ∀ x ∈ ([] : List Addr), ∃ C, Exa Z h x C ∧ C ≠ "java/util/ImmutableCollections$List12" := fun _ q => nomatch q
theorem own_not1 {x : Addr} {C : String} (X : Exa Z h x C) (n : C ≠ "java/util/ImmutableCollections$List12") : ∀ y ∈ [x], ∃ C, Exa Z h y C ∧ C ≠ "java/util/ImmutableCollections$List12" := fun y hy => by cases List.mem_singleton.mp hy; exact ⟨C, X, n⟩
/-- an ArrayList, empty or of f alone -/
def own_AL (Z : State) (h : Heap) (a : Addr) (z : Int32) (f : Addr) : Prop := Exa Z h a "java/util/ArrayList" ∧ Fld Z h a "java/util/ArrayList" "size" "I" (.int z) ∧ (z = 1 → ∃ d k, Fld Z h a "java/util/ArrayList" "elementData" "[Ljava/lang/Object;" (.ref d) ∧ Exa Z h d "[Ljava/lang/Object;" ∧ Arv Z h d k (.object "java/lang/Object") (10 : Int32) [.ref f, .null, .null, .null, .null, .null, .null, .null, .null, .null] .null)
theorem own_AL.keep (F : own_AL Z h a z f) (K : Keep h h' []) : own_AL Z h' a z f := by
  obtain ⟨X, S, r⟩ := F
  refine ⟨X.keep K, S.keep K nin0, fun e => ?_⟩
  obtain ⟨d, k, F1, X1, A1⟩ := r e
  exact ⟨d, k, F1.keep K nin0, X1.keep K, A1.keep K nin0⟩
theorem own_AL.ext (F : own_AL Z h a z f) (E : Ext h h') : own_AL Z h' a z f := F.keep ((Keep.refl h []).ext E)
def own_DA (Z : State) (h : Heap) (r : Value) (dl : Int32) : Prop := (dl = 1 ∧ ∃ a, r = .ref a ∧ own_Str Z h a own_T1) ∨ (dl = 0 ∧ r = .null)
def own_DB (Z : State) (h : Heap) (r : Value) (dl bl : Int32) (ds : List Int32) : Prop := (dl = 1 ∧ ∃ a, r = .ref a ∧ own_Str Z h a own_T1) ∨ (dl = 0 ∧ bl = 0 ∧ r = .null) ∨ (dl = 0 ∧ bl = 1 ∧ ∃ a, r = .ref a ∧ own_Str Z h a (own_T2 ++ ds ++ own_T3))
theorem own_DA.ref {r : Value} {dl : Int32} (D : own_DA Z h r dl) : r.isRef = true := by rcases D with ⟨-, x, rfl, -⟩ | ⟨-, rfl⟩ <;> rfl
theorem own_DB.ref {r : Value} {dl bl : Int32} {ds : List Int32} (D : own_DB Z h r dl bl ds) : r.isRef = true := by rcases D with ⟨-, x, rfl, -⟩ | ⟨-, -, rfl⟩ | ⟨-, -, x, rfl, -⟩ <;> rfl
end OwnL
def own_bs (cs : List Int32) : List Value := cs.map (fun c => Value.int (StrChars.lo8 c))
def own_ct (cs : List Int32) (n : Nat) : List Value := own_bs cs ++ List.replicate n (.int (0 : Int32))
theorem own_bsL (cs : List Int32) : (own_bs cs).length = cs.length := by simp [own_bs]
theorem own_ctL (cs : List Int32) (n : Nat) : (own_ct cs n).length = cs.length + n := by simp [own_ct, own_bsL]
theorem own_bsA (cs ds : List Int32) : own_bs (cs ++ ds) = own_bs cs ++ own_bs ds := by simp [own_bs]
theorem own_grow (cs : List Int32) {n c0 c1 : Nat} (h : cs.length + n = c0) (h1 : c0 ≤ c1) : (List.replicate c1 (Value.int (0 : Int32))).take 0 ++ ((own_ct cs n).drop 0).take c0 ++ (List.replicate c1 (Value.int (0 : Int32))).drop (0 + c0) = own_ct cs (n + (c1 - c0)) := by
  rw [List.take_zero, List.nil_append, List.drop_zero, List.take_of_length_le (by rw [own_ctL]; omega), List.drop_replicate, Nat.zero_add, own_ct, own_ct, List.append_assoc, List.replicate_append_replicate]
theorem own_put (cs ds : List Int32) {n l d : Nat} (h : cs.length = l) (h1 : ds.length = d) (h2 : d ≤ n) : (own_ct cs n).take l ++ ((own_bs ds).drop 0).take d ++ (own_ct cs n).drop (l + d) = own_ct (cs ++ ds) (n - d) := by
  have e : (own_bs cs).length = l := by rw [own_bsL, h]
  rw [List.drop_zero, List.take_of_length_le (l := own_bs ds) (by rw [own_bsL]; omega), own_ct, List.take_left' e, own_ct, own_bsA, List.append_assoc, List.append_assoc]
  congr 2
  rw [List.drop_append, e, List.drop_of_length_le (by omega), List.nil_append, show l + d - l = d by omega, List.drop_replicate]
theorem own_cut (cs : List Int32) {n l : Nat} (us : List Value) (h : cs.length = l) (hu : us.length = l) : us.take 0 ++ ((own_ct cs n).drop 0).take l ++ us.drop (0 + l) = own_bs cs := by
  have e : (own_bs cs).length = l := by rw [own_bsL, h]
  rw [List.take_zero, List.nil_append, List.drop_zero, own_ct, List.take_left' e, Nat.zero_add, List.drop_of_length_le (by omega), List.append_nil]
theorem own_getAll {vs : List Value} (h : ∀ v ∈ vs, ∃ x, v = .int x) (q : Nat) : ∃ x, vs.getD q (.int (0 : Int32)) = .int x := by
  rw [List.getD_eq_getElem?_getD]
  cases hq : vs[q]? with
  | none => exact ⟨0, rfl⟩
  | some v => exact h v (List.mem_of_getElem? hq)
theorem own_bsI (cs : List Int32) : ∀ v ∈ own_bs cs, ∃ x, v = .int x := fun v hv => by
  obtain ⟨c, -, rfl⟩ := List.mem_map.mp hv; exact ⟨_, rfl⟩
theorem own_ctI (cs : List Int32) (n : Nat) : ∀ v ∈ own_ct cs n, ∃ x, v = .int x := fun v hv => by
  rcases List.mem_append.mp hv with hv | hv
  · exact own_bsI cs v hv
  · exact ⟨0, (List.mem_replicate.mp hv).2⟩
theorem own_lat {Z : State} {h : Heap} {a : Addr} {cs : List Int32} (F : own_Str Z h a cs) (hl : ∀ c ∈ cs, ¬ (255 : Int32) < c) : ∃ t k, Exa Z h a "java/lang/String" ∧ Fld Z h a "java/lang/String" "value" "[B" (.ref t) ∧ Fld Z h a "java/lang/String" "coder" "B" (.int (0 : Int32)) ∧ Arv Z h t k .byte (Int32.ofNat cs.length) (own_bs cs) (.int (0 : Int32)) := by
  obtain ⟨t, kb, cd, N2, vs, q1, q2, q3, q4, q5, q6, q7⟩ := F
  rcases q5 with ⟨rfl, rfl, rfl, -⟩ | ⟨-, -, -, c, hc, hb⟩
  · exact ⟨t, kb, q1, q2, q3, q4⟩
  · exact absurd hb (hl c hc)
theorem own_mk {Z : State} {h : Heap} {a t : Addr} {k : ClassId} {cs : List Int32} (E : Exa Z h a "java/lang/String") (V : Fld Z h a "java/lang/String" "value" "[B" (.ref t)) (C : Fld Z h a "java/lang/String" "coder" "B" (.int (0 : Int32))) (A : Arv Z h t k .byte (Int32.ofNat cs.length) (own_bs cs) (.int (0 : Int32))) (hp : ∀ c ∈ cs, ¬ c < 0 ∧ ¬ (255 : Int32) < c) (hl : cs.length ≤ 4000) : own_Str Z h a cs :=
  own_Str.of0 E V C A rfl (by simp [own_bs]; intros; rfl) hp hl

theorem dj29_65 : ∀ r ∈ ([(0, .iload_n 0, 1), (1, .iload_n 1, 1), (2, .if_icmp .lt 7, 3), (9, .iload_n 1, 1), (10, .ireturn, 1), (5, .iload_n 0, 1), (6, .goto 4, 3)] : List (Nat × Instr × Nat)), decode jdk_29_method_65_code r.1 = .ok (r.2.1, r.2.2) := by decide +kernel
theorem ef_rq_max (m : MethodId) (q_0 : Int32) (q_1 : Int32)  : entryFrame m #[(.int q_0), (.int q_1)] 2 = mkF m 0 #[.val (.int q_0), .val (.int q_1)] [] := by  first | (simp [entryFrame, mkF, argsToLocals, Value.category]; done) | rfl
set_option maxRecDepth 65536 in
set_option maxHeartbeats 40000000 in
theorem rq_max (l : Launch) (Z : State) (a0 : Array Value) (hw : ∀ d ∈ tables_1, d.before a0 Z = true) (more : List Jvm.Cond) (h0 : Heap) (p1 : Int32) (p2 : Int32)   :
    own_Met true false consts_1 l Z a0 (⟨"java/lang/Math", "max", "(II)I"⟩ : MethodName) jdk_29_method_65_code 2 (some .int) more ({ frames := 0, cells := 0, slots := 0, locals := 0 } : Room) #[(.int p1), (.int p2)] h0 [] (fun v h => v = some (.int (if p1 < p2 then p2 else p1)) ∧ h = h0) := by
  refine own_enter (own := "java/lang/Math") rfl (Jvm.Free.JP.mathPlain rfl (by decide +kernel)) ?_
  intro p e s m below meth c T hx hby hml hret hlk hnm K
  rw [ef_rq_max m p1 p2]
  have A := own_here K
  refine own_iloadN A hx (pc' := 1) (own_dk hby dj29_65 0 rfl) rfl rfl ?_
  refine own_iloadN A hx (pc' := 2) (own_dk hby dj29_65 1 rfl) rfl rfl ?_
  refine own_icmp_lt A hx 9 5 (own_dk hby dj29_65 2 rfl) (by decide) (by decide) rfl (fun hc2 => ?_) (fun hc2 => ?_)
  · refine own_iloadN A hx (pc' := 10) (own_dk hby dj29_65 3 rfl) rfl rfl ?_
    exact own_retI K hx hlk hret (own_dk hby dj29_65 4 rfl) (by decide) (by decide) ⟨by rw [if_pos hc2], rfl⟩
  · refine own_iloadN A hx (pc' := 6) (own_dk hby dj29_65 5 rfl) rfl rfl ?_
    refine own_goto A hx 10 (own_dk hby dj29_65 6 rfl) (by decide) (by decide) ?_
    exact own_retI K hx hlk hret (own_dk hby dj29_65 4 rfl) (by decide) (by decide) ⟨by rw [if_neg hc2], rfl⟩
theorem dj29_69 : ∀ r ∈ ([(0, .iload_n 0, 1), (1, .iload_n 1, 1), (2, .if_icmp .gt 7, 3), (9, .iload_n 1, 1), (10, .ireturn, 1), (5, .iload_n 0, 1), (6, .goto 4, 3)] : List (Nat × Instr × Nat)), decode jdk_29_method_69_code r.1 = .ok (r.2.1, r.2.2) := by decide +kernel
theorem ef_rq_min (m : MethodId) (q_0 : Int32) (q_1 : Int32)  : entryFrame m #[(.int q_0), (.int q_1)] 2 = mkF m 0 #[.val (.int q_0), .val (.int q_1)] [] := by  first | (simp [entryFrame, mkF, argsToLocals, Value.category]; done) | rfl
set_option maxRecDepth 65536 in
set_option maxHeartbeats 40000000 in
theorem rq_min (l : Launch) (Z : State) (a0 : Array Value) (hw : ∀ d ∈ tables_1, d.before a0 Z = true) (more : List Jvm.Cond) (h0 : Heap) (p1 : Int32) (p2 : Int32)   :
    own_Met true false consts_1 l Z a0 (⟨"java/lang/Math", "min", "(II)I"⟩ : MethodName) jdk_29_method_69_code 2 (some .int) more ({ frames := 0, cells := 0, slots := 0, locals := 0 } : Room) #[(.int p1), (.int p2)] h0 [] (fun v h => v = some (.int (if p2 < p1 then p2 else p1)) ∧ h = h0) := by
  refine own_enter (own := "java/lang/Math") rfl (Jvm.Free.JP.mathPlain rfl (by decide +kernel)) ?_
  intro p e s m below meth c T hx hby hml hret hlk hnm K
  rw [ef_rq_min m p1 p2]
  have A := own_here K
  refine own_iloadN A hx (pc' := 1) (own_dk hby dj29_69 0 rfl) rfl rfl ?_
  refine own_iloadN A hx (pc' := 2) (own_dk hby dj29_69 1 rfl) rfl rfl ?_
  refine own_icmp_gt A hx 9 5 (own_dk hby dj29_69 2 rfl) (by decide) (by decide) rfl (fun hc2 => ?_) (fun hc2 => ?_)
  · refine own_iloadN A hx (pc' := 10) (own_dk hby dj29_69 3 rfl) rfl rfl ?_
    exact own_retI K hx hlk hret (own_dk hby dj29_69 4 rfl) (by decide) (by decide) ⟨by rw [if_pos hc2], rfl⟩
  · refine own_iloadN A hx (pc' := 6) (own_dk hby dj29_69 5 rfl) rfl rfl ?_
    refine own_goto A hx 10 (own_dk hby dj29_69 6 rfl) (by decide) (by decide) ?_
    exact own_retI K hx hlk hret (own_dk hby dj29_69 4 rfl) (by decide) (by decide) ⟨by rw [if_neg hc2], rfl⟩
theorem dj30_1 : ∀ r ∈ ([(0, .aload_n 0, 1), (1, .invokespecial 1, 3), (4, .return_, 1)] : List (Nat × Instr × Nat)), decode jdk_30_method_1_code r.1 = .ok (r.2.1, r.2.2) := by decide +kernel
theorem ef_rq_rec (m : MethodId) (q_0 : Addr)  : entryFrame m #[(.ref q_0)] 1 = mkF m 0 #[.val (.ref q_0)] [] := by  first | (simp [entryFrame, mkF, argsToLocals, Value.category]; done) | rfl
theorem pn_0 : plainName "java/lang/Record" = true := by first | (simp [plainName, overriddenIn]; done) | decide +kernel
set_option maxRecDepth 65536 in
set_option maxHeartbeats 40000000 in
theorem rq_rec (l : Launch) (Z : State) (a0 : Array Value) (hw : ∀ d ∈ tables_1, d.before a0 Z = true) (more : List Jvm.Cond) (h0 : Heap) (x : Addr)   :
    own_Met true false consts_1 l Z a0 (⟨"java/lang/Record", "<init>", "()V"⟩ : MethodName) jdk_30_method_1_code 1 none more ({ frames := 1, cells := 0, slots := 0, locals := 12 } : Room) #[(.ref x)] h0 [] (fun v h => v = none ∧ h = h0) := by
  refine own_enter (own := "java/lang/Record") rfl (plainFor_of_name pn_0) ?_
  intro p e s m below meth c T hx hby hml hret hlk hnm K
  rw [ef_rq_rec m x]
  have A := own_here K
  refine own_aloadN A hx (pc' := 1) (own_dk hby dj30_1 0 rfl) rfl rfl rfl ?_
  refine own_initO K hx (own_w hw 44 rfl) (own_w hw 21 rfl) (own_w hw 22 rfl) (by rw [hml]; rfl) 0 (Nat.le_of_eq rfl) (by decide) (by decide) (own_dk hby dj30_1 1 rfl) (pc' := 4) rfl ?_
  intro T1 K1
  have A1 := own_here K1
  exact own_retV K1 hx hlk hret (own_dk hby dj30_1 2 rfl) (by decide) (by decide) ⟨rfl, rfl⟩
theorem dp3_1 : ∀ r ∈ ([(0, .aload_n 0, 1), (1, .invokespecial 1, 3), (4, .aload_n 0, 1), (5, .aload_n 1, 1), (6, .putfield 7, 3), (9, .aload_n 0, 1), (10, .aload_n 2, 1), (11, .putfield 13, 3), (14, .return_, 1)] : List (Nat × Instr × Nat)), decode prog_3_method_1_code r.1 = .ok (r.2.1, r.2.2) := by decide +kernel
theorem pd_0 : parseMethodDescriptor "()V" = some ⟨[], none⟩ := by decide +kernel
theorem ef_rq_cf (m : MethodId) (q_0 : Addr) (q_1 : Addr) (q_2 : Addr)  : entryFrame m #[(.ref q_0), (.ref q_1), (.ref q_2)] 3 = mkF m 0 #[.val (.ref q_0), .val (.ref q_1), .val (.ref q_2)] [] := by  first | (simp [entryFrame, mkF, argsToLocals, Value.category]; done) | rfl
theorem pn_1 : plainName "com/example/regalwerk/regalwerk/ControlField" = true := by first | (simp [plainName, overriddenIn]; done) | decide +kernel
set_option maxRecDepth 65536 in
set_option maxHeartbeats 40000000 in
theorem rq_cf (l : Launch) (Z : State) (a0 : Array Value) (hw : ∀ d ∈ tables_1, d.before a0 Z = true) (more : List Jvm.Cond) (h0 : Heap) (x : Addr) (t : Addr) (u : Addr) (v0 v1 : Value)  (E : Exa Z h0 x "com/example/regalwerk/regalwerk/ControlField") (F1 : Fld Z h0 x "com/example/regalwerk/regalwerk/ControlField" "tag" "Ljava/lang/String;" v0) (F2 : Fld Z h0 x "com/example/regalwerk/regalwerk/ControlField" "value" "Ljava/lang/String;" v1) :
    own_Met true false consts_1 l Z a0 (⟨"com/example/regalwerk/regalwerk/ControlField", "<init>", "(Ljava/lang/String;Ljava/lang/String;)V"⟩ : MethodName) prog_3_method_1_code 3 none more ({ frames := 2, cells := 0, slots := 0, locals := 24 } : Room) #[(.ref x), (.ref t), (.ref u)] h0 [x] (fun v h => v = none ∧ Fld Z h x "com/example/regalwerk/regalwerk/ControlField" "tag" "Ljava/lang/String;" (.ref t) ∧ Fld Z h x "com/example/regalwerk/regalwerk/ControlField" "value" "Ljava/lang/String;" (.ref u)) := by
  refine own_enter (own := "com/example/regalwerk/regalwerk/ControlField") rfl (plainFor_of_name pn_1) ?_
  intro p e s m below meth c T hx hby hml hret hlk hnm K
  rw [ef_rq_cf m x t u]
  have A := own_here K
  refine own_aloadN A hx (pc' := 1) (own_dk hby dp3_1 0 rfl) rfl rfl rfl ?_
  refine own_callSp K hx (by rw [hml]; rfl) rfl (own_w hw 39 rfl) (own_w hw 40 rfl) (own_w hw 42 rfl) (own_w hw 43 rfl) (by decide) (rq_rec l Z a0 hw [] h0 x) (fun _ q => nomatch q) (argsL := []) (rest := []) (lenOf pd_0 rfl) rfl 0 (Nat.le_of_eq rfl) (own_dk hby dp3_1 1 rfl) (pc' := 4) rfl (by decide) (by decide) (by decide) (by decide) ?_
  intro v2 T2 h2 K2 Kp2 Q2
  obtain ⟨rfl, -⟩ := Q2
  have E := E.keep Kp2
  have F1 := F1.keep Kp2 nin0
  have F2 := F2.keep Kp2 nin0
  have A2 := own_here K2
  show own_Go p.tables e below _ T2 (mkF m 4 #[.val (.ref x), .val (.ref t), .val (.ref u)] [])
  refine own_aloadN A2 hx (pc' := 5) (own_dk hby dp3_1 2 rfl) rfl rfl rfl ?_
  refine own_aloadN A2 hx (pc' := 6) (own_dk hby dp3_1 3 rfl) rfl rfl rfl ?_
  refine own_putF K2 hx (host := "") (Or.inl (own_w hw 45 rfl)) Via.refl F1 E (Or.inr ⟨(own_w hw 46 rfl), rfl, hnm⟩) (own_w hw 1 rfl) (ty := (.object "java/lang/String")) (by decide) rfl rfl (List.mem_of_getElem? (i := 0) rfl) (own_dk hby dp3_1 4 rfl) (pc' := 9) rfl ?_
  intro T3 h3 K3 W3
  have E := E.wr W3
  have F1 := F1.same W3
  have F2 := F2.other W3 (Or.inr (slot_ne (Or.inr (own_w hw 48 rfl)) (Or.inr (own_w hw 46 rfl)) (by decide) (t := (.object "java/lang/String")) (t' := (.object "java/lang/String")) (by decide) (by decide)))
  have A3 := own_here K3
  refine own_aloadN A3 hx (pc' := 10) (own_dk hby dp3_1 5 rfl) rfl rfl rfl ?_
  refine own_aloadN A3 hx (pc' := 11) (own_dk hby dp3_1 6 rfl) rfl rfl rfl ?_
  refine own_putF K3 hx (host := "") (Or.inl (own_w hw 47 rfl)) Via.refl F2 E (Or.inr ⟨(own_w hw 48 rfl), rfl, hnm⟩) (own_w hw 1 rfl) (ty := (.object "java/lang/String")) (by decide) rfl rfl (List.mem_of_getElem? (i := 0) rfl) (own_dk hby dp3_1 7 rfl) (pc' := 14) rfl ?_
  intro T4 h4 K4 W4
  have E := E.wr W4
  have F1 := F1.other W4 (Or.inr (slot_ne (Or.inr (own_w hw 46 rfl)) (Or.inr (own_w hw 48 rfl)) (by decide) (t := (.object "java/lang/String")) (t' := (.object "java/lang/String")) (by decide) (by decide)))
  have F2 := F2.same W4
  have A4 := own_here K4
  exact own_retV K4 hx hlk hret (own_dk hby dp3_1 8 rfl) (by decide) (by decide) ⟨rfl, F1, F2⟩
theorem dj22_1 : ∀ r ∈ ([(0, .aload_n 0, 1), (1, .invokespecial 1, 3), (4, .return_, 1)] : List (Nat × Instr × Nat)), decode jdk_22_method_1_code r.1 = .ok (r.2.1, r.2.2) := by decide +kernel
theorem ef_rq_ac (m : MethodId) (q_0 : Addr)  : entryFrame m #[(.ref q_0)] 1 = mkF m 0 #[.val (.ref q_0)] [] := by  first | (simp [entryFrame, mkF, argsToLocals, Value.category]; done) | rfl
theorem pn_2 : plainName "java/util/AbstractCollection" = true := by first | (simp [plainName, overriddenIn]; done) | decide +kernel
set_option maxRecDepth 65536 in
set_option maxHeartbeats 40000000 in
theorem rq_ac (l : Launch) (Z : State) (a0 : Array Value) (hw : ∀ d ∈ tables_1, d.before a0 Z = true) (more : List Jvm.Cond) (h0 : Heap) (x : Addr)   :
    own_Met true false consts_1 l Z a0 (⟨"java/util/AbstractCollection", "<init>", "()V"⟩ : MethodName) jdk_22_method_1_code 1 none more ({ frames := 1, cells := 0, slots := 0, locals := 12 } : Room) #[(.ref x)] h0 [] (fun v h => v = none ∧ h = h0) := by
  refine own_enter (own := "java/util/AbstractCollection") rfl (plainFor_of_name pn_2) ?_
  intro p e s m below meth c T hx hby hml hret hlk hnm K
  rw [ef_rq_ac m x]
  have A := own_here K
  refine own_aloadN A hx (pc' := 1) (own_dk hby dj22_1 0 rfl) rfl rfl rfl ?_
  refine own_initO K hx (own_w hw 77 rfl) (own_w hw 21 rfl) (own_w hw 22 rfl) (by rw [hml]; rfl) 0 (Nat.le_of_eq rfl) (by decide) (by decide) (own_dk hby dj22_1 1 rfl) (pc' := 4) rfl ?_
  intro T5 K5
  have A5 := own_here K5
  exact own_retV K5 hx hlk hret (own_dk hby dj22_1 2 rfl) (by decide) (by decide) ⟨rfl, rfl⟩
theorem dj39_1 : ∀ r ∈ ([(0, .aload_n 0, 1), (1, .invokespecial 1, 3), (4, .aload_n 0, 1), (5, .iconst 0, 1), (6, .putfield 7, 3), (9, .return_, 1)] : List (Nat × Instr × Nat)), decode jdk_39_method_1_code r.1 = .ok (r.2.1, r.2.2) := by decide +kernel
theorem ef_rq_abl (m : MethodId) (q_0 : Addr)  : entryFrame m #[(.ref q_0)] 1 = mkF m 0 #[.val (.ref q_0)] [] := by  first | (simp [entryFrame, mkF, argsToLocals, Value.category]; done) | rfl
theorem pn_3 : plainName "java/util/AbstractList" = true := by first | (simp [plainName, overriddenIn]; done) | decide +kernel
set_option maxRecDepth 65536 in
set_option maxHeartbeats 40000000 in
theorem rq_abl (l : Launch) (Z : State) (a0 : Array Value) (hw : ∀ d ∈ tables_1, d.before a0 Z = true) (more : List Jvm.Cond) (h0 : Heap) (x : Addr) (v0 v1 v2 : Value)  (E : Exa Z h0 x "java/util/ArrayList") (Fm : Fld Z h0 x "java/util/AbstractList" "modCount" "I" v0) (Fe : Fld Z h0 x "java/util/ArrayList" "elementData" "[Ljava/lang/Object;" v1) (Fs : Fld Z h0 x "java/util/ArrayList" "size" "I" v2) :
    own_Met true false consts_1 l Z a0 (⟨"java/util/AbstractList", "<init>", "()V"⟩ : MethodName) jdk_39_method_1_code 1 none more ({ frames := 2, cells := 0, slots := 0, locals := 24 } : Room) #[(.ref x)] h0 [x] (fun v h => v = none ∧ Fld Z h x "java/util/AbstractList" "modCount" "I" (.int (0 : Int32)) ∧ Fld Z h x "java/util/ArrayList" "elementData" "[Ljava/lang/Object;" v1 ∧ Fld Z h x "java/util/ArrayList" "size" "I" v2) := by
  refine own_enter (own := "java/util/AbstractList") rfl (plainFor_of_name pn_3) ?_
  intro p e s m below meth c T hx hby hml hret hlk hnm K
  rw [ef_rq_abl m x]
  have A := own_here K
  refine own_aloadN A hx (pc' := 1) (own_dk hby dj39_1 0 rfl) rfl rfl rfl ?_
  refine own_callSp K hx (by rw [hml]; rfl) rfl (own_w hw 71 rfl) (own_w hw 72 rfl) (own_w hw 75 rfl) (own_w hw 76 rfl) (by decide) (rq_ac l Z a0 hw [] h0 x) (fun _ q => nomatch q) (argsL := []) (rest := []) (lenOf pd_0 rfl) rfl 0 (Nat.le_of_eq rfl) (own_dk hby dj39_1 1 rfl) (pc' := 4) rfl (by decide) (by decide) (by decide) (by decide) ?_
  intro v6 T6 h6 K6 Kp6 Q6
  obtain ⟨rfl, -⟩ := Q6
  have E := E.keep Kp6
  have Fm := Fm.keep Kp6 nin0
  have Fe := Fe.keep Kp6 nin0
  have Fs := Fs.keep Kp6 nin0
  have A6 := own_here K6
  show own_Go p.tables e below _ T6 (mkF m 4 #[.val (.ref x)] [])
  refine own_aloadN A6 hx (pc' := 5) (own_dk hby dj39_1 2 rfl) rfl rfl rfl ?_
  refine own_iconst A6 hx (pc' := 6) (own_dk hby dj39_1 3 rfl) (z := (0 : Int32)) (by decide) rfl ?_
  refine own_putF K6 hx (host := "") (Or.inl (own_w hw 78 rfl)) Via.refl Fm E (Or.inl (own_w hw 79 rfl)) (own_w hw 60 rfl) (ty := .int) (by decide) rfl rfl (List.mem_of_getElem? (i := 0) rfl) (own_dk hby dj39_1 4 rfl) (pc' := 9) rfl ?_
  intro T7 h7 K7 W7
  have E := E.wr W7
  have Fm := Fm.same W7
  have Fe := Fe.other W7 (Or.inr (slot_ne (Or.inl (own_w hw 82 rfl)) (Or.inl (own_w hw 79 rfl)) (by decide) (t := (.array (.object "java/lang/Object"))) (t' := .int) (by decide) (by decide)))
  have Fs := Fs.other W7 (Or.inr (slot_ne (Or.inl (own_w hw 91 rfl)) (Or.inl (own_w hw 79 rfl)) (by decide) (t := .int) (t' := .int) (by decide) (by decide)))
  have A7 := own_here K7
  exact own_retV K7 hx hlk hret (own_dk hby dj39_1 5 rfl) (by decide) (by decide) ⟨rfl, Fm, Fe, Fs⟩
theorem dj38_2 : ∀ r ∈ ([(0, .aload_n 0, 1), (1, .invokespecial 1, 3), (4, .aload_n 0, 1), (5, .getstatic 39, 3), (8, .putfield 9, 3), (11, .return_, 1)] : List (Nat × Instr × Nat)), decode jdk_38_method_2_code r.1 = .ok (r.2.1, r.2.2) := by decide +kernel
theorem ef_rq_ali (m : MethodId) (q_0 : Addr)  : entryFrame m #[(.ref q_0)] 1 = mkF m 0 #[.val (.ref q_0)] [] := by  first | (simp [entryFrame, mkF, argsToLocals, Value.category]; done) | rfl
theorem pn_4 : plainName "java/util/ArrayList" = true := by first | (simp [plainName, overriddenIn]; done) | decide +kernel
set_option maxRecDepth 65536 in
set_option maxHeartbeats 40000000 in
theorem rq_ali (l : Launch) (Z : State) (a0 : Array Value) (hw : ∀ d ∈ tables_1, d.before a0 Z = true) (more : List Jvm.Cond) (h0 : Heap) (x : Addr) (v0 v1 v2 : Value)  (aD : Addr) (SDc : Sta Z Z.heap "java/util/ArrayList" "DEFAULTCAPACITY_EMPTY_ELEMENTDATA" "[Ljava/lang/Object;" (.ref aD)) (kD : ClassId) (AD : Arv Z Z.heap aD kD (.object "java/lang/Object") (0 : Int32) [] .null) (E : Exa Z h0 x "java/util/ArrayList") (Fm : Fld Z h0 x "java/util/AbstractList" "modCount" "I" v0) (Fe : Fld Z h0 x "java/util/ArrayList" "elementData" "[Ljava/lang/Object;" v1) (Fs : Fld Z h0 x "java/util/ArrayList" "size" "I" v2) :
    own_Met true false consts_1 l Z a0 (⟨"java/util/ArrayList", "<init>", "()V"⟩ : MethodName) jdk_38_method_2_code 1 none more ({ frames := 3, cells := 0, slots := 0, locals := 36 } : Room) #[(.ref x)] h0 [x] (fun v h => v = none ∧ Fld Z h x "java/util/AbstractList" "modCount" "I" (.int (0 : Int32)) ∧ Fld Z h x "java/util/ArrayList" "elementData" "[Ljava/lang/Object;" (.ref aD) ∧ Fld Z h x "java/util/ArrayList" "size" "I" v2) := by
  refine own_enter (own := "java/util/ArrayList") rfl (plainFor_of_name pn_4) ?_
  intro p e s m below meth c T hx hby hml hret hlk hnm K
  rw [ef_rq_ali m x]
  have A := own_here K
  refine own_aloadN A hx (pc' := 1) (own_dk hby dj38_2 0 rfl) rfl rfl rfl ?_
  refine own_callSp K hx (by rw [hml]; rfl) rfl (own_w hw 65 rfl) (own_w hw 66 rfl) (own_w hw 69 rfl) (own_w hw 70 rfl) (by decide) (rq_abl l Z a0 hw [] h0 x v0 v1 v2 E Fm Fe Fs) (own_mem1 (List.mem_of_getElem? (i := 0) rfl)) (argsL := []) (rest := []) (lenOf pd_0 rfl) rfl 0 (Nat.le_of_eq rfl) (own_dk hby dj38_2 1 rfl) (pc' := 4) rfl (by decide) (by decide) (by decide) (by decide) ?_
  intro v8 T8 h8 K8 Kp8 Q8
  obtain ⟨rfl, Fm, Fe, Fs⟩ := Q8
  have E := E.keep Kp8
  have A8 := own_here K8
  show own_Go p.tables e below _ T8 (mkF m 4 #[.val (.ref x)] [])
  refine own_aloadN A8 hx (pc' := 5) (own_dk hby dj38_2 2 rfl) rfl rfl rfl ?_
  refine own_getS K8 hx (host := "") (Or.inl (own_w hw 80 rfl)) Via.refl SDc (own_dk hby dj38_2 3 rfl) (pc' := 8) rfl ?_
  intro T9 K9
  have A9 := own_here K9
  refine own_putF K9 hx (host := "") (Or.inl (own_w hw 81 rfl)) Via.refl Fe E (Or.inl (own_w hw 82 rfl)) (own_w hw 60 rfl) (ty := (.array (.object "java/lang/Object"))) (by decide) rfl rfl (List.mem_of_getElem? (i := 0) rfl) (own_dk hby dj38_2 4 rfl) (pc' := 11) rfl ?_
  intro T10 h10 K10 W10
  have E := E.wr W10
  have Fm := Fm.other W10 (Or.inr (slot_ne (Or.inl (own_w hw 79 rfl)) (Or.inl (own_w hw 82 rfl)) (by decide) (t := .int) (t' := (.array (.object "java/lang/Object"))) (by decide) (by decide)))
  have Fe := Fe.same W10
  have Fs := Fs.other W10 (Or.inr (slot_ne (Or.inl (own_w hw 91 rfl)) (Or.inl (own_w hw 82 rfl)) (by decide) (t := .int) (t' := (.array (.object "java/lang/Object"))) (by decide) (by decide)))
  have A10 := own_here K10
  exact own_retV K10 hx hlk hret (own_dk hby dj38_2 5 rfl) (by decide) (by decide) ⟨rfl, Fm, Fe, Fs⟩
theorem dj38_6 : ∀ r ∈ ([(0, .aload_n 0, 1), (1, .getfield 9, 3), (4, .arraylength, 1), (5, .istore_n 2, 1), (6, .iload_n 2, 1), (7, .ifCond .gt 13, 3), (10, .aload_n 0, 1), (11, .getfield 9, 3), (14, .getstatic 39, 3), (17, .if_acmp .eq 28, 3), (45, .aload_n 0, 1), (46, .bipush 10, 2), (48, .iload_n 1, 1), (49, .invokestatic 79, 3), (52, .anewarray 7, 3), (55, .dup_x1, 1), (56, .putfield 9, 3), (59, .areturn, 1)] : List (Nat × Instr × Nat)), decode jdk_38_method_6_code r.1 = .ok (r.2.1, r.2.2) := by decide +kernel
theorem pd_1 : parseMethodDescriptor "(II)I" = some ⟨[.int, .int], some .int⟩ := by decide +kernel
theorem ef_rq_g1 (m : MethodId) (q_0 : Addr)  : entryFrame m #[(.ref q_0), (.int (1 : Int32))] 4 = mkF m 0 #[.val (.ref q_0), .val (.int (1 : Int32)), .unset, .unset] [] := by  first | (simp [entryFrame, mkF, argsToLocals, Value.category]; done) | rfl
set_option maxRecDepth 65536 in
set_option maxHeartbeats 40000000 in
theorem rq_g1 (l : Launch) (Z : State) (a0 : Array Value) (hw : ∀ d ∈ tables_1, d.before a0 Z = true) (more : List Jvm.Cond) (h0 : Heap) (x : Addr)  (aD : Addr) (SDc : Sta Z Z.heap "java/util/ArrayList" "DEFAULTCAPACITY_EMPTY_ELEMENTDATA" "[Ljava/lang/Object;" (.ref aD)) (kD : ClassId) (AD : Arv Z Z.heap aD kD (.object "java/lang/Object") (0 : Int32) [] .null) (E : Exa Z h0 x "java/util/ArrayList") (Fe : Fld Z h0 x "java/util/ArrayList" "elementData" "[Ljava/lang/Object;" (.ref aD)) (Fs : Fld Z h0 x "java/util/ArrayList" "size" "I" (.int (0 : Int32))) :
    own_MetR true false consts_1 l Z a0 (⟨"java/util/ArrayList", "grow", "(I)[Ljava/lang/Object;"⟩ : MethodName) jdk_38_method_6_code 4 (some (.array (.object "java/lang/Object"))) more ({ frames := 1, cells := 1, slots := 10, locals := 14 } : Room) #[(.ref x), (.int (1 : Int32))] h0 [x] (fun v h ns => ∃ d k, v = some (.ref d) ∧ ns = [d] ∧ h0.size ≤ d ∧ Exa Z h d "[Ljava/lang/Object;" ∧ Arv Z h d k (.object "java/lang/Object") (10 : Int32) [.null, .null, .null, .null, .null, .null, .null, .null, .null, .null] .null ∧ Ovr Z k "java/lang/Object" ∧ Fld Z h x "java/util/ArrayList" "elementData" "[Ljava/lang/Object;" (.ref d) ∧ Fld Z h x "java/util/ArrayList" "size" "I" (.int (0 : Int32))) := by
  refine own_enterR (own := "java/util/ArrayList") rfl (plainFor_of_name pn_4) ?_
  intro p e s m below meth c T hx hby hml hret hlk hnm K
  rw [ef_rq_g1 m x]
  have A := own_here K
  refine own_aloadN A hx (pc' := 1) (own_dk hby dj38_6 0 rfl) rfl rfl rfl ?_
  refine own_getF K hx (host := "") (Or.inl (own_w hw 81 rfl)) Via.refl Fe (own_dk hby dj38_6 1 rfl) (pc' := 4) rfl ?_
  intro T11 K11
  have A11 := own_here K11
  have AD_12 := AD.ext (own_ext0 K11)
  refine own_len K11 hx AD_12 (own_dk hby dj38_6 2 rfl) (pc' := 5) rfl ?_
  refine own_istoreN A11 hx (pc' := 6) #[.val (.ref x), .val (.int (1 : Int32)), .val (.int (0 : Int32)), .unset] (own_dk hby dj38_6 3 rfl) rfl rfl ?_
  refine own_iloadN A11 hx (pc' := 7) (own_dk hby dj38_6 4 rfl) rfl rfl ?_
  refine own_if_gt A11 hx 20 10 (own_dk hby dj38_6 5 rfl) (by decide) (by decide) rfl (fun hc7 => ?_) (fun hc7 => ?_)
  · exact absurd hc7 (by decide)
  refine own_aloadN A11 hx (pc' := 11) (own_dk hby dj38_6 6 rfl) rfl rfl rfl ?_
  refine own_getF K11 hx (host := "") (Or.inl (own_w hw 81 rfl)) Via.refl Fe (own_dk hby dj38_6 7 rfl) (pc' := 14) rfl ?_
  intro T13 K13
  have A13 := own_here K13
  refine own_getS K13 hx (host := "") (Or.inl (own_w hw 80 rfl)) Via.refl SDc (own_dk hby dj38_6 8 rfl) (pc' := 17) rfl ?_
  intro T14 K14
  have A14 := own_here K14
  refine own_acmp K14 hx rfl rfl true (decide_eq_true rfl) (pc' := 45) (own_dk hby dj38_6 9 rfl) (by decide) (by decide) ?_
  refine own_aloadN A14 hx (pc' := 46) (own_dk hby dj38_6 10 rfl) rfl rfl rfl ?_
  refine own_bipush A14 hx (pc' := 48) (own_dk hby dj38_6 11 rfl) (z := (10 : Int32)) (by decide) rfl ?_
  refine own_iloadN A14 hx (pc' := 49) (own_dk hby dj38_6 12 rfl) rfl rfl ?_
  refine own_callS K14 hx (by rw [hml]; rfl) (own_w hw 107 rfl) (own_w hw 108 rfl) (own_w hw 109 rfl) (own_w hw 110 rfl) (by decide) (rq_max l Z a0 hw [] h0 (10 : Int32) (1 : Int32)) (fun _ q => nomatch q) (argsL := [(.int (10 : Int32)), (.int (1 : Int32))]) (rest := [(.ref x)]) (lenOf pd_1 rfl) rfl 1 (Nat.le_of_eq rfl) (own_dk hby dj38_6 13 rfl) (pc' := 52) rfl (by decide) (by decide) (by decide) (by decide) ?_
  intro v15 T15 h15 K15 Kp15 Q15
  obtain ⟨rfl, -⟩ := Q15
  have E := E.keep Kp15
  have Fe := Fe.keep Kp15 nin0
  have Fs := Fs.keep Kp15 nin0
  have A15 := own_here K15
  show own_Go p.tables e below _ T15 (mkF m 52 #[.val (.ref x), .val (.int (1 : Int32)), .val (.int (0 : Int32)), .unset] [(.int (if (10 : Int32) < (1 : Int32) then (1 : Int32) else (10 : Int32))), (.ref x)])
  rw [show (if (10 : Int32) < (1 : Int32) then (1 : Int32) else (10 : Int32)) = (10 : Int32) from by decide]
  refine own_newrefX (D := "[Ljava/lang/Object;") K15 hx (own_w hw 111 rfl) (own_w hw 112 rfl) (by decide +kernel) (own_dk hby dj38_6 14 rfl) (pc' := 55) rfl (by decide) 10 (by decide) (by decide) (by decide) (by decide) ?_
  intro T16 h16 b16 k16 g16 K16 E16 V16 O16 X16
  have ne_x_b16 : x ≠ b16 := by rw [g16]; exact Nat.ne_of_lt E.lt
  have E := E.ext E16
  have Fe := Fe.ext E16
  have Fs := Fs.ext E16
  have A16 := own_here K16
  have V16 : Arv Z h16 b16 k16 (.object "java/lang/Object") (10 : Int32) [.null, .null, .null, .null, .null, .null, .null, .null, .null, .null] .null := V16.pad (pad_rep [] .null 10)
  refine own_dupX1 A16 hx (pc' := 56) (own_dk hby dj38_6 15 rfl) rfl rfl rfl ?_
  refine own_putF K16 hx (host := "") (Or.inl (own_w hw 81 rfl)) Via.refl Fe E (Or.inl (own_w hw 82 rfl)) (own_w hw 60 rfl) (ty := (.array (.object "java/lang/Object"))) (by decide) rfl rfl (List.mem_of_getElem? (i := 1) rfl) (own_dk hby dj38_6 16 rfl) (pc' := 59) rfl ?_
  intro T17 h17 K17 W17
  have E := E.wr W17
  have V16 := V16.other W17 (Ne.symm ne_x_b16)
  have X16 := X16.wr W17
  have Fe := Fe.same W17
  have Fs := Fs.other W17 (Or.inr (slot_ne (Or.inl (own_w hw 91 rfl)) (Or.inl (own_w hw 82 rfl)) (by decide) (t := .int) (t' := (.array (.object "java/lang/Object"))) (by decide) (by decide)))
  have A17 := own_here K17
  exact own_retRR K17 hx hlk hret rfl rfl (own_dk hby dj38_6 17 rfl) (by decide) (by decide) [b16] (fun y hy => by cases List.mem_singleton.mp hy; exact ⟨(List.mem_of_getElem? (i := 0) rfl), by rw [g16]; exact Kp15.1⟩) ⟨_, _, rfl, rfl, by rw [g16]; exact Kp15.1, X16, V16, O16, Fe, Fs⟩
theorem dj38_7 : ∀ r ∈ ([(0, .aload_n 0, 1), (1, .aload_n 0, 1), (2, .getfield 48, 3), (5, .iconst 1, 1), (6, .iadd, 1), (7, .invokevirtual 69, 3), (10, .areturn, 1)] : List (Nat × Instr × Nat)), decode jdk_38_method_7_code r.1 = .ok (r.2.1, r.2.2) := by decide +kernel
theorem pd_2 : parseMethodDescriptor "(I)[Ljava/lang/Object;" = some ⟨[.int], some (.array (.object "java/lang/Object"))⟩ := by decide +kernel
theorem ef_rq_g0 (m : MethodId) (q_0 : Addr)  : entryFrame m #[(.ref q_0)] 1 = mkF m 0 #[.val (.ref q_0)] [] := by  first | (simp [entryFrame, mkF, argsToLocals, Value.category]; done) | rfl
set_option maxRecDepth 65536 in
set_option maxHeartbeats 40000000 in
theorem rq_g0 (l : Launch) (Z : State) (a0 : Array Value) (hw : ∀ d ∈ tables_1, d.before a0 Z = true) (more : List Jvm.Cond) (h0 : Heap) (x : Addr)  (aD : Addr) (SDc : Sta Z Z.heap "java/util/ArrayList" "DEFAULTCAPACITY_EMPTY_ELEMENTDATA" "[Ljava/lang/Object;" (.ref aD)) (kD : ClassId) (AD : Arv Z Z.heap aD kD (.object "java/lang/Object") (0 : Int32) [] .null) (E : Exa Z h0 x "java/util/ArrayList") (Fe : Fld Z h0 x "java/util/ArrayList" "elementData" "[Ljava/lang/Object;" (.ref aD)) (Fs : Fld Z h0 x "java/util/ArrayList" "size" "I" (.int (0 : Int32))) :
    own_MetR true false consts_1 l Z a0 (⟨"java/util/ArrayList", "grow", "()[Ljava/lang/Object;"⟩ : MethodName) jdk_38_method_7_code 1 (some (.array (.object "java/lang/Object"))) more ({ frames := 2, cells := 1, slots := 10, locals := 29 } : Room) #[(.ref x)] h0 [x] (fun v h ns => ∃ d k, v = some (.ref d) ∧ ns = [d] ∧ h0.size ≤ d ∧ Exa Z h d "[Ljava/lang/Object;" ∧ Arv Z h d k (.object "java/lang/Object") (10 : Int32) [.null, .null, .null, .null, .null, .null, .null, .null, .null, .null] .null ∧ Ovr Z k "java/lang/Object" ∧ Fld Z h x "java/util/ArrayList" "elementData" "[Ljava/lang/Object;" (.ref d) ∧ Fld Z h x "java/util/ArrayList" "size" "I" (.int (0 : Int32))) := by
  refine own_enterR (own := "java/util/ArrayList") rfl (plainFor_of_name pn_4) ?_
  intro p e s m below meth c T hx hby hml hret hlk hnm K
  rw [ef_rq_g0 m x]
  have A := own_here K
  refine own_aloadN A hx (pc' := 1) (own_dk hby dj38_7 0 rfl) rfl rfl rfl ?_
  refine own_aloadN A hx (pc' := 2) (own_dk hby dj38_7 1 rfl) rfl rfl rfl ?_
  refine own_getF K hx (host := "") (Or.inl (own_w hw 90 rfl)) Via.refl Fs (own_dk hby dj38_7 2 rfl) (pc' := 5) rfl ?_
  intro T18 K18
  have A18 := own_here K18
  refine own_iconst A18 hx (pc' := 6) (own_dk hby dj38_7 3 rfl) (z := (1 : Int32)) (by decide) rfl ?_
  refine own_iadd A18 hx (pc' := 7) (own_dk hby dj38_7 4 rfl) (z := ((0 : Int32) + (1 : Int32))) rfl rfl ?_
  rw [show ((0 : Int32) + (1 : Int32)) = (1 : Int32) from by decide]
  refine own_callVR K18 hx (by rw [hml]; rfl) (own_w hw 102 rfl) (own_decl (own_w hw 103 rfl) (own_w hw 106 rfl)) (own_nf (own_w hw 86 rfl) rfl) (own_w hw 105 rfl) (own_w hw 103 rfl) (own_w hw 61 rfl) (own_w hw 106 rfl) (by decide) E (rq_g1 l Z a0 hw [] h0 x aD SDc kD AD E Fe Fs) (own_mem1 (List.mem_of_getElem? (i := 0) rfl)) (argsL := [(.int (1 : Int32))]) (rest := []) (lenOf pd_2 rfl) rfl 0 (Nat.le_of_eq rfl) (own_dk hby dj38_7 5 rfl) (pc' := 10) rfl (by decide) (by decide) (by decide) (by decide) ?_
  intro v19 T19 h19 ns19 K19 Kp19 Q19
  obtain ⟨d, k, rfl, rfl, ge, Xd, Vd, Od, Fe, Fs⟩ := Q19
  have ne_x_d : x ≠ d := Nat.ne_of_lt (Nat.lt_of_lt_of_le E.lt ge)
  have E := E.keep Kp19
  have A19 := own_here K19
  show own_Go p.tables e below _ T19 (mkF m 10 #[.val (.ref x)] [(.ref d)])
  exact own_retRR K19 hx hlk hret rfl rfl (own_dk hby dj38_7 6 rfl) (by decide) (by decide) [d] (fun y hy => by cases List.mem_singleton.mp hy; exact ⟨List.mem_of_getElem? (i := 0) rfl, ge⟩) ⟨_, _, rfl, rfl, ge, Xd, Vd, Od, Fe, Fs⟩
theorem dj38_24 : ∀ r ∈ ([(0, .iload_n 3, 1), (1, .aload_n 2, 1), (2, .arraylength, 1), (3, .if_icmp .ne 8, 3), (6, .aload_n 0, 1), (7, .invokevirtual 129, 3), (10, .astore_n 2, 1), (11, .aload_n 2, 1), (12, .iload_n 3, 1), (13, .aload_n 1, 1), (14, .aastore, 1), (15, .aload_n 0, 1), (16, .iload_n 3, 1), (17, .iconst 1, 1), (18, .iadd, 1), (19, .putfield 48, 3), (22, .return_, 1)] : List (Nat × Instr × Nat)), decode jdk_38_method_24_code r.1 = .ok (r.2.1, r.2.2) := by decide +kernel
theorem pd_3 : parseMethodDescriptor "()[Ljava/lang/Object;" = some ⟨[], some (.array (.object "java/lang/Object"))⟩ := by decide +kernel
theorem ef_rq_add3 (m : MethodId) (q_0 : Addr) (q_1 : Addr) (q_2 : Addr)  : entryFrame m #[(.ref q_0), (.ref q_1), (.ref q_2), (.int (0 : Int32))] 4 = mkF m 0 #[.val (.ref q_0), .val (.ref q_1), .val (.ref q_2), .val (.int (0 : Int32))] [] := by  first | (simp [entryFrame, mkF, argsToLocals, Value.category]; done) | rfl
set_option maxRecDepth 65536 in
set_option maxHeartbeats 40000000 in
theorem rq_add3 (l : Launch) (Z : State) (a0 : Array Value) (hw : ∀ d ∈ tables_1, d.before a0 Z = true) (more : List Jvm.Cond) (h0 : Heap) (x : Addr) (f : Addr) (aD : Addr)  (SDc : Sta Z Z.heap "java/util/ArrayList" "DEFAULTCAPACITY_EMPTY_ELEMENTDATA" "[Ljava/lang/Object;" (.ref aD)) (kD : ClassId) (AD : Arv Z Z.heap aD kD (.object "java/lang/Object") (0 : Int32) [] .null) (E : Exa Z h0 x "java/util/ArrayList") (Fe : Fld Z h0 x "java/util/ArrayList" "elementData" "[Ljava/lang/Object;" (.ref aD)) (Fs : Fld Z h0 x "java/util/ArrayList" "size" "I" (.int (0 : Int32))) (Ef : Exa Z h0 f "com/example/regalwerk/regalwerk/ControlField") :
    own_Met true false consts_1 l Z a0 (⟨"java/util/ArrayList", "add", "(Ljava/lang/Object;[Ljava/lang/Object;I)V"⟩ : MethodName) jdk_38_method_24_code 4 none more ({ frames := 3, cells := 1, slots := 10, locals := 41 } : Room) #[(.ref x), (.ref f), (.ref aD), (.int (0 : Int32))] h0 [x] (fun v h => v = none ∧ ∃ d k, Fld Z h x "java/util/ArrayList" "elementData" "[Ljava/lang/Object;" (.ref d) ∧ Exa Z h d "[Ljava/lang/Object;" ∧ Arv Z h d k (.object "java/lang/Object") (10 : Int32) [(.ref f), .null, .null, .null, .null, .null, .null, .null, .null, .null] .null ∧ Fld Z h x "java/util/ArrayList" "size" "I" (.int (1 : Int32))) := by
  refine own_enter (own := "java/util/ArrayList") rfl (plainFor_of_name pn_4) ?_
  intro p e s m below meth c T hx hby hml hret hlk hnm K
  rw [ef_rq_add3 m x f aD]
  have A := own_here K
  refine own_iloadN A hx (pc' := 1) (own_dk hby dj38_24 0 rfl) rfl rfl ?_
  refine own_aloadN A hx (pc' := 2) (own_dk hby dj38_24 1 rfl) rfl rfl rfl ?_
  have AD_20 := AD.ext (own_ext0 K)
  refine own_len K hx AD_20 (own_dk hby dj38_24 2 rfl) (pc' := 3) rfl ?_
  refine own_icmp_ne A hx 11 6 (own_dk hby dj38_24 3 rfl) (by decide) (by decide) rfl (fun hc3 => ?_) (fun hc3 => ?_)
  · exact absurd hc3 (by decide)
  refine own_aloadN A hx (pc' := 7) (own_dk hby dj38_24 4 rfl) rfl rfl rfl ?_
  refine own_callVR K hx (by rw [hml]; rfl) (own_w hw 97 rfl) (own_decl (own_w hw 98 rfl) (own_w hw 101 rfl)) (own_nf (own_w hw 86 rfl) rfl) (own_w hw 100 rfl) (own_w hw 98 rfl) (own_w hw 61 rfl) (own_w hw 101 rfl) (by decide) E (rq_g0 l Z a0 hw [] h0 x aD SDc kD AD E Fe Fs) (own_mem1 (List.mem_of_getElem? (i := 0) rfl)) (argsL := []) (rest := []) (lenOf pd_3 rfl) rfl 0 (Nat.le_of_eq rfl) (own_dk hby dj38_24 5 rfl) (pc' := 10) rfl (by decide) (by decide) (by decide) (by decide) ?_
  intro v21 T21 h21 ns21 K21 Kp21 Q21
  obtain ⟨d, k, rfl, rfl, ge, Xd, Vd, Od, Fe, Fs⟩ := Q21
  have ne_x_d : x ≠ d := Nat.ne_of_lt (Nat.lt_of_lt_of_le E.lt ge)
  have ne_f_d : f ≠ d := Nat.ne_of_lt (Nat.lt_of_lt_of_le Ef.lt ge)
  have E := E.keep Kp21
  have Ef := Ef.keep Kp21
  have A21 := own_here K21
  show own_Go p.tables e below _ T21 (mkF m 10 #[.val (.ref x), .val (.ref f), .val (.ref aD), .val (.int (0 : Int32))] [(.ref d)])
  refine own_astoreN A21 hx (pc' := 11) #[.val (.ref x), .val (.ref f), .val (.ref d), .val (.int (0 : Int32))] (own_dk hby dj38_24 6 rfl) rfl rfl rfl ?_
  refine own_aloadN A21 hx (pc' := 12) (own_dk hby dj38_24 7 rfl) rfl rfl rfl ?_
  refine own_iloadN A21 hx (pc' := 13) (own_dk hby dj38_24 8 rfl) rfl rfl ?_
  refine own_aloadN A21 hx (pc' := 14) (own_dk hby dj38_24 9 rfl) rfl rfl rfl ?_
  have So : Sto Z h21 d (.ref f) := by obtain ⟨cl_, A_, q_, -⟩ := Vd; exact Sto.ofV A_ q_ Od (Ins.of_exa Ef (own_w hw 113 rfl))
  refine own_stR K21 hx Vd So rfl (List.mem_of_getElem? (i := 0) rfl) (by decide) 0 rfl (Nat.le_of_ble_eq_true rfl) (own_dk hby dj38_24 10 rfl) (pc' := 15) rfl ?_
  intro T22 h22 K22 W22 V22
  have E := E.wr W22
  have Ef := Ef.wr W22
  have Fe := Fe.other W22 (Or.inl ne_x_d)
  have Fs := Fs.other W22 (Or.inl ne_x_d)
  have Xd := Xd.wr W22
  have A22 := own_here K22
  have Vd : Arv Z h22 d k (.object "java/lang/Object") (10 : Int32) [(.ref f), .null, .null, .null, .null, .null, .null, .null, .null, .null] .null := V22
  refine own_aloadN A22 hx (pc' := 16) (own_dk hby dj38_24 11 rfl) rfl rfl rfl ?_
  refine own_iloadN A22 hx (pc' := 17) (own_dk hby dj38_24 12 rfl) rfl rfl ?_
  refine own_iconst A22 hx (pc' := 18) (own_dk hby dj38_24 13 rfl) (z := (1 : Int32)) (by decide) rfl ?_
  refine own_iadd A22 hx (pc' := 19) (own_dk hby dj38_24 14 rfl) (z := ((0 : Int32) + (1 : Int32))) rfl rfl ?_
  rw [show ((0 : Int32) + (1 : Int32)) = (1 : Int32) from by decide]
  refine own_putF K22 hx (host := "") (Or.inl (own_w hw 90 rfl)) Via.refl Fs E (Or.inl (own_w hw 91 rfl)) (own_w hw 60 rfl) (ty := .int) (by decide) rfl rfl (List.mem_of_getElem? (i := 1) rfl) (own_dk hby dj38_24 15 rfl) (pc' := 22) rfl ?_
  intro T23 h23 K23 W23
  have E := E.wr W23
  have Ef := Ef.wr W23
  have Xd := Xd.wr W23
  have Vd := Vd.other W23 (Ne.symm ne_x_d)
  have Fe := Fe.other W23 (Or.inr (slot_ne (Or.inl (own_w hw 82 rfl)) (Or.inl (own_w hw 91 rfl)) (by decide) (t := (.array (.object "java/lang/Object"))) (t' := .int) (by decide) (by decide)))
  have Fs := Fs.same W23
  have A23 := own_here K23
  exact own_retV K23 hx hlk hret (own_dk hby dj38_24 16 rfl) (by decide) (by decide) ⟨rfl, _, _, Fe, Xd, Vd, Fs⟩
theorem dj38_25 : ∀ r ∈ ([(0, .aload_n 0, 1), (1, .dup, 1), (2, .getfield 63, 3), (5, .iconst 1, 1), (6, .iadd, 1), (7, .putfield 63, 3), (10, .aload_n 0, 1), (11, .aload_n 1, 1), (12, .aload_n 0, 1), (13, .getfield 9, 3), (16, .aload_n 0, 1), (17, .getfield 48, 3), (20, .invokevirtual 131, 3), (23, .iconst 1, 1), (24, .ireturn, 1)] : List (Nat × Instr × Nat)), decode jdk_38_method_25_code r.1 = .ok (r.2.1, r.2.2) := by decide +kernel
theorem pd_4 : parseMethodDescriptor "(Ljava/lang/Object;[Ljava/lang/Object;I)V" = some ⟨[(.object "java/lang/Object"), (.array (.object "java/lang/Object")), .int], none⟩ := by decide +kernel
theorem ef_rq_add (m : MethodId) (q_0 : Addr) (q_1 : Addr)  : entryFrame m #[(.ref q_0), (.ref q_1)] 2 = mkF m 0 #[.val (.ref q_0), .val (.ref q_1)] [] := by  first | (simp [entryFrame, mkF, argsToLocals, Value.category]; done) | rfl
set_option maxRecDepth 65536 in
set_option maxHeartbeats 40000000 in
theorem rq_add (l : Launch) (Z : State) (a0 : Array Value) (hw : ∀ d ∈ tables_1, d.before a0 Z = true) (more : List Jvm.Cond) (h0 : Heap) (x : Addr) (f : Addr)  (aD : Addr) (SDc : Sta Z Z.heap "java/util/ArrayList" "DEFAULTCAPACITY_EMPTY_ELEMENTDATA" "[Ljava/lang/Object;" (.ref aD)) (kD : ClassId) (AD : Arv Z Z.heap aD kD (.object "java/lang/Object") (0 : Int32) [] .null) (E : Exa Z h0 x "java/util/ArrayList") (Fm : Fld Z h0 x "java/util/AbstractList" "modCount" "I" (.int (0 : Int32))) (Fe : Fld Z h0 x "java/util/ArrayList" "elementData" "[Ljava/lang/Object;" (.ref aD)) (Fs : Fld Z h0 x "java/util/ArrayList" "size" "I" (.int (0 : Int32))) (Ef : Exa Z h0 f "com/example/regalwerk/regalwerk/ControlField") :
    own_Met true false consts_1 l Z a0 (⟨"java/util/ArrayList", "add", "(Ljava/lang/Object;)Z"⟩ : MethodName) jdk_38_method_25_code 2 (some .boolean) more ({ frames := 4, cells := 1, slots := 10, locals := 56 } : Room) #[(.ref x), (.ref f)] h0 [x] (fun v h => v = some (.int 1) ∧ ∃ d k, Fld Z h x "java/util/ArrayList" "elementData" "[Ljava/lang/Object;" (.ref d) ∧ Exa Z h d "[Ljava/lang/Object;" ∧ Arv Z h d k (.object "java/lang/Object") (10 : Int32) [(.ref f), .null, .null, .null, .null, .null, .null, .null, .null, .null] .null ∧ Fld Z h x "java/util/ArrayList" "size" "I" (.int (1 : Int32))) := by
  refine own_enter (own := "java/util/ArrayList") rfl (plainFor_of_name pn_4) ?_
  intro p e s m below meth c T hx hby hml hret hlk hnm K
  rw [ef_rq_add m x f]
  have A := own_here K
  refine own_aloadN A hx (pc' := 1) (own_dk hby dj38_25 0 rfl) rfl rfl rfl ?_
  refine own_dup A hx (pc' := 2) (own_dk hby dj38_25 1 rfl) rfl rfl ?_
  refine own_getF K hx (host := "") (Or.inl (own_w hw 88 rfl)) (Via.of (own_w hw 89 rfl)) Fm (own_dk hby dj38_25 2 rfl) (pc' := 5) rfl ?_
  intro T24 K24
  have A24 := own_here K24
  refine own_iconst A24 hx (pc' := 6) (own_dk hby dj38_25 3 rfl) (z := (1 : Int32)) (by decide) rfl ?_
  refine own_iadd A24 hx (pc' := 7) (own_dk hby dj38_25 4 rfl) (z := ((0 : Int32) + (1 : Int32))) rfl rfl ?_
  refine own_putF K24 hx (host := "") (Or.inl (own_w hw 88 rfl)) (Via.of (own_w hw 89 rfl)) Fm E (Or.inl (own_w hw 79 rfl)) (own_w hw 60 rfl) (ty := .int) (by decide) rfl rfl (List.mem_of_getElem? (i := 0) rfl) (own_dk hby dj38_25 5 rfl) (pc' := 10) rfl ?_
  intro T25 h25 K25 W25
  have E := E.wr W25
  have Ef := Ef.wr W25
  have Fm := Fm.same W25
  have Fe := Fe.other W25 (Or.inr (slot_ne (Or.inl (own_w hw 82 rfl)) (Or.inl (own_w hw 79 rfl)) (by decide) (t := (.array (.object "java/lang/Object"))) (t' := .int) (by decide) (by decide)))
  have Fs := Fs.other W25 (Or.inr (slot_ne (Or.inl (own_w hw 91 rfl)) (Or.inl (own_w hw 79 rfl)) (by decide) (t := .int) (t' := .int) (by decide) (by decide)))
  have A25 := own_here K25
  refine own_aloadN A25 hx (pc' := 11) (own_dk hby dj38_25 6 rfl) rfl rfl rfl ?_
  refine own_aloadN A25 hx (pc' := 12) (own_dk hby dj38_25 7 rfl) rfl rfl rfl ?_
  refine own_aloadN A25 hx (pc' := 13) (own_dk hby dj38_25 8 rfl) rfl rfl rfl ?_
  refine own_getF K25 hx (host := "") (Or.inl (own_w hw 81 rfl)) Via.refl Fe (own_dk hby dj38_25 9 rfl) (pc' := 16) rfl ?_
  intro T26 K26
  have A26 := own_here K26
  refine own_aloadN A26 hx (pc' := 17) (own_dk hby dj38_25 10 rfl) rfl rfl rfl ?_
  refine own_getF K26 hx (host := "") (Or.inl (own_w hw 90 rfl)) Via.refl Fs (own_dk hby dj38_25 11 rfl) (pc' := 20) rfl ?_
  intro T27 K27
  have A27 := own_here K27
  refine own_callV K27 hx (by rw [hml]; rfl) (own_w hw 92 rfl) (own_decl (own_w hw 93 rfl) (own_w hw 96 rfl)) (fun U hU => notFace_of_selects (args := #[]) (mvT hU (own_w hw 95 rfl))) (own_w hw 95 rfl) (own_w hw 93 rfl) (own_w hw 61 rfl) (own_w hw 96 rfl) (by decide) E (rq_add3 l Z a0 hw [] h25 x f aD SDc kD AD E Fe Fs Ef) (own_mem1 (List.mem_of_getElem? (i := 0) rfl)) (argsL := [(.ref f), (.ref aD), (.int (0 : Int32))]) (rest := []) (lenOf pd_4 rfl) rfl 0 (Nat.le_of_eq rfl) (own_dk hby dj38_25 12 rfl) (pc' := 23) rfl (by decide) (by decide) (by decide) (by decide) ?_
  intro v28 T28 h28 K28 Kp28 Q28
  obtain ⟨rfl, d, k, Fe, Xd, Vd, Fs⟩ := Q28
  have E := E.keep Kp28
  have Ef := Ef.keep Kp28
  have A28 := own_here K28
  show own_Go p.tables e below _ T28 (mkF m 23 #[.val (.ref x), .val (.ref f)] [])
  refine own_iconst A28 hx (pc' := 24) (own_dk hby dj38_25 13 rfl) (z := (1 : Int32)) (by decide) rfl ?_
  exact own_retN K28 hx hlk hret (by simp) (own_dk hby dj38_25 14 rfl) (by decide) (by decide) ⟨rfl, _, _, Fe, Xd, Vd, Fs⟩
theorem dm3 : ∀ r ∈ ([(0, .new 12, 3), (3, .dup, 1), (4, .invokespecial 14, 3), (7, .astore_n 2, 1), (8, .iload_n 0, 1), (9, .ifCond .eq 9, 3), (18, .aload_n 2, 1), (19, .areturn, 1), (12, .aload_n 2, 1), (13, .aload_n 1, 1), (14, .invokevirtual 15, 3), (17, .pop, 1)] : List (Nat × Instr × Nat)), decode method_3_code r.1 = .ok (r.2.1, r.2.2) := by decide +kernel
theorem pd_5 : parseMethodDescriptor "(Ljava/lang/Object;)Z" = some ⟨[(.object "java/lang/Object")], some .boolean⟩ := by decide +kernel
theorem ef_rq_fld (m : MethodId) (q_0 : Int32) (q_1 : Addr)  : entryFrame m #[(.int q_0), (.ref q_1)] 3 = mkF m 0 #[.val (.int q_0), .val (.ref q_1), .unset] [] := by  first | (simp [entryFrame, mkF, argsToLocals, Value.category]; done) | rfl
theorem pn_5 : plainName "com/example/regalwerk/regalwerk/HoldingsLinkerDeletionPinLaw" = true := by first | (simp [plainName, overriddenIn]; done) | decide +kernel
set_option maxRecDepth 65536 in
set_option maxHeartbeats 40000000 in
theorem rq_fld (l : Launch) (Z : State) (a0 : Array Value) (hw : ∀ d ∈ tables_1, d.before a0 Z = true) (more : List Jvm.Cond) (h0 : Heap) (z : Int32) (f : Addr)  (aD : Addr) (SDc : Sta Z Z.heap "java/util/ArrayList" "DEFAULTCAPACITY_EMPTY_ELEMENTDATA" "[Ljava/lang/Object;" (.ref aD)) (kD : ClassId) (AD : Arv Z Z.heap aD kD (.object "java/lang/Object") (0 : Int32) [] .null) (hz : z = 0 ∨ z = 1) (Ef : Exa Z h0 f "com/example/regalwerk/regalwerk/ControlField") :
    own_Met true false consts_1 l Z a0 (⟨"com/example/regalwerk/regalwerk/HoldingsLinkerDeletionPinLaw", "fields", "(ZLjava/lang/Object;)Ljava/util/ArrayList;"⟩ : MethodName) method_3_code 3 (some (.object "java/util/ArrayList")) more ({ frames := 5, cells := 2, slots := 13, locals := 69 } : Room) #[(.int z), (.ref f)] h0 [] (fun v h => ∃ a, v = some (.ref a) ∧ own_AL Z h a z f) := by
  refine own_enter (own := "com/example/regalwerk/regalwerk/HoldingsLinkerDeletionPinLaw") rfl (plainFor_of_name pn_5) ?_
  intro p e s m below meth c T hx hby hml hret hlk hnm K
  rw [ef_rq_fld m z f]
  have A := own_here K
  refine own_new K hx (own_w hw 59 rfl) (own_w hw 60 rfl) (own_w hw 61 rfl) (own_dk hby dm3 0 rfl) (pc' := 3) rfl (by decide) (by decide) ?_
  intro T29 h29 b29 g29 K29 E29 X29 D29 U29
  have ne_f_b29 : f ≠ b29 := by rw [g29]; exact Nat.ne_of_lt Ef.lt
  have Ef := Ef.ext E29
  have A29 := own_here K29
  have F_modCount_b29 := D29 (Or.inl (own_w hw 79 rfl)) (ty := .int) (by decide)
  have F_elementData_b29 := D29 (Or.inl (own_w hw 82 rfl)) (ty := (.array (.object "java/lang/Object"))) (by decide)
  have F_size_b29 := D29 (Or.inl (own_w hw 91 rfl)) (ty := .int) (by decide)
  refine own_dup A29 hx (pc' := 4) (own_dk hby dm3 1 rfl) rfl rfl ?_
  refine own_callSp K29 hx (by rw [hml]; rfl) rfl (own_w hw 62 rfl) (own_w hw 63 rfl) (own_w hw 61 rfl) (own_w hw 64 rfl) (by decide) (rq_ali l Z a0 hw [] h29 b29 _ _ _ aD SDc kD AD X29 F_modCount_b29 F_elementData_b29 F_size_b29) (own_mem1 (List.mem_of_getElem? (i := 0) rfl)) (argsL := []) (rest := [(.ref b29)]) (lenOf pd_0 rfl) rfl 1 (Nat.le_of_eq rfl) (own_dk hby dm3 2 rfl) (pc' := 7) rfl (by decide) (by decide) (by decide) (by decide) ?_
  intro v30 T30 h30 K30 Kp30 Q30
  obtain ⟨rfl, Fm, Fe, Fs⟩ := Q30
  have Ef := Ef.keep Kp30
  have X29 := X29.keep Kp30
  have A30 := own_here K30
  show own_Go p.tables e below _ T30 (mkF m 7 #[.val (.int z), .val (.ref f), .unset] [(.ref b29)])
  refine own_astoreN A30 hx (pc' := 8) #[.val (.int z), .val (.ref f), .val (.ref b29)] (own_dk hby dm3 3 rfl) rfl rfl rfl ?_
  rcases hz with rfl | rfl
  · refine own_iloadN A30 hx (pc' := 9) (own_dk hby dm3 4 rfl) rfl rfl ?_
    refine own_if_eq A30 hx 18 12 (own_dk hby dm3 5 rfl) (by decide) (by decide) rfl (fun hc9 => ?_) (fun hc9 => ?_)
    rotate_left
    · exact absurd hc9 (by decide)
    refine own_aloadN A30 hx (pc' := 19) (own_dk hby dm3 6 rfl) rfl rfl rfl ?_
    exact own_retR K30 hx hlk hret rfl rfl (own_dk hby dm3 7 rfl) (by decide) (by decide) ⟨_, rfl, X29, Fs, fun q => absurd q (by decide)⟩
  · refine own_iloadN A30 hx (pc' := 9) (own_dk hby dm3 4 rfl) rfl rfl ?_
    refine own_if_eq A30 hx 18 12 (own_dk hby dm3 5 rfl) (by decide) (by decide) rfl (fun hc9 => ?_) (fun hc9 => ?_)
    · exact absurd hc9 (by decide)
    refine own_aloadN A30 hx (pc' := 13) (own_dk hby dm3 8 rfl) rfl rfl rfl ?_
    refine own_aloadN A30 hx (pc' := 14) (own_dk hby dm3 9 rfl) rfl rfl rfl ?_
    refine own_callV K30 hx (by rw [hml]; rfl) (own_w hw 83 rfl) (own_w hw 84 rfl) (fun U hU => notFace_of_selects (args := #[]) (mvT hU (own_w hw 86 rfl))) (own_w hw 86 rfl) (own_w hw 85 rfl) (own_w hw 61 rfl) (own_w hw 87 rfl) (by decide) X29 (rq_add l Z a0 hw [] h30 b29 f aD SDc kD AD X29 Fm Fe Fs Ef) (own_mem1 (List.mem_of_getElem? (i := 0) rfl)) (argsL := [(.ref f)]) (rest := []) (lenOf pd_5 rfl) rfl 0 (Nat.le_of_eq rfl) (own_dk hby dm3 10 rfl) (pc' := 17) rfl (by decide) (by decide) (by decide) (by decide) ?_
    intro v31 T31 h31 K31 Kp31 Q31
    obtain ⟨rfl, d, k, Fe, Xd, Vd, Fs⟩ := Q31
    have Ef := Ef.keep Kp31
    have X29 := X29.keep Kp31
    have A31 := own_here K31
    show own_Go p.tables e below _ T31 (mkF m 17 #[.val (.int (1 : Int32)), .val (.ref f), .val (.ref b29)] [(.int (1 : Int32))])
    refine own_pop A31 hx (pc' := 18) (own_dk hby dm3 11 rfl) rfl rfl ?_
    refine own_aloadN A31 hx (pc' := 19) (own_dk hby dm3 6 rfl) rfl rfl rfl ?_
    exact own_retR K31 hx hlk hret rfl rfl (own_dk hby dm3 7 rfl) (by decide) (by decide) ⟨_, rfl, X29, Fs, fun q => ⟨_, _, Fe, Xd, Vd⟩⟩
theorem dj38_9 : ∀ r ∈ ([(0, .aload_n 0, 1), (1, .getfield 48, 3), (4, .ifCond .ne 7, 3), (11, .iconst 0, 1), (12, .ireturn, 1), (7, .iconst 1, 1), (8, .goto 4, 3)] : List (Nat × Instr × Nat)), decode jdk_38_method_9_code r.1 = .ok (r.2.1, r.2.2) := by decide +kernel
theorem ef_rq_ise (m : MethodId) (q_0 : Addr)  : entryFrame m #[(.ref q_0)] 1 = mkF m 0 #[.val (.ref q_0)] [] := by  first | (simp [entryFrame, mkF, argsToLocals, Value.category]; done) | rfl
set_option maxRecDepth 65536 in
set_option maxHeartbeats 40000000 in
theorem rq_ise (l : Launch) (Z : State) (a0 : Array Value) (hw : ∀ d ∈ tables_1, d.before a0 Z = true) (more : List Jvm.Cond) (h0 : Heap) (x : Addr) (z : Int32) (Fs : Fld Z h0 x "java/util/ArrayList" "size" "I" (.int z)) :
    own_Met true false consts_1 l Z a0 (⟨"java/util/ArrayList", "isEmpty", "()Z"⟩ : MethodName) jdk_38_method_9_code 1 (some .boolean) more ({ frames := 0, cells := 0, slots := 0, locals := 0 } : Room) #[(.ref x)] h0 [] (fun v h => v = some (.int (if z = 0 then 1 else 0)) ∧ h = h0) := by
  refine own_enter (own := "java/util/ArrayList") rfl (plainFor_of_name pn_4) ?_
  intro p e s m below meth c T hx hby hml hret hlk hnm K
  rw [ef_rq_ise m x]
  have A := own_here K
  refine own_aloadN A hx (pc' := 1) (own_dk hby dj38_9 0 rfl) rfl rfl rfl ?_
  refine own_getF K hx (host := "") (Or.inl (own_w hw 90 rfl)) Via.refl Fs (own_dk hby dj38_9 1 rfl) (pc' := 4) rfl ?_
  intro T32 K32
  have A32 := own_here K32
  refine own_if_ne A32 hx 11 7 (own_dk hby dj38_9 2 rfl) (by decide) (by decide) rfl (fun hc4 => ?_) (fun hc4 => ?_)
  · refine own_iconst A32 hx (pc' := 12) (own_dk hby dj38_9 3 rfl) (z := (0 : Int32)) (by decide) rfl ?_
    exact own_retN K32 hx hlk hret (by simp) (own_dk hby dj38_9 4 rfl) (by decide) (by decide) ⟨by rw [if_neg hc4]; rfl, rfl⟩
  · refine own_iconst A32 hx (pc' := 8) (own_dk hby dj38_9 5 rfl) (z := (1 : Int32)) (by decide) rfl ?_
    refine own_goto A32 hx 12 (own_dk hby dj38_9 6 rfl) (by decide) (by decide) ?_
    exact own_retN K32 hx hlk hret (by simp) (own_dk hby dj38_9 4 rfl) (by decide) (by decide) ⟨by rw [if_pos hc4]; rfl, rfl⟩
theorem dj65_120 : ∀ r ∈ ([(0, .aload_n 2, 1), (1, .ldc 110, 2), (3, .if_acmp .ne 10, 3), (6, .iload_n 1, 1), (7, .anewarray 2, 3), (10, .goto 14, 3), (24, .astore_n 3, 1), (25, .aload_n 0, 1), (26, .iconst 0, 1), (27, .aload_n 3, 1), (28, .iconst 0, 1), (29, .aload_n 0, 1), (30, .arraylength, 1), (31, .iload_n 1, 1), (32, .invokestatic 304, 3), (35, .invokestatic 150, 3), (38, .aload_n 3, 1), (39, .areturn, 1)] : List (Nat × Instr × Nat)), decode jdk_65_method_120_code r.1 = .ok (r.2.1, r.2.2) := by decide +kernel
theorem ef_rq_cp3 (m : MethodId) (q_0 : Addr) (q_2 : Addr)  : entryFrame m #[(.ref q_0), (.int (1 : Int32)), (.ref q_2)] 4 = mkF m 0 #[.val (.ref q_0), .val (.int (1 : Int32)), .val (.ref q_2), .unset] [] := by  first | (simp [entryFrame, mkF, argsToLocals, Value.category]; done) | rfl
theorem pn_6 : plainName "java/util/Arrays" = true := by first | (simp [plainName, overriddenIn]; done) | decide +kernel
set_option maxRecDepth 65536 in
set_option maxHeartbeats 40000000 in
theorem rq_cp3 (l : Launch) (Z : State) (a0 : Array Value) (hw : ∀ d ∈ tables_1, d.before a0 Z = true) (more : List Jvm.Cond) (h0 : Heap) (d : Addr) (mr : Addr)  (MRo : own_Mir Z "[Ljava/lang/Object;" mr)(f : Addr) (kd : ClassId) (Vd : Arv Z h0 d kd (.object "java/lang/Object") (10 : Int32) [(.ref f), .null, .null, .null, .null, .null, .null, .null, .null, .null] .null) (Ef : Exa Z h0 f "com/example/regalwerk/regalwerk/ControlField") :
    own_Met true false consts_1 l Z a0 (⟨"java/util/Arrays", "copyOf", "([Ljava/lang/Object;ILjava/lang/Class;)[Ljava/lang/Object;"⟩ : MethodName) jdk_65_method_120_code 4 (some (.array (.object "java/lang/Object"))) more ({ frames := 1, cells := 1, slots := 1, locals := 18 } : Room) #[(.ref d), (.int (1 : Int32)), (.ref mr)] h0 [] (fun v h => ∃ b k, v = some (.ref b) ∧ Arv Z h b k (.object "java/lang/Object") (1 : Int32) [.ref f] .null) := by
  refine own_enter (own := "java/util/Arrays") rfl (plainFor_of_name pn_6) ?_
  intro p e s m below meth c T hx hby hml hret hlk hnm K
  rw [ef_rq_cp3 m d mr]
  have A := own_here K
  refine own_aloadN A hx (pc' := 1) (own_dk hby dj65_120 0 rfl) rfl rfl rfl ?_
  refine own_ldcK K hx (own_w hw 162 rfl) MRo (own_dk hby dj65_120 1 rfl) (pc' := 3) rfl ?_
  intro T33 K33
  have A33 := own_here K33
  refine own_acmp K33 hx rfl rfl true (decide_eq_true rfl) (pc' := 6) (own_dk hby dj65_120 2 rfl) (by decide) (by decide) ?_
  refine own_iloadN A33 hx (pc' := 7) (own_dk hby dj65_120 3 rfl) rfl rfl ?_
  refine own_newrefX (D := "[Ljava/lang/Object;") K33 hx (own_w hw 163 rfl) (own_w hw 112 rfl) (by decide +kernel) (own_dk hby dj65_120 4 rfl) (pc' := 10) rfl (by decide) 1 (by decide) (by decide) (by decide) (by decide) ?_
  intro T34 h34 b34 k34 g34 K34 E34 V34 O34 X34
  have ne_d_b34 : d ≠ b34 := by rw [g34]; exact Nat.ne_of_lt Vd.lt
  have ne_f_b34 : f ≠ b34 := by rw [g34]; exact Nat.ne_of_lt Ef.lt
  have Vd := Vd.ext E34
  have Ef := Ef.ext E34
  have A34 := own_here K34
  have V34 : Arv Z h34 b34 k34 (.object "java/lang/Object") (1 : Int32) [.null] .null := V34.pad (pad_rep [] .null 1)
  have ge_ := Nat.le_of_eq g34.symm
  refine own_goto A34 hx 24 (own_dk hby dj65_120 5 rfl) (by decide) (by decide) ?_
  refine own_astoreN A34 hx (pc' := 25) #[.val (.ref d), .val (.int (1 : Int32)), .val (.ref mr), .val (.ref b34)] (own_dk hby dj65_120 6 rfl) rfl rfl rfl ?_
  refine own_aloadN A34 hx (pc' := 26) (own_dk hby dj65_120 7 rfl) rfl rfl rfl ?_
  refine own_iconst A34 hx (pc' := 27) (own_dk hby dj65_120 8 rfl) (z := (0 : Int32)) (by decide) rfl ?_
  refine own_aloadN A34 hx (pc' := 28) (own_dk hby dj65_120 9 rfl) rfl rfl rfl ?_
  refine own_iconst A34 hx (pc' := 29) (own_dk hby dj65_120 10 rfl) (z := (0 : Int32)) (by decide) rfl ?_
  refine own_aloadN A34 hx (pc' := 30) (own_dk hby dj65_120 11 rfl) rfl rfl rfl ?_
  refine own_len K34 hx Vd (own_dk hby dj65_120 12 rfl) (pc' := 31) rfl ?_
  refine own_iloadN A34 hx (pc' := 32) (own_dk hby dj65_120 13 rfl) rfl rfl ?_
  refine own_callS K34 hx (by rw [hml]; rfl) (own_w hw 164 rfl) (own_w hw 165 rfl) (own_w hw 109 rfl) (own_w hw 166 rfl) (by decide) (rq_min l Z a0 hw [] h34 (10 : Int32) (1 : Int32)) (fun _ q => nomatch q) (argsL := [(.int (10 : Int32)), (.int (1 : Int32))]) (rest := [(.int (0 : Int32)), (.ref b34), (.int (0 : Int32)), (.ref d)]) (lenOf pd_1 rfl) rfl 4 (Nat.le_of_eq rfl) (own_dk hby dj65_120 14 rfl) (pc' := 35) rfl (by decide) (by decide) (by decide) (by decide) ?_
  intro v35 T35 h35 K35 Kp35 Q35
  obtain ⟨rfl, -⟩ := Q35
  have Vd := Vd.keep Kp35 nin0
  have Ef := Ef.keep Kp35
  have V34 := V34.keep Kp35 nin0
  have X34 := X34.keep Kp35
  have A35 := own_here K35
  show own_Go p.tables e below _ T35 (mkF m 35 #[.val (.ref d), .val (.int (1 : Int32)), .val (.ref mr), .val (.ref b34)] [(.int (if (1 : Int32) < (10 : Int32) then (1 : Int32) else (10 : Int32))), (.int (0 : Int32)), (.ref b34), (.int (0 : Int32)), (.ref d)])
  rw [show (if (1 : Int32) < (10 : Int32) then (1 : Int32) else (10 : Int32)) = (1 : Int32) from by decide]
  have So : Sto Z h35 b34 (.ref f) := by obtain ⟨cl_, A_, q_, -⟩ := V34; exact Sto.ofV A_ q_ O34 (Ins.of_exa Ef (own_w hw 113 rfl))
  refine own_acopyG (i := 0) (j := 0) (n := 1) (vs := [(.ref f), .null, .null, .null, .null, .null, .null, .null, .null, .null]) (us := [.null]) K35 hx (own_w hw 167 rfl) (own_w hw 170 rfl) (own_w hw 168 rfl) (own_w hw 169 rfl) Vd V34 (by decide) (fun q hq => by obtain rfl := Nat.lt_one_iff.mp hq; exact Or.inr So) (List.mem_of_getElem? (i := 0) rfl) (Nat.le_of_ble_eq_true rfl) (by decide) (by show 10 < 2 ^ 31; decide) (by decide) (by rw [hml]; rfl) (own_dk hby dj65_120 15 rfl) (pc' := 38) rfl (by decide) (by decide) ?_
  intro T36 h36 K36 Kp36 Y36
  have A36 := own_here K36
  refine own_aloadN A36 hx (pc' := 39) (own_dk hby dj65_120 16 rfl) rfl rfl rfl ?_
  exact own_retR K36 hx hlk hret rfl rfl (own_dk hby dj65_120 17 rfl) (by decide) (by decide) ⟨_, _, rfl, Y36⟩
theorem dj65_119 : ∀ r ∈ ([(0, .aload_n 0, 1), (1, .iload_n 1, 1), (2, .aload_n 0, 1), (3, .invokevirtual 86, 3), (6, .invokestatic 300, 3), (9, .areturn, 1)] : List (Nat × Instr × Nat)), decode jdk_65_method_119_code r.1 = .ok (r.2.1, r.2.2) := by decide +kernel
theorem pd_6 : parseMethodDescriptor "([Ljava/lang/Object;ILjava/lang/Class;)[Ljava/lang/Object;" = some ⟨[(.array (.object "java/lang/Object")), .int, (.object "java/lang/Class")], some (.array (.object "java/lang/Object"))⟩ := by decide +kernel
theorem ef_rq_cp2 (m : MethodId) (q_0 : Addr)  : entryFrame m #[(.ref q_0), (.int (1 : Int32))] 2 = mkF m 0 #[.val (.ref q_0), .val (.int (1 : Int32))] [] := by  first | (simp [entryFrame, mkF, argsToLocals, Value.category]; done) | rfl
set_option maxRecDepth 65536 in
set_option maxHeartbeats 40000000 in
theorem rq_cp2 (l : Launch) (Z : State) (a0 : Array Value) (hw : ∀ d ∈ tables_1, d.before a0 Z = true) (more : List Jvm.Cond) (h0 : Heap) (d : Addr)  (mr : Addr) (MRo : own_Mir Z "[Ljava/lang/Object;" mr)(f : Addr) (kd : ClassId) (Vd : Arv Z h0 d kd (.object "java/lang/Object") (10 : Int32) [(.ref f), .null, .null, .null, .null, .null, .null, .null, .null, .null] .null) (Ef : Exa Z h0 f "com/example/regalwerk/regalwerk/ControlField") (Xd : Exa Z h0 d "[Ljava/lang/Object;") :
    own_Met true false consts_1 l Z a0 (⟨"java/util/Arrays", "copyOf", "([Ljava/lang/Object;I)[Ljava/lang/Object;"⟩ : MethodName) jdk_65_method_119_code 2 (some (.array (.object "java/lang/Object"))) more ({ frames := 2, cells := 1, slots := 1, locals := 33 } : Room) #[(.ref d), (.int (1 : Int32))] h0 [] (fun v h => ∃ b k, v = some (.ref b) ∧ Arv Z h b k (.object "java/lang/Object") (1 : Int32) [.ref f] .null) := by
  refine own_enter (own := "java/util/Arrays") rfl (plainFor_of_name pn_6) ?_
  intro p e s m below meth c T hx hby hml hret hlk hnm K
  rw [ef_rq_cp2 m d]
  have A := own_here K
  refine own_aloadN A hx (pc' := 1) (own_dk hby dj65_119 0 rfl) rfl rfl rfl ?_
  refine own_iloadN A hx (pc' := 2) (own_dk hby dj65_119 1 rfl) rfl rfl ?_
  refine own_aloadN A hx (pc' := 3) (own_dk hby dj65_119 2 rfl) rfl rfl rfl ?_
  refine own_getCls K hx (by rw [hml]; rfl) (own_w hw 153 rfl) (own_w hw 154 rfl) (own_w hw 156 rfl) (own_w hw 155 rfl) (own_w hw 157 rfl) Xd MRo (own_dk hby dj65_119 3 rfl) (pc' := 6) rfl 2 (Nat.le_of_eq rfl) (by decide) (by decide) ?_
  intro T37 K37
  have A37 := own_here K37
  refine own_callS K37 hx (by rw [hml]; rfl) (own_w hw 159 rfl) (own_w hw 160 rfl) (own_w hw 151 rfl) (own_w hw 161 rfl) (by decide) (rq_cp3 l Z a0 hw [] h0 d mr MRo f kd Vd Ef) (fun _ q => nomatch q) (argsL := [(.ref d), (.int (1 : Int32)), (.ref mr)]) (rest := []) (lenOf pd_6 rfl) rfl 0 (Nat.le_of_eq rfl) (own_dk hby dj65_119 4 rfl) (pc' := 9) rfl (by decide) (by decide) (by decide) (by decide) ?_
  intro v38 T38 h38 K38 Kp38 Q38
  obtain ⟨b, k, rfl, Y⟩ := Q38
  have Vd := Vd.keep Kp38 nin0
  have Ef := Ef.keep Kp38
  have Xd := Xd.keep Kp38
  have A38 := own_here K38
  show own_Go p.tables e below _ T38 (mkF m 9 #[.val (.ref d), .val (.int (1 : Int32))] [(.ref b)])
  exact own_retR K38 hx hlk hret rfl rfl (own_dk hby dj65_119 5 rfl) (by decide) (by decide) ⟨_, _, rfl, Y⟩
theorem dj38_16 : ∀ r ∈ ([(0, .aload_n 0, 1), (1, .getfield 9, 3), (4, .aload_n 0, 1), (5, .getfield 48, 3), (8, .invokestatic 66, 3), (11, .areturn, 1)] : List (Nat × Instr × Nat)), decode jdk_38_method_16_code r.1 = .ok (r.2.1, r.2.2) := by decide +kernel
theorem pd_7 : parseMethodDescriptor "([Ljava/lang/Object;I)[Ljava/lang/Object;" = some ⟨[(.array (.object "java/lang/Object")), .int], some (.array (.object "java/lang/Object"))⟩ := by decide +kernel
theorem ef_rq_toa (m : MethodId) (q_0 : Addr)  : entryFrame m #[(.ref q_0)] 1 = mkF m 0 #[.val (.ref q_0)] [] := by  first | (simp [entryFrame, mkF, argsToLocals, Value.category]; done) | rfl
set_option maxRecDepth 65536 in
set_option maxHeartbeats 40000000 in
theorem rq_toa (l : Launch) (Z : State) (a0 : Array Value) (hw : ∀ d ∈ tables_1, d.before a0 Z = true) (more : List Jvm.Cond) (h0 : Heap) (x : Addr)  (mr : Addr) (MRo : own_Mir Z "[Ljava/lang/Object;" mr)(d : Addr) (f : Addr) (kd : ClassId) (Vd : Arv Z h0 d kd (.object "java/lang/Object") (10 : Int32) [(.ref f), .null, .null, .null, .null, .null, .null, .null, .null, .null] .null) (Ef : Exa Z h0 f "com/example/regalwerk/regalwerk/ControlField") (Xd : Exa Z h0 d "[Ljava/lang/Object;") (Fe : Fld Z h0 x "java/util/ArrayList" "elementData" "[Ljava/lang/Object;" (.ref d)) (Fs : Fld Z h0 x "java/util/ArrayList" "size" "I" (.int (1 : Int32))) :
    own_Met true false consts_1 l Z a0 (⟨"java/util/ArrayList", "toArray", "()[Ljava/lang/Object;"⟩ : MethodName) jdk_38_method_16_code 1 (some (.array (.object "java/lang/Object"))) more ({ frames := 3, cells := 1, slots := 1, locals := 46 } : Room) #[(.ref x)] h0 [] (fun v h => ∃ b k, v = some (.ref b) ∧ Arv Z h b k (.object "java/lang/Object") (1 : Int32) [.ref f] .null) := by
  refine own_enter (own := "java/util/ArrayList") rfl (plainFor_of_name pn_4) ?_
  intro p e s m below meth c T hx hby hml hret hlk hnm K
  rw [ef_rq_toa m x]
  have A := own_here K
  refine own_aloadN A hx (pc' := 1) (own_dk hby dj38_16 0 rfl) rfl rfl rfl ?_
  refine own_getF K hx (host := "") (Or.inl (own_w hw 81 rfl)) Via.refl Fe (own_dk hby dj38_16 1 rfl) (pc' := 4) rfl ?_
  intro T39 K39
  have A39 := own_here K39
  refine own_aloadN A39 hx (pc' := 5) (own_dk hby dj38_16 2 rfl) rfl rfl rfl ?_
  refine own_getF K39 hx (host := "") (Or.inl (own_w hw 90 rfl)) Via.refl Fs (own_dk hby dj38_16 3 rfl) (pc' := 8) rfl ?_
  intro T40 K40
  have A40 := own_here K40
  refine own_callS K40 hx (by rw [hml]; rfl) (own_w hw 149 rfl) (own_w hw 150 rfl) (own_w hw 151 rfl) (own_w hw 152 rfl) (by decide) (rq_cp2 l Z a0 hw [] h0 d mr MRo f kd Vd Ef Xd) (fun _ q => nomatch q) (argsL := [(.ref d), (.int (1 : Int32))]) (rest := []) (lenOf pd_7 rfl) rfl 0 (Nat.le_of_eq rfl) (own_dk hby dj38_16 4 rfl) (pc' := 11) rfl (by decide) (by decide) (by decide) (by decide) ?_
  intro v41 T41 h41 K41 Kp41 Q41
  obtain ⟨b, k, rfl, Y⟩ := Q41
  have Fe := Fe.keep Kp41 nin0
  have Fs := Fs.keep Kp41 nin0
  have Vd := Vd.keep Kp41 nin0
  have Ef := Ef.keep Kp41
  have Xd := Xd.keep Kp41
  have A41 := own_here K41
  show own_Go p.tables e below _ T41 (mkF m 11 #[.val (.ref x)] [(.ref b)])
  exact own_retR K41 hx hlk hret rfl rfl (own_dk hby dj38_16 5 rfl) (by decide) (by decide) ⟨_, _, rfl, Y⟩
theorem dj31_10 : ∀ r ∈ ([(0, .aload_n 0, 1), (1, .ifnonnull 11, 3), (12, .aload_n 0, 1), (13, .areturn, 1)] : List (Nat × Instr × Nat)), decode jdk_31_method_10_code r.1 = .ok (r.2.1, r.2.2) := by decide +kernel
theorem ef_rq_rnn (m : MethodId) (q_0 : Addr)  : entryFrame m #[(.ref q_0)] 1 = mkF m 0 #[.val (.ref q_0)] [] := by  first | (simp [entryFrame, mkF, argsToLocals, Value.category]; done) | rfl
theorem pn_7 : plainName "java/util/Objects" = true := by first | (simp [plainName, overriddenIn]; done) | decide +kernel
set_option maxRecDepth 65536 in
set_option maxHeartbeats 40000000 in
theorem rq_rnn (l : Launch) (Z : State) (a0 : Array Value) (hw : ∀ d ∈ tables_1, d.before a0 Z = true) (more : List Jvm.Cond) (h0 : Heap) (f : Addr)   :
    own_Met true false consts_1 l Z a0 (⟨"java/util/Objects", "requireNonNull", "(Ljava/lang/Object;)Ljava/lang/Object;"⟩ : MethodName) jdk_31_method_10_code 1 (some (.object "java/lang/Object")) more ({ frames := 0, cells := 0, slots := 0, locals := 0 } : Room) #[(.ref f)] h0 [] (fun v h => v = some (.ref f) ∧ h = h0) := by
  refine own_enter (own := "java/util/Objects") rfl (plainFor_of_name pn_7) ?_
  intro p e s m below meth c T hx hby hml hret hlk hnm K
  rw [ef_rq_rnn m f]
  have A := own_here K
  refine own_aloadN A hx (pc' := 1) (own_dk hby dj31_10 0 rfl) rfl rfl rfl ?_
  refine own_ifnonnull_t A hx 12 (own_dk hby dj31_10 1 rfl) (by decide) (by decide) ?_
  refine own_aloadN A hx (pc' := 13) (own_dk hby dj31_10 2 rfl) rfl rfl rfl ?_
  exact own_retR K hx hlk hret rfl rfl (own_dk hby dj31_10 3 rfl) (by decide) (by decide) ⟨rfl, rfl⟩
theorem dj47_1 : ∀ r ∈ ([(0, .aload_n 0, 1), (1, .invokespecial 1, 3), (4, .return_, 1)] : List (Nat × Instr × Nat)), decode jdk_47_method_1_code r.1 = .ok (r.2.1, r.2.2) := by decide +kernel
theorem ef_rq_aic (m : MethodId) (q_0 : Addr)  : entryFrame m #[(.ref q_0)] 1 = mkF m 0 #[.val (.ref q_0)] [] := by  first | (simp [entryFrame, mkF, argsToLocals, Value.category]; done) | rfl
theorem pn_8 : plainName "java/util/ImmutableCollections$AbstractImmutableCollection" = true := by first | (simp [plainName, overriddenIn]; done) | decide +kernel
set_option maxRecDepth 65536 in
set_option maxHeartbeats 40000000 in
theorem rq_aic (l : Launch) (Z : State) (a0 : Array Value) (hw : ∀ d ∈ tables_1, d.before a0 Z = true) (more : List Jvm.Cond) (h0 : Heap) (x : Addr)   :
    own_Met true false consts_1 l Z a0 (⟨"java/util/ImmutableCollections$AbstractImmutableCollection", "<init>", "()V"⟩ : MethodName) jdk_47_method_1_code 1 none more ({ frames := 2, cells := 0, slots := 0, locals := 24 } : Room) #[(.ref x)] h0 [] (fun v h => v = none ∧ h = h0) := by
  refine own_enter (own := "java/util/ImmutableCollections$AbstractImmutableCollection") rfl (plainFor_of_name pn_8) ?_
  intro p e s m below meth c T hx hby hml hret hlk hnm K
  rw [ef_rq_aic m x]
  have A := own_here K
  refine own_aloadN A hx (pc' := 1) (own_dk hby dj47_1 0 rfl) rfl rfl rfl ?_
  refine own_callSp K hx (by rw [hml]; rfl) rfl (own_w hw 193 rfl) (own_w hw 72 rfl) (own_w hw 75 rfl) (own_w hw 76 rfl) (by decide) (rq_ac l Z a0 hw [] h0 x) (fun _ q => nomatch q) (argsL := []) (rest := []) (lenOf pd_0 rfl) rfl 0 (Nat.le_of_eq rfl) (own_dk hby dj47_1 1 rfl) (pc' := 4) rfl (by decide) (by decide) (by decide) (by decide) ?_
  intro v42 T42 h42 K42 Kp42 Q42
  obtain ⟨rfl, rfl⟩ := Q42
  have A42 := own_here K42
  show own_Go p.tables e below _ T42 (mkF m 4 #[.val (.ref x)] [])
  exact own_retV K42 hx hlk hret (own_dk hby dj47_1 2 rfl) (by decide) (by decide) ⟨rfl, rfl⟩
theorem dj46_1 : ∀ r ∈ ([(0, .aload_n 0, 1), (1, .invokespecial 1, 3), (4, .return_, 1)] : List (Nat × Instr × Nat)), decode jdk_46_method_1_code r.1 = .ok (r.2.1, r.2.2) := by decide +kernel
theorem ef_rq_ail (m : MethodId) (q_0 : Addr)  : entryFrame m #[(.ref q_0)] 1 = mkF m 0 #[.val (.ref q_0)] [] := by  first | (simp [entryFrame, mkF, argsToLocals, Value.category]; done) | rfl
theorem pn_9 : plainName "java/util/ImmutableCollections$AbstractImmutableList" = true := by first | (simp [plainName, overriddenIn]; done) | decide +kernel
set_option maxRecDepth 65536 in
set_option maxHeartbeats 40000000 in
theorem rq_ail (l : Launch) (Z : State) (a0 : Array Value) (hw : ∀ d ∈ tables_1, d.before a0 Z = true) (more : List Jvm.Cond) (h0 : Heap) (x : Addr)   :
    own_Met true false consts_1 l Z a0 (⟨"java/util/ImmutableCollections$AbstractImmutableList", "<init>", "()V"⟩ : MethodName) jdk_46_method_1_code 1 none more ({ frames := 3, cells := 0, slots := 0, locals := 36 } : Room) #[(.ref x)] h0 [] (fun v h => v = none ∧ h = h0) := by
  refine own_enter (own := "java/util/ImmutableCollections$AbstractImmutableList") rfl (plainFor_of_name pn_9) ?_
  intro p e s m below meth c T hx hby hml hret hlk hnm K
  rw [ef_rq_ail m x]
  have A := own_here K
  refine own_aloadN A hx (pc' := 1) (own_dk hby dj46_1 0 rfl) rfl rfl rfl ?_
  refine own_callSp K hx (by rw [hml]; rfl) rfl (own_w hw 187 rfl) (own_w hw 188 rfl) (own_w hw 191 rfl) (own_w hw 192 rfl) (by decide) (rq_aic l Z a0 hw [] h0 x) (fun _ q => nomatch q) (argsL := []) (rest := []) (lenOf pd_0 rfl) rfl 0 (Nat.le_of_eq rfl) (own_dk hby dj46_1 1 rfl) (pc' := 4) rfl (by decide) (by decide) (by decide) (by decide) ?_
  intro v43 T43 h43 K43 Kp43 Q43
  obtain ⟨rfl, rfl⟩ := Q43
  have A43 := own_here K43
  show own_Go p.tables e below _ T43 (mkF m 4 #[.val (.ref x)] [])
  exact own_retV K43 hx hlk hret (own_dk hby dj46_1 2 rfl) (by decide) (by decide) ⟨rfl, rfl⟩
theorem dj44_1 : ∀ r ∈ ([(0, .aload_n 0, 1), (1, .invokespecial 1, 3), (4, .aload_n 0, 1), (5, .aload_n 1, 1), (6, .invokestatic 7, 3), (9, .putfield 13, 3), (12, .aload_n 0, 1), (13, .getstatic 19, 3), (16, .putfield 24, 3), (19, .return_, 1)] : List (Nat × Instr × Nat)), decode jdk_44_method_1_code r.1 = .ok (r.2.1, r.2.2) := by decide +kernel
theorem pd_8 : parseMethodDescriptor "(Ljava/lang/Object;)Ljava/lang/Object;" = some ⟨[(.object "java/lang/Object")], some (.object "java/lang/Object")⟩ := by decide +kernel
theorem ef_rq_l12 (m : MethodId) (q_0 : Addr) (q_1 : Addr)  : entryFrame m #[(.ref q_0), (.ref q_1)] 2 = mkF m 0 #[.val (.ref q_0), .val (.ref q_1)] [] := by  first | (simp [entryFrame, mkF, argsToLocals, Value.category]; done) | rfl
theorem pn_10 : plainName "java/util/ImmutableCollections$List12" = true := by first | (simp [plainName, overriddenIn]; done) | decide +kernel
set_option maxRecDepth 65536 in
set_option maxHeartbeats 40000000 in
theorem rq_l12 (l : Launch) (Z : State) (a0 : Array Value) (hw : ∀ d ∈ tables_1, d.before a0 Z = true) (more : List Jvm.Cond) (h0 : Heap) (x : Addr) (f : Addr) (v0 v1 : Value) (aM : Addr) (SM : Sta Z Z.heap "java/util/ImmutableCollections" "EMPTY" "Ljava/lang/Object;" (.ref aM)) (E : Exa Z h0 x "java/util/ImmutableCollections$List12") (F0 : Fld Z h0 x "java/util/ImmutableCollections$List12" "e0" "Ljava/lang/Object;" v0) (F1 : Fld Z h0 x "java/util/ImmutableCollections$List12" "e1" "Ljava/lang/Object;" v1) :
    own_Met true false consts_1 l Z a0 (⟨"java/util/ImmutableCollections$List12", "<init>", "(Ljava/lang/Object;)V"⟩ : MethodName) jdk_44_method_1_code 2 none more ({ frames := 4, cells := 0, slots := 0, locals := 48 } : Room) #[(.ref x), (.ref f)] h0 [x] (fun v h => v = none ∧ Fld Z h x "java/util/ImmutableCollections$List12" "e0" "Ljava/lang/Object;" (.ref f) ∧ Fld Z h x "java/util/ImmutableCollections$List12" "e1" "Ljava/lang/Object;" (.ref aM)) := by
  refine own_enter (own := "java/util/ImmutableCollections$List12") rfl (plainFor_of_name pn_10) ?_
  intro p e s m below meth c T hx hby hml hret hlk hnm K
  rw [ef_rq_l12 m x f]
  have A := own_here K
  refine own_aloadN A hx (pc' := 1) (own_dk hby dj44_1 0 rfl) rfl rfl rfl ?_
  refine own_callSp K hx (by rw [hml]; rfl) rfl (own_w hw 181 rfl) (own_w hw 182 rfl) (own_w hw 185 rfl) (own_w hw 186 rfl) (by decide) (rq_ail l Z a0 hw [] h0 x) (fun _ q => nomatch q) (argsL := []) (rest := []) (lenOf pd_0 rfl) rfl 0 (Nat.le_of_eq rfl) (own_dk hby dj44_1 1 rfl) (pc' := 4) rfl (by decide) (by decide) (by decide) (by decide) ?_
  intro v44 T44 h44 K44 Kp44 Q44
  obtain ⟨rfl, -⟩ := Q44
  have E := E.keep Kp44
  have F0 := F0.keep Kp44 nin0
  have F1 := F1.keep Kp44 nin0
  have A44 := own_here K44
  show own_Go p.tables e below _ T44 (mkF m 4 #[.val (.ref x), .val (.ref f)] [])
  refine own_aloadN A44 hx (pc' := 5) (own_dk hby dj44_1 2 rfl) rfl rfl rfl ?_
  refine own_aloadN A44 hx (pc' := 6) (own_dk hby dj44_1 3 rfl) rfl rfl rfl ?_
  refine own_callS K44 hx (by rw [hml]; rfl) (own_w hw 195 rfl) (own_w hw 196 rfl) (own_w hw 197 rfl) (own_w hw 198 rfl) (by decide) (rq_rnn l Z a0 hw [] h44 f) (fun _ q => nomatch q) (argsL := [(.ref f)]) (rest := [(.ref x)]) (lenOf pd_8 rfl) rfl 1 (Nat.le_of_eq rfl) (own_dk hby dj44_1 4 rfl) (pc' := 9) rfl (by decide) (by decide) (by decide) (by decide) ?_
  intro v45 T45 h45 K45 Kp45 Q45
  obtain ⟨rfl, -⟩ := Q45
  have E := E.keep Kp45
  have F0 := F0.keep Kp45 nin0
  have F1 := F1.keep Kp45 nin0
  have A45 := own_here K45
  show own_Go p.tables e below _ T45 (mkF m 9 #[.val (.ref x), .val (.ref f)] [(.ref f), (.ref x)])
  refine own_putF K45 hx (host := "") (Or.inl (own_w hw 199 rfl)) Via.refl F0 E (Or.inr ⟨(own_w hw 200 rfl), rfl, hnm⟩) (own_w hw 175 rfl) (ty := (.object "java/lang/Object")) (by decide) rfl rfl (List.mem_of_getElem? (i := 0) rfl) (own_dk hby dj44_1 5 rfl) (pc' := 12) rfl ?_
  intro T46 h46 K46 W46
  have E := E.wr W46
  have F0 := F0.same W46
  have F1 := F1.other W46 (Or.inr (slot_ne (Or.inr (own_w hw 203 rfl)) (Or.inr (own_w hw 200 rfl)) (by decide) (t := (.object "java/lang/Object")) (t' := (.object "java/lang/Object")) (by decide) (by decide)))
  have A46 := own_here K46
  refine own_aloadN A46 hx (pc' := 13) (own_dk hby dj44_1 6 rfl) rfl rfl rfl ?_
  refine own_getS K46 hx (Or.inr (own_w hw 201 rfl)) Via.refl SM (own_dk hby dj44_1 7 rfl) (pc' := 16) rfl ?_
  intro T47 K47
  have A47 := own_here K47
  refine own_putF K47 hx (host := "") (Or.inl (own_w hw 202 rfl)) Via.refl F1 E (Or.inr ⟨(own_w hw 203 rfl), rfl, hnm⟩) (own_w hw 175 rfl) (ty := (.object "java/lang/Object")) (by decide) rfl rfl (List.mem_of_getElem? (i := 0) rfl) (own_dk hby dj44_1 8 rfl) (pc' := 19) rfl ?_
  intro T48 h48 K48 W48
  have E := E.wr W48
  have F0 := F0.other W48 (Or.inr (slot_ne (Or.inr (own_w hw 200 rfl)) (Or.inr (own_w hw 203 rfl)) (by decide) (t := (.object "java/lang/Object")) (t' := (.object "java/lang/Object")) (by decide) (by decide)))
  have F1 := F1.same W48
  have A48 := own_here K48
  exact own_retV K48 hx hlk hret (own_dk hby dj44_1 9 rfl) (by decide) (by decide) ⟨rfl, F0, F1⟩
theorem dj40_47 : ∀ r ∈ ([(0, .aload_n 0, 1), (1, .arraylength, 1), (2, .tableswitch 57 0 2 #[26, 32, 43], 26), (34, .new 96, 3), (37, .dup, 1), (38, .aload_n 0, 1), (39, .iconst 0, 1), (40, .aaload, 1), (41, .invokespecial 98, 3), (44, .areturn, 1)] : List (Nat × Instr × Nat)), decode jdk_40_method_47_code r.1 = .ok (r.2.1, r.2.2) := by decide +kernel
theorem pd_9 : parseMethodDescriptor "(Ljava/lang/Object;)V" = some ⟨[(.object "java/lang/Object")], none⟩ := by decide +kernel
theorem ef_rq_of (m : MethodId) (q_0 : Addr)  : entryFrame m #[(.ref q_0)] 2 = mkF m 0 #[.val (.ref q_0), .unset] [] := by  first | (simp [entryFrame, mkF, argsToLocals, Value.category]; done) | rfl
theorem pn_11 : plainName "java/util/List" = true := by first | (simp [plainName, overriddenIn]; done) | decide +kernel
set_option maxRecDepth 65536 in
set_option maxHeartbeats 40000000 in
theorem rq_of (l : Launch) (Z : State) (a0 : Array Value) (hw : ∀ d ∈ tables_1, d.before a0 Z = true) (more : List Jvm.Cond) (h0 : Heap) (b : Addr)  (aM : Addr) (SM : Sta Z Z.heap "java/util/ImmutableCollections" "EMPTY" "Ljava/lang/Object;" (.ref aM)) (f : Addr) (kb : ClassId) (Ab : Arv Z h0 b kb (.object "java/lang/Object") (1 : Int32) [.ref f] .null) :
    own_Met true false consts_1 l Z a0 (⟨"java/util/List", "of", "([Ljava/lang/Object;)Ljava/util/List;"⟩ : MethodName) jdk_40_method_47_code 2 (some (.object "java/util/List")) more ({ frames := 5, cells := 1, slots := 2, locals := 62 } : Room) #[(.ref b)] h0 [] (fun v h => ∃ L, v = some (.ref L) ∧ Exa Z h L "java/util/ImmutableCollections$List12" ∧ Fld Z h L "java/util/ImmutableCollections$List12" "e0" "Ljava/lang/Object;" (.ref f) ∧ Fld Z h L "java/util/ImmutableCollections$List12" "e1" "Ljava/lang/Object;" (.ref aM)) := by
  refine own_enter (own := "java/util/List") rfl (plainFor_of_name pn_11) ?_
  intro p e s m below meth c T hx hby hml hret hlk hnm K
  rw [ef_rq_of m b]
  have A := own_here K
  refine own_aloadN A hx (pc' := 1) (own_dk hby dj40_47 0 rfl) rfl rfl rfl ?_
  refine own_len K hx Ab (own_dk hby dj40_47 1 rfl) (pc' := 2) rfl ?_
  refine own_tsw A hx (o := 32) (pc' := 34) (own_dk hby dj40_47 2 rfl) (by decide) (by decide) (by decide) (by decide) ?_
  refine own_new K hx (own_w hw 174 rfl) (own_w hw 175 rfl) (own_w hw 176 rfl) (own_dk hby dj40_47 3 rfl) (pc' := 37) rfl (by decide) (by decide) ?_
  intro T49 h49 b49 g49 K49 E49 X49 D49 U49
  have ne_b_b49 : b ≠ b49 := by rw [g49]; exact Nat.ne_of_lt Ab.lt
  have Ab := Ab.ext E49
  have A49 := own_here K49
  have F_e0_b49 := D49 (Or.inr (own_w hw 200 rfl)) (ty := (.object "java/lang/Object")) (by decide)
  have F_e1_b49 := D49 (Or.inr (own_w hw 203 rfl)) (ty := (.object "java/lang/Object")) (by decide)
  refine own_dup A49 hx (pc' := 38) (own_dk hby dj40_47 4 rfl) rfl rfl ?_
  refine own_aloadN A49 hx (pc' := 39) (own_dk hby dj40_47 5 rfl) rfl rfl rfl ?_
  refine own_iconst A49 hx (pc' := 40) (own_dk hby dj40_47 6 rfl) (z := (0 : Int32)) (by decide) rfl ?_
  refine own_ldR (v := .ref f) K49 hx Ab (by decide) rfl (own_dk hby dj40_47 7 rfl) (pc' := 41) rfl ?_
  refine own_callSp K49 hx (by rw [hml]; rfl) rfl (own_w hw 177 rfl) (own_w hw 178 rfl) (own_w hw 176 rfl) (own_w hw 180 rfl) (by decide) (rq_l12 l Z a0 hw [] h49 b49 f _ _ aM SM X49 F_e0_b49 F_e1_b49) (own_mem1 (List.mem_of_getElem? (i := 0) rfl)) (argsL := [(.ref f)]) (rest := [(.ref b49)]) (lenOf pd_9 rfl) rfl 1 (Nat.le_of_eq rfl) (own_dk hby dj40_47 8 rfl) (pc' := 44) rfl (by decide) (by decide) (by decide) (by decide) ?_
  intro v50 T50 h50 K50 Kp50 Q50
  obtain ⟨rfl, F0, F1⟩ := Q50
  have X49 := X49.keep Kp50
  have A50 := own_here K50
  show own_Go p.tables e below _ T50 (mkF m 44 #[.val (.ref b), .unset] [(.ref b49)])
  exact own_retR K50 hx hlk hret rfl rfl (own_dk hby dj40_47 9 rfl) (by decide) (by decide) ⟨_, rfl, X49, F0, F1⟩
theorem dj40_36 : ∀ r ∈ ([(0, .getstatic 90, 3), (3, .areturn, 1)] : List (Nat × Instr × Nat)), decode jdk_40_method_36_code r.1 = .ok (r.2.1, r.2.2) := by decide +kernel
theorem ef_rq_of0 (m : MethodId)   : entryFrame m #[] 0 = mkF m 0 #[] [] := by  first | (simp [entryFrame, mkF, argsToLocals, Value.category]; done) | rfl
set_option maxRecDepth 65536 in
set_option maxHeartbeats 40000000 in
theorem rq_of0 (l : Launch) (Z : State) (a0 : Array Value) (hw : ∀ d ∈ tables_1, d.before a0 Z = true) (more : List Jvm.Cond) (h0 : Heap)   (aL : Addr) (SL : Sta Z Z.heap "java/util/ImmutableCollections" "EMPTY_LIST" "Ljava/util/ImmutableCollections$ListN;" (.ref aL)) (XL : Exa Z Z.heap aL "java/util/ImmutableCollections$ListN") (aE : Addr) (FE : Fld Z Z.heap aL "java/util/ImmutableCollections$ListN" "elements" "[Ljava/lang/Object;" (.ref aE)) (kE : ClassId) (AE : Arv Z Z.heap aE kE (.object "java/lang/Object") (0 : Int32) [] .null) :
    own_Met true false consts_1 l Z a0 (⟨"java/util/List", "of", "()Ljava/util/List;"⟩ : MethodName) jdk_40_method_36_code 0 (some (.object "java/util/List")) more ({ frames := 0, cells := 0, slots := 0, locals := 0 } : Room) #[] h0 [] (fun v h => v = some (.ref aL) ∧ h = h0) := by
  refine own_enter (own := "java/util/List") rfl (plainFor_of_name pn_11) ?_
  intro p e s m below meth c T hx hby hml hret hlk hnm K
  rw [ef_rq_of0 m ]
  have A := own_here K
  refine own_getS K hx (host := "") (Or.inl (own_w hw 211 rfl)) Via.refl SL (own_dk hby dj40_36 0 rfl) (pc' := 3) rfl ?_
  intro T51 K51
  have A51 := own_here K51
  exact own_retR K51 hx hlk hret rfl rfl (own_dk hby dj40_36 1 rfl) (by decide) (by decide) ⟨rfl, rfl⟩
theorem dj56_3 : ∀ r ∈ ([(0, .aload_n 0, 1), (1, .instanceof 10, 3), (4, .ifCond .ne 22, 3), (7, .aload_n 0, 1), (8, .instanceof 12, 3), (11, .ifCond .eq 20, 3), (31, .aload_n 0, 1), (32, .invokeinterface 20 1, 5), (37, .ifCond .eq 7, 3), (40, .invokestatic 26, 3), (43, .areturn, 1), (44, .aload_n 0, 1), (45, .invokeinterface 30 1, 5), (50, .invokestatic 34, 3), (53, .areturn, 1)] : List (Nat × Instr × Nat)), decode jdk_56_method_3_code r.1 = .ok (r.2.1, r.2.2) := by decide +kernel
theorem pd_10 : parseMethodDescriptor "()Z" = some ⟨[], some .boolean⟩ := by decide +kernel
theorem pd_11 : parseMethodDescriptor "()Ljava/util/List;" = some ⟨[], some (.object "java/util/List")⟩ := by decide +kernel
theorem pd_12 : parseMethodDescriptor "([Ljava/lang/Object;)Ljava/util/List;" = some ⟨[(.array (.object "java/lang/Object"))], some (.object "java/util/List")⟩ := by decide +kernel
theorem ef_rq_lc (m : MethodId) (q_0 : Addr)  : entryFrame m #[(.ref q_0)] 2 = mkF m 0 #[.val (.ref q_0), .unset] [] := by  first | (simp [entryFrame, mkF, argsToLocals, Value.category]; done) | rfl
theorem pn_12 : plainName "java/util/ImmutableCollections" = true := by first | (simp [plainName, overriddenIn]; done) | decide +kernel
set_option maxRecDepth 65536 in
set_option maxHeartbeats 40000000 in
theorem rq_lc (l : Launch) (Z : State) (a0 : Array Value) (hw : ∀ d ∈ tables_1, d.before a0 Z = true) (more : List Jvm.Cond) (h0 : Heap) (x : Addr)  (aM : Addr) (SM : Sta Z Z.heap "java/util/ImmutableCollections" "EMPTY" "Ljava/lang/Object;" (.ref aM)) (aL : Addr) (SL : Sta Z Z.heap "java/util/ImmutableCollections" "EMPTY_LIST" "Ljava/util/ImmutableCollections$ListN;" (.ref aL)) (XL : Exa Z Z.heap aL "java/util/ImmutableCollections$ListN") (aE : Addr) (FE : Fld Z Z.heap aL "java/util/ImmutableCollections$ListN" "elements" "[Ljava/lang/Object;" (.ref aE)) (kE : ClassId) (AE : Arv Z Z.heap aE kE (.object "java/lang/Object") (0 : Int32) [] .null) (mr : Addr) (MRo : own_Mir Z "[Ljava/lang/Object;" mr) (z : Int32) (f : Addr) (hz : z = 0 ∨ z = 1) (B : own_AL Z h0 x z f) (Ef : Exa Z h0 f "com/example/regalwerk/regalwerk/ControlField") :
    own_Met true false consts_1 l Z a0 (⟨"java/util/ImmutableCollections", "listCopy", "(Ljava/util/Collection;)Ljava/util/List;"⟩ : MethodName) jdk_56_method_3_code 2 (some (.object "java/util/List")) more ({ frames := 6, cells := 2, slots := 3, locals := 75 } : Room) #[(.ref x)] h0 [] (fun v h => ∃ L, v = some (.ref L) ∧ own_Fs Z h L z f aL aM) := by
  refine own_enter (own := "java/util/ImmutableCollections") rfl (plainFor_of_name pn_12) ?_
  intro p e s m below meth c T hx hby hml hret hlk hnm K
  rw [ef_rq_lc m x]
  have A := own_here K
  obtain ⟨E, Fs, rs⟩ := B
  rcases hz with rfl | rfl
  · refine own_aloadN A hx (pc' := 1) (own_dk hby dj56_3 0 rfl) rfl rfl rfl ?_
    refine own_instN K hx (own_w hw 126 rfl) E (own_chain3 (own_w hw 127 rfl) (own_w hw 128 rfl) (own_w hw 129 rfl) (own_w hw 130 rfl) (own_noFaceI (own_w hw 175 rfl)) (by decide) (by decide) (by decide) (by decide)) (own_dk hby dj56_3 1 rfl) (pc' := 4) rfl ?_
    intro T52 K52
    have A52 := own_here K52
    refine own_if_ne A52 hx 26 7 (own_dk hby dj56_3 2 rfl) (by decide) (by decide) rfl (fun hc4 => ?_) (fun hc4 => ?_)
    · exact absurd hc4 (by decide)
    refine own_aloadN A52 hx (pc' := 8) (own_dk hby dj56_3 3 rfl) rfl rfl rfl ?_
    refine own_instN K52 hx (own_w hw 131 rfl) E (own_chain3 (own_w hw 127 rfl) (own_w hw 128 rfl) (own_w hw 129 rfl) (own_w hw 130 rfl) (own_noFaceS (own_w hw 368 rfl)) (by decide) (by decide) (by decide) (by decide)) (own_dk hby dj56_3 4 rfl) (pc' := 11) rfl ?_
    intro T53 K53
    have A53 := own_here K53
    refine own_if_eq A53 hx 31 14 (own_dk hby dj56_3 5 rfl) (by decide) (by decide) rfl (fun hc11 => ?_) (fun hc11 => ?_)
    rotate_left
    · exact absurd hc11 (by decide)
    refine own_aloadN A53 hx (pc' := 32) (own_dk hby dj56_3 6 rfl) rfl rfl rfl ?_
    refine own_callI K53 hx (by rw [hml]; rfl) (own_w hw 132 rfl) (own_w hw 133 rfl) (own_w hw 134 rfl) (by decide) (own_w hw 135 rfl) (own_w hw 136 rfl) (own_w hw 137 rfl) (own_w hw 138 rfl) (own_w hw 139 rfl) (own_w hw 61 rfl) (own_w hw 140 rfl) (by decide) E (rq_ise l Z a0 hw [] h0 x (0 : Int32) Fs) (fun _ q => nomatch q) (argsL := []) (rest := []) (lenOf pd_10 rfl) rfl 0 (Nat.le_of_eq rfl) (own_dk hby dj56_3 7 rfl) (pc' := 37) rfl (by decide) (by decide) (by decide) (by decide) ?_
    intro v54 T54 h54 K54 Kp54 Q54
    obtain ⟨rfl, rfl⟩ := Q54
    have E := E.keep Kp54
    have Fs := Fs.keep Kp54 nin0
    have A54 := own_here K54
    show own_Go p.tables e below _ T54 (mkF m 37 #[.val (.ref x), .unset] [(.int (if (0 : Int32) = 0 then (1 : Int32) else 0))])
    rw [show (if (0 : Int32) = 0 then (1 : Int32) else 0) = (1 : Int32) from by decide]
    refine own_if_eq A54 hx 44 40 (own_dk hby dj56_3 8 rfl) (by decide) (by decide) rfl (fun hc37 => ?_) (fun hc37 => ?_)
    · exact absurd hc37 (by decide)
    refine own_callS K54 hx (by rw [hml]; rfl) (own_w hw 208 rfl) (own_w hw 209 rfl) (own_w hw 120 rfl) (own_w hw 210 rfl) (by decide) (rq_of0 l Z a0 hw [] h54 aL SL XL aE FE kE AE) (fun _ q => nomatch q) (argsL := []) (rest := []) (lenOf pd_11 rfl) rfl 0 (Nat.le_of_eq rfl) (own_dk hby dj56_3 9 rfl) (pc' := 43) rfl (by decide) (by decide) (by decide) (by decide) ?_
    intro v55 T55 h55 K55 Kp55 Q55
    obtain ⟨rfl, -⟩ := Q55
    have E := E.keep Kp55
    have Fs := Fs.keep Kp55 nin0
    have A55 := own_here K55
    show own_Go p.tables e below _ T55 (mkF m 43 #[.val (.ref x), .unset] [(.ref aL)])
    exact own_retR K55 hx hlk hret rfl rfl (own_dk hby dj56_3 10 rfl) (by decide) (by decide) ⟨_, rfl, Or.inl ⟨rfl, rfl⟩⟩
  · obtain ⟨d, kd, Fe, Xd, Vd⟩ := rs rfl
    refine own_aloadN A hx (pc' := 1) (own_dk hby dj56_3 0 rfl) rfl rfl rfl ?_
    refine own_instN K hx (own_w hw 126 rfl) E (own_chain3 (own_w hw 127 rfl) (own_w hw 128 rfl) (own_w hw 129 rfl) (own_w hw 130 rfl) (own_noFaceI (own_w hw 175 rfl)) (by decide) (by decide) (by decide) (by decide)) (own_dk hby dj56_3 1 rfl) (pc' := 4) rfl ?_
    intro T56 K56
    have A56 := own_here K56
    refine own_if_ne A56 hx 26 7 (own_dk hby dj56_3 2 rfl) (by decide) (by decide) rfl (fun hc4 => ?_) (fun hc4 => ?_)
    · exact absurd hc4 (by decide)
    refine own_aloadN A56 hx (pc' := 8) (own_dk hby dj56_3 3 rfl) rfl rfl rfl ?_
    refine own_instN K56 hx (own_w hw 131 rfl) E (own_chain3 (own_w hw 127 rfl) (own_w hw 128 rfl) (own_w hw 129 rfl) (own_w hw 130 rfl) (own_noFaceS (own_w hw 368 rfl)) (by decide) (by decide) (by decide) (by decide)) (own_dk hby dj56_3 4 rfl) (pc' := 11) rfl ?_
    intro T57 K57
    have A57 := own_here K57
    refine own_if_eq A57 hx 31 14 (own_dk hby dj56_3 5 rfl) (by decide) (by decide) rfl (fun hc11 => ?_) (fun hc11 => ?_)
    rotate_left
    · exact absurd hc11 (by decide)
    refine own_aloadN A57 hx (pc' := 32) (own_dk hby dj56_3 6 rfl) rfl rfl rfl ?_
    refine own_callI K57 hx (by rw [hml]; rfl) (own_w hw 132 rfl) (own_w hw 133 rfl) (own_w hw 134 rfl) (by decide) (own_w hw 135 rfl) (own_w hw 136 rfl) (own_w hw 137 rfl) (own_w hw 138 rfl) (own_w hw 139 rfl) (own_w hw 61 rfl) (own_w hw 140 rfl) (by decide) E (rq_ise l Z a0 hw [] h0 x (1 : Int32) Fs) (fun _ q => nomatch q) (argsL := []) (rest := []) (lenOf pd_10 rfl) rfl 0 (Nat.le_of_eq rfl) (own_dk hby dj56_3 7 rfl) (pc' := 37) rfl (by decide) (by decide) (by decide) (by decide) ?_
    intro v58 T58 h58 K58 Kp58 Q58
    obtain ⟨rfl, rfl⟩ := Q58
    have E := E.keep Kp58
    have Fs := Fs.keep Kp58 nin0
    have Fe := Fe.keep Kp58 nin0
    have Xd := Xd.keep Kp58
    have Vd := Vd.keep Kp58 nin0
    have Ef := Ef.keep Kp58
    have A58 := own_here K58
    show own_Go p.tables e below _ T58 (mkF m 37 #[.val (.ref x), .unset] [(.int (if (1 : Int32) = 0 then (1 : Int32) else 0))])
    rw [show (if (1 : Int32) = 0 then (1 : Int32) else 0) = (0 : Int32) from by decide]
    refine own_if_eq A58 hx 44 40 (own_dk hby dj56_3 8 rfl) (by decide) (by decide) rfl (fun hc37 => ?_) (fun hc37 => ?_)
    rotate_left
    · exact absurd hc37 (by decide)
    refine own_aloadN A58 hx (pc' := 45) (own_dk hby dj56_3 11 rfl) rfl rfl rfl ?_
    refine own_callI K58 hx (by rw [hml]; rfl) (own_w hw 141 rfl) (own_w hw 142 rfl) (own_w hw 143 rfl) (by decide) (own_w hw 144 rfl) (own_w hw 145 rfl) (own_w hw 146 rfl) (own_w hw 147 rfl) (own_w hw 139 rfl) (own_w hw 61 rfl) (own_w hw 148 rfl) (by decide) E (rq_toa l Z a0 hw [] h58 x mr MRo d f kd Vd Ef Xd Fe Fs) (fun _ q => nomatch q) (argsL := []) (rest := []) (lenOf pd_3 rfl) rfl 0 (Nat.le_of_eq rfl) (own_dk hby dj56_3 12 rfl) (pc' := 50) rfl (by decide) (by decide) (by decide) (by decide) ?_
    intro v59 T59 h59 K59 Kp59 Q59
    obtain ⟨b, k, rfl, Y⟩ := Q59
    have E := E.keep Kp59
    have Fs := Fs.keep Kp59 nin0
    have Fe := Fe.keep Kp59 nin0
    have Xd := Xd.keep Kp59
    have Vd := Vd.keep Kp59 nin0
    have Ef := Ef.keep Kp59
    have A59 := own_here K59
    show own_Go p.tables e below _ T59 (mkF m 50 #[.val (.ref x), .unset] [(.ref b)])
    refine own_callS K59 hx (by rw [hml]; rfl) (own_w hw 171 rfl) (own_w hw 172 rfl) (own_w hw 120 rfl) (own_w hw 173 rfl) (by decide) (rq_of l Z a0 hw [] h59 b aM SM f k Y) (fun _ q => nomatch q) (argsL := [(.ref b)]) (rest := []) (lenOf pd_12 rfl) rfl 0 (Nat.le_of_eq rfl) (own_dk hby dj56_3 13 rfl) (pc' := 53) rfl (by decide) (by decide) (by decide) (by decide) ?_
    intro v60 T60 h60 K60 Kp60 Q60
    obtain ⟨L, rfl, XL2, F0, F1⟩ := Q60
    have E := E.keep Kp60
    have Fs := Fs.keep Kp60 nin0
    have Fe := Fe.keep Kp60 nin0
    have Xd := Xd.keep Kp60
    have Vd := Vd.keep Kp60 nin0
    have Ef := Ef.keep Kp60
    have A60 := own_here K60
    show own_Go p.tables e below _ T60 (mkF m 53 #[.val (.ref x), .unset] [(.ref L)])
    exact own_retR K60 hx hlk hret rfl rfl (own_dk hby dj56_3 14 rfl) (by decide) (by decide) ⟨_, rfl, Or.inr ⟨rfl, XL2, F0, F1⟩⟩
theorem dj40_48 : ∀ r ∈ ([(0, .aload_n 0, 1), (1, .invokestatic 112, 3), (4, .areturn, 1)] : List (Nat × Instr × Nat)), decode jdk_40_method_48_code r.1 = .ok (r.2.1, r.2.2) := by decide +kernel
theorem pd_13 : parseMethodDescriptor "(Ljava/util/Collection;)Ljava/util/List;" = some ⟨[(.object "java/util/Collection")], some (.object "java/util/List")⟩ := by decide +kernel
theorem ef_rq_co (m : MethodId) (q_0 : Addr)  : entryFrame m #[(.ref q_0)] 1 = mkF m 0 #[.val (.ref q_0)] [] := by  first | (simp [entryFrame, mkF, argsToLocals, Value.category]; done) | rfl
set_option maxRecDepth 65536 in
set_option maxHeartbeats 40000000 in
theorem rq_co (l : Launch) (Z : State) (a0 : Array Value) (hw : ∀ d ∈ tables_1, d.before a0 Z = true) (more : List Jvm.Cond) (h0 : Heap) (x : Addr)  (aM : Addr) (SM : Sta Z Z.heap "java/util/ImmutableCollections" "EMPTY" "Ljava/lang/Object;" (.ref aM)) (aL : Addr) (SL : Sta Z Z.heap "java/util/ImmutableCollections" "EMPTY_LIST" "Ljava/util/ImmutableCollections$ListN;" (.ref aL)) (XL : Exa Z Z.heap aL "java/util/ImmutableCollections$ListN") (aE : Addr) (FE : Fld Z Z.heap aL "java/util/ImmutableCollections$ListN" "elements" "[Ljava/lang/Object;" (.ref aE)) (kE : ClassId) (AE : Arv Z Z.heap aE kE (.object "java/lang/Object") (0 : Int32) [] .null) (mr : Addr) (MRo : own_Mir Z "[Ljava/lang/Object;" mr) (z : Int32) (f : Addr) (hz : z = 0 ∨ z = 1) (B : own_AL Z h0 x z f) (Ef : Exa Z h0 f "com/example/regalwerk/regalwerk/ControlField") :
    own_Met true false consts_1 l Z a0 (⟨"java/util/List", "copyOf", "(Ljava/util/Collection;)Ljava/util/List;"⟩ : MethodName) jdk_40_method_48_code 1 (some (.object "java/util/List")) more ({ frames := 7, cells := 2, slots := 3, locals := 88 } : Room) #[(.ref x)] h0 [] (fun v h => ∃ L, v = some (.ref L) ∧ own_Fs Z h L z f aL aM) := by
  refine own_enter (own := "java/util/List") rfl (plainFor_of_name pn_11) ?_
  intro p e s m below meth c T hx hby hml hret hlk hnm K
  rw [ef_rq_co m x]
  have A := own_here K
  refine own_aloadN A hx (pc' := 1) (own_dk hby dj40_48 0 rfl) rfl rfl rfl ?_
  refine own_callS K hx (by rw [hml]; rfl) (own_w hw 122 rfl) (own_w hw 123 rfl) (own_w hw 124 rfl) (own_w hw 125 rfl) (by decide) (rq_lc l Z a0 hw [] h0 x aM SM aL SL XL aE FE kE AE mr MRo z f hz B Ef) (fun _ q => nomatch q) (argsL := [(.ref x)]) (rest := []) (lenOf pd_13 rfl) rfl 0 (Nat.le_of_eq rfl) (own_dk hby dj40_48 1 rfl) (pc' := 4) rfl (by decide) (by decide) (by decide) (by decide) ?_
  intro v61 T61 h61 K61 Kp61 Q61
  obtain ⟨L, rfl, Fq⟩ := Q61
  have A61 := own_here K61
  show own_Go p.tables e below _ T61 (mkF m 4 #[.val (.ref x)] [(.ref L)])
  exact own_retR K61 hx hlk hret rfl rfl (own_dk hby dj40_48 2 rfl) (by decide) (by decide) ⟨_, rfl, Fq⟩
theorem dp28_1 : ∀ r ∈ ([(0, .aload_n 0, 1), (1, .invokespecial 1, 3), (4, .aload_n 2, 1), (5, .invokestatic 7, 3), (8, .astore_n 2, 1), (9, .aload_n 0, 1), (10, .aload_n 1, 1), (11, .putfield 13, 3), (14, .aload_n 0, 1), (15, .aload_n 2, 1), (16, .putfield 19, 3), (19, .return_, 1)] : List (Nat × Instr × Nat)), decode prog_28_method_1_code r.1 = .ok (r.2.1, r.2.2) := by decide +kernel
theorem ef_rq_mr (m : MethodId) (q_0 : Addr) (q_1 : Addr) (q_2 : Addr)  : entryFrame m #[(.ref q_0), (.ref q_1), (.ref q_2)] 3 = mkF m 0 #[.val (.ref q_0), .val (.ref q_1), .val (.ref q_2)] [] := by  first | (simp [entryFrame, mkF, argsToLocals, Value.category]; done) | rfl
theorem pn_13 : plainName "com/example/regalwerk/regalwerk/MarcRecord" = true := by first | (simp [plainName, overriddenIn]; done) | decide +kernel
set_option maxRecDepth 65536 in
set_option maxHeartbeats 40000000 in
theorem rq_mr (l : Launch) (Z : State) (a0 : Array Value) (hw : ∀ d ∈ tables_1, d.before a0 Z = true) (more : List Jvm.Cond) (h0 : Heap) (x : Addr) (t : Addr) (b : Addr) (v0 v1 : Value) (aM : Addr) (SM : Sta Z Z.heap "java/util/ImmutableCollections" "EMPTY" "Ljava/lang/Object;" (.ref aM)) (aL : Addr) (SL : Sta Z Z.heap "java/util/ImmutableCollections" "EMPTY_LIST" "Ljava/util/ImmutableCollections$ListN;" (.ref aL)) (XL : Exa Z Z.heap aL "java/util/ImmutableCollections$ListN") (aE : Addr) (FE : Fld Z Z.heap aL "java/util/ImmutableCollections$ListN" "elements" "[Ljava/lang/Object;" (.ref aE)) (kE : ClassId) (AE : Arv Z Z.heap aE kE (.object "java/lang/Object") (0 : Int32) [] .null) (mr : Addr) (MRo : own_Mir Z "[Ljava/lang/Object;" mr) (z : Int32) (f : Addr) (hz : z = 0 ∨ z = 1) (B : own_AL Z h0 b z f) (Ef : Exa Z h0 f "com/example/regalwerk/regalwerk/ControlField") (E : Exa Z h0 x "com/example/regalwerk/regalwerk/MarcRecord") (F1 : Fld Z h0 x "com/example/regalwerk/regalwerk/MarcRecord" "leader" "Ljava/lang/String;" v0) (F2 : Fld Z h0 x "com/example/regalwerk/regalwerk/MarcRecord" "fields" "Ljava/util/List;" v1) :
    own_Met true false consts_1 l Z a0 (⟨"com/example/regalwerk/regalwerk/MarcRecord", "<init>", "(Ljava/lang/String;Ljava/util/List;)V"⟩ : MethodName) prog_28_method_1_code 3 none more ({ frames := 8, cells := 2, slots := 3, locals := 100 } : Room) #[(.ref x), (.ref t), (.ref b)] h0 [x] (fun v h => v = none ∧ Fld Z h x "com/example/regalwerk/regalwerk/MarcRecord" "leader" "Ljava/lang/String;" (.ref t) ∧ ∃ L, Fld Z h x "com/example/regalwerk/regalwerk/MarcRecord" "fields" "Ljava/util/List;" (.ref L) ∧ own_Fs Z h L z f aL aM) := by
  refine own_enter (own := "com/example/regalwerk/regalwerk/MarcRecord") rfl (plainFor_of_name pn_13) ?_
  intro p e s m below meth c T hx hby hml hret hlk hnm K
  rw [ef_rq_mr m x t b]
  have A := own_here K
  refine own_aloadN A hx (pc' := 1) (own_dk hby dp28_1 0 rfl) rfl rfl rfl ?_
  refine own_callSp K hx (by rw [hml]; rfl) rfl (own_w hw 117 rfl) (own_w hw 40 rfl) (own_w hw 42 rfl) (own_w hw 43 rfl) (by decide) (rq_rec l Z a0 hw [] h0 x) (fun _ q => nomatch q) (argsL := []) (rest := []) (lenOf pd_0 rfl) rfl 0 (Nat.le_of_eq rfl) (own_dk hby dp28_1 1 rfl) (pc' := 4) rfl (by decide) (by decide) (by decide) (by decide) ?_
  intro v62 T62 h62 K62 Kp62 Q62
  obtain ⟨rfl, -⟩ := Q62
  have E := E.keep Kp62
  have F1 := F1.keep Kp62 nin0
  have F2 := F2.keep Kp62 nin0
  have B := B.keep Kp62
  have Ef := Ef.keep Kp62
  have A62 := own_here K62
  show own_Go p.tables e below _ T62 (mkF m 4 #[.val (.ref x), .val (.ref t), .val (.ref b)] [])
  refine own_aloadN A62 hx (pc' := 5) (own_dk hby dp28_1 2 rfl) rfl rfl rfl ?_
  refine own_callS K62 hx (by rw [hml]; rfl) (own_w hw 118 rfl) (own_w hw 119 rfl) (own_w hw 120 rfl) (own_w hw 121 rfl) (by decide) (rq_co l Z a0 hw [] h62 b aM SM aL SL XL aE FE kE AE mr MRo z f hz B Ef) (fun _ q => nomatch q) (argsL := [(.ref b)]) (rest := []) (lenOf pd_13 rfl) rfl 0 (Nat.le_of_eq rfl) (own_dk hby dp28_1 3 rfl) (pc' := 8) rfl (by decide) (by decide) (by decide) (by decide) ?_
  intro v63 T63 h63 K63 Kp63 Q63
  obtain ⟨L, rfl, Fq⟩ := Q63
  have E := E.keep Kp63
  have F1 := F1.keep Kp63 nin0
  have F2 := F2.keep Kp63 nin0
  have A63 := own_here K63
  show own_Go p.tables e below _ T63 (mkF m 8 #[.val (.ref x), .val (.ref t), .val (.ref b)] [(.ref L)])
  refine own_astoreN A63 hx (pc' := 9) #[.val (.ref x), .val (.ref t), .val (.ref L)] (own_dk hby dp28_1 4 rfl) rfl rfl rfl ?_
  refine own_aloadN A63 hx (pc' := 10) (own_dk hby dp28_1 5 rfl) rfl rfl rfl ?_
  refine own_aloadN A63 hx (pc' := 11) (own_dk hby dp28_1 6 rfl) rfl rfl rfl ?_
  refine own_putF K63 hx (host := "") (Or.inl (own_w hw 204 rfl)) Via.refl F1 E (Or.inr ⟨(own_w hw 205 rfl), rfl, hnm⟩) (own_w hw 50 rfl) (ty := (.object "java/lang/String")) (by decide) rfl rfl (List.mem_of_getElem? (i := 0) rfl) (own_dk hby dp28_1 7 rfl) (pc' := 14) rfl ?_
  intro T64 h64 K64 W64
  have fsn_W64 := own_not1 E (by decide)
  have E := E.wr W64
  have Fq := Fq.keep (Keep.of_wr W64) fsn_W64
  have F1 := F1.same W64
  have F2 := F2.other W64 (Or.inr (slot_ne (Or.inr (own_w hw 207 rfl)) (Or.inr (own_w hw 205 rfl)) (by decide) (t := (.object "java/util/List")) (t' := (.object "java/lang/String")) (by decide) (by decide)))
  have A64 := own_here K64
  refine own_aloadN A64 hx (pc' := 15) (own_dk hby dp28_1 8 rfl) rfl rfl rfl ?_
  refine own_aloadN A64 hx (pc' := 16) (own_dk hby dp28_1 9 rfl) rfl rfl rfl ?_
  refine own_putF K64 hx (host := "") (Or.inl (own_w hw 206 rfl)) Via.refl F2 E (Or.inr ⟨(own_w hw 207 rfl), rfl, hnm⟩) (own_w hw 50 rfl) (ty := (.object "java/util/List")) (by decide) rfl rfl (List.mem_of_getElem? (i := 0) rfl) (own_dk hby dp28_1 10 rfl) (pc' := 19) rfl ?_
  intro T65 h65 K65 W65
  have fsn_W65 := own_not1 E (by decide)
  have E := E.wr W65
  have Fq := Fq.keep (Keep.of_wr W65) fsn_W65
  have F1 := F1.other W65 (Or.inr (slot_ne (Or.inr (own_w hw 205 rfl)) (Or.inr (own_w hw 207 rfl)) (by decide) (t := (.object "java/lang/String")) (t' := (.object "java/util/List")) (by decide) (by decide)))
  have F2 := F2.same W65
  have A65 := own_here K65
  exact own_retV K65 hx hlk hret (own_dk hby dp28_1 11 rfl) (by decide) (by decide) ⟨rfl, F1, _, F2, Fq⟩
theorem dj44_3 : ∀ r ∈ ([(0, .aload_n 0, 1), (1, .getfield 24, 3), (4, .getstatic 19, 3), (7, .if_acmp .eq 7, 3), (14, .iconst 1, 1), (15, .ireturn, 1)] : List (Nat × Instr × Nat)), decode jdk_44_method_3_code r.1 = .ok (r.2.1, r.2.2) := by decide +kernel
theorem ef_rq_sz1 (m : MethodId) (q_0 : Addr)  : entryFrame m #[(.ref q_0)] 1 = mkF m 0 #[.val (.ref q_0)] [] := by  first | (simp [entryFrame, mkF, argsToLocals, Value.category]; done) | rfl
set_option maxRecDepth 65536 in
set_option maxHeartbeats 40000000 in
theorem rq_sz1 (l : Launch) (Z : State) (a0 : Array Value) (hw : ∀ d ∈ tables_1, d.before a0 Z = true) (more : List Jvm.Cond) (h0 : Heap) (x : Addr)  (aM : Addr) (SM : Sta Z Z.heap "java/util/ImmutableCollections" "EMPTY" "Ljava/lang/Object;" (.ref aM)) (F1 : Fld Z h0 x "java/util/ImmutableCollections$List12" "e1" "Ljava/lang/Object;" (.ref aM)) :
    own_Met true false consts_1 l Z a0 (⟨"java/util/ImmutableCollections$List12", "size", "()I"⟩ : MethodName) jdk_44_method_3_code 1 (some .int) more ({ frames := 0, cells := 0, slots := 0, locals := 0 } : Room) #[(.ref x)] h0 [] (fun v h => v = some (.int 1) ∧ h = h0) := by
  refine own_enter (own := "java/util/ImmutableCollections$List12") rfl (plainFor_of_name pn_10) ?_
  intro p e s m below meth c T hx hby hml hret hlk hnm K
  rw [ef_rq_sz1 m x]
  have A := own_here K
  refine own_aloadN A hx (pc' := 1) (own_dk hby dj44_3 0 rfl) rfl rfl rfl ?_
  refine own_getF K hx (host := "") (Or.inl (own_w hw 202 rfl)) Via.refl F1 (own_dk hby dj44_3 1 rfl) (pc' := 4) rfl ?_
  intro T66 K66
  have A66 := own_here K66
  refine own_getS K66 hx (Or.inr (own_w hw 201 rfl)) Via.refl SM (own_dk hby dj44_3 2 rfl) (pc' := 7) rfl ?_
  intro T67 K67
  have A67 := own_here K67
  refine own_acmp K67 hx rfl rfl true (decide_eq_true rfl) (pc' := 14) (own_dk hby dj44_3 3 rfl) (by decide) (by decide) ?_
  refine own_iconst A67 hx (pc' := 15) (own_dk hby dj44_3 4 rfl) (z := (1 : Int32)) (by decide) rfl ?_
  exact own_retI K67 hx hlk hret (own_dk hby dj44_3 5 rfl) (by decide) (by decide) ⟨rfl, rfl⟩
theorem dj45_3 : ∀ r ∈ ([(0, .aload_n 0, 1), (1, .getfield 7, 3), (4, .arraylength, 1), (5, .ireturn, 1)] : List (Nat × Instr × Nat)), decode jdk_45_method_3_code r.1 = .ok (r.2.1, r.2.2) := by decide +kernel
theorem ef_rq_sz0 (m : MethodId) (q_0 : Addr)  : entryFrame m #[(.ref q_0)] 1 = mkF m 0 #[.val (.ref q_0)] [] := by  first | (simp [entryFrame, mkF, argsToLocals, Value.category]; done) | rfl
theorem pn_14 : plainName "java/util/ImmutableCollections$ListN" = true := by first | (simp [plainName, overriddenIn]; done) | decide +kernel
set_option maxRecDepth 65536 in
set_option maxHeartbeats 40000000 in
theorem rq_sz0 (l : Launch) (Z : State) (a0 : Array Value) (hw : ∀ d ∈ tables_1, d.before a0 Z = true) (more : List Jvm.Cond) (h0 : Heap) (aL : Addr)  (SL : Sta Z Z.heap "java/util/ImmutableCollections" "EMPTY_LIST" "Ljava/util/ImmutableCollections$ListN;" (.ref aL)) (XL : Exa Z Z.heap aL "java/util/ImmutableCollections$ListN") (aE : Addr) (FE : Fld Z Z.heap aL "java/util/ImmutableCollections$ListN" "elements" "[Ljava/lang/Object;" (.ref aE)) (kE : ClassId) (AE : Arv Z Z.heap aE kE (.object "java/lang/Object") (0 : Int32) [] .null) :
    own_Met true false consts_1 l Z a0 (⟨"java/util/ImmutableCollections$ListN", "size", "()I"⟩ : MethodName) jdk_45_method_3_code 1 (some .int) more ({ frames := 0, cells := 0, slots := 0, locals := 0 } : Room) #[(.ref aL)] h0 [] (fun v h => v = some (.int 0) ∧ h = h0) := by
  refine own_enter (own := "java/util/ImmutableCollections$ListN") rfl (plainFor_of_name pn_14) ?_
  intro p e s m below meth c T hx hby hml hret hlk hnm K
  rw [ef_rq_sz0 m aL]
  have A := own_here K
  refine own_aloadN A hx (pc' := 1) (own_dk hby dj45_3 0 rfl) rfl rfl rfl ?_
  have FE_68 := FE.ext (own_ext0 K)
  refine own_getF K hx (host := "") (Or.inl (own_w hw 372 rfl)) Via.refl FE_68 (own_dk hby dj45_3 1 rfl) (pc' := 4) rfl ?_
  intro T69 K69
  have A69 := own_here K69
  have AE_70 := AE.ext (own_ext0 K69)
  refine own_len K69 hx AE_70 (own_dk hby dj45_3 2 rfl) (pc' := 5) rfl ?_
  exact own_retI K69 hx hlk hret (own_dk hby dj45_3 3 rfl) (by decide) (by decide) ⟨rfl, rfl⟩
theorem dj53_1 : ∀ r ∈ ([(0, .aload_n 0, 1), (1, .invokespecial 1, 3), (4, .aload_n 0, 1), (5, .aload_n 1, 1), (6, .putfield 7, 3), (9, .aload_n 0, 1), (10, .iload_n 2, 1), (11, .putfield 13, 3), (14, .aload_n 0, 1), (15, .iconst 0, 1), (16, .putfield 17, 3), (19, .aload_n 0, 1), (20, .iconst 0, 1), (21, .putfield 20, 3), (24, .return_, 1)] : List (Nat × Instr × Nat)), decode jdk_53_method_1_code r.1 = .ok (r.2.1, r.2.2) := by decide +kernel
theorem ef_rq_itr (m : MethodId) (q_0 : Addr) (q_1 : Addr) (q_2 : Int32)  : entryFrame m #[(.ref q_0), (.ref q_1), (.int q_2)] 3 = mkF m 0 #[.val (.ref q_0), .val (.ref q_1), .val (.int q_2)] [] := by  first | (simp [entryFrame, mkF, argsToLocals, Value.category]; done) | rfl
theorem pn_15 : plainName "java/util/ImmutableCollections$ListItr" = true := by first | (simp [plainName, overriddenIn]; done) | decide +kernel
set_option maxRecDepth 65536 in
set_option maxHeartbeats 40000000 in
theorem rq_itr (l : Launch) (Z : State) (a0 : Array Value) (hw : ∀ d ∈ tables_1, d.before a0 Z = true) (more : List Jvm.Cond) (h0 : Heap) (x : Addr) (L : Addr) (n : Int32) (v0 v1 v2 v3 : Value)  (E : Exa Z h0 x "java/util/ImmutableCollections$ListItr") (F_list : Fld Z h0 x "java/util/ImmutableCollections$ListItr" "list" "Ljava/util/List;" v0) (F_size : Fld Z h0 x "java/util/ImmutableCollections$ListItr" "size" "I" v1) (F_cursor : Fld Z h0 x "java/util/ImmutableCollections$ListItr" "cursor" "I" v2) (F_isListIterator : Fld Z h0 x "java/util/ImmutableCollections$ListItr" "isListIterator" "Z" v3) :
    own_Met true false consts_1 l Z a0 (⟨"java/util/ImmutableCollections$ListItr", "<init>", "(Ljava/util/List;I)V"⟩ : MethodName) jdk_53_method_1_code 3 none more ({ frames := 1, cells := 0, slots := 0, locals := 12 } : Room) #[(.ref x), (.ref L), (.int n)] h0 [x] (fun v h => v = none ∧ Fld Z h x "java/util/ImmutableCollections$ListItr" "list" "Ljava/util/List;" (.ref L) ∧ Fld Z h x "java/util/ImmutableCollections$ListItr" "size" "I" (.int n) ∧ Fld Z h x "java/util/ImmutableCollections$ListItr" "cursor" "I" (.int (0 : Int32))) := by
  refine own_enter (own := "java/util/ImmutableCollections$ListItr") rfl (plainFor_of_name pn_15) ?_
  intro p e s m below meth c T hx hby hml hret hlk hnm K
  rw [ef_rq_itr m x L n]
  have A := own_here K
  refine own_aloadN A hx (pc' := 1) (own_dk hby dj53_1 0 rfl) rfl rfl rfl ?_
  refine own_initO K hx (own_w hw 252 rfl) (own_w hw 21 rfl) (own_w hw 22 rfl) (by rw [hml]; rfl) 0 (Nat.le_of_eq rfl) (by decide) (by decide) (own_dk hby dj53_1 1 rfl) (pc' := 4) rfl ?_
  intro T71 K71
  have A71 := own_here K71
  refine own_aloadN A71 hx (pc' := 5) (own_dk hby dj53_1 2 rfl) rfl rfl rfl ?_
  refine own_aloadN A71 hx (pc' := 6) (own_dk hby dj53_1 3 rfl) rfl rfl rfl ?_
  refine own_putF K71 hx (host := "") (Or.inl (own_w hw 253 rfl)) Via.refl F_list E (Or.inr ⟨(own_w hw 254 rfl), rfl, hnm⟩) (own_w hw 240 rfl) (ty := (.object "java/util/List")) (by decide) rfl rfl (List.mem_of_getElem? (i := 0) rfl) (own_dk hby dj53_1 4 rfl) (pc' := 9) rfl ?_
  intro T72 h72 K72 W72
  have E := E.wr W72
  have F_list := F_list.same W72
  have F_size := F_size.other W72 (Or.inr (slot_ne (Or.inr (own_w hw 256 rfl)) (Or.inr (own_w hw 254 rfl)) (by decide) (t := .int) (t' := (.object "java/util/List")) (by decide) (by decide)))
  have F_cursor := F_cursor.other W72 (Or.inr (slot_ne (Or.inl (own_w hw 258 rfl)) (Or.inr (own_w hw 254 rfl)) (by decide) (t := .int) (t' := (.object "java/util/List")) (by decide) (by decide)))
  have F_isListIterator := F_isListIterator.other W72 (Or.inr (slot_ne (Or.inr (own_w hw 260 rfl)) (Or.inr (own_w hw 254 rfl)) (by decide) (t := .boolean) (t' := (.object "java/util/List")) (by decide) (by decide)))
  have A72 := own_here K72
  refine own_aloadN A72 hx (pc' := 10) (own_dk hby dj53_1 5 rfl) rfl rfl rfl ?_
  refine own_iloadN A72 hx (pc' := 11) (own_dk hby dj53_1 6 rfl) rfl rfl ?_
  refine own_putF K72 hx (host := "") (Or.inl (own_w hw 255 rfl)) Via.refl F_size E (Or.inr ⟨(own_w hw 256 rfl), rfl, hnm⟩) (own_w hw 240 rfl) (ty := .int) (by decide) rfl rfl (List.mem_of_getElem? (i := 0) rfl) (own_dk hby dj53_1 7 rfl) (pc' := 14) rfl ?_
  intro T73 h73 K73 W73
  have E := E.wr W73
  have F_list := F_list.other W73 (Or.inr (slot_ne (Or.inr (own_w hw 254 rfl)) (Or.inr (own_w hw 256 rfl)) (by decide) (t := (.object "java/util/List")) (t' := .int) (by decide) (by decide)))
  have F_size := F_size.same W73
  have F_cursor := F_cursor.other W73 (Or.inr (slot_ne (Or.inl (own_w hw 258 rfl)) (Or.inr (own_w hw 256 rfl)) (by decide) (t := .int) (t' := .int) (by decide) (by decide)))
  have F_isListIterator := F_isListIterator.other W73 (Or.inr (slot_ne (Or.inr (own_w hw 260 rfl)) (Or.inr (own_w hw 256 rfl)) (by decide) (t := .boolean) (t' := .int) (by decide) (by decide)))
  have A73 := own_here K73
  refine own_aloadN A73 hx (pc' := 15) (own_dk hby dj53_1 8 rfl) rfl rfl rfl ?_
  refine own_iconst A73 hx (pc' := 16) (own_dk hby dj53_1 9 rfl) (z := (0 : Int32)) (by decide) rfl ?_
  refine own_putF K73 hx (host := "") (Or.inl (own_w hw 257 rfl)) Via.refl F_cursor E (Or.inl (own_w hw 258 rfl)) (own_w hw 240 rfl) (ty := .int) (by decide) rfl rfl (List.mem_of_getElem? (i := 0) rfl) (own_dk hby dj53_1 10 rfl) (pc' := 19) rfl ?_
  intro T74 h74 K74 W74
  have E := E.wr W74
  have F_list := F_list.other W74 (Or.inr (slot_ne (Or.inr (own_w hw 254 rfl)) (Or.inl (own_w hw 258 rfl)) (by decide) (t := (.object "java/util/List")) (t' := .int) (by decide) (by decide)))
  have F_size := F_size.other W74 (Or.inr (slot_ne (Or.inr (own_w hw 256 rfl)) (Or.inl (own_w hw 258 rfl)) (by decide) (t := .int) (t' := .int) (by decide) (by decide)))
  have F_cursor := F_cursor.same W74
  have F_isListIterator := F_isListIterator.other W74 (Or.inr (slot_ne (Or.inr (own_w hw 260 rfl)) (Or.inl (own_w hw 258 rfl)) (by decide) (t := .boolean) (t' := .int) (by decide) (by decide)))
  have A74 := own_here K74
  refine own_aloadN A74 hx (pc' := 20) (own_dk hby dj53_1 11 rfl) rfl rfl rfl ?_
  refine own_iconst A74 hx (pc' := 21) (own_dk hby dj53_1 12 rfl) (z := (0 : Int32)) (by decide) rfl ?_
  refine own_putF K74 hx (host := "") (Or.inl (own_w hw 259 rfl)) Via.refl F_isListIterator E (Or.inr ⟨(own_w hw 260 rfl), rfl, hnm⟩) (own_w hw 240 rfl) (ty := .boolean) (by decide) (by decide) (by decide) (List.mem_of_getElem? (i := 0) rfl) (own_dk hby dj53_1 13 rfl) (pc' := 24) rfl ?_
  intro T75 h75 K75 W75
  have E := E.wr W75
  have F_list := F_list.other W75 (Or.inr (slot_ne (Or.inr (own_w hw 254 rfl)) (Or.inr (own_w hw 260 rfl)) (by decide) (t := (.object "java/util/List")) (t' := .boolean) (by decide) (by decide)))
  have F_size := F_size.other W75 (Or.inr (slot_ne (Or.inr (own_w hw 256 rfl)) (Or.inr (own_w hw 260 rfl)) (by decide) (t := .int) (t' := .boolean) (by decide) (by decide)))
  have F_cursor := F_cursor.other W75 (Or.inr (slot_ne (Or.inl (own_w hw 258 rfl)) (Or.inr (own_w hw 260 rfl)) (by decide) (t := .int) (t' := .boolean) (by decide) (by decide)))
  have F_isListIterator := F_isListIterator.same W75
  have A75 := own_here K75
  exact own_retV K75 hx hlk hret (own_dk hby dj53_1 14 rfl) (by decide) (by decide) ⟨rfl, F_list, F_size, F_cursor⟩
theorem dj46_10 : ∀ r ∈ ([(0, .new 61, 3), (3, .dup, 1), (4, .aload_n 0, 1), (5, .aload_n 0, 1), (6, .invokevirtual 13, 3), (9, .invokespecial 63, 3), (12, .areturn, 1)] : List (Nat × Instr × Nat)), decode jdk_46_method_10_code r.1 = .ok (r.2.1, r.2.2) := by decide +kernel
theorem pd_14 : parseMethodDescriptor "()I" = some ⟨[], some .int⟩ := by decide +kernel
theorem pd_15 : parseMethodDescriptor "(Ljava/util/List;I)V" = some ⟨[(.object "java/util/List"), .int], none⟩ := by decide +kernel
theorem ef_rq_it1 (m : MethodId) (q_0 : Addr)  : entryFrame m #[(.ref q_0)] 1 = mkF m 0 #[.val (.ref q_0)] [] := by  first | (simp [entryFrame, mkF, argsToLocals, Value.category]; done) | rfl
set_option maxRecDepth 65536 in
set_option maxHeartbeats 40000000 in
theorem rq_it1 (l : Launch) (Z : State) (a0 : Array Value) (hw : ∀ d ∈ tables_1, d.before a0 Z = true) (more : List Jvm.Cond) (h0 : Heap) (L : Addr)  (aM : Addr) (SM : Sta Z Z.heap "java/util/ImmutableCollections" "EMPTY" "Ljava/lang/Object;" (.ref aM)) (f : Addr) (XL2 : Exa Z h0 L "java/util/ImmutableCollections$List12") (F0 : Fld Z h0 L "java/util/ImmutableCollections$List12" "e0" "Ljava/lang/Object;" (.ref f)) (F1 : Fld Z h0 L "java/util/ImmutableCollections$List12" "e1" "Ljava/lang/Object;" (.ref aM)) :
    own_MetR true false consts_1 l Z a0 (⟨"java/util/ImmutableCollections$AbstractImmutableList", "iterator", "()Ljava/util/Iterator;"⟩ : MethodName) jdk_46_method_10_code 1 (some (.object "java/util/Iterator")) more ({ frames := 2, cells := 1, slots := 4, locals := 27 } : Room) #[(.ref L)] h0 [] (fun v h ns => ∃ i, v = some (.ref i) ∧ ns = [i] ∧ h0.size ≤ i ∧ Exa Z h i "java/util/ImmutableCollections$ListItr" ∧ Fld Z h i "java/util/ImmutableCollections$ListItr" "list" "Ljava/util/List;" (.ref L) ∧ Fld Z h i "java/util/ImmutableCollections$ListItr" "size" "I" (.int (1 : Int32)) ∧ Fld Z h i "java/util/ImmutableCollections$ListItr" "cursor" "I" (.int (0 : Int32))) := by
  refine own_enterR (own := "java/util/ImmutableCollections$AbstractImmutableList") rfl (plainFor_of_name pn_9) ?_
  intro p e s m below meth c T hx hby hml hret hlk hnm K
  rw [ef_rq_it1 m L]
  have A := own_here K
  refine own_new K hx (own_w hw 239 rfl) (own_w hw 240 rfl) (own_w hw 241 rfl) (own_dk hby dj46_10 0 rfl) (pc' := 3) rfl (by decide) (by decide) ?_
  intro T76 h76 b76 g76 K76 E76 X76 D76 U76
  have ne_L_b76 : L ≠ b76 := by rw [g76]; exact Nat.ne_of_lt XL2.lt
  have XL2 := XL2.ext E76
  have F1 := F1.ext E76
  have A76 := own_here K76
  have F_list_b76 := D76 (Or.inr (own_w hw 254 rfl)) (ty := (.object "java/util/List")) (by decide)
  have F_size_b76 := D76 (Or.inr (own_w hw 256 rfl)) (ty := .int) (by decide)
  have F_cursor_b76 := D76 (Or.inl (own_w hw 258 rfl)) (ty := .int) (by decide)
  have F_isListIterator_b76 := D76 (Or.inr (own_w hw 260 rfl)) (ty := .boolean) (by decide)
  refine own_dup A76 hx (pc' := 4) (own_dk hby dj46_10 1 rfl) rfl rfl ?_
  refine own_aloadN A76 hx (pc' := 5) (own_dk hby dj46_10 2 rfl) rfl rfl rfl ?_
  refine own_aloadN A76 hx (pc' := 6) (own_dk hby dj46_10 3 rfl) rfl rfl rfl ?_
  refine own_callVU (owner := "java/util/AbstractCollection") K76 hx (by rw [hml]; rfl) (own_w hw 242 rfl) (own_w hw 243 rfl) (own_w hw 244 rfl) (own_w hw 245 rfl) (own_w hw 246 rfl) (own_w hw 176 rfl) (own_w hw 247 rfl) (by decide) XL2 (rq_sz1 l Z a0 hw [] h76 L aM SM F1) (fun _ q => nomatch q) (argsL := []) (rest := [(.ref L), (.ref b76), (.ref b76)]) (lenOf pd_14 rfl) rfl 3 (Nat.le_of_eq rfl) (own_dk hby dj46_10 4 rfl) (pc' := 9) rfl (by decide) (by decide) (by decide) (by decide) ?_
  intro v77 T77 h77 K77 Kp77 Q77
  obtain ⟨rfl, rfl⟩ := Q77
  have XL2 := XL2.keep Kp77
  have F1 := F1.keep Kp77 nin0
  have X76 := X76.keep Kp77
  have F_list_b76 := F_list_b76.keep Kp77 nin0
  have F_size_b76 := F_size_b76.keep Kp77 nin0
  have F_cursor_b76 := F_cursor_b76.keep Kp77 nin0
  have F_isListIterator_b76 := F_isListIterator_b76.keep Kp77 nin0
  have A77 := own_here K77
  show own_Go p.tables e below _ T77 (mkF m 9 #[.val (.ref L)] [(.int (1 : Int32)), (.ref L), (.ref b76), (.ref b76)])
  refine own_callSp K77 hx (by rw [hml]; rfl) rfl (own_w hw 248 rfl) (own_w hw 249 rfl) (own_w hw 241 rfl) (own_w hw 251 rfl) (by decide) (rq_itr l Z a0 hw [] h77 b76 L (1 : Int32) _ _ _ _ X76 F_list_b76 F_size_b76 F_cursor_b76 F_isListIterator_b76) (own_mem1 (List.mem_of_getElem? (i := 0) rfl)) (argsL := [(.ref L), (.int (1 : Int32))]) (rest := [(.ref b76)]) (lenOf pd_15 rfl) rfl 1 (Nat.le_of_eq rfl) (own_dk hby dj46_10 5 rfl) (pc' := 12) rfl (by decide) (by decide) (by decide) (by decide) ?_
  intro v78 T78 h78 K78 Kp78 Q78
  obtain ⟨rfl, Gl, Gs, Gc⟩ := Q78
  have XL2 := XL2.keep Kp78
  have F1 := F1.keep Kp78 (ninS ne_L_b76 nin0)
  have X76 := X76.keep Kp78
  have A78 := own_here K78
  show own_Go p.tables e below _ T78 (mkF m 12 #[.val (.ref L)] [(.ref b76)])
  exact own_retRR K78 hx hlk hret rfl rfl (own_dk hby dj46_10 6 rfl) (by decide) (by decide) [b76] (fun y hy => by cases List.mem_singleton.mp hy; exact ⟨(List.mem_of_getElem? (i := 0) rfl), by rw [g76]; exact Nat.le_refl _⟩) ⟨_, rfl, rfl, by rw [g76]; exact Nat.le_refl _, X76, Gl, Gs, Gc⟩
theorem ef_rq_it0 (m : MethodId) (q_0 : Addr)  : entryFrame m #[(.ref q_0)] 1 = mkF m 0 #[.val (.ref q_0)] [] := by  first | (simp [entryFrame, mkF, argsToLocals, Value.category]; done) | rfl
set_option maxRecDepth 65536 in
set_option maxHeartbeats 40000000 in
theorem rq_it0 (l : Launch) (Z : State) (a0 : Array Value) (hw : ∀ d ∈ tables_1, d.before a0 Z = true) (more : List Jvm.Cond) (h0 : Heap) (aL : Addr)  (SL : Sta Z Z.heap "java/util/ImmutableCollections" "EMPTY_LIST" "Ljava/util/ImmutableCollections$ListN;" (.ref aL)) (XL : Exa Z Z.heap aL "java/util/ImmutableCollections$ListN") (aE : Addr) (FE : Fld Z Z.heap aL "java/util/ImmutableCollections$ListN" "elements" "[Ljava/lang/Object;" (.ref aE)) (kE : ClassId) (AE : Arv Z Z.heap aE kE (.object "java/lang/Object") (0 : Int32) [] .null) :
    own_MetR true false consts_1 l Z a0 (⟨"java/util/ImmutableCollections$AbstractImmutableList", "iterator", "()Ljava/util/Iterator;"⟩ : MethodName) jdk_46_method_10_code 1 (some (.object "java/util/Iterator")) more ({ frames := 2, cells := 1, slots := 4, locals := 27 } : Room) #[(.ref aL)] h0 [] (fun v h ns => ∃ i, v = some (.ref i) ∧ ns = [i] ∧ h0.size ≤ i ∧ Exa Z h i "java/util/ImmutableCollections$ListItr" ∧ Fld Z h i "java/util/ImmutableCollections$ListItr" "list" "Ljava/util/List;" (.ref aL) ∧ Fld Z h i "java/util/ImmutableCollections$ListItr" "size" "I" (.int (0 : Int32)) ∧ Fld Z h i "java/util/ImmutableCollections$ListItr" "cursor" "I" (.int (0 : Int32))) := by
  refine own_enterR (own := "java/util/ImmutableCollections$AbstractImmutableList") rfl (plainFor_of_name pn_9) ?_
  intro p e s m below meth c T hx hby hml hret hlk hnm K
  rw [ef_rq_it0 m aL]
  have A := own_here K
  refine own_new K hx (own_w hw 239 rfl) (own_w hw 240 rfl) (own_w hw 241 rfl) (own_dk hby dj46_10 0 rfl) (pc' := 3) rfl (by decide) (by decide) ?_
  intro T79 h79 b79 g79 K79 E79 X79 D79 U79
  have A79 := own_here K79
  have F_list_b79 := D79 (Or.inr (own_w hw 254 rfl)) (ty := (.object "java/util/List")) (by decide)
  have F_size_b79 := D79 (Or.inr (own_w hw 256 rfl)) (ty := .int) (by decide)
  have F_cursor_b79 := D79 (Or.inl (own_w hw 258 rfl)) (ty := .int) (by decide)
  have F_isListIterator_b79 := D79 (Or.inr (own_w hw 260 rfl)) (ty := .boolean) (by decide)
  refine own_dup A79 hx (pc' := 4) (own_dk hby dj46_10 1 rfl) rfl rfl ?_
  refine own_aloadN A79 hx (pc' := 5) (own_dk hby dj46_10 2 rfl) rfl rfl rfl ?_
  refine own_aloadN A79 hx (pc' := 6) (own_dk hby dj46_10 3 rfl) rfl rfl rfl ?_
  have XLh := XL.ext (own_ext0 K79)
  refine own_callVU (owner := "java/util/AbstractCollection") K79 hx (by rw [hml]; rfl) (own_w hw 242 rfl) (own_w hw 243 rfl) (own_w hw 244 rfl) (own_w hw 368 rfl) (own_w hw 369 rfl) (own_w hw 370 rfl) (own_w hw 371 rfl) (by decide) XLh (rq_sz0 l Z a0 hw [] h79 aL SL XL aE FE kE AE) (fun _ q => nomatch q) (argsL := []) (rest := [(.ref aL), (.ref b79), (.ref b79)]) (lenOf pd_14 rfl) rfl 3 (Nat.le_of_eq rfl) (own_dk hby dj46_10 4 rfl) (pc' := 9) rfl (by decide) (by decide) (by decide) (by decide) ?_
  intro v80 T80 h80 K80 Kp80 Q80
  obtain ⟨rfl, rfl⟩ := Q80
  have X79 := X79.keep Kp80
  have F_list_b79 := F_list_b79.keep Kp80 nin0
  have F_size_b79 := F_size_b79.keep Kp80 nin0
  have F_cursor_b79 := F_cursor_b79.keep Kp80 nin0
  have F_isListIterator_b79 := F_isListIterator_b79.keep Kp80 nin0
  have A80 := own_here K80
  show own_Go p.tables e below _ T80 (mkF m 9 #[.val (.ref aL)] [(.int (0 : Int32)), (.ref aL), (.ref b79), (.ref b79)])
  refine own_callSp K80 hx (by rw [hml]; rfl) rfl (own_w hw 248 rfl) (own_w hw 249 rfl) (own_w hw 241 rfl) (own_w hw 251 rfl) (by decide) (rq_itr l Z a0 hw [] h80 b79 aL (0 : Int32) _ _ _ _ X79 F_list_b79 F_size_b79 F_cursor_b79 F_isListIterator_b79) (own_mem1 (List.mem_of_getElem? (i := 0) rfl)) (argsL := [(.ref aL), (.int (0 : Int32))]) (rest := [(.ref b79)]) (lenOf pd_15 rfl) rfl 1 (Nat.le_of_eq rfl) (own_dk hby dj46_10 5 rfl) (pc' := 12) rfl (by decide) (by decide) (by decide) (by decide) ?_
  intro v81 T81 h81 K81 Kp81 Q81
  obtain ⟨rfl, Gl, Gs, Gc⟩ := Q81
  have X79 := X79.keep Kp81
  have A81 := own_here K81
  show own_Go p.tables e below _ T81 (mkF m 12 #[.val (.ref aL)] [(.ref b79)])
  exact own_retRR K81 hx hlk hret rfl rfl (own_dk hby dj46_10 6 rfl) (by decide) (by decide) [b79] (fun y hy => by cases List.mem_singleton.mp hy; exact ⟨(List.mem_of_getElem? (i := 0) rfl), by rw [g79]; exact Nat.le_refl _⟩) ⟨_, rfl, rfl, by rw [g79]; exact Nat.le_refl _, X79, Gl, Gs, Gc⟩
theorem dj53_3 : ∀ r ∈ ([(0, .aload_n 0, 1), (1, .getfield 17, 3), (4, .aload_n 0, 1), (5, .getfield 13, 3), (8, .if_icmp .eq 7, 3), (15, .iconst 0, 1), (16, .ireturn, 1), (11, .iconst 1, 1), (12, .goto 4, 3)] : List (Nat × Instr × Nat)), decode jdk_53_method_3_code r.1 = .ok (r.2.1, r.2.2) := by decide +kernel
theorem ef_rq_hn (m : MethodId) (q_0 : Addr)  : entryFrame m #[(.ref q_0)] 1 = mkF m 0 #[.val (.ref q_0)] [] := by  first | (simp [entryFrame, mkF, argsToLocals, Value.category]; done) | rfl
set_option maxRecDepth 65536 in
set_option maxHeartbeats 40000000 in
theorem rq_hn (l : Launch) (Z : State) (a0 : Array Value) (hw : ∀ d ∈ tables_1, d.before a0 Z = true) (more : List Jvm.Cond) (h0 : Heap) (x : Addr) (c0 n : Int32)  (Gc : Fld Z h0 x "java/util/ImmutableCollections$ListItr" "cursor" "I" (.int c0)) (Gs : Fld Z h0 x "java/util/ImmutableCollections$ListItr" "size" "I" (.int n)) :
    own_Met true false consts_1 l Z a0 (⟨"java/util/ImmutableCollections$ListItr", "hasNext", "()Z"⟩ : MethodName) jdk_53_method_3_code 1 (some .boolean) more ({ frames := 0, cells := 0, slots := 0, locals := 0 } : Room) #[(.ref x)] h0 [] (fun v h => v = some (.int (if c0 = n then 0 else 1)) ∧ h = h0) := by
  refine own_enter (own := "java/util/ImmutableCollections$ListItr") rfl (plainFor_of_name pn_15) ?_
  intro p e s m below meth c T hx hby hml hret hlk hnm K
  rw [ef_rq_hn m x]
  have A := own_here K
  refine own_aloadN A hx (pc' := 1) (own_dk hby dj53_3 0 rfl) rfl rfl rfl ?_
  refine own_getF K hx (host := "") (Or.inl (own_w hw 257 rfl)) Via.refl Gc (own_dk hby dj53_3 1 rfl) (pc' := 4) rfl ?_
  intro T82 K82
  have A82 := own_here K82
  refine own_aloadN A82 hx (pc' := 5) (own_dk hby dj53_3 2 rfl) rfl rfl rfl ?_
  refine own_getF K82 hx (host := "") (Or.inl (own_w hw 255 rfl)) Via.refl Gs (own_dk hby dj53_3 3 rfl) (pc' := 8) rfl ?_
  intro T83 K83
  have A83 := own_here K83
  refine own_icmp_eq A83 hx 15 11 (own_dk hby dj53_3 4 rfl) (by decide) (by decide) rfl (fun hc8 => ?_) (fun hc8 => ?_)
  · refine own_iconst A83 hx (pc' := 16) (own_dk hby dj53_3 5 rfl) (z := (0 : Int32)) (by decide) rfl ?_
    exact own_retN K83 hx hlk hret (by simp) (own_dk hby dj53_3 6 rfl) (by decide) (by decide) ⟨by rw [if_pos hc8]; rfl, rfl⟩
  · refine own_iconst A83 hx (pc' := 12) (own_dk hby dj53_3 7 rfl) (z := (1 : Int32)) (by decide) rfl ?_
    refine own_goto A83 hx 16 (own_dk hby dj53_3 8 rfl) (by decide) (by decide) ?_
    exact own_retN K83 hx hlk hret (by simp) (own_dk hby dj53_3 6 rfl) (by decide) (by decide) ⟨by rw [if_neg hc8]; rfl, rfl⟩
theorem dj44_5 : ∀ r ∈ ([(0, .iload_n 1, 1), (1, .ifCond .ne 8, 3), (4, .aload_n 0, 1), (5, .getfield 13, 3), (8, .areturn, 1)] : List (Nat × Instr × Nat)), decode jdk_44_method_5_code r.1 = .ok (r.2.1, r.2.2) := by decide +kernel
theorem ef_rq_get (m : MethodId) (q_0 : Addr)  : entryFrame m #[(.ref q_0), (.int (0 : Int32))] 2 = mkF m 0 #[.val (.ref q_0), .val (.int (0 : Int32))] [] := by  first | (simp [entryFrame, mkF, argsToLocals, Value.category]; done) | rfl
set_option maxRecDepth 65536 in
set_option maxHeartbeats 40000000 in
theorem rq_get (l : Launch) (Z : State) (a0 : Array Value) (hw : ∀ d ∈ tables_1, d.before a0 Z = true) (more : List Jvm.Cond) (h0 : Heap) (x : Addr)  (f : Addr) (F0 : Fld Z h0 x "java/util/ImmutableCollections$List12" "e0" "Ljava/lang/Object;" (.ref f)) :
    own_Met false false consts_1 l Z a0 (⟨"java/util/ImmutableCollections$List12", "get", "(I)Ljava/lang/Object;"⟩ : MethodName) jdk_44_method_5_code 2 (some (.object "java/lang/Object")) more ({ frames := 0, cells := 0, slots := 0, locals := 0 } : Room) #[(.ref x), (.int (0 : Int32))] h0 [] (fun v h => v = some (.ref f) ∧ h = h0) := by
  refine own_enter (own := "java/util/ImmutableCollections$List12") rfl (plainFor_of_name pn_10) ?_
  intro p e s m below meth c T hx hby hml hret hlk hnm K
  rw [ef_rq_get m x]
  have A := own_here K
  refine own_iloadN A hx (pc' := 1) (own_dk hby dj44_5 0 rfl) rfl rfl ?_
  refine own_if_ne A hx 9 4 (own_dk hby dj44_5 1 rfl) (by decide) (by decide) rfl (fun hc1 => ?_) (fun hc1 => ?_)
  · exact absurd hc1 (by decide)
  refine own_aloadN A hx (pc' := 5) (own_dk hby dj44_5 2 rfl) rfl rfl rfl ?_
  refine own_getF K hx (host := "") (Or.inl (own_w hw 199 rfl)) Via.refl F0 (own_dk hby dj44_5 3 rfl) (pc' := 8) rfl ?_
  intro T84 K84
  have A84 := own_here K84
  exact own_retR K84 hx hlk hret rfl rfl (own_dk hby dj44_5 4 rfl) (by decide) (by decide) ⟨rfl, rfl⟩
theorem dj53_4 : ∀ r ∈ ([(0, .aload_n 0, 1), (1, .getfield 17, 3), (4, .istore_n 1, 1), (5, .aload_n 0, 1), (6, .getfield 7, 3), (9, .iload_n 1, 1), (10, .invokeinterface 24 2, 5), (15, .astore_n 2, 1), (16, .aload_n 0, 1), (17, .iload_n 1, 1), (18, .iconst 1, 1), (19, .iadd, 1), (20, .putfield 17, 3), (23, .aload_n 2, 1), (24, .areturn, 1)] : List (Nat × Instr × Nat)), decode jdk_53_method_4_code r.1 = .ok (r.2.1, r.2.2) := by decide +kernel
theorem pd_16 : parseMethodDescriptor "(I)Ljava/lang/Object;" = some ⟨[.int], some (.object "java/lang/Object")⟩ := by decide +kernel
theorem ef_rq_nx (m : MethodId) (q_0 : Addr)  : entryFrame m #[(.ref q_0)] 3 = mkF m 0 #[.val (.ref q_0), .unset, .unset] [] := by  first | (simp [entryFrame, mkF, argsToLocals, Value.category]; done) | rfl
set_option maxRecDepth 65536 in
set_option maxHeartbeats 40000000 in
theorem rq_nx (l : Launch) (Z : State) (a0 : Array Value) (hw : ∀ d ∈ tables_1, d.before a0 Z = true) (h0 : Heap) (x : Addr) (L f : Addr)  (E : Exa Z h0 x "java/util/ImmutableCollections$ListItr") (Gl : Fld Z h0 x "java/util/ImmutableCollections$ListItr" "list" "Ljava/util/List;" (.ref L)) (Gc : Fld Z h0 x "java/util/ImmutableCollections$ListItr" "cursor" "I" (.int (0 : Int32))) (XL2 : Exa Z h0 L "java/util/ImmutableCollections$List12") (F0 : Fld Z h0 L "java/util/ImmutableCollections$List12" "e0" "Ljava/lang/Object;" (.ref f)) :
    own_MetH consts_1 l Z a0 (⟨"java/util/ImmutableCollections$ListItr", "next", "()Ljava/lang/Object;"⟩ : MethodName) jdk_53_method_4_code 3 (some (.object "java/lang/Object")) [(0, 24, 25, 30)] ({ frames := 1, cells := 0, slots := 0, locals := 13 } : Room) #[(.ref x)] h0 [x] (fun v h => v = some (.ref f)) := by
  refine own_enterH (own := "java/util/ImmutableCollections$ListItr") rfl (plainFor_of_name pn_15) ?_
  intro p e s m below meth c T hx hby hml hret hlk hnm K
  rw [ef_rq_nx m x]
  have A := own_here K
  have nLx : L ≠ x := XL2.ne E (by decide)
  refine own_aloadN A hx (pc' := 1) (own_dk hby dj53_4 0 rfl) rfl rfl rfl ?_
  refine own_getF K hx (host := "") (Or.inl (own_w hw 257 rfl)) Via.refl Gc (own_dk hby dj53_4 1 rfl) (pc' := 4) rfl ?_
  intro T85 K85
  have A85 := own_here K85
  refine own_istoreN A85 hx (pc' := 5) #[.val (.ref x), .val (.int (0 : Int32)), .unset] (own_dk hby dj53_4 2 rfl) rfl rfl ?_
  refine own_aloadN A85 hx (pc' := 6) (own_dk hby dj53_4 3 rfl) rfl rfl rfl ?_
  refine own_getF K85 hx (host := "") (Or.inl (own_w hw 253 rfl)) Via.refl Gl (own_dk hby dj53_4 4 rfl) (pc' := 9) rfl ?_
  intro T86 K86
  have A86 := own_here K86
  refine own_iloadN A86 hx (pc' := 10) (own_dk hby dj53_4 5 rfl) rfl rfl ?_
  refine own_callI K86 hx (by rw [hml]; rfl) (own_w hw 278 rfl) (own_w hw 279 rfl) (own_w hw 280 rfl) (by decide) (own_w hw 281 rfl) (own_w hw 282 rfl) (own_w hw 283 rfl) (own_w hw 284 rfl) (own_w hw 237 rfl) (own_w hw 176 rfl) (own_w hw 285 rfl) (by decide) XL2 (rq_get l Z a0 hw [] h0 L f F0) (fun _ q => nomatch q) (argsL := [(.int (0 : Int32))]) (rest := []) (lenOf pd_16 rfl) rfl 0 (Nat.le_of_eq rfl) (own_dk hby dj53_4 6 rfl) (pc' := 15) rfl (by decide) (by decide) (by decide) (by decide) ?_
  intro v87 T87 h87 K87 Kp87 Q87
  obtain ⟨rfl, rfl⟩ := Q87
  have E := E.keep Kp87
  have Gl := Gl.keep Kp87 nin0
  have Gc := Gc.keep Kp87 nin0
  have XL2 := XL2.keep Kp87
  have F0 := F0.keep Kp87 nin0
  have A87 := own_here K87
  show own_Go p.tables e below _ T87 (mkF m 15 #[.val (.ref x), .val (.int (0 : Int32)), .unset] [(.ref f)])
  refine own_astoreN A87 hx (pc' := 16) #[.val (.ref x), .val (.int (0 : Int32)), .val (.ref f)] (own_dk hby dj53_4 7 rfl) rfl rfl rfl ?_
  refine own_aloadN A87 hx (pc' := 17) (own_dk hby dj53_4 8 rfl) rfl rfl rfl ?_
  refine own_iloadN A87 hx (pc' := 18) (own_dk hby dj53_4 9 rfl) rfl rfl ?_
  refine own_iconst A87 hx (pc' := 19) (own_dk hby dj53_4 10 rfl) (z := (1 : Int32)) (by decide) rfl ?_
  refine own_iadd A87 hx (pc' := 20) (own_dk hby dj53_4 11 rfl) (z := ((0 : Int32) + (1 : Int32))) rfl rfl ?_
  refine own_putF K87 hx (host := "") (Or.inl (own_w hw 257 rfl)) Via.refl Gc E (Or.inl (own_w hw 258 rfl)) (own_w hw 240 rfl) (ty := .int) (by decide) rfl rfl (List.mem_of_getElem? (i := 0) rfl) (own_dk hby dj53_4 12 rfl) (pc' := 23) rfl ?_
  intro T88 h88 K88 W88
  have E := E.wr W88
  have XL2 := XL2.wr W88
  have F0 := F0.other W88 (Or.inl nLx)
  have Gl := Gl.other W88 (Or.inr (slot_ne (Or.inr (own_w hw 254 rfl)) (Or.inl (own_w hw 258 rfl)) (by decide) (t := (.object "java/util/List")) (t' := .int) (by decide) (by decide)))
  have Gc := Gc.same W88
  have A88 := own_here K88
  refine own_aloadN A88 hx (pc' := 24) (own_dk hby dj53_4 13 rfl) rfl rfl rfl ?_
  exact own_retR K88 hx hlk hret rfl rfl (own_dk hby dj53_4 14 rfl) (by decide) (by decide) rfl
theorem dp3_5 : ∀ r ∈ ([(0, .aload_n 0, 1), (1, .getfield 7, 3), (4, .areturn, 1)] : List (Nat × Instr × Nat)), decode prog_3_method_5_code r.1 = .ok (r.2.1, r.2.2) := by decide +kernel
theorem ef_rq_tag (m : MethodId) (q_0 : Addr)  : entryFrame m #[(.ref q_0)] 1 = mkF m 0 #[.val (.ref q_0)] [] := by  first | (simp [entryFrame, mkF, argsToLocals, Value.category]; done) | rfl
set_option maxRecDepth 65536 in
set_option maxHeartbeats 40000000 in
theorem rq_tag (l : Launch) (Z : State) (a0 : Array Value) (hw : ∀ d ∈ tables_1, d.before a0 Z = true) (more : List Jvm.Cond) (h0 : Heap) (x : Addr) (t : Addr)  (F : Fld Z h0 x "com/example/regalwerk/regalwerk/ControlField" "tag" "Ljava/lang/String;" (.ref t)) :
    own_Met true false consts_1 l Z a0 (⟨"com/example/regalwerk/regalwerk/ControlField", "tag", "()Ljava/lang/String;"⟩ : MethodName) prog_3_method_5_code 1 (some (.object "java/lang/String")) more ({ frames := 0, cells := 0, slots := 0, locals := 0 } : Room) #[(.ref x)] h0 [] (fun v h => v = some (.ref t) ∧ h = h0) := by
  refine own_enter (own := "com/example/regalwerk/regalwerk/ControlField") rfl (plainFor_of_name pn_1) ?_
  intro p e s m below meth c T hx hby hml hret hlk hnm K
  rw [ef_rq_tag m x]
  have A := own_here K
  refine own_aloadN A hx (pc' := 1) (own_dk hby dp3_5 0 rfl) rfl rfl rfl ?_
  refine own_getF K hx (host := "") (Or.inl (own_w hw 45 rfl)) Via.refl F (own_dk hby dp3_5 1 rfl) (pc' := 4) rfl ?_
  intro T89 K89
  have A89 := own_here K89
  exact own_retR K89 hx hlk hret rfl rfl (own_dk hby dp3_5 2 rfl) (by decide) (by decide) ⟨rfl, rfl⟩
theorem dp3_6 : ∀ r ∈ ([(0, .aload_n 0, 1), (1, .getfield 13, 3), (4, .areturn, 1)] : List (Nat × Instr × Nat)), decode prog_3_method_6_code r.1 = .ok (r.2.1, r.2.2) := by decide +kernel
theorem ef_rq_val (m : MethodId) (q_0 : Addr)  : entryFrame m #[(.ref q_0)] 1 = mkF m 0 #[.val (.ref q_0)] [] := by  first | (simp [entryFrame, mkF, argsToLocals, Value.category]; done) | rfl
set_option maxRecDepth 65536 in
set_option maxHeartbeats 40000000 in
theorem rq_val (l : Launch) (Z : State) (a0 : Array Value) (hw : ∀ d ∈ tables_1, d.before a0 Z = true) (more : List Jvm.Cond) (h0 : Heap) (x : Addr) (t : Addr)  (F : Fld Z h0 x "com/example/regalwerk/regalwerk/ControlField" "value" "Ljava/lang/String;" (.ref t)) :
    own_Met true false consts_1 l Z a0 (⟨"com/example/regalwerk/regalwerk/ControlField", "value", "()Ljava/lang/String;"⟩ : MethodName) prog_3_method_6_code 1 (some (.object "java/lang/String")) more ({ frames := 0, cells := 0, slots := 0, locals := 0 } : Room) #[(.ref x)] h0 [] (fun v h => v = some (.ref t) ∧ h = h0) := by
  refine own_enter (own := "com/example/regalwerk/regalwerk/ControlField") rfl (plainFor_of_name pn_1) ?_
  intro p e s m below meth c T hx hby hml hret hlk hnm K
  rw [ef_rq_val m x]
  have A := own_here K
  refine own_aloadN A hx (pc' := 1) (own_dk hby dp3_6 0 rfl) rfl rfl rfl ?_
  refine own_getF K hx (host := "") (Or.inl (own_w hw 47 rfl)) Via.refl F (own_dk hby dp3_6 1 rfl) (pc' := 4) rfl ?_
  intro T90 K90
  have A90 := own_here K90
  exact own_retR K90 hx hlk hret rfl rfl (own_dk hby dp3_6 2 rfl) (by decide) (by decide) ⟨rfl, rfl⟩
theorem dp28_4 : ∀ r ∈ ([(0, .aload_n 0, 1), (1, .getfield 19, 3), (4, .invokeinterface 39 1, 5), (9, .astore_n 2, 1), (10, .aload_n 2, 1), (11, .invokeinterface 43 1, 5), (16, .ifCond .eq 47, 3), (63, .aconst_null, 1), (64, .areturn, 1), (19, .aload_n 2, 1), (20, .invokeinterface 49 1, 5), (25, .checkcast 53, 3), (28, .astore_n 3, 1), (29, .aload_n 3, 1), (30, .instanceof 55, 3), (33, .ifCond .eq 27, 3), (36, .aload_n 3, 1), (37, .checkcast 55, 3), (40, .astore 4, 2), (42, .aload 4, 2), (44, .invokevirtual 57, 3), (47, .aload_n 1, 1), (48, .invokevirtual 61, 3), (51, .ifCond .eq 9, 3), (54, .aload 4, 2), (56, .invokevirtual 65, 3), (59, .areturn, 1)] : List (Nat × Instr × Nat)), decode prog_28_method_4_code r.1 = .ok (r.2.1, r.2.2) := by decide +kernel
theorem pd_17 : parseMethodDescriptor "()Ljava/util/Iterator;" = some ⟨[], some (.object "java/util/Iterator")⟩ := by decide +kernel
theorem pd_18 : parseMethodDescriptor "()Ljava/lang/Object;" = some ⟨[], some (.object "java/lang/Object")⟩ := by decide +kernel
theorem pd_19 : parseMethodDescriptor "()Ljava/lang/String;" = some ⟨[], some (.object "java/lang/String")⟩ := by decide +kernel
theorem ef_rq_cfd (m : MethodId) (q_0 : Addr) (q_1 : Addr)  : entryFrame m #[(.ref q_0), (.ref q_1)] 5 = mkF m 0 #[.val (.ref q_0), .val (.ref q_1), .unset, .unset, .unset] [] := by  first | (simp [entryFrame, mkF, argsToLocals, Value.category]; done) | rfl
set_option maxRecDepth 65536 in
set_option maxHeartbeats 40000000 in
theorem rq_cfd (l : Launch) (Z : State) (a0 : Array Value) (hw : ∀ d ∈ tables_1, d.before a0 Z = true) (more : List Jvm.Cond) (h0 : Heap) (x : Addr) (t : Addr) (L f s1 s2 : Addr) (z : Int32) (G1 : Int32) (O2 : Sta Z Z.heap "java/lang/String" "COMPACT_STRINGS" "Z" (.int G1)) (P5 : ¬ (G1 = (0 : Int32))) (aM : Addr) (SM : Sta Z Z.heap "java/util/ImmutableCollections" "EMPTY" "Ljava/lang/Object;" (.ref aM)) (aL : Addr) (SL : Sta Z Z.heap "java/util/ImmutableCollections" "EMPTY_LIST" "Ljava/util/ImmutableCollections$ListN;" (.ref aL)) (XL : Exa Z Z.heap aL "java/util/ImmutableCollections$ListN") (aE : Addr) (FE : Fld Z Z.heap aL "java/util/ImmutableCollections$ListN" "elements" "[Ljava/lang/Object;" (.ref aE)) (kE : ClassId) (AE : Arv Z Z.heap aE kE (.object "java/lang/Object") (0 : Int32) [] .null) (Fi : Fld Z h0 x "com/example/regalwerk/regalwerk/MarcRecord" "fields" "Ljava/util/List;" (.ref L)) (Fq : own_Fs Z h0 L z f aL aM) (Ef : Exa Z h0 f "com/example/regalwerk/regalwerk/ControlField") (Ft : Fld Z h0 f "com/example/regalwerk/regalwerk/ControlField" "tag" "Ljava/lang/String;" (.ref s1)) (Fv : Fld Z h0 f "com/example/regalwerk/regalwerk/ControlField" "value" "Ljava/lang/String;" (.ref s2)) (S1 : own_Str Z h0 s1 [48, 48, 49]) (St : own_Str Z h0 t [48, 48, 49]) :
    own_Met true false consts_1 l Z a0 (⟨"com/example/regalwerk/regalwerk/MarcRecord", "controlField", "(Ljava/lang/String;)Ljava/lang/String;"⟩ : MethodName) prog_28_method_4_code 5 (some (.object "java/lang/String")) more ({ frames := 3, cells := 1, slots := 4, locals := 39 } : Room) #[(.ref x), (.ref t)] h0 [] (fun v h => v = some (own_cv z s2)) := by
  refine own_enter (own := "com/example/regalwerk/regalwerk/MarcRecord") rfl (plainFor_of_name pn_13) ?_
  intro p e s m below meth c T hx hby hml hret hlk hnm K
  rw [ef_rq_cfd m x t]
  have A := own_here K
  rcases Fq with ⟨rfl, eL⟩ | ⟨rfl, XL2, F0, F1⟩
  · rw [eL] at Fi
    refine own_aloadN A hx (pc' := 1) (own_dk hby dp28_4 0 rfl) rfl rfl rfl ?_
    refine own_getF K hx (host := "") (Or.inl (own_w hw 206 rfl)) Via.refl Fi (own_dk hby dp28_4 1 rfl) (pc' := 4) rfl ?_
    intro T91 K91
    have A91 := own_here K91
    have XLh := XL.ext (own_ext0 K91)
    refine own_callIR K91 hx (by rw [hml]; rfl) (own_w hw 230 rfl) (own_w hw 231 rfl) (own_w hw 232 rfl) (by decide) (own_w hw 365 rfl) (own_w hw 234 rfl) (own_w hw 235 rfl) (own_w hw 366 rfl) (own_w hw 367 rfl) (own_w hw 185 rfl) (own_w hw 238 rfl) (by decide) XLh (rq_it0 l Z a0 hw [] h0 aL SL XL aE FE kE AE) (fun _ q => nomatch q) (argsL := []) (rest := []) (lenOf pd_17 rfl) rfl 0 (Nat.le_of_eq rfl) (own_dk hby dp28_4 2 rfl) (pc' := 9) rfl (by decide) (by decide) (by decide) (by decide) ?_
    intro v92 T92 h92 ns92 K92 Kp92 Q92
    obtain ⟨i, rfl, rfl, ge, Xi, Gl, Gs, Gc⟩ := Q92
    have ne_x_i : x ≠ i := Nat.ne_of_lt (Nat.lt_of_lt_of_le Fi.lt ge)
    have ne_f_i : f ≠ i := Nat.ne_of_lt (Nat.lt_of_lt_of_le Ef.lt ge)
    have ne_s1_i : s1 ≠ i := Nat.ne_of_lt (Nat.lt_of_lt_of_le S1.lt ge)
    have ne_t_i : t ≠ i := Nat.ne_of_lt (Nat.lt_of_lt_of_le St.lt ge)
    have Fi := Fi.keep Kp92 nin0
    have Ef := Ef.keep Kp92
    have Ft := Ft.keep Kp92 nin0
    have Fv := Fv.keep Kp92 nin0
    have S1 := S1.keep Kp92 own_off0
    have St := St.keep Kp92 own_off0
    have A92 := own_here K92
    show own_Go p.tables e below _ T92 (mkF m 9 #[.val (.ref x), .val (.ref t), .unset, .unset, .unset] [(.ref i)])
    refine own_astoreN A92 hx (pc' := 10) #[.val (.ref x), .val (.ref t), .val (.ref i), .unset, .unset] (own_dk hby dp28_4 3 rfl) rfl rfl rfl ?_
    refine own_aloadN A92 hx (pc' := 11) (own_dk hby dp28_4 4 rfl) rfl rfl rfl ?_
    refine own_callI K92 hx (by rw [hml]; rfl) (own_w hw 261 rfl) (own_w hw 262 rfl) (own_w hw 263 rfl) (by decide) (own_w hw 264 rfl) (own_w hw 265 rfl) (own_w hw 266 rfl) (own_w hw 267 rfl) (own_w hw 268 rfl) (own_w hw 241 rfl) (own_w hw 269 rfl) (by decide) Xi (rq_hn l Z a0 hw [] h92 i (0 : Int32) (0 : Int32) Gc Gs) (fun _ q => nomatch q) (argsL := []) (rest := []) (lenOf pd_10 rfl) rfl 0 (Nat.le_of_eq rfl) (own_dk hby dp28_4 5 rfl) (pc' := 16) rfl (by decide) (by decide) (by decide) (by decide) ?_
    intro v93 T93 h93 K93 Kp93 Q93
    obtain ⟨rfl, rfl⟩ := Q93
    have Fi := Fi.keep Kp93 nin0
    have Ef := Ef.keep Kp93
    have Ft := Ft.keep Kp93 nin0
    have Fv := Fv.keep Kp93 nin0
    have S1 := S1.keep Kp93 own_off0
    have St := St.keep Kp93 own_off0
    have Xi := Xi.keep Kp93
    have Gl := Gl.keep Kp93 nin0
    have Gs := Gs.keep Kp93 nin0
    have Gc := Gc.keep Kp93 nin0
    have A93 := own_here K93
    show own_Go p.tables e below _ T93 (mkF m 16 #[.val (.ref x), .val (.ref t), .val (.ref i), .unset, .unset] [(.int (if (0 : Int32) = (0 : Int32) then (0 : Int32) else 1))])
    rw [show (if (0 : Int32) = (0 : Int32) then (0 : Int32) else 1) = (0 : Int32) from by decide]
    refine own_if_eq A93 hx 63 19 (own_dk hby dp28_4 6 rfl) (by decide) (by decide) rfl (fun hc16 => ?_) (fun hc16 => ?_)
    rotate_left
    · exact absurd hc16 (by decide)
    refine own_null A93 hx (pc' := 64) (own_dk hby dp28_4 7 rfl) rfl ?_
    exact own_retR K93 hx hlk hret rfl rfl (own_dk hby dp28_4 8 rfl) (by decide) (by decide) rfl
  · refine own_aloadN A hx (pc' := 1) (own_dk hby dp28_4 0 rfl) rfl rfl rfl ?_
    refine own_getF K hx (host := "") (Or.inl (own_w hw 206 rfl)) Via.refl Fi (own_dk hby dp28_4 1 rfl) (pc' := 4) rfl ?_
    intro T94 K94
    have A94 := own_here K94
    refine own_callIR K94 hx (by rw [hml]; rfl) (own_w hw 230 rfl) (own_w hw 231 rfl) (own_w hw 232 rfl) (by decide) (own_w hw 233 rfl) (own_w hw 234 rfl) (own_w hw 235 rfl) (own_w hw 236 rfl) (own_w hw 237 rfl) (own_w hw 185 rfl) (own_w hw 238 rfl) (by decide) XL2 (rq_it1 l Z a0 hw [] h0 L aM SM f XL2 F0 F1) (fun _ q => nomatch q) (argsL := []) (rest := []) (lenOf pd_17 rfl) rfl 0 (Nat.le_of_eq rfl) (own_dk hby dp28_4 2 rfl) (pc' := 9) rfl (by decide) (by decide) (by decide) (by decide) ?_
    intro v95 T95 h95 ns95 K95 Kp95 Q95
    obtain ⟨i, rfl, rfl, ge, Xi, Gl, Gs, Gc⟩ := Q95
    have ne_x_i : x ≠ i := Nat.ne_of_lt (Nat.lt_of_lt_of_le Fi.lt ge)
    have ne_f_i : f ≠ i := Nat.ne_of_lt (Nat.lt_of_lt_of_le Ef.lt ge)
    have ne_s1_i : s1 ≠ i := Nat.ne_of_lt (Nat.lt_of_lt_of_le S1.lt ge)
    have ne_t_i : t ≠ i := Nat.ne_of_lt (Nat.lt_of_lt_of_le St.lt ge)
    have ne_L_i : L ≠ i := Nat.ne_of_lt (Nat.lt_of_lt_of_le XL2.lt ge)
    have Fi := Fi.keep Kp95 nin0
    have Ef := Ef.keep Kp95
    have Ft := Ft.keep Kp95 nin0
    have Fv := Fv.keep Kp95 nin0
    have S1 := S1.keep Kp95 own_off0
    have St := St.keep Kp95 own_off0
    have XL2 := XL2.keep Kp95
    have F0 := F0.keep Kp95 nin0
    have F1 := F1.keep Kp95 nin0
    have A95 := own_here K95
    show own_Go p.tables e below _ T95 (mkF m 9 #[.val (.ref x), .val (.ref t), .unset, .unset, .unset] [(.ref i)])
    refine own_astoreN A95 hx (pc' := 10) #[.val (.ref x), .val (.ref t), .val (.ref i), .unset, .unset] (own_dk hby dp28_4 3 rfl) rfl rfl rfl ?_
    refine own_aloadN A95 hx (pc' := 11) (own_dk hby dp28_4 4 rfl) rfl rfl rfl ?_
    refine own_callI K95 hx (by rw [hml]; rfl) (own_w hw 261 rfl) (own_w hw 262 rfl) (own_w hw 263 rfl) (by decide) (own_w hw 264 rfl) (own_w hw 265 rfl) (own_w hw 266 rfl) (own_w hw 267 rfl) (own_w hw 268 rfl) (own_w hw 241 rfl) (own_w hw 269 rfl) (by decide) Xi (rq_hn l Z a0 hw [] h95 i (0 : Int32) (1 : Int32) Gc Gs) (fun _ q => nomatch q) (argsL := []) (rest := []) (lenOf pd_10 rfl) rfl 0 (Nat.le_of_eq rfl) (own_dk hby dp28_4 5 rfl) (pc' := 16) rfl (by decide) (by decide) (by decide) (by decide) ?_
    intro v96 T96 h96 K96 Kp96 Q96
    obtain ⟨rfl, rfl⟩ := Q96
    have Fi := Fi.keep Kp96 nin0
    have Ef := Ef.keep Kp96
    have Ft := Ft.keep Kp96 nin0
    have Fv := Fv.keep Kp96 nin0
    have S1 := S1.keep Kp96 own_off0
    have St := St.keep Kp96 own_off0
    have XL2 := XL2.keep Kp96
    have F0 := F0.keep Kp96 nin0
    have F1 := F1.keep Kp96 nin0
    have Xi := Xi.keep Kp96
    have Gl := Gl.keep Kp96 nin0
    have Gs := Gs.keep Kp96 nin0
    have Gc := Gc.keep Kp96 nin0
    have A96 := own_here K96
    show own_Go p.tables e below _ T96 (mkF m 16 #[.val (.ref x), .val (.ref t), .val (.ref i), .unset, .unset] [(.int (if (0 : Int32) = (1 : Int32) then (0 : Int32) else 1))])
    rw [show (if (0 : Int32) = (1 : Int32) then (0 : Int32) else 1) = (1 : Int32) from by decide]
    refine own_if_eq A96 hx 63 19 (own_dk hby dp28_4 6 rfl) (by decide) (by decide) rfl (fun hc16 => ?_) (fun hc16 => ?_)
    · exact absurd hc16 (by decide)
    refine own_aloadN A96 hx (pc' := 20) (own_dk hby dp28_4 9 rfl) rfl rfl rfl ?_
    refine own_callIH K96 hx (by rw [hml]; rfl) (own_w hw 270 rfl) (own_w hw 271 rfl) (own_w hw 272 rfl) (by decide) (own_w hw 273 rfl) (own_w hw 274 rfl) (own_w hw 275 rfl) (own_w hw 276 rfl) (own_w hw 268 rfl) (own_w hw 241 rfl) (own_w hw 277 rfl) (by decide) Xi (rq_nx l Z a0 hw h96 i L f Xi Gl Gc XL2 F0) (own_mem1 (List.mem_of_getElem? (i := 0) rfl)) (argsL := []) (rest := []) (lenOf pd_18 rfl) rfl 0 (Nat.le_of_eq rfl) (own_dk hby dp28_4 10 rfl) (pc' := 25) rfl (by decide) (by decide) (by decide) (by decide) ?_
    intro v97 T97 h97 K97 Kp97 Q97
    obtain rfl := Q97
    have off_Kp97 := own_off1 (own_Off.exa Xi (own_w hw 240 rfl) (by decide))
    have Fi := Fi.keep Kp97 (ninS ne_x_i nin0)
    have Ef := Ef.keep Kp97
    have Ft := Ft.keep Kp97 (ninS ne_f_i nin0)
    have Fv := Fv.keep Kp97 (ninS ne_f_i nin0)
    have S1 := S1.keep Kp97 off_Kp97
    have St := St.keep Kp97 off_Kp97
    have XL2 := XL2.keep Kp97
    have F0 := F0.keep Kp97 (ninS ne_L_i nin0)
    have F1 := F1.keep Kp97 (ninS ne_L_i nin0)
    have Xi := Xi.keep Kp97
    have A97 := own_here K97
    show own_Go p.tables e below _ T97 (mkF m 25 #[.val (.ref x), .val (.ref t), .val (.ref i), .unset, .unset] [(.ref f)])
    refine own_cast K97 hx (own_w hw 286 rfl) (Ins.of_exa Ef (own_w hw 287 rfl)) (own_dk hby dp28_4 11 rfl) (pc' := 28) rfl ?_
    intro T98 K98
    have A98 := own_here K98
    refine own_astoreN A98 hx (pc' := 29) #[.val (.ref x), .val (.ref t), .val (.ref i), .val (.ref f), .unset] (own_dk hby dp28_4 12 rfl) rfl rfl rfl ?_
    refine own_aloadN A98 hx (pc' := 30) (own_dk hby dp28_4 13 rfl) rfl rfl rfl ?_
    refine own_instY K98 hx (own_w hw 288 rfl) (Ins.self Ef) (own_dk hby dp28_4 14 rfl) (pc' := 33) rfl ?_
    intro T99 K99
    have A99 := own_here K99
    refine own_if_eq A99 hx 60 36 (own_dk hby dp28_4 15 rfl) (by decide) (by decide) rfl (fun hc33 => ?_) (fun hc33 => ?_)
    · exact absurd hc33 (by decide)
    refine own_aloadN A99 hx (pc' := 37) (own_dk hby dp28_4 16 rfl) rfl rfl rfl ?_
    refine own_cast K99 hx (own_w hw 288 rfl) (Ins.self Ef) (own_dk hby dp28_4 17 rfl) (pc' := 40) rfl ?_
    intro T100 K100
    have A100 := own_here K100
    refine own_astore A100 hx (pc' := 42) #[.val (.ref x), .val (.ref t), .val (.ref i), .val (.ref f), .val (.ref f)] (own_dk hby dp28_4 18 rfl) rfl rfl rfl ?_
    refine own_aload A100 hx (pc' := 44) (own_dk hby dp28_4 19 rfl) rfl rfl rfl ?_
    refine own_callV K100 hx (by rw [hml]; rfl) (own_w hw 290 rfl) (own_w hw 291 rfl) (fun U hU => notFace_of_selects (args := #[]) (mvT hU (own_w hw 293 rfl))) (own_w hw 293 rfl) (own_w hw 292 rfl) (own_w hw 2 rfl) (own_w hw 294 rfl) (by decide) Ef (rq_tag l Z a0 hw [] h97 f s1 Ft) (fun _ q => nomatch q) (argsL := []) (rest := []) (lenOf pd_19 rfl) rfl 0 (Nat.le_of_eq rfl) (own_dk hby dp28_4 20 rfl) (pc' := 47) rfl (by decide) (by decide) (by decide) (by decide) ?_
    intro v101 T101 h101 K101 Kp101 Q101
    obtain ⟨rfl, rfl⟩ := Q101
    have Fi := Fi.keep Kp101 nin0
    have Ef := Ef.keep Kp101
    have Ft := Ft.keep Kp101 nin0
    have Fv := Fv.keep Kp101 nin0
    have S1 := S1.keep Kp101 own_off0
    have St := St.keep Kp101 own_off0
    have XL2 := XL2.keep Kp101
    have F0 := F0.keep Kp101 nin0
    have F1 := F1.keep Kp101 nin0
    have Xi := Xi.keep Kp101
    have A101 := own_here K101
    show own_Go p.tables e below _ T101 (mkF m 47 #[.val (.ref x), .val (.ref t), .val (.ref i), .val (.ref f), .val (.ref f)] [(.ref s1)])
    refine own_aloadN A101 hx (pc' := 48) (own_dk hby dp28_4 21 rfl) rfl rfl rfl ?_
    refine own_strEq K101 hx (by rw [hml]; rfl) (own_w hw 295 rfl) (own_w hw 296 rfl) (own_w hw 298 rfl) (own_w hw 297 rfl) (own_we hw) (own_w hw 5 rfl) S1 St O2 P5 (lenOf pd_5 rfl) 0 (Nat.le_of_eq rfl) (own_dk hby dp28_4 22 rfl) (pc' := 51) rfl (by decide) (by decide) (by decide) (by decide) ?_
    intro T102 K102
    have A102 := own_here K102
    rw [show (if ([48, 48, 49] : List Int32) = [48, 48, 49] then (1 : Int32) else 0) = (1 : Int32) from by decide]
    refine own_if_eq A102 hx 60 54 (own_dk hby dp28_4 23 rfl) (by decide) (by decide) rfl (fun hc51 => ?_) (fun hc51 => ?_)
    · exact absurd hc51 (by decide)
    refine own_aload A102 hx (pc' := 56) (own_dk hby dp28_4 24 rfl) rfl rfl rfl ?_
    refine own_callV K102 hx (by rw [hml]; rfl) (own_w hw 300 rfl) (own_w hw 301 rfl) (fun U hU => notFace_of_selects (args := #[]) (mvT hU (own_w hw 303 rfl))) (own_w hw 303 rfl) (own_w hw 302 rfl) (own_w hw 2 rfl) (own_w hw 304 rfl) (by decide) Ef (rq_val l Z a0 hw [] h101 f s2 Fv) (fun _ q => nomatch q) (argsL := []) (rest := []) (lenOf pd_19 rfl) rfl 0 (Nat.le_of_eq rfl) (own_dk hby dp28_4 25 rfl) (pc' := 59) rfl (by decide) (by decide) (by decide) (by decide) ?_
    intro v103 T103 h103 K103 Kp103 Q103
    obtain ⟨rfl, rfl⟩ := Q103
    have Fi := Fi.keep Kp103 nin0
    have Ef := Ef.keep Kp103
    have Ft := Ft.keep Kp103 nin0
    have Fv := Fv.keep Kp103 nin0
    have S1 := S1.keep Kp103 own_off0
    have St := St.keep Kp103 own_off0
    have XL2 := XL2.keep Kp103
    have F0 := F0.keep Kp103 nin0
    have F1 := F1.keep Kp103 nin0
    have Xi := Xi.keep Kp103
    have A103 := own_here K103
    show own_Go p.tables e below _ T103 (mkF m 59 #[.val (.ref x), .val (.ref t), .val (.ref i), .val (.ref f), .val (.ref f)] [(.ref s2)])
    exact own_retR K103 hx hlk hret rfl rfl (own_dk hby dp28_4 26 rfl) (by decide) (by decide) rfl
theorem dp28_3 : ∀ r ∈ ([(0, .aload_n 0, 1), (1, .getfield 13, 3), (4, .invokevirtual 23, 3), (7, .iconst 5, 1), (8, .if_icmp .le 20, 3), (28, .iconst 0, 1), (29, .ireturn, 1), (11, .aload_n 0, 1), (12, .getfield 13, 3), (15, .iconst 5, 1), (16, .invokevirtual 31, 3), (19, .bipush 100, 2), (21, .if_icmp .ne 7, 3), (24, .iconst 1, 1), (25, .goto 4, 3)] : List (Nat × Instr × Nat)), decode prog_28_method_3_code r.1 = .ok (r.2.1, r.2.2) := by decide +kernel
theorem pd_20 : parseMethodDescriptor "(I)C" = some ⟨[.int], some .char⟩ := by decide +kernel
theorem ef_rq_del (m : MethodId) (q_0 : Addr)  : entryFrame m #[(.ref q_0)] 1 = mkF m 0 #[.val (.ref q_0)] [] := by  first | (simp [entryFrame, mkF, argsToLocals, Value.category]; done) | rfl
set_option maxRecDepth 65536 in
set_option maxHeartbeats 40000000 in
theorem rq_del (l : Launch) (Z : State) (a0 : Array Value) (hw : ∀ d ∈ tables_1, d.before a0 Z = true) (more : List Jvm.Cond) (h0 : Heap) (x : Addr) (z c5 : Int32) (ld : Addr) (G1 : Int32) (O2 : Sta Z Z.heap "java/lang/String" "COMPACT_STRINGS" "Z" (.int G1)) (P5 : ¬ (G1 = (0 : Int32))) (G3 : Value) (O4 : Sta Z Z.heap "jdk/internal/util/Preconditions" "SIOOBE_FORMATTER" "Ljava/util/function/BiFunction;" G3) (rG3 : G3.isRef = true) (hz : z = 0 ∨ z = 1) (H5 : ¬ c5 < 0 ∧ ¬ (255 : Int32) < c5) (Fl : Fld Z h0 x "com/example/regalwerk/regalwerk/MarcRecord" "leader" "Ljava/lang/String;" (.ref ld)) (S : own_Str Z h0 ld (own_ld z c5)) :
    own_Met true false consts_1 l Z a0 (⟨"com/example/regalwerk/regalwerk/MarcRecord", "isDeleted", "()Z"⟩ : MethodName) prog_28_method_3_code 1 (some .boolean) more ({ frames := 4, cells := 0, slots := 0, locals := 53 } : Room) #[(.ref x)] h0 [] (fun v h => v = some (.int (own_del z c5)) ∧ h = h0) := by
  refine own_enter (own := "com/example/regalwerk/regalwerk/MarcRecord") rfl (plainFor_of_name pn_13) ?_
  intro p e s m below meth c T hx hby hml hret hlk hnm K
  rw [ef_rq_del m x]
  have A := own_here K
  rcases hz with rfl | rfl
  · rw [own_ld, if_pos rfl] at S
    refine own_aloadN A hx (pc' := 1) (own_dk hby dp28_3 0 rfl) rfl rfl rfl ?_
    refine own_getF K hx (host := "") (Or.inl (own_w hw 204 rfl)) Via.refl Fl (own_dk hby dp28_3 1 rfl) (pc' := 4) rfl ?_
    intro T104 K104
    have A104 := own_here K104
    refine own_strLen K104 hx (by rw [hml]; rfl) (own_w hw 312 rfl) (own_w hw 313 rfl) (own_w hw 315 rfl) (own_w hw 314 rfl) (own_wl hw) (own_w hw 5 rfl) S O2 P5 (lenOf pd_14 rfl) 0 (Nat.le_of_eq rfl) (own_dk hby dp28_3 2 rfl) (pc' := 7) rfl (by decide) (by decide) (by decide) (by decide) ?_
    intro T105 K105
    have A105 := own_here K105
    rw [show ((Int32.ofNat (([100, 100, 100, 100, 100] : List Int32) : List Int32).length)) = (5 : Int32) from rfl]
    refine own_iconst A105 hx (pc' := 8) (own_dk hby dp28_3 3 rfl) (z := (5 : Int32)) (by decide) rfl ?_
    refine own_icmp_le A105 hx 28 11 (own_dk hby dp28_3 4 rfl) (by decide) (by decide) rfl (fun hc8 => ?_) (fun hc8 => ?_)
    rotate_left
    · exact absurd hc8 (by decide)
    refine own_iconst A105 hx (pc' := 29) (own_dk hby dp28_3 5 rfl) (z := (0 : Int32)) (by decide) rfl ?_
    exact own_retN K105 hx hlk hret (by simp) (own_dk hby dp28_3 6 rfl) (by decide) (by decide) ⟨rfl, rfl⟩
  · rw [own_ld, if_neg (by decide)] at S
    refine own_aloadN A hx (pc' := 1) (own_dk hby dp28_3 0 rfl) rfl rfl rfl ?_
    refine own_getF K hx (host := "") (Or.inl (own_w hw 204 rfl)) Via.refl Fl (own_dk hby dp28_3 1 rfl) (pc' := 4) rfl ?_
    intro T106 K106
    have A106 := own_here K106
    refine own_strLen K106 hx (by rw [hml]; rfl) (own_w hw 312 rfl) (own_w hw 313 rfl) (own_w hw 315 rfl) (own_w hw 314 rfl) (own_wl hw) (own_w hw 5 rfl) S O2 P5 (lenOf pd_14 rfl) 0 (Nat.le_of_eq rfl) (own_dk hby dp28_3 2 rfl) (pc' := 7) rfl (by decide) (by decide) (by decide) (by decide) ?_
    intro T107 K107
    have A107 := own_here K107
    rw [show ((Int32.ofNat (([48, 48, 48, 48, 48, c5] : List Int32) : List Int32).length)) = (6 : Int32) from rfl]
    refine own_iconst A107 hx (pc' := 8) (own_dk hby dp28_3 3 rfl) (z := (5 : Int32)) (by decide) rfl ?_
    refine own_icmp_le A107 hx 28 11 (own_dk hby dp28_3 4 rfl) (by decide) (by decide) rfl (fun hc8 => ?_) (fun hc8 => ?_)
    · exact absurd hc8 (by decide)
    refine own_aloadN A107 hx (pc' := 12) (own_dk hby dp28_3 7 rfl) rfl rfl rfl ?_
    refine own_getF K107 hx (host := "") (Or.inl (own_w hw 204 rfl)) Via.refl Fl (own_dk hby dp28_3 8 rfl) (pc' := 15) rfl ?_
    intro T108 K108
    have A108 := own_here K108
    refine own_iconst A108 hx (pc' := 16) (own_dk hby dp28_3 9 rfl) (z := (5 : Int32)) (by decide) rfl ?_
    refine own_strCh K108 hx (by rw [hml]; rfl) (own_w hw 322 rfl) (own_w hw 323 rfl) (own_w hw 325 rfl) (own_w hw 324 rfl) (own_wc hw) (own_w hw 5 rfl) S (by intro c hc; simp only [List.mem_cons, List.not_mem_nil, or_false] at hc; rcases hc with rfl | rfl | rfl | rfl | rfl | rfl <;> first | decide | exact H5.2) O2 P5 O4 rG3 (i := 5) (Nat.le_of_ble_eq_true rfl) rfl (lenOf pd_20 rfl) 0 (Nat.le_of_eq rfl) (own_dk hby dp28_3 10 rfl) (pc' := 19) rfl (by decide) (by decide) (by decide) (by decide) ?_
    intro T109 K109
    have A109 := own_here K109
    show own_Go p.tables e below _ T109 (mkF m 19 #[.val (.ref x)] [(.int c5)])
    refine own_bipush A109 hx (pc' := 21) (own_dk hby dp28_3 11 rfl) (z := (100 : Int32)) (by decide) rfl ?_
    refine own_icmp_ne A109 hx 28 24 (own_dk hby dp28_3 12 rfl) (by decide) (by decide) rfl (fun hc21 => ?_) (fun hc21 => ?_)
    · refine own_iconst A109 hx (pc' := 29) (own_dk hby dp28_3 5 rfl) (z := (0 : Int32)) (by decide) rfl ?_
      exact own_retN K109 hx hlk hret (by simp) (own_dk hby dp28_3 6 rfl) (by decide) (by decide) ⟨by rw [own_del, if_neg (by decide), if_neg hc21]; rfl, rfl⟩
    · refine own_iconst A109 hx (pc' := 25) (own_dk hby dp28_3 13 rfl) (z := (1 : Int32)) (by decide) rfl ?_
      refine own_goto A109 hx 29 (own_dk hby dp28_3 14 rfl) (by decide) (by decide) ?_
      exact own_retN K109 hx hlk hret (by simp) (own_dk hby dp28_3 6 rfl) (by decide) (by decide) ⟨by rw [own_del, if_neg (by decide), if_pos hc21]; rfl, rfl⟩
theorem dp28_6 : ∀ r ∈ ([(0, .aload_n 0, 1), (1, .ldc 77, 2), (3, .invokevirtual 79, 3), (6, .astore_n 1, 1), (7, .aload_n 1, 1), (8, .ifnonnull 8, 3), (11, .ldc 83, 2), (13, .goto 4, 3), (17, .areturn, 1), (16, .aload_n 1, 1)] : List (Nat × Instr × Nat)), decode prog_28_method_6_code r.1 = .ok (r.2.1, r.2.2) := by decide +kernel
theorem pd_21 : parseMethodDescriptor "(Ljava/lang/String;)Ljava/lang/String;" = some ⟨[(.object "java/lang/String")], some (.object "java/lang/String")⟩ := by decide +kernel
theorem ef_rq_id (m : MethodId) (q_0 : Addr)  : entryFrame m #[(.ref q_0)] 2 = mkF m 0 #[.val (.ref q_0), .unset] [] := by  first | (simp [entryFrame, mkF, argsToLocals, Value.category]; done) | rfl
set_option maxRecDepth 65536 in
set_option maxHeartbeats 40000000 in
theorem rq_id (l : Launch) (Z : State) (a0 : Array Value) (hw : ∀ d ∈ tables_1, d.before a0 Z = true) (more : List Jvm.Cond) (h0 : Heap) (x : Addr) (L f s1 s2 : Addr) (z : Int32) (c0 c1 : Int32) (G1 : Int32) (O2 : Sta Z Z.heap "java/lang/String" "COMPACT_STRINGS" "Z" (.int G1)) (P5 : ¬ (G1 = (0 : Int32))) (aM : Addr) (SM : Sta Z Z.heap "java/util/ImmutableCollections" "EMPTY" "Ljava/lang/Object;" (.ref aM)) (aL : Addr) (SL : Sta Z Z.heap "java/util/ImmutableCollections" "EMPTY_LIST" "Ljava/util/ImmutableCollections$ListN;" (.ref aL)) (XL : Exa Z Z.heap aL "java/util/ImmutableCollections$ListN") (aE : Addr) (FE : Fld Z Z.heap aL "java/util/ImmutableCollections$ListN" "elements" "[Ljava/lang/Object;" (.ref aE)) (kE : ClassId) (AE : Arv Z Z.heap aE kE (.object "java/lang/Object") (0 : Int32) [] .null) (hz : z = 0 ∨ z = 1) (Xr : Exa Z h0 x "com/example/regalwerk/regalwerk/MarcRecord") (Fi : Fld Z h0 x "com/example/regalwerk/regalwerk/MarcRecord" "fields" "Ljava/util/List;" (.ref L)) (Fq : own_Fs Z h0 L z f aL aM) (Ef : Exa Z h0 f "com/example/regalwerk/regalwerk/ControlField") (Ft : Fld Z h0 f "com/example/regalwerk/regalwerk/ControlField" "tag" "Ljava/lang/String;" (.ref s1)) (Fv : Fld Z h0 f "com/example/regalwerk/regalwerk/ControlField" "value" "Ljava/lang/String;" (.ref s2)) (S1 : own_Str Z h0 s1 [48, 48, 49]) (S2 : own_Str Z h0 s2 [c0, c1]) :
    own_Met true false consts_1 l Z a0 (⟨"com/example/regalwerk/regalwerk/MarcRecord", "id", "()Ljava/lang/String;"⟩ : MethodName) prog_28_method_6_code 2 (some (.object "java/lang/String")) more ({ frames := 4, cells := 5, slots := 56, locals := 55 } : Room) #[(.ref x)] h0 [] (fun v h => ∃ d, v = some (.ref d) ∧ own_Str Z h d (own_id z c0 c1)) := by
  refine own_enter (own := "com/example/regalwerk/regalwerk/MarcRecord") rfl (plainFor_of_name pn_13) ?_
  intro p e s m below meth c T hx hby hml hret hlk hnm K
  rw [ef_rq_id m x]
  have A := own_here K
  refine own_aloadN A hx (pc' := 1) (own_dk hby dp28_6 0 rfl) rfl rfl rfl ?_
  refine own_ldcR (n := 12) (zn := (3 : Int32)) (vs := [(.int (48 : Int32)), (.int (48 : Int32)), (.int (49 : Int32))]) K hx (own_w hw 349 rfl) (own_sa hw) (by decide +kernel) ⟨by decide +kernel, by decide +kernel⟩ (by decide) (by decide) (own_dk hby dp28_6 1 rfl) (pc' := 3) rfl (by decide +kernel) (by decide) (by decide) (by decide) ?_
  intro b110 T110 h110 t110 kt110 K110 E110 X110 C110 V110 Y110 N110
  have Xr := Xr.ext E110
  have Fi := Fi.ext E110
  have Fq := Fq.ext E110
  have Ef := Ef.ext E110
  have Ft := Ft.ext E110
  have Fv := Fv.ext E110
  have S1 := S1.ext E110
  have S2 := S2.ext E110
  have A110 := own_here K110
  have S110 := own_Str.of0 (cs := [(48 : Int32), (48 : Int32), (49 : Int32)]) X110 V110 C110 Y110 rfl (by decide +kernel) (by decide +kernel) (by decide)
  refine own_callV K110 hx (by rw [hml]; rfl) (own_w hw 350 rfl) (own_w hw 226 rfl) (fun U hU => notFace_of_selects (args := #[]) (mvT hU (own_w hw 228 rfl))) (own_w hw 228 rfl) (own_w hw 227 rfl) (own_w hw 51 rfl) (own_w hw 229 rfl) (by decide) Xr (rq_cfd l Z a0 hw [] h110 x b110 L f s1 s2 z G1 O2 P5 aM SM aL SL XL aE FE kE AE Fi Fq Ef Ft Fv S1 S110) (fun _ q => nomatch q) (argsL := [(.ref b110)]) (rest := []) (lenOf pd_21 rfl) rfl 0 (Nat.le_of_eq rfl) (own_dk hby dp28_6 2 rfl) (pc' := 6) rfl (by decide) (by decide) (by decide) (by decide) ?_
  intro v111 T111 h111 K111 Kp111 Q111
  obtain rfl := Q111
  have Xr := Xr.keep Kp111
  have Fi := Fi.keep Kp111 nin0
  have Fq := Fq.keep Kp111 own_not0
  have Ef := Ef.keep Kp111
  have Ft := Ft.keep Kp111 nin0
  have Fv := Fv.keep Kp111 nin0
  have S1 := S1.keep Kp111 own_off0
  have S2 := S2.keep Kp111 own_off0
  have S110 := S110.keep Kp111 own_off0
  have A111 := own_here K111
  rcases hz with rfl | rfl
  · rw [own_cv, if_pos rfl]
    show own_Go p.tables e below _ T111 (mkF m 6 #[.val (.ref x), .unset] [.null])
    refine own_astoreN A111 hx (pc' := 7) #[.val (.ref x), .val .null] (own_dk hby dp28_6 3 rfl) rfl rfl rfl ?_
    refine own_aloadN A111 hx (pc' := 8) (own_dk hby dp28_6 4 rfl) rfl rfl rfl ?_
    refine own_ifnonnull_f A111 hx 11 (own_dk hby dp28_6 5 rfl) rfl ?_
    refine own_ldcR (n := 32) (zn := (8 : Int32)) (vs := [(.int (40 : Int32)), (.int (110 : Int32)), (.int (111 : Int32)), (.int (32 : Int32)), (.int (48 : Int32)), (.int (48 : Int32)), (.int (49 : Int32)), (.int (41 : Int32))]) K111 hx (own_w hw 374 rfl) (own_sa hw) (by decide +kernel) ⟨by decide +kernel, by decide +kernel⟩ (by decide) (by decide) (own_dk hby dp28_6 6 rfl) (pc' := 13) rfl (by decide +kernel) (by decide) (by decide) (by decide) ?_
    intro b112 T112 h112 t112 kt112 K112 E112 X112 C112 V112 Y112 N112
    have Xr := Xr.ext E112
    have S2 := S2.ext E112
    have A112 := own_here K112
    have S112 := own_Str.of0 (cs := [(40 : Int32), (110 : Int32), (111 : Int32), (32 : Int32), (48 : Int32), (48 : Int32), (49 : Int32), (41 : Int32)]) X112 V112 C112 Y112 rfl (by decide +kernel) (by decide +kernel) (by decide)
    refine own_goto A112 hx 17 (own_dk hby dp28_6 7 rfl) (by decide) (by decide) ?_
    exact own_retR K112 hx hlk hret rfl rfl (own_dk hby dp28_6 8 rfl) (by decide) (by decide) ⟨_, rfl, by rw [own_id, if_pos rfl]; exact S112⟩
  · rw [own_cv, if_neg (by decide)]
    show own_Go p.tables e below _ T111 (mkF m 6 #[.val (.ref x), .unset] [(.ref s2)])
    refine own_astoreN A111 hx (pc' := 7) #[.val (.ref x), .val (.ref s2)] (own_dk hby dp28_6 3 rfl) rfl rfl rfl ?_
    refine own_aloadN A111 hx (pc' := 8) (own_dk hby dp28_6 4 rfl) rfl rfl rfl ?_
    refine own_ifnonnull_t A111 hx 16 (own_dk hby dp28_6 5 rfl) (by decide) (by decide) ?_
    refine own_aloadN A111 hx (pc' := 17) (own_dk hby dp28_6 9 rfl) rfl rfl rfl ?_
    exact own_retR K111 hx hlk hret rfl rfl (own_dk hby dp28_6 8 rfl) (by decide) (by decide) ⟨_, rfl, by rw [own_id, if_neg (by decide)]; exact S2⟩
theorem dp13_1 : ∀ r ∈ ([(0, .aload_n 0, 1), (1, .invokespecial 3, 3), (4, .return_, 1)] : List (Nat × Instr × Nat)), decode prog_13_method_1_code r.1 = .ok (r.2.1, r.2.2) := by decide +kernel
theorem ef_rq_hli (m : MethodId) (q_0 : Addr)  : entryFrame m #[(.ref q_0)] 1 = mkF m 0 #[.val (.ref q_0)] [] := by  first | (simp [entryFrame, mkF, argsToLocals, Value.category]; done) | rfl
theorem pn_16 : plainName "com/example/regalwerk/regalwerk/HoldingsLinker" = true := by first | (simp [plainName, overriddenIn]; done) | decide +kernel
set_option maxRecDepth 65536 in
set_option maxHeartbeats 40000000 in
theorem rq_hli (l : Launch) (Z : State) (a0 : Array Value) (hw : ∀ d ∈ tables_1, d.before a0 Z = true) (more : List Jvm.Cond) (h0 : Heap) (x : Addr)   :
    own_Met true false consts_1 l Z a0 (⟨"com/example/regalwerk/regalwerk/HoldingsLinker", "<init>", "()V"⟩ : MethodName) prog_13_method_1_code 1 none more ({ frames := 1, cells := 0, slots := 0, locals := 12 } : Room) #[(.ref x)] h0 [] (fun v h => v = none ∧ h = h0) := by
  refine own_enter (own := "com/example/regalwerk/regalwerk/HoldingsLinker") rfl (plainFor_of_name pn_16) ?_
  intro p e s m below meth c T hx hby hml hret hlk hnm K
  rw [ef_rq_hli m x]
  have A := own_here K
  refine own_aloadN A hx (pc' := 1) (own_dk hby dp13_1 0 rfl) rfl rfl rfl ?_
  refine own_initO K hx (own_w hw 218 rfl) (own_w hw 21 rfl) (own_w hw 22 rfl) (by rw [hml]; rfl) 0 (Nat.le_of_eq rfl) (by decide) (by decide) (own_dk hby dp13_1 1 rfl) (pc' := 4) rfl ?_
  intro T113 K113
  have A113 := own_here K113
  exact own_retV K113 hx hlk hret (own_dk hby dp13_1 2 rfl) (by decide) (by decide) ⟨rfl, rfl⟩
theorem dp13_2 : ∀ r ∈ ([(0, .aload_n 0, 1), (1, .aload_n 1, 1), (2, .ldc 9, 2), (4, .invokevirtual 11, 3), (7, .putfield 15, 3), (10, .aload_n 0, 1), (11, .aload_n 1, 1), (12, .invokevirtual 21, 3), (15, .ifCond .eq 10, 3), (25, .aconst_null, 1), (26, .putfield 29, 3), (29, .aload_n 0, 1), (30, .aload_n 2, 1), (31, .putfield 32, 3), (34, .aload_n 0, 1), (35, .iconst 1, 1), (36, .putfield 36, 3), (39, .return_, 1), (18, .aload_n 1, 1), (19, .invokevirtual 25, 3), (22, .goto 4, 3)] : List (Nat × Instr × Nat)), decode prog_13_method_2_code r.1 = .ok (r.2.1, r.2.2) := by decide +kernel
theorem ef_rq_tit (m : MethodId) (q_0 : Addr) (q_1 : Addr)  : entryFrame m #[(.ref q_0), (.ref q_1), .null] 3 = mkF m 0 #[.val (.ref q_0), .val (.ref q_1), .val .null] [] := by  first | (simp [entryFrame, mkF, argsToLocals, Value.category]; done) | rfl
set_option maxRecDepth 65536 in
set_option maxHeartbeats 40000000 in
theorem rq_tit (l : Launch) (Z : State) (a0 : Array Value) (hw : ∀ d ∈ tables_1, d.before a0 Z = true) (more : List Jvm.Cond) (h0 : Heap) (x : Addr) (r : Addr) (L f s1 s2 : Addr) (z : Int32) (c0 c1 tz c5 : Int32) (ld : Addr) (v0 v1 v2 v3 : Value) (G1 : Int32) (O2 : Sta Z Z.heap "java/lang/String" "COMPACT_STRINGS" "Z" (.int G1)) (P5 : ¬ (G1 = (0 : Int32))) (G3 : Value) (O4 : Sta Z Z.heap "jdk/internal/util/Preconditions" "SIOOBE_FORMATTER" "Ljava/util/function/BiFunction;" G3) (rG3 : G3.isRef = true) (aM : Addr) (SM : Sta Z Z.heap "java/util/ImmutableCollections" "EMPTY" "Ljava/lang/Object;" (.ref aM)) (aL : Addr) (SL : Sta Z Z.heap "java/util/ImmutableCollections" "EMPTY_LIST" "Ljava/util/ImmutableCollections$ListN;" (.ref aL)) (XL : Exa Z Z.heap aL "java/util/ImmutableCollections$ListN") (aE : Addr) (FE : Fld Z Z.heap aL "java/util/ImmutableCollections$ListN" "elements" "[Ljava/lang/Object;" (.ref aE)) (kE : ClassId) (AE : Arv Z Z.heap aE kE (.object "java/lang/Object") (0 : Int32) [] .null) (hz : z = 0 ∨ z = 1) (htz : tz = 0 ∨ tz = 1) (H5 : ¬ c5 < 0 ∧ ¬ (255 : Int32) < c5) (E : Exa Z h0 x "com/example/regalwerk/regalwerk/HoldingsLinker") (Xr : Exa Z h0 r "com/example/regalwerk/regalwerk/MarcRecord") (G_titleId : Fld Z h0 x "com/example/regalwerk/regalwerk/HoldingsLinker" "titleId" "Ljava/lang/String;" v0) (G_deletedTitle : Fld Z h0 x "com/example/regalwerk/regalwerk/HoldingsLinker" "deletedTitle" "Ljava/lang/String;" v1) (G_titleCollection : Fld Z h0 x "com/example/regalwerk/regalwerk/HoldingsLinker" "titleCollection" "Lcom/example/regalwerk/regalwerk/SruCollection;" v2) (G_open : Fld Z h0 x "com/example/regalwerk/regalwerk/HoldingsLinker" "open" "Z" v3) (Fi : Fld Z h0 r "com/example/regalwerk/regalwerk/MarcRecord" "fields" "Ljava/util/List;" (.ref L)) (Fq : own_Fs Z h0 L z f aL aM) (Ef : Exa Z h0 f "com/example/regalwerk/regalwerk/ControlField") (Ft : Fld Z h0 f "com/example/regalwerk/regalwerk/ControlField" "tag" "Ljava/lang/String;" (.ref s1)) (Fv : Fld Z h0 f "com/example/regalwerk/regalwerk/ControlField" "value" "Ljava/lang/String;" (.ref s2)) (S1 : own_Str Z h0 s1 [48, 48, 49]) (S2 : own_Str Z h0 s2 [c0, c1]) (Fl : Fld Z h0 r "com/example/regalwerk/regalwerk/MarcRecord" "leader" "Ljava/lang/String;" (.ref ld)) (S : own_Str Z h0 ld (own_ld tz c5)) :
    own_Met true false consts_1 l Z a0 (⟨"com/example/regalwerk/regalwerk/HoldingsLinker", "title", "(Lcom/example/regalwerk/regalwerk/MarcRecord;Lcom/example/regalwerk/regalwerk/SruCollection;)V"⟩ : MethodName) prog_13_method_2_code 3 none more ({ frames := 5, cells := 8, slots := 76, locals := 69 } : Room) #[(.ref x), (.ref r), .null] h0 [x] (fun v h => v = none ∧ ∃ u, Fld Z h x "com/example/regalwerk/regalwerk/HoldingsLinker" "deletedTitle" "Ljava/lang/String;" u ∧ ((own_del tz c5 = 0 ∧ u = .null) ∨ (own_del tz c5 = 1 ∧ ∃ d, u = .ref d ∧ own_Str Z h d (own_id z c0 c1)))) := by
  refine own_enter (own := "com/example/regalwerk/regalwerk/HoldingsLinker") rfl (plainFor_of_name pn_16) ?_
  intro p e s m below meth c T hx hby hml hret hlk hnm K
  rw [ef_rq_tit m x r]
  have A := own_here K
  have nrx : r ≠ x := Xr.ne E (by decide)
  have nfx : f ≠ x := Ef.ne E (by decide)
  refine own_aloadN A hx (pc' := 1) (own_dk hby dp13_2 0 rfl) rfl rfl rfl ?_
  refine own_aloadN A hx (pc' := 2) (own_dk hby dp13_2 1 rfl) rfl rfl rfl ?_
  refine own_ldcR (n := 12) (zn := (3 : Int32)) (vs := [(.int (48 : Int32)), (.int (48 : Int32)), (.int (49 : Int32))]) K hx (own_w hw 224 rfl) (own_sa hw) (by decide +kernel) ⟨by decide +kernel, by decide +kernel⟩ (by decide) (by decide) (own_dk hby dp13_2 2 rfl) (pc' := 4) rfl (by decide +kernel) (by decide) (by decide) (by decide) ?_
  intro b114 T114 h114 t114 kt114 K114 E114 X114 C114 V114 Y114 N114
  have E := E.ext E114
  have G_titleId := G_titleId.ext E114
  have G_deletedTitle := G_deletedTitle.ext E114
  have G_titleCollection := G_titleCollection.ext E114
  have G_open := G_open.ext E114
  have Fi := Fi.ext E114
  have Fl := Fl.ext E114
  have S := S.ext E114
  have Fq := Fq.ext E114
  have Xr := Xr.ext E114
  have Ef := Ef.ext E114
  have Ft := Ft.ext E114
  have Fv := Fv.ext E114
  have S1 := S1.ext E114
  have S2 := S2.ext E114
  have A114 := own_here K114
  have S114 := own_Str.of0 (cs := [(48 : Int32), (48 : Int32), (49 : Int32)]) X114 V114 C114 Y114 rfl (by decide +kernel) (by decide +kernel) (by decide)
  refine own_callV K114 hx (by rw [hml]; rfl) (own_w hw 225 rfl) (own_w hw 226 rfl) (fun U hU => notFace_of_selects (args := #[]) (mvT hU (own_w hw 228 rfl))) (own_w hw 228 rfl) (own_w hw 227 rfl) (own_w hw 51 rfl) (own_w hw 229 rfl) (by decide) Xr (rq_cfd l Z a0 hw [] h114 r b114 L f s1 s2 z G1 O2 P5 aM SM aL SL XL aE FE kE AE Fi Fq Ef Ft Fv S1 S114) (fun _ q => nomatch q) (argsL := [(.ref b114)]) (rest := [(.ref x)]) (lenOf pd_21 rfl) rfl 1 (Nat.le_of_eq rfl) (own_dk hby dp13_2 3 rfl) (pc' := 7) rfl (by decide) (by decide) (by decide) (by decide) ?_
  intro v115 T115 h115 K115 Kp115 Q115
  obtain rfl := Q115
  have E := E.keep Kp115
  have G_titleId := G_titleId.keep Kp115 nin0
  have G_deletedTitle := G_deletedTitle.keep Kp115 nin0
  have G_titleCollection := G_titleCollection.keep Kp115 nin0
  have G_open := G_open.keep Kp115 nin0
  have Fi := Fi.keep Kp115 nin0
  have Fl := Fl.keep Kp115 nin0
  have S := S.keep Kp115 own_off0
  have Fq := Fq.keep Kp115 own_not0
  have Xr := Xr.keep Kp115
  have Ef := Ef.keep Kp115
  have Ft := Ft.keep Kp115 nin0
  have Fv := Fv.keep Kp115 nin0
  have S1 := S1.keep Kp115 own_off0
  have S2 := S2.keep Kp115 own_off0
  have S114 := S114.keep Kp115 own_off0
  have A115 := own_here K115
  obtain ⟨u0, eu0⟩ : ∃ u, u = own_cv z s2 := ⟨_, rfl⟩
  have hr_u0 : u0.isRef = true := by rw [eu0]; exact own_cvR _ _
  rw [← eu0]
  show own_Go p.tables e below _ T115 (mkF m 7 #[.val (.ref x), .val (.ref r), .val .null] [u0, (.ref x)])
  refine own_putF K115 hx (host := "") (Or.inl (own_w hw 305 rfl)) Via.refl G_titleId E (Or.inl (own_w hw 306 rfl)) (own_w hw 213 rfl) (ty := (.object "java/lang/String")) (by decide) rfl (own_fits hr_u0) (List.mem_of_getElem? (i := 0) rfl) (own_dk hby dp13_2 4 rfl) (pc' := 10) rfl ?_
  intro T116 h116 K116 W116
  have off_W116 := (own_Off.exa E (own_w hw 213 rfl) (by decide))
  have fsn_W116 := own_not1 E (by decide)
  have E := E.wr W116
  have Fi := Fi.other W116 (Or.inl nrx)
  have Fl := Fl.other W116 (Or.inl nrx)
  have S := S.wr W116 off_W116
  have Fq := Fq.keep (Keep.of_wr W116) fsn_W116
  have Xr := Xr.wr W116
  have Ef := Ef.wr W116
  have Ft := Ft.other W116 (Or.inl nfx)
  have Fv := Fv.other W116 (Or.inl nfx)
  have S1 := S1.wr W116 off_W116
  have S2 := S2.wr W116 off_W116
  have G_titleId := G_titleId.same W116
  have G_deletedTitle := G_deletedTitle.other W116 (Or.inr (slot_ne (Or.inl (own_w hw 352 rfl)) (Or.inl (own_w hw 306 rfl)) (by decide) (t := (.object "java/lang/String")) (t' := (.object "java/lang/String")) (by decide) (by decide)))
  have G_titleCollection := G_titleCollection.other W116 (Or.inr (slot_ne (Or.inl (own_w hw 354 rfl)) (Or.inl (own_w hw 306 rfl)) (by decide) (t := (.object "com/example/regalwerk/regalwerk/SruCollection")) (t' := (.object "java/lang/String")) (by decide) (by decide)))
  have G_open := G_open.other W116 (Or.inr (slot_ne (Or.inl (own_w hw 356 rfl)) (Or.inl (own_w hw 306 rfl)) (by decide) (t := .boolean) (t' := (.object "java/lang/String")) (by decide) (by decide)))
  have A116 := own_here K116
  refine own_aloadN A116 hx (pc' := 11) (own_dk hby dp13_2 5 rfl) rfl rfl rfl ?_
  refine own_aloadN A116 hx (pc' := 12) (own_dk hby dp13_2 6 rfl) rfl rfl rfl ?_
  refine own_callV K116 hx (by rw [hml]; rfl) (own_w hw 307 rfl) (own_w hw 308 rfl) (fun U hU => notFace_of_selects (args := #[]) (mvT hU (own_w hw 310 rfl))) (own_w hw 310 rfl) (own_w hw 309 rfl) (own_w hw 51 rfl) (own_w hw 311 rfl) (by decide) Xr (rq_del l Z a0 hw [] h116 r tz c5 ld G1 O2 P5 G3 O4 rG3 htz H5 Fl S) (fun _ q => nomatch q) (argsL := []) (rest := [(.ref x)]) (lenOf pd_10 rfl) rfl 1 (Nat.le_of_eq rfl) (own_dk hby dp13_2 7 rfl) (pc' := 15) rfl (by decide) (by decide) (by decide) (by decide) ?_
  intro v117 T117 h117 K117 Kp117 Q117
  obtain ⟨rfl, rfl⟩ := Q117
  have E := E.keep Kp117
  have G_titleId := G_titleId.keep Kp117 nin0
  have G_deletedTitle := G_deletedTitle.keep Kp117 nin0
  have G_titleCollection := G_titleCollection.keep Kp117 nin0
  have G_open := G_open.keep Kp117 nin0
  have Fi := Fi.keep Kp117 nin0
  have Fl := Fl.keep Kp117 nin0
  have S := S.keep Kp117 own_off0
  have Fq := Fq.keep Kp117 own_not0
  have Xr := Xr.keep Kp117
  have Ef := Ef.keep Kp117
  have Ft := Ft.keep Kp117 nin0
  have Fv := Fv.keep Kp117 nin0
  have S1 := S1.keep Kp117 own_off0
  have S2 := S2.keep Kp117 own_off0
  have A117 := own_here K117
  show own_Go p.tables e below _ T117 (mkF m 15 #[.val (.ref x), .val (.ref r), .val .null] [(.int (own_del tz c5)), (.ref x)])
  refine own_if_eq A117 hx 25 18 (own_dk hby dp13_2 8 rfl) (by decide) (by decide) rfl (fun hc15 => ?_) (fun hc15 => ?_)
  · refine own_null A117 hx (pc' := 26) (own_dk hby dp13_2 9 rfl) rfl ?_
    refine own_putF K117 hx (host := "") (Or.inl (own_w hw 351 rfl)) Via.refl G_deletedTitle E (Or.inl (own_w hw 352 rfl)) (own_w hw 213 rfl) (ty := (.object "java/lang/String")) (by decide) rfl rfl (List.mem_of_getElem? (i := 0) rfl) (own_dk hby dp13_2 10 rfl) (pc' := 29) rfl ?_
    intro T118 h118 K118 W118
    have E := E.wr W118
    have Xr := Xr.wr W118
    have G_titleId := G_titleId.other W118 (Or.inr (slot_ne (Or.inl (own_w hw 306 rfl)) (Or.inl (own_w hw 352 rfl)) (by decide) (t := (.object "java/lang/String")) (t' := (.object "java/lang/String")) (by decide) (by decide)))
    have G_deletedTitle := G_deletedTitle.same W118
    have G_titleCollection := G_titleCollection.other W118 (Or.inr (slot_ne (Or.inl (own_w hw 354 rfl)) (Or.inl (own_w hw 352 rfl)) (by decide) (t := (.object "com/example/regalwerk/regalwerk/SruCollection")) (t' := (.object "java/lang/String")) (by decide) (by decide)))
    have G_open := G_open.other W118 (Or.inr (slot_ne (Or.inl (own_w hw 356 rfl)) (Or.inl (own_w hw 352 rfl)) (by decide) (t := .boolean) (t' := (.object "java/lang/String")) (by decide) (by decide)))
    have A118 := own_here K118
    refine own_aloadN A118 hx (pc' := 30) (own_dk hby dp13_2 11 rfl) rfl rfl rfl ?_
    refine own_aloadN A118 hx (pc' := 31) (own_dk hby dp13_2 12 rfl) rfl rfl rfl ?_
    refine own_putF K118 hx (host := "") (Or.inl (own_w hw 353 rfl)) Via.refl G_titleCollection E (Or.inl (own_w hw 354 rfl)) (own_w hw 213 rfl) (ty := (.object "com/example/regalwerk/regalwerk/SruCollection")) (by decide) rfl rfl (List.mem_of_getElem? (i := 0) rfl) (own_dk hby dp13_2 13 rfl) (pc' := 34) rfl ?_
    intro T119 h119 K119 W119
    have E := E.wr W119
    have Xr := Xr.wr W119
    have G_titleId := G_titleId.other W119 (Or.inr (slot_ne (Or.inl (own_w hw 306 rfl)) (Or.inl (own_w hw 354 rfl)) (by decide) (t := (.object "java/lang/String")) (t' := (.object "com/example/regalwerk/regalwerk/SruCollection")) (by decide) (by decide)))
    have G_deletedTitle := G_deletedTitle.other W119 (Or.inr (slot_ne (Or.inl (own_w hw 352 rfl)) (Or.inl (own_w hw 354 rfl)) (by decide) (t := (.object "java/lang/String")) (t' := (.object "com/example/regalwerk/regalwerk/SruCollection")) (by decide) (by decide)))
    have G_titleCollection := G_titleCollection.same W119
    have G_open := G_open.other W119 (Or.inr (slot_ne (Or.inl (own_w hw 356 rfl)) (Or.inl (own_w hw 354 rfl)) (by decide) (t := .boolean) (t' := (.object "com/example/regalwerk/regalwerk/SruCollection")) (by decide) (by decide)))
    have A119 := own_here K119
    refine own_aloadN A119 hx (pc' := 35) (own_dk hby dp13_2 14 rfl) rfl rfl rfl ?_
    refine own_iconst A119 hx (pc' := 36) (own_dk hby dp13_2 15 rfl) (z := (1 : Int32)) (by decide) rfl ?_
    refine own_putF K119 hx (host := "") (Or.inl (own_w hw 355 rfl)) Via.refl G_open E (Or.inl (own_w hw 356 rfl)) (own_w hw 213 rfl) (ty := .boolean) (by decide) (by decide) (by decide) (List.mem_of_getElem? (i := 0) rfl) (own_dk hby dp13_2 16 rfl) (pc' := 39) rfl ?_
    intro T120 h120 K120 W120
    have E := E.wr W120
    have Xr := Xr.wr W120
    have G_titleId := G_titleId.other W120 (Or.inr (slot_ne (Or.inl (own_w hw 306 rfl)) (Or.inl (own_w hw 356 rfl)) (by decide) (t := (.object "java/lang/String")) (t' := .boolean) (by decide) (by decide)))
    have G_deletedTitle := G_deletedTitle.other W120 (Or.inr (slot_ne (Or.inl (own_w hw 352 rfl)) (Or.inl (own_w hw 356 rfl)) (by decide) (t := (.object "java/lang/String")) (t' := .boolean) (by decide) (by decide)))
    have G_titleCollection := G_titleCollection.other W120 (Or.inr (slot_ne (Or.inl (own_w hw 354 rfl)) (Or.inl (own_w hw 356 rfl)) (by decide) (t := (.object "com/example/regalwerk/regalwerk/SruCollection")) (t' := .boolean) (by decide) (by decide)))
    have G_open := G_open.same W120
    have A120 := own_here K120
    exact own_retV K120 hx hlk hret (own_dk hby dp13_2 17 rfl) (by decide) (by decide) ⟨rfl, _, G_deletedTitle, Or.inl ⟨hc15, rfl⟩⟩
  · refine own_aloadN A117 hx (pc' := 19) (own_dk hby dp13_2 18 rfl) rfl rfl rfl ?_
    refine own_callV K117 hx (by rw [hml]; rfl) (own_w hw 344 rfl) (own_w hw 345 rfl) (fun U hU => notFace_of_selects (args := #[]) (mvT hU (own_w hw 347 rfl))) (own_w hw 347 rfl) (own_w hw 346 rfl) (own_w hw 51 rfl) (own_w hw 348 rfl) (by decide) Xr (rq_id l Z a0 hw [] h117 r L f s1 s2 z c0 c1 G1 O2 P5 aM SM aL SL XL aE FE kE AE hz Xr Fi Fq Ef Ft Fv S1 S2) (fun _ q => nomatch q) (argsL := []) (rest := [(.ref x)]) (lenOf pd_19 rfl) rfl 1 (Nat.le_of_eq rfl) (own_dk hby dp13_2 19 rfl) (pc' := 22) rfl (by decide) (by decide) (by decide) (by decide) ?_
    intro v121 T121 h121 K121 Kp121 Q121
    obtain ⟨d, rfl, Sd⟩ := Q121
    have E := E.keep Kp121
    have G_titleId := G_titleId.keep Kp121 nin0
    have G_deletedTitle := G_deletedTitle.keep Kp121 nin0
    have G_titleCollection := G_titleCollection.keep Kp121 nin0
    have G_open := G_open.keep Kp121 nin0
    have Fi := Fi.keep Kp121 nin0
    have Fl := Fl.keep Kp121 nin0
    have S := S.keep Kp121 own_off0
    have Fq := Fq.keep Kp121 own_not0
    have Xr := Xr.keep Kp121
    have Ef := Ef.keep Kp121
    have Ft := Ft.keep Kp121 nin0
    have Fv := Fv.keep Kp121 nin0
    have S1 := S1.keep Kp121 own_off0
    have S2 := S2.keep Kp121 own_off0
    have A121 := own_here K121
    show own_Go p.tables e below _ T121 (mkF m 22 #[.val (.ref x), .val (.ref r), .val .null] [(.ref d), (.ref x)])
    refine own_goto A121 hx 26 (own_dk hby dp13_2 20 rfl) (by decide) (by decide) ?_
    refine own_putF K121 hx (host := "") (Or.inl (own_w hw 351 rfl)) Via.refl G_deletedTitle E (Or.inl (own_w hw 352 rfl)) (own_w hw 213 rfl) (ty := (.object "java/lang/String")) (by decide) rfl rfl (List.mem_of_getElem? (i := 0) rfl) (own_dk hby dp13_2 10 rfl) (pc' := 29) rfl ?_
    intro T122 h122 K122 W122
    have off_W122 := (own_Off.exa E (own_w hw 213 rfl) (by decide))
    have E := E.wr W122
    have Xr := Xr.wr W122
    have Sd := Sd.wr W122 off_W122
    have G_titleId := G_titleId.other W122 (Or.inr (slot_ne (Or.inl (own_w hw 306 rfl)) (Or.inl (own_w hw 352 rfl)) (by decide) (t := (.object "java/lang/String")) (t' := (.object "java/lang/String")) (by decide) (by decide)))
    have G_deletedTitle := G_deletedTitle.same W122
    have G_titleCollection := G_titleCollection.other W122 (Or.inr (slot_ne (Or.inl (own_w hw 354 rfl)) (Or.inl (own_w hw 352 rfl)) (by decide) (t := (.object "com/example/regalwerk/regalwerk/SruCollection")) (t' := (.object "java/lang/String")) (by decide) (by decide)))
    have G_open := G_open.other W122 (Or.inr (slot_ne (Or.inl (own_w hw 356 rfl)) (Or.inl (own_w hw 352 rfl)) (by decide) (t := .boolean) (t' := (.object "java/lang/String")) (by decide) (by decide)))
    have A122 := own_here K122
    refine own_aloadN A122 hx (pc' := 30) (own_dk hby dp13_2 11 rfl) rfl rfl rfl ?_
    refine own_aloadN A122 hx (pc' := 31) (own_dk hby dp13_2 12 rfl) rfl rfl rfl ?_
    refine own_putF K122 hx (host := "") (Or.inl (own_w hw 353 rfl)) Via.refl G_titleCollection E (Or.inl (own_w hw 354 rfl)) (own_w hw 213 rfl) (ty := (.object "com/example/regalwerk/regalwerk/SruCollection")) (by decide) rfl rfl (List.mem_of_getElem? (i := 0) rfl) (own_dk hby dp13_2 13 rfl) (pc' := 34) rfl ?_
    intro T123 h123 K123 W123
    have off_W123 := (own_Off.exa E (own_w hw 213 rfl) (by decide))
    have E := E.wr W123
    have Xr := Xr.wr W123
    have Sd := Sd.wr W123 off_W123
    have G_titleId := G_titleId.other W123 (Or.inr (slot_ne (Or.inl (own_w hw 306 rfl)) (Or.inl (own_w hw 354 rfl)) (by decide) (t := (.object "java/lang/String")) (t' := (.object "com/example/regalwerk/regalwerk/SruCollection")) (by decide) (by decide)))
    have G_deletedTitle := G_deletedTitle.other W123 (Or.inr (slot_ne (Or.inl (own_w hw 352 rfl)) (Or.inl (own_w hw 354 rfl)) (by decide) (t := (.object "java/lang/String")) (t' := (.object "com/example/regalwerk/regalwerk/SruCollection")) (by decide) (by decide)))
    have G_titleCollection := G_titleCollection.same W123
    have G_open := G_open.other W123 (Or.inr (slot_ne (Or.inl (own_w hw 356 rfl)) (Or.inl (own_w hw 354 rfl)) (by decide) (t := .boolean) (t' := (.object "com/example/regalwerk/regalwerk/SruCollection")) (by decide) (by decide)))
    have A123 := own_here K123
    refine own_aloadN A123 hx (pc' := 35) (own_dk hby dp13_2 14 rfl) rfl rfl rfl ?_
    refine own_iconst A123 hx (pc' := 36) (own_dk hby dp13_2 15 rfl) (z := (1 : Int32)) (by decide) rfl ?_
    refine own_putF K123 hx (host := "") (Or.inl (own_w hw 355 rfl)) Via.refl G_open E (Or.inl (own_w hw 356 rfl)) (own_w hw 213 rfl) (ty := .boolean) (by decide) (by decide) (by decide) (List.mem_of_getElem? (i := 0) rfl) (own_dk hby dp13_2 16 rfl) (pc' := 39) rfl ?_
    intro T124 h124 K124 W124
    have off_W124 := (own_Off.exa E (own_w hw 213 rfl) (by decide))
    have E := E.wr W124
    have Xr := Xr.wr W124
    have Sd := Sd.wr W124 off_W124
    have G_titleId := G_titleId.other W124 (Or.inr (slot_ne (Or.inl (own_w hw 306 rfl)) (Or.inl (own_w hw 356 rfl)) (by decide) (t := (.object "java/lang/String")) (t' := .boolean) (by decide) (by decide)))
    have G_deletedTitle := G_deletedTitle.other W124 (Or.inr (slot_ne (Or.inl (own_w hw 352 rfl)) (Or.inl (own_w hw 356 rfl)) (by decide) (t := (.object "java/lang/String")) (t' := .boolean) (by decide) (by decide)))
    have G_titleCollection := G_titleCollection.other W124 (Or.inr (slot_ne (Or.inl (own_w hw 354 rfl)) (Or.inl (own_w hw 356 rfl)) (by decide) (t := (.object "com/example/regalwerk/regalwerk/SruCollection")) (t' := .boolean) (by decide) (by decide)))
    have G_open := G_open.same W124
    have A124 := own_here K124
    exact own_retV K124 hx hlk hret (own_dk hby dp13_2 17 rfl) (by decide) (by decide) ⟨rfl, _, G_deletedTitle, Or.inr ⟨(own_del01 tz c5).resolve_left hc15, _, rfl, Sd⟩⟩
theorem own_na (a b : Nat) : Int32.ofNat a + Int32.ofNat b = Int32.ofNat (a + b) := (Int32.ofNat_add a b).symm
theorem own_ns {a b : Nat} (h : b ≤ a) : Int32.ofNat a - Int32.ofNat b = Int32.ofNat (a - b) := by
  have e := own_na (a - b) b
  rw [Nat.sub_add_cancel h] at e
  rw [← e, Int32.add_sub_cancel]
theorem own_shr0 (x : Int32) : x >>> ((0 : Int32) &&& 31) = x := by
  rw [show ((0 : Int32) &&& 31) = 0 from by decide]
  apply Int32.toBitVec_inj.mp; simp
theorem own_shl0 (x : Int32) : x <<< ((0 : Int32) &&& 31) = x := by
  rw [show ((0 : Int32) &&& 31) = 0 from by decide]
  apply Int32.toBitVec_inj.mp; simp
theorem own_nti {a : Nat} (h : a ≤ 1000) : (Int32.ofNat a).toInt = a := Int32.toInt_ofNat_small (by omega)
theorem own_nlt {a b : Nat} (ha : a ≤ 1000) (hbd : b ≤ 1000) (h : a < b) : Int32.ofNat a < Int32.ofNat b := by rw [Int32.lt_iff_toInt_lt, own_nti ha, own_nti hbd]; omega
theorem own_nge {a b : Nat} (ha : a ≤ 1000) (hbd : b ≤ 1000) (h : b ≤ a) : ¬ Int32.ofNat a < Int32.ofNat b := by rw [Int32.lt_iff_toInt_lt, own_nti ha, own_nti hbd]; omega
theorem own_npos {a : Nat} (ha : a ≤ 1000) (h : 0 < a) : (0 : Int32) < Int32.ofNat a := own_nlt (a := 0) (by decide) ha h
theorem own_nbig {a : Nat} (ha : a ≤ 1000) : ¬ (2147483639 : Int32) < Int32.ofNat a := by rw [Int32.lt_iff_toInt_lt, own_nti ha]; have : (2147483639 : Int32).toInt = 2147483639 := rfl; omega
theorem own_nmx {a : Nat} (ha : a ≤ 1000) : ¬ Int32.ofNat a = 2147483647 := fun q => by have e := congrArg Int32.toInt q; rw [own_nti ha] at e; have : (2147483647 : Int32).toInt = 2147483647 := rfl; omega
theorem own_nsn {a b : Nat} (h : a ≤ b) (hbd : b ≤ 1000) : ¬ (0 : Int32) < Int32.ofNat a - Int32.ofNat b := by
  obtain ⟨k, rfl⟩ : ∃ k, b = a + k := ⟨b - a, by omega⟩
  have e : Int32.ofNat a - Int32.ofNat (a + k) = 0 - Int32.ofNat k := by rw [← Int32.neg_sub, own_ns (by omega), show a + k - a = k by omega, Int32.zero_sub]
  have t : ∀ j : Fin 1001, ¬ (0 : Int32) < 0 - Int32.ofNat j.val := by decide +kernel
  rw [e]; exact t ⟨k, by omega⟩
theorem own_nmax {a b : Nat} (ha : a ≤ 1000) (hbd : b ≤ 1000) : (if Int32.ofNat a < Int32.ofNat b then Int32.ofNat b else Int32.ofNat a) = Int32.ofNat (max a b) := by
  by_cases q : a < b
  · rw [if_pos (own_nlt ha hbd q), Nat.max_eq_right (by omega)]
  · rw [if_neg (own_nge ha hbd (by omega)), Nat.max_eq_left (by omega)]
theorem dj68_2 : ∀ r ∈ ([(0, .aload_n 0, 1), (1, .invokespecial 3, 3), (4, .getstatic 18, 3), (7, .ifCond .eq 18, 3), (10, .aload_n 0, 1), (11, .iload_n 1, 1), (12, .newarray .byte, 2), (14, .putfield 15, 3), (17, .aload_n 0, 1), (18, .iconst 0, 1), (19, .putfield 22, 3), (22, .goto 16, 3), (38, .return_, 1)] : List (Nat × Instr × Nat)), decode jdk_68_method_2_code r.1 = .ok (r.2.1, r.2.2) := by decide +kernel
theorem ef_rq_asb (m : MethodId) (q_0 : Addr)  : entryFrame m #[(.ref q_0), (.int (16 : Int32))] 2 = mkF m 0 #[.val (.ref q_0), .val (.int (16 : Int32))] [] := by  first | (simp [entryFrame, mkF, argsToLocals, Value.category]; done) | rfl
theorem pn_17 : plainName "java/lang/AbstractStringBuilder" = true := by first | (simp [plainName, overriddenIn]; done) | decide +kernel
set_option maxRecDepth 65536 in
set_option maxHeartbeats 40000000 in
theorem rq_asb (l : Launch) (Z : State) (a0 : Array Value) (hw : ∀ d ∈ tables_1, d.before a0 Z = true) (more : List Jvm.Cond) (h0 : Heap) (x : Addr) (v0 v1 v2 : Value) (G1 : Int32) (O2 : Sta Z Z.heap "java/lang/String" "COMPACT_STRINGS" "Z" (.int G1)) (P5 : ¬ (G1 = (0 : Int32))) (E : Exa Z h0 x "java/lang/StringBuilder") (Bv : Fld Z h0 x "java/lang/AbstractStringBuilder" "value" "[B" v0) (Bc : Fld Z h0 x "java/lang/AbstractStringBuilder" "coder" "B" v1) (Bn : Fld Z h0 x "java/lang/AbstractStringBuilder" "count" "I" v2) :
    own_Met true false consts_1 l Z a0 (⟨"java/lang/AbstractStringBuilder", "<init>", "(I)V"⟩ : MethodName) jdk_68_method_2_code 2 none more ({ frames := 1, cells := 1, slots := 16, locals := 12 } : Room) #[(.ref x), (.int (16 : Int32))] h0 [x] (fun v h => v = none ∧ ∃ t k, Fld Z h x "java/lang/AbstractStringBuilder" "value" "[B" (.ref t) ∧ Fld Z h x "java/lang/AbstractStringBuilder" "coder" "B" (.int (0 : Int32)) ∧ Fld Z h x "java/lang/AbstractStringBuilder" "count" "I" v2 ∧ Arv Z h t k .byte (Int32.ofNat 16) (own_ct [] 16) (.int (0 : Int32))) := by
  refine own_enter (own := "java/lang/AbstractStringBuilder") rfl (plainFor_of_name pn_17) ?_
  intro p e s m below meth c T hx hby hml hret hlk hnm K
  rw [ef_rq_asb m x]
  have A := own_here K
  refine own_aloadN A hx (pc' := 1) (own_dk hby dj68_2 0 rfl) rfl rfl rfl ?_
  refine own_initO K hx (own_w hw 387 rfl) (own_w hw 21 rfl) (own_w hw 22 rfl) (by rw [hml]; rfl) 0 (Nat.le_of_eq rfl) (by decide) (by decide) (own_dk hby dj68_2 1 rfl) (pc' := 4) rfl ?_
  intro T125 K125
  have A125 := own_here K125
  refine own_getS K125 hx (host := "") (Or.inl (own_w hw 388 rfl)) Via.refl O2 (own_dk hby dj68_2 2 rfl) (pc' := 7) rfl ?_
  intro T126 K126
  have A126 := own_here K126
  refine own_if_eq A126 hx 25 10 (own_dk hby dj68_2 3 rfl) (by decide) (by decide) rfl (fun hc7 => ?_) (fun hc7 => ?_)
  · exact absurd hc7 P5
  refine own_aloadN A126 hx (pc' := 11) (own_dk hby dj68_2 4 rfl) rfl rfl rfl ?_
  refine own_iloadN A126 hx (pc' := 12) (own_dk hby dj68_2 5 rfl) rfl rfl ?_
  refine own_newarr K126 hx (own_w hw 6 rfl) (own_dk hby dj68_2 6 rfl) (pc' := 14) rfl (by decide) 16 (by decide) (by decide) (by decide) (by decide) ?_
  intro T127 h127 b127 k127 g127 K127 E127 V127
  have ne_x_b127 : x ≠ b127 := by rw [g127]; exact Nat.ne_of_lt E.lt
  have E := E.ext E127
  have Bv := Bv.ext E127
  have Bc := Bc.ext E127
  have Bn := Bn.ext E127
  have A127 := own_here K127
  have V127 : Arv Z h127 b127 k127 .byte (16 : Int32) [(.int (0 : Int32)), (.int (0 : Int32)), (.int (0 : Int32)), (.int (0 : Int32)), (.int (0 : Int32)), (.int (0 : Int32)), (.int (0 : Int32)), (.int (0 : Int32)), (.int (0 : Int32)), (.int (0 : Int32)), (.int (0 : Int32)), (.int (0 : Int32)), (.int (0 : Int32)), (.int (0 : Int32)), (.int (0 : Int32)), (.int (0 : Int32))] (.int (0 : Int32)) := V127.pad (pad_rep [] (.int (0 : Int32)) 16)
  refine own_putF K127 hx (host := "") (Or.inl (own_w hw 389 rfl)) Via.refl Bv E (Or.inl (own_w hw 390 rfl)) (own_w hw 376 rfl) (ty := (.array .byte)) (by decide) rfl rfl (List.mem_of_getElem? (i := 1) rfl) (own_dk hby dj68_2 7 rfl) (pc' := 17) rfl ?_
  intro T128 h128 K128 W128
  have E := E.wr W128
  have V127 := V127.other W128 (Ne.symm ne_x_b127)
  have Bv := Bv.same W128
  have Bc := Bc.other W128 (Or.inr (slot_ne (Or.inl (own_w hw 392 rfl)) (Or.inl (own_w hw 390 rfl)) (by decide) (t := .byte) (t' := (.array .byte)) (by decide) (by decide)))
  have Bn := Bn.other W128 (Or.inr (slot_ne (Or.inl (own_w hw 406 rfl)) (Or.inl (own_w hw 390 rfl)) (by decide) (t := .int) (t' := (.array .byte)) (by decide) (by decide)))
  have A128 := own_here K128
  refine own_aloadN A128 hx (pc' := 18) (own_dk hby dj68_2 8 rfl) rfl rfl rfl ?_
  refine own_iconst A128 hx (pc' := 19) (own_dk hby dj68_2 9 rfl) (z := (0 : Int32)) (by decide) rfl ?_
  refine own_putF K128 hx (host := "") (Or.inl (own_w hw 391 rfl)) Via.refl Bc E (Or.inl (own_w hw 392 rfl)) (own_w hw 376 rfl) (ty := .byte) (by decide) (by decide) (by decide) (List.mem_of_getElem? (i := 1) rfl) (own_dk hby dj68_2 10 rfl) (pc' := 22) rfl ?_
  intro T129 h129 K129 W129
  have E := E.wr W129
  have V127 := V127.other W129 (Ne.symm ne_x_b127)
  have Bv := Bv.other W129 (Or.inr (slot_ne (Or.inl (own_w hw 390 rfl)) (Or.inl (own_w hw 392 rfl)) (by decide) (t := (.array .byte)) (t' := .byte) (by decide) (by decide)))
  have Bc := Bc.same W129
  have Bn := Bn.other W129 (Or.inr (slot_ne (Or.inl (own_w hw 406 rfl)) (Or.inl (own_w hw 392 rfl)) (by decide) (t := .int) (t' := .byte) (by decide) (by decide)))
  have A129 := own_here K129
  refine own_goto A129 hx 38 (own_dk hby dj68_2 11 rfl) (by decide) (by decide) ?_
  exact own_retV K129 hx hlk hret (own_dk hby dj68_2 12 rfl) (by decide) (by decide) ⟨rfl, _, _, Bv, Bc, Bn, V127⟩
theorem dj67_1 : ∀ r ∈ ([(0, .aload_n 0, 1), (1, .bipush 16, 2), (3, .invokespecial 1, 3), (6, .return_, 1)] : List (Nat × Instr × Nat)), decode jdk_67_method_1_code r.1 = .ok (r.2.1, r.2.2) := by decide +kernel
theorem pd_22 : parseMethodDescriptor "(I)V" = some ⟨[.int], none⟩ := by decide +kernel
theorem ef_rq_sbi (m : MethodId) (q_0 : Addr)  : entryFrame m #[(.ref q_0)] 1 = mkF m 0 #[.val (.ref q_0)] [] := by  first | (simp [entryFrame, mkF, argsToLocals, Value.category]; done) | rfl
theorem pn_18 : plainName "java/lang/StringBuilder" = true := by first | (simp [plainName, overriddenIn]; done) | decide +kernel
set_option maxRecDepth 65536 in
set_option maxHeartbeats 40000000 in
theorem rq_sbi (l : Launch) (Z : State) (a0 : Array Value) (hw : ∀ d ∈ tables_1, d.before a0 Z = true) (more : List Jvm.Cond) (h0 : Heap) (x : Addr) (v0 v1 v2 : Value) (G1 : Int32) (O2 : Sta Z Z.heap "java/lang/String" "COMPACT_STRINGS" "Z" (.int G1)) (P5 : ¬ (G1 = (0 : Int32))) (E : Exa Z h0 x "java/lang/StringBuilder") (Bv : Fld Z h0 x "java/lang/AbstractStringBuilder" "value" "[B" v0) (Bc : Fld Z h0 x "java/lang/AbstractStringBuilder" "coder" "B" v1) (Bn : Fld Z h0 x "java/lang/AbstractStringBuilder" "count" "I" v2) :
    own_Met true false consts_1 l Z a0 (⟨"java/lang/StringBuilder", "<init>", "()V"⟩ : MethodName) jdk_67_method_1_code 1 none more ({ frames := 2, cells := 1, slots := 16, locals := 25 } : Room) #[(.ref x)] h0 [x] (fun v h => v = none ∧ ∃ t k, Fld Z h x "java/lang/AbstractStringBuilder" "value" "[B" (.ref t) ∧ Fld Z h x "java/lang/AbstractStringBuilder" "coder" "B" (.int (0 : Int32)) ∧ Fld Z h x "java/lang/AbstractStringBuilder" "count" "I" v2 ∧ Arv Z h t k .byte (Int32.ofNat 16) (own_ct [] 16) (.int (0 : Int32))) := by
  refine own_enter (own := "java/lang/StringBuilder") rfl (plainFor_of_name pn_18) ?_
  intro p e s m below meth c T hx hby hml hret hlk hnm K
  rw [ef_rq_sbi m x]
  have A := own_here K
  refine own_aloadN A hx (pc' := 1) (own_dk hby dj67_1 0 rfl) rfl rfl rfl ?_
  refine own_bipush A hx (pc' := 3) (own_dk hby dj67_1 1 rfl) (z := (16 : Int32)) (by decide) rfl ?_
  refine own_callSp K hx (by rw [hml]; rfl) rfl (own_w hw 381 rfl) (own_w hw 382 rfl) (own_w hw 385 rfl) (own_w hw 386 rfl) (by decide) (rq_asb l Z a0 hw [] h0 x v0 v1 v2 G1 O2 P5 E Bv Bc Bn) (own_mem1 (List.mem_of_getElem? (i := 0) rfl)) (argsL := [(.int (16 : Int32))]) (rest := []) (lenOf pd_22 rfl) rfl 0 (Nat.le_of_eq rfl) (own_dk hby dj67_1 2 rfl) (pc' := 6) rfl (by decide) (by decide) (by decide) (by decide) ?_
  intro v130 T130 h130 K130 Kp130 Q130
  obtain ⟨rfl, t, k, Bv, Bc, Bn, Vt⟩ := Q130
  have E := E.keep Kp130
  have A130 := own_here K130
  show own_Go p.tables e below _ T130 (mkF m 6 #[.val (.ref x)] [])
  exact own_retV K130 hx hlk hret (own_dk hby dj67_1 3 rfl) (by decide) (by decide) ⟨rfl, _, _, Bv, Bc, Bn, Vt⟩
theorem dj42_152 : ∀ r ∈ ([(0, .getstatic 38, 3), (3, .ifCond .eq 10, 3), (6, .aload_n 0, 1), (7, .getfield 15, 3), (10, .goto 4, 3), (14, .ireturn, 1)] : List (Nat × Instr × Nat)), decode jdk_42_method_152_code r.1 = .ok (r.2.1, r.2.2) := by decide +kernel
theorem ef_rq_cod (m : MethodId) (q_0 : Addr)  : entryFrame m #[(.ref q_0)] 1 = mkF m 0 #[.val (.ref q_0)] [] := by  first | (simp [entryFrame, mkF, argsToLocals, Value.category]; done) | rfl
theorem pn_19 : plainName "java/lang/String" = true := by first | (simp [plainName, overriddenIn]; done) | decide +kernel
set_option maxRecDepth 65536 in
set_option maxHeartbeats 40000000 in
theorem rq_cod (l : Launch) (Z : State) (a0 : Array Value) (hw : ∀ d ∈ tables_1, d.before a0 Z = true) (more : List Jvm.Cond) (h0 : Heap) (x : Addr)  (G1 : Int32) (O2 : Sta Z Z.heap "java/lang/String" "COMPACT_STRINGS" "Z" (.int G1)) (P5 : ¬ (G1 = (0 : Int32))) (C : Fld Z h0 x "java/lang/String" "coder" "B" (.int (0 : Int32))) :
    own_Met true false consts_1 l Z a0 (⟨"java/lang/String", "coder", "()B"⟩ : MethodName) jdk_42_method_152_code 1 (some .byte) more ({ frames := 0, cells := 0, slots := 0, locals := 0 } : Room) #[(.ref x)] h0 [] (fun v h => v = some (.int 0) ∧ h = h0) := by
  refine own_enter (own := "java/lang/String") rfl (plainFor_of_name pn_19) ?_
  intro p e s m below meth c T hx hby hml hret hlk hnm K
  rw [ef_rq_cod m x]
  have A := own_here K
  refine own_getS K hx (host := "") (Or.inl (own_w hw 23 rfl)) Via.refl O2 (own_dk hby dj42_152 0 rfl) (pc' := 3) rfl ?_
  intro T131 K131
  have A131 := own_here K131
  refine own_if_eq A131 hx 13 6 (own_dk hby dj42_152 1 rfl) (by decide) (by decide) rfl (fun hc3 => ?_) (fun hc3 => ?_)
  · exact absurd hc3 P5
  refine own_aloadN A131 hx (pc' := 7) (own_dk hby dj42_152 2 rfl) rfl rfl rfl ?_
  refine own_getF K131 hx (host := "") (Or.inl (own_w hw 34 rfl)) Via.refl C (own_dk hby dj42_152 3 rfl) (pc' := 10) rfl ?_
  intro T132 K132
  have A132 := own_here K132
  refine own_goto A132 hx 14 (own_dk hby dj42_152 4 rfl) (by decide) (by decide) ?_
  exact own_retN K132 hx hlk hret (by simp) (own_dk hby dj42_152 5 rfl) (by decide) (by decide) ⟨rfl, rfl⟩
theorem dj68_71 : ∀ r ∈ ([(0, .getstatic 18, 3), (3, .ifCond .eq 18, 3), (6, .aload_n 0, 1), (7, .getfield 22, 3), (10, .aload_n 1, 1), (11, .invokevirtual 40, 3), (14, .if_icmp .eq 7, 3), (21, .return_, 1)] : List (Nat × Instr × Nat)), decode jdk_68_method_71_code r.1 = .ok (r.2.1, r.2.2) := by decide +kernel
theorem pd_23 : parseMethodDescriptor "()B" = some ⟨[], some .byte⟩ := by decide +kernel
theorem ef_rq_inf (m : MethodId) (q_0 : Addr) (q_1 : Addr)  : entryFrame m #[(.ref q_0), (.ref q_1)] 2 = mkF m 0 #[.val (.ref q_0), .val (.ref q_1)] [] := by  first | (simp [entryFrame, mkF, argsToLocals, Value.category]; done) | rfl
set_option maxRecDepth 65536 in
set_option maxHeartbeats 40000000 in
theorem rq_inf (l : Launch) (Z : State) (a0 : Array Value) (hw : ∀ d ∈ tables_1, d.before a0 Z = true) (more : List Jvm.Cond) (h0 : Heap) (x : Addr) (sg : Addr)  (G1 : Int32) (O2 : Sta Z Z.heap "java/lang/String" "COMPACT_STRINGS" "Z" (.int G1)) (P5 : ¬ (G1 = (0 : Int32))) (Bc : Fld Z h0 x "java/lang/AbstractStringBuilder" "coder" "B" (.int (0 : Int32))) (X : Exa Z h0 sg "java/lang/String") (C : Fld Z h0 sg "java/lang/String" "coder" "B" (.int (0 : Int32))) :
    own_Met true false consts_1 l Z a0 (⟨"java/lang/AbstractStringBuilder", "inflateIfNeededFor", "(Ljava/lang/String;)V"⟩ : MethodName) jdk_68_method_71_code 2 none more ({ frames := 1, cells := 0, slots := 0, locals := 13 } : Room) #[(.ref x), (.ref sg)] h0 [] (fun v h => v = none ∧ h = h0) := by
  refine own_enter (own := "java/lang/AbstractStringBuilder") rfl (plainFor_of_name pn_17) ?_
  intro p e s m below meth c T hx hby hml hret hlk hnm K
  rw [ef_rq_inf m x sg]
  have A := own_here K
  refine own_getS K hx (host := "") (Or.inl (own_w hw 388 rfl)) Via.refl O2 (own_dk hby dj68_71 0 rfl) (pc' := 3) rfl ?_
  intro T133 K133
  have A133 := own_here K133
  refine own_if_eq A133 hx 21 6 (own_dk hby dj68_71 1 rfl) (by decide) (by decide) rfl (fun hc3 => ?_) (fun hc3 => ?_)
  · exact absurd hc3 P5
  refine own_aloadN A133 hx (pc' := 7) (own_dk hby dj68_71 2 rfl) rfl rfl rfl ?_
  refine own_getF K133 hx (host := "") (Or.inl (own_w hw 391 rfl)) Via.refl Bc (own_dk hby dj68_71 3 rfl) (pc' := 10) rfl ?_
  intro T134 K134
  have A134 := own_here K134
  refine own_aloadN A134 hx (pc' := 11) (own_dk hby dj68_71 4 rfl) rfl rfl rfl ?_
  refine own_callV K134 hx (by rw [hml]; rfl) (own_w hw 437 rfl) (own_w hw 318 rfl) (fun U hU => notFace_of_selects (args := #[]) (mvT hU (own_w hw 320 rfl))) (own_w hw 320 rfl) (own_w hw 319 rfl) (own_w hw 4 rfl) (own_w hw 321 rfl) (by decide) X (rq_cod l Z a0 hw [] h0 sg G1 O2 P5 C) (fun _ q => nomatch q) (argsL := []) (rest := [(.int (0 : Int32))]) (lenOf pd_23 rfl) rfl 1 (Nat.le_of_eq rfl) (own_dk hby dj68_71 5 rfl) (pc' := 14) rfl (by decide) (by decide) (by decide) (by decide) ?_
  intro v135 T135 h135 K135 Kp135 Q135
  obtain ⟨rfl, rfl⟩ := Q135
  have Bc := Bc.keep Kp135 nin0
  have C := C.keep Kp135 nin0
  have X := X.keep Kp135
  have A135 := own_here K135
  show own_Go p.tables e below _ T135 (mkF m 14 #[.val (.ref x), .val (.ref sg)] [(.int (0 : Int32)), (.int (0 : Int32))])
  refine own_icmp_eq A135 hx 21 17 (own_dk hby dj68_71 6 rfl) (by decide) (by decide) rfl (fun hc14 => ?_) (fun hc14 => ?_)
  rotate_left
  · exact absurd hc14 (by decide)
  exact own_retV K135 hx hlk hret (own_dk hby dj68_71 7 rfl) (by decide) (by decide) ⟨rfl, rfl⟩
theorem dj48_27 : ∀ r ∈ ([(0, .iload_n 0, 1), (1, .iload_n 1, 1), (2, .iload_n 2, 1), (3, .invokestatic 194, 3), (6, .iadd, 1), (7, .istore_n 3, 1), (8, .iconst 0, 1), (9, .iload_n 3, 1), (10, .if_icmp .ge 11, 3), (13, .iload_n 3, 1), (14, .ldc 200, 2), (16, .if_icmp .gt 5, 3), (19, .iload_n 3, 1), (20, .ireturn, 1)] : List (Nat × Instr × Nat)), decode jdk_48_method_27_code r.1 = .ok (r.2.1, r.2.2) := by decide +kernel
theorem ef_rq_nl (m : MethodId) (q_0 : Int32) (q_1 : Int32) (q_2 : Int32)  : entryFrame m #[(.int q_0), (.int q_1), (.int q_2)] 4 = mkF m 0 #[.val (.int q_0), .val (.int q_1), .val (.int q_2), .unset] [] := by  first | (simp [entryFrame, mkF, argsToLocals, Value.category]; done) | rfl
theorem pn_20 : plainName "jdk/internal/util/ArraysSupport" = true := by first | (simp [plainName, overriddenIn]; done) | decide +kernel
set_option maxRecDepth 65536 in
set_option maxHeartbeats 40000000 in
theorem rq_nl (l : Launch) (Z : State) (a0 : Array Value) (hw : ∀ d ∈ tables_1, d.before a0 Z = true) (more : List Jvm.Cond) (h0 : Heap)  (no mm qq : Nat) (hbd : no + mm + qq ≤ 500) (ho : 0 < no) :
    own_Met true false consts_1 l Z a0 (⟨"jdk/internal/util/ArraysSupport", "newLength", "(III)I"⟩ : MethodName) jdk_48_method_27_code 4 (some .int) more ({ frames := 1, cells := 0, slots := 0, locals := 14 } : Room) #[(.int (Int32.ofNat no)), (.int (Int32.ofNat mm)), (.int (Int32.ofNat qq))] h0 [] (fun v h => v = some (.int (Int32.ofNat (no + max mm qq))) ∧ h = h0) := by
  refine own_enter (own := "jdk/internal/util/ArraysSupport") rfl (plainFor_of_name pn_20) ?_
  intro p e s m below meth c T hx hby hml hret hlk hnm K
  rw [ef_rq_nl m (Int32.ofNat no) (Int32.ofNat mm) (Int32.ofNat qq)]
  have A := own_here K
  refine own_iloadN A hx (pc' := 1) (own_dk hby dj48_27 0 rfl) rfl rfl ?_
  refine own_iloadN A hx (pc' := 2) (own_dk hby dj48_27 1 rfl) rfl rfl ?_
  refine own_iloadN A hx (pc' := 3) (own_dk hby dj48_27 2 rfl) rfl rfl ?_
  refine own_callS K hx (by rw [hml]; rfl) (own_w hw 421 rfl) (own_w hw 108 rfl) (own_w hw 109 rfl) (own_w hw 110 rfl) (by decide) (rq_max l Z a0 hw [] h0 (Int32.ofNat mm) (Int32.ofNat qq)) (fun _ q => nomatch q) (argsL := [(.int (Int32.ofNat mm)), (.int (Int32.ofNat qq))]) (rest := [(.int (Int32.ofNat no))]) (lenOf pd_1 rfl) rfl 1 (Nat.le_of_eq rfl) (own_dk hby dj48_27 3 rfl) (pc' := 6) rfl (by decide) (by decide) (by decide) (by decide) ?_
  intro v136 T136 h136 K136 Kp136 Q136
  obtain ⟨rfl, rfl⟩ := Q136
  have A136 := own_here K136
  show own_Go p.tables e below _ T136 (mkF m 6 #[.val (.int (Int32.ofNat no)), .val (.int (Int32.ofNat mm)), .val (.int (Int32.ofNat qq)), .unset] [(.int (if (Int32.ofNat mm) < (Int32.ofNat qq) then (Int32.ofNat qq) else (Int32.ofNat mm))), (.int (Int32.ofNat no))])
  rw [own_nmax (by omega) (by omega)]
  refine own_iadd A136 hx (pc' := 7) (own_dk hby dj48_27 4 rfl) (z := ((Int32.ofNat no) + (Int32.ofNat (max mm qq)))) rfl rfl ?_
  rw [own_na]
  refine own_istoreN A136 hx (pc' := 8) #[.val (.int (Int32.ofNat no)), .val (.int (Int32.ofNat mm)), .val (.int (Int32.ofNat qq)), .val (.int (Int32.ofNat (no + max mm qq)))] (own_dk hby dj48_27 5 rfl) rfl rfl ?_
  refine own_iconst A136 hx (pc' := 9) (own_dk hby dj48_27 6 rfl) (z := (0 : Int32)) (by decide) rfl ?_
  refine own_iloadN A136 hx (pc' := 10) (own_dk hby dj48_27 7 rfl) rfl rfl ?_
  refine own_icmp_ge A136 hx 21 13 (own_dk hby dj48_27 8 rfl) (by decide) (by decide) rfl (fun hc10 => ?_) (fun hc10 => ?_)
  · exact absurd (own_npos (by omega) (by omega)) hc10
  refine own_iloadN A136 hx (pc' := 14) (own_dk hby dj48_27 9 rfl) rfl rfl ?_
  refine own_ldcI K136 hx (own_w hw 422 rfl) (own_dk hby dj48_27 10 rfl) (pc' := 16) rfl ?_
  refine own_icmp_gt A136 hx 21 19 (own_dk hby dj48_27 11 rfl) (by decide) (by decide) rfl (fun hc16 => ?_) (fun hc16 => ?_)
  · exact absurd hc16 (own_nbig (by omega))
  refine own_iloadN A136 hx (pc' := 20) (own_dk hby dj48_27 12 rfl) rfl rfl ?_
  exact own_retI K136 hx hlk hret (own_dk hby dj48_27 13 rfl) (by decide) (by decide) ⟨rfl, rfl⟩
theorem dj68_10 : ∀ r ∈ ([(0, .aload_n 0, 1), (1, .getfield 15, 3), (4, .arraylength, 1), (5, .istore_n 2, 1), (6, .iload_n 1, 1), (7, .aload_n 0, 1), (8, .getfield 22, 3), (11, .ishl, 1), (12, .istore_n 3, 1), (13, .iload_n 3, 1), (14, .iload_n 2, 1), (15, .isub, 1), (16, .istore 4, 2), (18, .iload_n 2, 1), (19, .iload 4, 2), (21, .iload_n 2, 1), (22, .iconst 2, 1), (23, .aload_n 0, 1), (24, .getfield 22, 3), (27, .ishl, 1), (28, .iadd, 1), (29, .invokestatic 114, 3), (32, .istore 5, 2), (34, .iload 5, 2), (36, .ldc 39, 2), (38, .if_icmp .ne 13, 3), (51, .iload 5, 2), (53, .aload_n 0, 1), (54, .getfield 22, 3), (57, .ishr, 1), (58, .ireturn, 1)] : List (Nat × Instr × Nat)), decode jdk_68_method_10_code r.1 = .ok (r.2.1, r.2.2) := by decide +kernel
theorem pd_24 : parseMethodDescriptor "(III)I" = some ⟨[.int, .int, .int], some .int⟩ := by decide +kernel
theorem ef_rq_nc (m : MethodId) (q_0 : Addr) (q_1 : Int32)  : entryFrame m #[(.ref q_0), (.int q_1)] 6 = mkF m 0 #[.val (.ref q_0), .val (.int q_1), .unset, .unset, .unset, .unset] [] := by  first | (simp [entryFrame, mkF, argsToLocals, Value.category]; done) | rfl
set_option maxRecDepth 65536 in
set_option maxHeartbeats 40000000 in
theorem rq_nc (l : Launch) (Z : State) (a0 : Array Value) (hw : ∀ d ∈ tables_1, d.before a0 Z = true) (more : List Jvm.Cond) (h0 : Heap) (x : Addr) (mn c1 : Nat) (t : Addr) (kt : ClassId) (cs : List Int32) (nn cap : Nat) (hg : cap < mn) (hc : 0 < cap) (hc1 : c1 = cap + max (mn - cap) (cap + 2)) (hbd : c1 ≤ 100) (Bv : Fld Z h0 x "java/lang/AbstractStringBuilder" "value" "[B" (.ref t)) (Bc : Fld Z h0 x "java/lang/AbstractStringBuilder" "coder" "B" (.int (0 : Int32)))(Vt : Arv Z h0 t kt .byte (Int32.ofNat cap) (own_ct cs nn) (.int (0 : Int32))) :
    own_Met true false consts_1 l Z a0 (⟨"java/lang/AbstractStringBuilder", "newCapacity", "(I)I"⟩ : MethodName) jdk_68_method_10_code 6 (some .int) more ({ frames := 2, cells := 0, slots := 0, locals := 29 } : Room) #[(.ref x), (.int (Int32.ofNat mn))] h0 [] (fun v h => v = some (.int (Int32.ofNat c1)) ∧ h = h0) := by
  refine own_enter (own := "java/lang/AbstractStringBuilder") rfl (plainFor_of_name pn_17) ?_
  intro p e s m below meth c T hx hby hml hret hlk hnm K
  rw [ef_rq_nc m x (Int32.ofNat mn)]
  have A := own_here K
  refine own_aloadN A hx (pc' := 1) (own_dk hby dj68_10 0 rfl) rfl rfl rfl ?_
  refine own_getF K hx (host := "") (Or.inl (own_w hw 389 rfl)) Via.refl Bv (own_dk hby dj68_10 1 rfl) (pc' := 4) rfl ?_
  intro T137 K137
  have A137 := own_here K137
  refine own_len K137 hx Vt (own_dk hby dj68_10 2 rfl) (pc' := 5) rfl ?_
  refine own_istoreN A137 hx (pc' := 6) #[.val (.ref x), .val (.int (Int32.ofNat mn)), .val (.int (Int32.ofNat cap)), .unset, .unset, .unset] (own_dk hby dj68_10 3 rfl) rfl rfl ?_
  refine own_iloadN A137 hx (pc' := 7) (own_dk hby dj68_10 4 rfl) rfl rfl ?_
  refine own_aloadN A137 hx (pc' := 8) (own_dk hby dj68_10 5 rfl) rfl rfl rfl ?_
  refine own_getF K137 hx (host := "") (Or.inl (own_w hw 391 rfl)) Via.refl Bc (own_dk hby dj68_10 6 rfl) (pc' := 11) rfl ?_
  intro T138 K138
  have A138 := own_here K138
  refine own_ishl A138 hx (pc' := 12) (own_dk hby dj68_10 7 rfl) (z := ((Int32.ofNat mn) <<< ((0 : Int32) &&& 31))) rfl rfl ?_
  rw [own_shl0]
  refine own_istoreN A138 hx (pc' := 13) #[.val (.ref x), .val (.int (Int32.ofNat mn)), .val (.int (Int32.ofNat cap)), .val (.int (Int32.ofNat mn)), .unset, .unset] (own_dk hby dj68_10 8 rfl) rfl rfl ?_
  refine own_iloadN A138 hx (pc' := 14) (own_dk hby dj68_10 9 rfl) rfl rfl ?_
  refine own_iloadN A138 hx (pc' := 15) (own_dk hby dj68_10 10 rfl) rfl rfl ?_
  refine own_isub A138 hx (pc' := 16) (own_dk hby dj68_10 11 rfl) (z := ((Int32.ofNat mn) - (Int32.ofNat cap))) rfl rfl ?_
  rw [own_ns (by omega)]
  refine own_istore A138 hx (pc' := 18) #[.val (.ref x), .val (.int (Int32.ofNat mn)), .val (.int (Int32.ofNat cap)), .val (.int (Int32.ofNat mn)), .val (.int (Int32.ofNat (mn - cap))), .unset] (own_dk hby dj68_10 12 rfl) rfl rfl ?_
  refine own_iloadN A138 hx (pc' := 19) (own_dk hby dj68_10 13 rfl) rfl rfl ?_
  refine own_iload A138 hx (pc' := 21) (own_dk hby dj68_10 14 rfl) rfl rfl ?_
  refine own_iloadN A138 hx (pc' := 22) (own_dk hby dj68_10 15 rfl) rfl rfl ?_
  refine own_iconst A138 hx (pc' := 23) (own_dk hby dj68_10 16 rfl) (z := (2 : Int32)) (by decide) rfl ?_
  refine own_aloadN A138 hx (pc' := 24) (own_dk hby dj68_10 17 rfl) rfl rfl rfl ?_
  refine own_getF K138 hx (host := "") (Or.inl (own_w hw 391 rfl)) Via.refl Bc (own_dk hby dj68_10 18 rfl) (pc' := 27) rfl ?_
  intro T139 K139
  have A139 := own_here K139
  refine own_ishl A139 hx (pc' := 28) (own_dk hby dj68_10 19 rfl) (z := ((2 : Int32) <<< ((0 : Int32) &&& 31))) rfl rfl ?_
  rw [own_shl0]
  refine own_iadd A139 hx (pc' := 29) (own_dk hby dj68_10 20 rfl) (z := ((Int32.ofNat cap) + (2 : Int32))) rfl rfl ?_
  rw [show (Int32.ofNat cap) + (2 : Int32) = (Int32.ofNat (cap + 2)) from own_na cap 2]
  refine own_callS K139 hx (by rw [hml]; rfl) (own_w hw 417 rfl) (own_w hw 418 rfl) (own_w hw 419 rfl) (own_w hw 420 rfl) (by decide) (rq_nl l Z a0 hw [] h0 cap (mn - cap) (cap + 2) (by omega) hc) (fun _ q => nomatch q) (argsL := [(.int (Int32.ofNat cap)), (.int (Int32.ofNat (mn - cap))), (.int (Int32.ofNat (cap + 2)))]) (rest := []) (lenOf pd_24 rfl) rfl 0 (Nat.le_of_eq rfl) (own_dk hby dj68_10 21 rfl) (pc' := 32) rfl (by decide) (by decide) (by decide) (by decide) ?_
  intro v140 T140 h140 K140 Kp140 Q140
  obtain ⟨rfl, rfl⟩ := Q140
  have Bv := Bv.keep Kp140 nin0
  have Bc := Bc.keep Kp140 nin0
  have Vt := Vt.keep Kp140 nin0
  have A140 := own_here K140
  show own_Go p.tables e below _ T140 (mkF m 32 #[.val (.ref x), .val (.int (Int32.ofNat mn)), .val (.int (Int32.ofNat cap)), .val (.int (Int32.ofNat mn)), .val (.int (Int32.ofNat (mn - cap))), .unset] [(.int (Int32.ofNat (cap + max (mn - cap) (cap + 2))))])
  rw [← hc1]
  refine own_istore A140 hx (pc' := 34) #[.val (.ref x), .val (.int (Int32.ofNat mn)), .val (.int (Int32.ofNat cap)), .val (.int (Int32.ofNat mn)), .val (.int (Int32.ofNat (mn - cap))), .val (.int (Int32.ofNat c1))] (own_dk hby dj68_10 22 rfl) rfl rfl ?_
  refine own_iload A140 hx (pc' := 36) (own_dk hby dj68_10 23 rfl) rfl rfl ?_
  refine own_ldcI K140 hx (own_w hw 423 rfl) (own_dk hby dj68_10 24 rfl) (pc' := 38) rfl ?_
  refine own_icmp_ne A140 hx 51 41 (own_dk hby dj68_10 25 rfl) (by decide) (by decide) rfl (fun hc38 => ?_) (fun hc38 => ?_)
  rotate_left
  · exact absurd hc38 (own_nmx (by omega))
  refine own_iload A140 hx (pc' := 53) (own_dk hby dj68_10 26 rfl) rfl rfl ?_
  refine own_aloadN A140 hx (pc' := 54) (own_dk hby dj68_10 27 rfl) rfl rfl rfl ?_
  refine own_getF K140 hx (host := "") (Or.inl (own_w hw 391 rfl)) Via.refl Bc (own_dk hby dj68_10 28 rfl) (pc' := 57) rfl ?_
  intro T141 K141
  have A141 := own_here K141
  refine own_ishr A141 hx (pc' := 58) (own_dk hby dj68_10 29 rfl) (z := ((Int32.ofNat c1) >>> ((0 : Int32) &&& 31))) rfl rfl ?_
  rw [own_shr0]
  exact own_retI K141 hx hlk hret (own_dk hby dj68_10 30 rfl) (by decide) (by decide) ⟨rfl, rfl⟩
theorem dj65_121 : ∀ r ∈ ([(0, .iload_n 1, 1), (1, .aload_n 0, 1), (2, .arraylength, 1), (3, .if_icmp .ne 11, 3), (14, .iload_n 1, 1), (15, .newarray .byte, 2), (17, .astore_n 2, 1), (18, .aload_n 0, 1), (19, .iconst 0, 1), (20, .aload_n 2, 1), (21, .iconst 0, 1), (22, .aload_n 0, 1), (23, .arraylength, 1), (24, .iload_n 1, 1), (25, .invokestatic 304, 3), (28, .invokestatic 150, 3), (31, .aload_n 2, 1), (32, .areturn, 1)] : List (Nat × Instr × Nat)), decode jdk_65_method_121_code r.1 = .ok (r.2.1, r.2.2) := by decide +kernel
theorem ef_rq_cb (m : MethodId) (q_0 : Addr) (q_1 : Int32)  : entryFrame m #[(.ref q_0), (.int q_1)] 3 = mkF m 0 #[.val (.ref q_0), .val (.int q_1), .unset] [] := by  first | (simp [entryFrame, mkF, argsToLocals, Value.category]; done) | rfl
set_option maxRecDepth 65536 in
set_option maxHeartbeats 40000000 in
theorem rq_cb (l : Launch) (Z : State) (a0 : Array Value) (hw : ∀ d ∈ tables_1, d.before a0 Z = true) (more : List Jvm.Cond) (h0 : Heap) (t : Addr) (c1 : Nat) (kt : ClassId) (cs : List Int32) (nn cap : Nat) (hcs : cs.length + nn = cap) (h1 : cap < c1) (hbd : c1 ≤ 100) (Vt : Arv Z h0 t kt .byte (Int32.ofNat cap) (own_ct cs nn) (.int (0 : Int32))) :
    own_MetR true false consts_1 l Z a0 (⟨"java/util/Arrays", "copyOf", "([BI)[B"⟩ : MethodName) jdk_65_method_121_code 3 (some (.array .byte)) more ({ frames := 1, cells := 1, slots := 100, locals := 18 } : Room) #[(.ref t), (.int (Int32.ofNat c1))] h0 [] (fun v h ns => ∃ b k, v = some (.ref b) ∧ ns = [b] ∧ h0.size ≤ b ∧ Arv Z h b k .byte (Int32.ofNat c1) (own_ct cs (nn + (c1 - cap))) (.int (0 : Int32))) := by
  refine own_enterR (own := "java/util/Arrays") rfl (plainFor_of_name pn_6) ?_
  intro p e s m below meth c T hx hby hml hret hlk hnm K
  rw [ef_rq_cb m t (Int32.ofNat c1)]
  have A := own_here K
  refine own_iloadN A hx (pc' := 1) (own_dk hby dj65_121 0 rfl) rfl rfl ?_
  refine own_aloadN A hx (pc' := 2) (own_dk hby dj65_121 1 rfl) rfl rfl rfl ?_
  refine own_len K hx Vt (own_dk hby dj65_121 2 rfl) (pc' := 3) rfl ?_
  refine own_icmp_ne A hx 14 6 (own_dk hby dj65_121 3 rfl) (by decide) (by decide) rfl (fun hc3 => ?_) (fun hc3 => ?_)
  rotate_left
  · exact absurd (own_natinj (by omega) (by omega) hc3) (by omega)
  refine own_iloadN A hx (pc' := 15) (own_dk hby dj65_121 4 rfl) rfl rfl ?_
  refine own_newarr K hx (own_w hw 6 rfl) (own_dk hby dj65_121 5 rfl) (pc' := 17) rfl (own_nat0 (by omega)) 100 (by rw [own_natcl (by omega)]; omega) (by decide) (by decide) (by decide) ?_
  intro T142 h142 b142 k142 g142 K142 E142 V142
  have ne_t_b142 : t ≠ b142 := by rw [g142]; exact Nat.ne_of_lt Vt.lt
  have Vt := Vt.ext E142
  have A142 := own_here K142
  have Vu : Arv Z h142 b142 k142 .byte (Int32.ofNat (List.replicate c1 (Value.int (0 : Int32))).length) (List.replicate c1 (Value.int (0 : Int32))) (.int (0 : Int32)) := by rw [List.length_replicate]; exact V142.pad (pad_rep [] (.int (0 : Int32)) c1)
  refine own_astoreN A142 hx (pc' := 18) #[.val (.ref t), .val (.int (Int32.ofNat c1)), .val (.ref b142)] (own_dk hby dj65_121 6 rfl) rfl rfl rfl ?_
  refine own_aloadN A142 hx (pc' := 19) (own_dk hby dj65_121 7 rfl) rfl rfl rfl ?_
  refine own_iconst A142 hx (pc' := 20) (own_dk hby dj65_121 8 rfl) (z := (0 : Int32)) (by decide) rfl ?_
  refine own_aloadN A142 hx (pc' := 21) (own_dk hby dj65_121 9 rfl) rfl rfl rfl ?_
  refine own_iconst A142 hx (pc' := 22) (own_dk hby dj65_121 10 rfl) (z := (0 : Int32)) (by decide) rfl ?_
  refine own_aloadN A142 hx (pc' := 23) (own_dk hby dj65_121 11 rfl) rfl rfl rfl ?_
  refine own_len K142 hx Vt (own_dk hby dj65_121 12 rfl) (pc' := 24) rfl ?_
  refine own_iloadN A142 hx (pc' := 25) (own_dk hby dj65_121 13 rfl) rfl rfl ?_
  refine own_callS K142 hx (by rw [hml]; rfl) (own_w hw 164 rfl) (own_w hw 165 rfl) (own_w hw 109 rfl) (own_w hw 166 rfl) (by decide) (rq_min l Z a0 hw [] h142 (Int32.ofNat cap) (Int32.ofNat c1)) (fun _ q => nomatch q) (argsL := [(.int (Int32.ofNat cap)), (.int (Int32.ofNat c1))]) (rest := [(.int (0 : Int32)), (.ref b142), (.int (0 : Int32)), (.ref t)]) (lenOf pd_1 rfl) rfl 4 (Nat.le_of_eq rfl) (own_dk hby dj65_121 14 rfl) (pc' := 28) rfl (by decide) (by decide) (by decide) (by decide) ?_
  intro v143 T143 h143 K143 Kp143 Q143
  obtain ⟨rfl, -⟩ := Q143
  have Vt := Vt.keep Kp143 nin0
  have Vu := Vu.keep Kp143 nin0
  have A143 := own_here K143
  show own_Go p.tables e below _ T143 (mkF m 28 #[.val (.ref t), .val (.int (Int32.ofNat c1)), .val (.ref b142)] [(.int (if (Int32.ofNat c1) < (Int32.ofNat cap) then (Int32.ofNat c1) else (Int32.ofNat cap))), (.int (0 : Int32)), (.ref b142), (.int (0 : Int32)), (.ref t)])
  rw [if_neg (own_nge (by omega) (by omega) (by omega))]
  have eL : (own_ct cs nn).length = cap := by rw [own_ctL, hcs]
  have Vs : Arv Z h143 t kt .byte (Int32.ofNat (own_ct cs nn).length) (own_ct cs nn) (.int (0 : Int32)) := by rw [eL]; exact Vt
  refine own_acopyG (i := 0) (j := 0) (n := cap) K143 hx (own_w hw 167 rfl) (own_w hw 170 rfl) (own_w hw 168 rfl) (own_w hw 169 rfl) Vs Vu (by decide) (fun q _ => Or.inl (own_getAll (own_ctI cs nn) _)) (List.mem_of_getElem? (i := 0) rfl) (by rw [eL]; omega) (by rw [List.length_replicate]; omega) (by rw [eL]; omega) (by rw [List.length_replicate]; omega) (by rw [hml]; rfl) (own_dk hby dj65_121 15 rfl) (pc' := 31) rfl (by decide) (by decide) ?_
  intro T144 h144 K144 Kp144 Y
  have A144 := own_here K144
  rw [own_grow cs hcs (by omega), List.length_replicate] at Y
  refine own_aloadN A144 hx (pc' := 32) (own_dk hby dj65_121 16 rfl) rfl rfl rfl ?_
  exact own_retRR K144 hx hlk hret rfl rfl (own_dk hby dj65_121 17 rfl) (by decide) (by decide) [b142] (fun y hy => by cases List.mem_singleton.mp hy; exact ⟨(List.mem_of_getElem? (i := 0) rfl), by rw [g142]; exact Nat.le_refl _⟩) ⟨_, _, rfl, rfl, by rw [g142]; exact Nat.le_refl _, Y⟩
theorem dj68_9 : ∀ r ∈ ([(0, .aload_n 0, 1), (1, .getfield 15, 3), (4, .arraylength, 1), (5, .aload_n 0, 1), (6, .getfield 22, 3), (9, .ishr, 1), (10, .istore_n 2, 1), (11, .iload_n 1, 1), (12, .iload_n 2, 1), (13, .isub, 1), (14, .ifCond .le 24, 3), (17, .aload_n 0, 1), (18, .aload_n 0, 1), (19, .getfield 15, 3), (22, .aload_n 0, 1), (23, .iload_n 1, 1), (24, .invokevirtual 104, 3), (27, .aload_n 0, 1), (28, .getfield 22, 3), (31, .ishl, 1), (32, .invokestatic 108, 3), (35, .putfield 15, 3), (38, .return_, 1)] : List (Nat × Instr × Nat)), decode jdk_68_method_9_code r.1 = .ok (r.2.1, r.2.2) := by decide +kernel
theorem pd_25 : parseMethodDescriptor "(I)I" = some ⟨[.int], some .int⟩ := by decide +kernel
theorem pd_26 : parseMethodDescriptor "([BI)[B" = some ⟨[(.array .byte), .int], some (.array .byte)⟩ := by decide +kernel
theorem ef_rq_eg (m : MethodId) (q_0 : Addr) (q_1 : Int32)  : entryFrame m #[(.ref q_0), (.int q_1)] 3 = mkF m 0 #[.val (.ref q_0), .val (.int q_1), .unset] [] := by  first | (simp [entryFrame, mkF, argsToLocals, Value.category]; done) | rfl
set_option maxRecDepth 65536 in
set_option maxHeartbeats 40000000 in
theorem rq_eg (l : Launch) (Z : State) (a0 : Array Value) (hw : ∀ d ∈ tables_1, d.before a0 Z = true) (more : List Jvm.Cond) (h0 : Heap) (x : Addr) (mn c1 : Nat) (vn : Value) (t : Addr) (kt : ClassId) (cs : List Int32) (nn cap : Nat) (hcs : cs.length + nn = cap) (hg : cap < mn) (hc : 0 < cap) (hc1 : c1 = cap + max (mn - cap) (cap + 2)) (hbd : c1 ≤ 100) (E : Exa Z h0 x "java/lang/StringBuilder") (Bv : Fld Z h0 x "java/lang/AbstractStringBuilder" "value" "[B" (.ref t)) (Bc : Fld Z h0 x "java/lang/AbstractStringBuilder" "coder" "B" (.int (0 : Int32))) (Bn : Fld Z h0 x "java/lang/AbstractStringBuilder" "count" "I" vn)(Vt : Arv Z h0 t kt .byte (Int32.ofNat cap) (own_ct cs nn) (.int (0 : Int32))) :
    own_MetR true false consts_1 l Z a0 (⟨"java/lang/AbstractStringBuilder", "ensureCapacityInternal", "(I)V"⟩ : MethodName) jdk_68_method_9_code 3 none more ({ frames := 3, cells := 1, slots := 100, locals := 48 } : Room) #[(.ref x), (.int (Int32.ofNat mn))] h0 [x] (fun v h ns => ∃ b k, v = none ∧ ns = [b] ∧ h0.size ≤ b ∧ Fld Z h x "java/lang/AbstractStringBuilder" "value" "[B" (.ref b) ∧ Fld Z h x "java/lang/AbstractStringBuilder" "coder" "B" (.int (0 : Int32)) ∧ Fld Z h x "java/lang/AbstractStringBuilder" "count" "I" vn ∧ Arv Z h b k .byte (Int32.ofNat c1) (own_ct cs (nn + (c1 - cap))) (.int (0 : Int32))) := by
  refine own_enterR (own := "java/lang/AbstractStringBuilder") rfl (plainFor_of_name pn_17) ?_
  intro p e s m below meth c T hx hby hml hret hlk hnm K
  rw [ef_rq_eg m x (Int32.ofNat mn)]
  have A := own_here K
  have lx0 := E.lt
  refine own_aloadN A hx (pc' := 1) (own_dk hby dj68_9 0 rfl) rfl rfl rfl ?_
  refine own_getF K hx (host := "") (Or.inl (own_w hw 389 rfl)) Via.refl Bv (own_dk hby dj68_9 1 rfl) (pc' := 4) rfl ?_
  intro T145 K145
  have A145 := own_here K145
  refine own_len K145 hx Vt (own_dk hby dj68_9 2 rfl) (pc' := 5) rfl ?_
  refine own_aloadN A145 hx (pc' := 6) (own_dk hby dj68_9 3 rfl) rfl rfl rfl ?_
  refine own_getF K145 hx (host := "") (Or.inl (own_w hw 391 rfl)) Via.refl Bc (own_dk hby dj68_9 4 rfl) (pc' := 9) rfl ?_
  intro T146 K146
  have A146 := own_here K146
  refine own_ishr A146 hx (pc' := 10) (own_dk hby dj68_9 5 rfl) (z := ((Int32.ofNat cap) >>> ((0 : Int32) &&& 31))) rfl rfl ?_
  rw [own_shr0]
  refine own_istoreN A146 hx (pc' := 11) #[.val (.ref x), .val (.int (Int32.ofNat mn)), .val (.int (Int32.ofNat cap))] (own_dk hby dj68_9 6 rfl) rfl rfl ?_
  refine own_iloadN A146 hx (pc' := 12) (own_dk hby dj68_9 7 rfl) rfl rfl ?_
  refine own_iloadN A146 hx (pc' := 13) (own_dk hby dj68_9 8 rfl) rfl rfl ?_
  refine own_isub A146 hx (pc' := 14) (own_dk hby dj68_9 9 rfl) (z := ((Int32.ofNat mn) - (Int32.ofNat cap))) rfl rfl ?_
  rw [own_ns (by omega)]
  refine own_if_le A146 hx 38 17 (own_dk hby dj68_9 10 rfl) (by decide) (by decide) rfl (fun hc14 => ?_) (fun hc14 => ?_)
  · exact absurd (own_npos (by omega) (by omega)) hc14
  refine own_aloadN A146 hx (pc' := 18) (own_dk hby dj68_9 11 rfl) rfl rfl rfl ?_
  refine own_aloadN A146 hx (pc' := 19) (own_dk hby dj68_9 12 rfl) rfl rfl rfl ?_
  refine own_getF K146 hx (host := "") (Or.inl (own_w hw 389 rfl)) Via.refl Bv (own_dk hby dj68_9 13 rfl) (pc' := 22) rfl ?_
  intro T147 K147
  have A147 := own_here K147
  refine own_aloadN A147 hx (pc' := 23) (own_dk hby dj68_9 14 rfl) rfl rfl rfl ?_
  refine own_iloadN A147 hx (pc' := 24) (own_dk hby dj68_9 15 rfl) rfl rfl ?_
  refine own_callV K147 hx (by rw [hml]; rfl) (own_w hw 412 rfl) (own_decl (own_w hw 413 rfl) (own_w hw 416 rfl)) (fun U hU => notFace_of_selects (args := #[]) (mvT hU (own_w hw 415 rfl))) (own_w hw 415 rfl) (own_w hw 413 rfl) (own_w hw 385 rfl) (own_w hw 416 rfl) (by decide) E (rq_nc l Z a0 hw [] h0 x mn c1 t kt cs nn cap hg hc hc1 hbd Bv Bc Vt) (fun _ q => nomatch q) (argsL := [(.int (Int32.ofNat mn))]) (rest := [(.ref t), (.ref x)]) (lenOf pd_25 rfl) rfl 2 (Nat.le_of_eq rfl) (own_dk hby dj68_9 16 rfl) (pc' := 27) rfl (by decide) (by decide) (by decide) (by decide) ?_
  intro v148 T148 h148 K148 Kp148 Q148
  obtain ⟨rfl, rfl⟩ := Q148
  have E := E.keep Kp148
  have Bv := Bv.keep Kp148 nin0
  have Bc := Bc.keep Kp148 nin0
  have Vt := Vt.keep Kp148 nin0
  have Bn := Bn.keep Kp148 nin0
  have A148 := own_here K148
  show own_Go p.tables e below _ T148 (mkF m 27 #[.val (.ref x), .val (.int (Int32.ofNat mn)), .val (.int (Int32.ofNat cap))] [(.int (Int32.ofNat c1)), (.ref t), (.ref x)])
  refine own_aloadN A148 hx (pc' := 28) (own_dk hby dj68_9 17 rfl) rfl rfl rfl ?_
  refine own_getF K148 hx (host := "") (Or.inl (own_w hw 391 rfl)) Via.refl Bc (own_dk hby dj68_9 18 rfl) (pc' := 31) rfl ?_
  intro T149 K149
  have A149 := own_here K149
  refine own_ishl A149 hx (pc' := 32) (own_dk hby dj68_9 19 rfl) (z := ((Int32.ofNat c1) <<< ((0 : Int32) &&& 31))) rfl rfl ?_
  rw [own_shl0]
  refine own_callSR K149 hx (by rw [hml]; rfl) (by intro q; first | rfl | cases q) (own_w hw 424 rfl) (own_w hw 425 rfl) (own_w hw 151 rfl) (own_w hw 426 rfl) (by decide) (rq_cb l Z a0 hw [] h148 t c1 kt cs nn cap hcs (by omega) hbd Vt) (fun _ q => nomatch q) (argsL := [(.ref t), (.int (Int32.ofNat c1))]) (rest := [(.ref x)]) (lenOf pd_26 rfl) rfl 1 (Nat.le_of_eq rfl) (own_dk hby dj68_9 20 rfl) (pc' := 35) rfl (by decide) (by decide) (by decide) (by decide) ?_
  intro v150 T150 h150 ns150 K150 Kp150 Q150
  obtain ⟨b, k, rfl, rfl, ge, Vb⟩ := Q150
  have E := E.keep Kp150
  have Bv := Bv.keep Kp150 nin0
  have Bc := Bc.keep Kp150 nin0
  have Vt := Vt.keep Kp150 nin0
  have Bn := Bn.keep Kp150 nin0
  have A150 := own_here K150
  show own_Go p.tables e below _ T150 (mkF m 35 #[.val (.ref x), .val (.int (Int32.ofNat mn)), .val (.int (Int32.ofNat cap))] [(.ref b), (.ref x)])
  have neb : b ≠ x := Ne.symm (Nat.ne_of_lt (Nat.lt_of_lt_of_le lx0 ge))
  refine own_putF K150 hx (host := "") (Or.inl (own_w hw 389 rfl)) Via.refl Bv E (Or.inl (own_w hw 390 rfl)) (own_w hw 376 rfl) (ty := (.array .byte)) (by decide) rfl rfl (List.mem_of_getElem? (i := 1) rfl) (own_dk hby dj68_9 21 rfl) (pc' := 38) rfl ?_
  intro T151 h151 K151 W151
  have E := E.wr W151
  have Vb := Vb.other W151 neb
  have Bv := Bv.same W151
  have Bc := Bc.other W151 (Or.inr (slot_ne (Or.inl (own_w hw 392 rfl)) (Or.inl (own_w hw 390 rfl)) (by decide) (t := .byte) (t' := (.array .byte)) (by decide) (by decide)))
  have Bn := Bn.other W151 (Or.inr (slot_ne (Or.inl (own_w hw 406 rfl)) (Or.inl (own_w hw 390 rfl)) (by decide) (t := .int) (t' := (.array .byte)) (by decide) (by decide)))
  have A151 := own_here K151
  exact own_retVR K151 hx hlk hret (own_dk hby dj68_9 22 rfl) (by decide) (by decide) [b] (fun y hy => by cases List.mem_singleton.mp hy; exact ⟨List.mem_of_getElem? (i := 0) rfl, ge⟩) ⟨_, _, rfl, rfl, ge, Bv, Bc, Bn, Vb⟩
theorem ef_rq_en (m : MethodId) (q_0 : Addr) (q_1 : Int32)  : entryFrame m #[(.ref q_0), (.int q_1)] 3 = mkF m 0 #[.val (.ref q_0), .val (.int q_1), .unset] [] := by  first | (simp [entryFrame, mkF, argsToLocals, Value.category]; done) | rfl
set_option maxRecDepth 65536 in
set_option maxHeartbeats 40000000 in
theorem rq_en (l : Launch) (Z : State) (a0 : Array Value) (hw : ∀ d ∈ tables_1, d.before a0 Z = true) (more : List Jvm.Cond) (h0 : Heap) (x : Addr) (mn : Nat) (t : Addr) (kt : ClassId) (cs : List Int32) (nn cap : Nat) (hg : mn ≤ cap) (hbd : cap ≤ 100)  (Bv : Fld Z h0 x "java/lang/AbstractStringBuilder" "value" "[B" (.ref t)) (Bc : Fld Z h0 x "java/lang/AbstractStringBuilder" "coder" "B" (.int (0 : Int32)))(Vt : Arv Z h0 t kt .byte (Int32.ofNat cap) (own_ct cs nn) (.int (0 : Int32))) :
    own_Met true false consts_1 l Z a0 (⟨"java/lang/AbstractStringBuilder", "ensureCapacityInternal", "(I)V"⟩ : MethodName) jdk_68_method_9_code 3 none more ({ frames := 0, cells := 0, slots := 0, locals := 0 } : Room) #[(.ref x), (.int (Int32.ofNat mn))] h0 [] (fun v h => v = none ∧ h = h0) := by
  refine own_enter (own := "java/lang/AbstractStringBuilder") rfl (plainFor_of_name pn_17) ?_
  intro p e s m below meth c T hx hby hml hret hlk hnm K
  rw [ef_rq_en m x (Int32.ofNat mn)]
  have A := own_here K
  refine own_aloadN A hx (pc' := 1) (own_dk hby dj68_9 0 rfl) rfl rfl rfl ?_
  refine own_getF K hx (host := "") (Or.inl (own_w hw 389 rfl)) Via.refl Bv (own_dk hby dj68_9 1 rfl) (pc' := 4) rfl ?_
  intro T152 K152
  have A152 := own_here K152
  refine own_len K152 hx Vt (own_dk hby dj68_9 2 rfl) (pc' := 5) rfl ?_
  refine own_aloadN A152 hx (pc' := 6) (own_dk hby dj68_9 3 rfl) rfl rfl rfl ?_
  refine own_getF K152 hx (host := "") (Or.inl (own_w hw 391 rfl)) Via.refl Bc (own_dk hby dj68_9 4 rfl) (pc' := 9) rfl ?_
  intro T153 K153
  have A153 := own_here K153
  refine own_ishr A153 hx (pc' := 10) (own_dk hby dj68_9 5 rfl) (z := ((Int32.ofNat cap) >>> ((0 : Int32) &&& 31))) rfl rfl ?_
  rw [own_shr0]
  refine own_istoreN A153 hx (pc' := 11) #[.val (.ref x), .val (.int (Int32.ofNat mn)), .val (.int (Int32.ofNat cap))] (own_dk hby dj68_9 6 rfl) rfl rfl ?_
  refine own_iloadN A153 hx (pc' := 12) (own_dk hby dj68_9 7 rfl) rfl rfl ?_
  refine own_iloadN A153 hx (pc' := 13) (own_dk hby dj68_9 8 rfl) rfl rfl ?_
  refine own_isub A153 hx (pc' := 14) (own_dk hby dj68_9 9 rfl) (z := ((Int32.ofNat mn) - (Int32.ofNat cap))) rfl rfl ?_
  refine own_if_le A153 hx 38 17 (own_dk hby dj68_9 10 rfl) (by decide) (by decide) rfl (fun hc14 => ?_) (fun hc14 => ?_)
  rotate_left
  · exact absurd hc14 (own_nsn (by omega) (by omega))
  exact own_retV K153 hx hlk hret (own_dk hby dj68_9 22 rfl) (by decide) (by decide) ⟨rfl, rfl⟩
theorem dj42_147 : ∀ r ∈ ([(0, .aload_n 0, 1), (1, .invokevirtual 335, 3), (4, .iload_n 3, 1), (5, .if_icmp .ne 23, 3), (8, .aload_n 0, 1), (9, .getfield 9, 3), (12, .iconst 0, 1), (13, .aload_n 1, 1), (14, .iload_n 2, 1), (15, .iload_n 3, 1), (16, .ishl, 1), (17, .aload_n 0, 1), (18, .getfield 9, 3), (21, .arraylength, 1), (22, .invokestatic 212, 3), (25, .goto 18, 3), (43, .return_, 1)] : List (Nat × Instr × Nat)), decode jdk_42_method_147_code r.1 = .ok (r.2.1, r.2.2) := by decide +kernel
theorem ef_rq_gb (m : MethodId) (q_0 : Addr) (q_1 : Addr) (q_2 : Int32)  : entryFrame m #[(.ref q_0), (.ref q_1), (.int q_2), (.int (0 : Int32))] 4 = mkF m 0 #[.val (.ref q_0), .val (.ref q_1), .val (.int q_2), .val (.int (0 : Int32))] [] := by  first | (simp [entryFrame, mkF, argsToLocals, Value.category]; done) | rfl
set_option maxRecDepth 65536 in
set_option maxHeartbeats 40000000 in
theorem rq_gb (l : Launch) (Z : State) (a0 : Array Value) (hw : ∀ d ∈ tables_1, d.before a0 Z = true) (more : List Jvm.Cond) (h0 : Heap) (sg : Addr) (t : Addr) (kt : ClassId) (cs : List Int32) (nn cap : Nat) (kq : ClassId) (q : Addr) (ds : List Int32) (G1 : Int32) (O2 : Sta Z Z.heap "java/lang/String" "COMPACT_STRINGS" "Z" (.int G1)) (P5 : ¬ (G1 = (0 : Int32)))(hcs : cs.length + nn = cap) (hd : ds.length ≤ nn) (hbd : cap ≤ 100) (Vt : Arv Z h0 t kt .byte (Int32.ofNat cap) (own_ct cs nn) (.int (0 : Int32))) (X : Exa Z h0 sg "java/lang/String") (C : Fld Z h0 sg "java/lang/String" "coder" "B" (.int (0 : Int32))) (V : Fld Z h0 sg "java/lang/String" "value" "[B" (.ref q)) (Vq : Arv Z h0 q kq .byte (Int32.ofNat ds.length) (own_bs ds) (.int (0 : Int32))) :
    own_Met true false consts_1 l Z a0 (⟨"java/lang/String", "getBytes", "([BIB)V"⟩ : MethodName) jdk_42_method_147_code 4 none more ({ frames := 1, cells := 0, slots := 0, locals := 18 } : Room) #[(.ref sg), (.ref t), (.int (Int32.ofNat cs.length)), (.int (0 : Int32))] h0 [t] (fun v h => v = none ∧ Arv Z h t kt .byte (Int32.ofNat cap) (own_ct (cs ++ ds) (nn - ds.length)) (.int (0 : Int32))) := by
  refine own_enter (own := "java/lang/String") rfl (plainFor_of_name pn_19) ?_
  intro p e s m below meth c T hx hby hml hret hlk hnm K
  rw [ef_rq_gb m sg t (Int32.ofNat cs.length)]
  have A := own_here K
  refine own_aloadN A hx (pc' := 1) (own_dk hby dj42_147 0 rfl) rfl rfl rfl ?_
  refine own_callV K hx (by rw [hml]; rfl) (own_w hw 317 rfl) (own_w hw 318 rfl) (fun U hU => notFace_of_selects (args := #[]) (mvT hU (own_w hw 320 rfl))) (own_w hw 320 rfl) (own_w hw 319 rfl) (own_w hw 4 rfl) (own_w hw 321 rfl) (by decide) X (rq_cod l Z a0 hw [] h0 sg G1 O2 P5 C) (fun _ q => nomatch q) (argsL := []) (rest := []) (lenOf pd_23 rfl) rfl 0 (Nat.le_of_eq rfl) (own_dk hby dj42_147 1 rfl) (pc' := 4) rfl (by decide) (by decide) (by decide) (by decide) ?_
  intro v154 T154 h154 K154 Kp154 Q154
  obtain ⟨rfl, rfl⟩ := Q154
  have X := X.keep Kp154
  have C := C.keep Kp154 nin0
  have V := V.keep Kp154 nin0
  have Vq := Vq.keep Kp154 nin0
  have Vt := Vt.keep Kp154 nin0
  have A154 := own_here K154
  show own_Go p.tables e below _ T154 (mkF m 4 #[.val (.ref sg), .val (.ref t), .val (.int (Int32.ofNat cs.length)), .val (.int (0 : Int32))] [(.int (0 : Int32))])
  refine own_iloadN A154 hx (pc' := 5) (own_dk hby dj42_147 2 rfl) rfl rfl ?_
  refine own_icmp_ne A154 hx 28 8 (own_dk hby dj42_147 3 rfl) (by decide) (by decide) rfl (fun hc5 => ?_) (fun hc5 => ?_)
  · exact absurd hc5 (by decide)
  refine own_aloadN A154 hx (pc' := 9) (own_dk hby dj42_147 4 rfl) rfl rfl rfl ?_
  refine own_getF K154 hx (host := "") (Or.inl (own_w hw 35 rfl)) Via.refl V (own_dk hby dj42_147 5 rfl) (pc' := 12) rfl ?_
  intro T155 K155
  have A155 := own_here K155
  refine own_iconst A155 hx (pc' := 13) (own_dk hby dj42_147 6 rfl) (z := (0 : Int32)) (by decide) rfl ?_
  refine own_aloadN A155 hx (pc' := 14) (own_dk hby dj42_147 7 rfl) rfl rfl rfl ?_
  refine own_iloadN A155 hx (pc' := 15) (own_dk hby dj42_147 8 rfl) rfl rfl ?_
  refine own_iloadN A155 hx (pc' := 16) (own_dk hby dj42_147 9 rfl) rfl rfl ?_
  refine own_ishl A155 hx (pc' := 17) (own_dk hby dj42_147 10 rfl) (z := ((Int32.ofNat cs.length) <<< ((0 : Int32) &&& 31))) rfl rfl ?_
  rw [own_shl0]
  refine own_aloadN A155 hx (pc' := 18) (own_dk hby dj42_147 11 rfl) rfl rfl rfl ?_
  refine own_getF K155 hx (host := "") (Or.inl (own_w hw 35 rfl)) Via.refl V (own_dk hby dj42_147 12 rfl) (pc' := 21) rfl ?_
  intro T156 K156
  have A156 := own_here K156
  refine own_len K156 hx Vq (own_dk hby dj42_147 13 rfl) (pc' := 22) rfl ?_
  have eL : (own_ct cs nn).length = cap := by rw [own_ctL, hcs]
  have Vu : Arv Z h154 t kt .byte (Int32.ofNat (own_ct cs nn).length) (own_ct cs nn) (.int (0 : Int32)) := by rw [eL]; exact Vt
  have Vs : Arv Z h154 q kq .byte (Int32.ofNat (own_bs ds).length) (own_bs ds) (.int (0 : Int32)) := by rw [own_bsL]; exact Vq
  refine own_acopyG (i := 0) (j := cs.length) (n := ds.length) K156 hx (own_w hw 443 rfl) (own_w hw 170 rfl) (own_w hw 168 rfl) (own_w hw 169 rfl) Vs Vu (by decide) (fun q _ => Or.inl (own_getAll (own_bsI ds) _)) (List.mem_of_getElem? (i := 0) rfl) (by rw [own_bsL]; omega) (by rw [eL]; omega) (by rw [own_bsL]; omega) (by rw [eL]; omega) (by rw [hml]; rfl) (own_dk hby dj42_147 14 rfl) (pc' := 25) rfl (by decide) (by decide) ?_
  intro T157 h157 K157 Kp157 Y
  have A157 := own_here K157
  rw [own_put cs ds rfl rfl hd, eL] at Y
  refine own_goto A157 hx 43 (own_dk hby dj42_147 15 rfl) (by decide) (by decide) ?_
  exact own_retV K157 hx hlk hret (own_dk hby dj42_147 16 rfl) (by decide) (by decide) ⟨rfl, Y⟩
theorem dj68_73 : ∀ r ∈ ([(0, .aload_n 0, 1), (1, .aload_n 2, 1), (2, .invokevirtual 397, 3), (5, .aload_n 2, 1), (6, .aload_n 0, 1), (7, .getfield 15, 3), (10, .iload_n 1, 1), (11, .aload_n 0, 1), (12, .getfield 22, 3), (15, .invokevirtual 399, 3), (18, .return_, 1)] : List (Nat × Instr × Nat)), decode jdk_68_method_73_code r.1 = .ok (r.2.1, r.2.2) := by decide +kernel
theorem pd_27 : parseMethodDescriptor "(Ljava/lang/String;)V" = some ⟨[(.object "java/lang/String")], none⟩ := by decide +kernel
theorem pd_28 : parseMethodDescriptor "([BIB)V" = some ⟨[(.array .byte), .int, .byte], none⟩ := by decide +kernel
theorem ef_rq_ps (m : MethodId) (q_0 : Addr) (q_1 : Int32) (q_2 : Addr)  : entryFrame m #[(.ref q_0), (.int q_1), (.ref q_2)] 3 = mkF m 0 #[.val (.ref q_0), .val (.int q_1), .val (.ref q_2)] [] := by  first | (simp [entryFrame, mkF, argsToLocals, Value.category]; done) | rfl
set_option maxRecDepth 65536 in
set_option maxHeartbeats 40000000 in
theorem rq_ps (l : Launch) (Z : State) (a0 : Array Value) (hw : ∀ d ∈ tables_1, d.before a0 Z = true) (more : List Jvm.Cond) (h0 : Heap) (x : Addr) (sg : Addr) (t : Addr) (kt : ClassId) (cs : List Int32) (nn cap : Nat) (kq : ClassId) (q : Addr) (ds : List Int32) (G1 : Int32) (O2 : Sta Z Z.heap "java/lang/String" "COMPACT_STRINGS" "Z" (.int G1)) (P5 : ¬ (G1 = (0 : Int32)))(hcs : cs.length + nn = cap) (hd : ds.length ≤ nn) (hbd : cap ≤ 100) (Vt : Arv Z h0 t kt .byte (Int32.ofNat cap) (own_ct cs nn) (.int (0 : Int32))) (E : Exa Z h0 x "java/lang/StringBuilder") (Bv : Fld Z h0 x "java/lang/AbstractStringBuilder" "value" "[B" (.ref t)) (Bc : Fld Z h0 x "java/lang/AbstractStringBuilder" "coder" "B" (.int (0 : Int32))) (X : Exa Z h0 sg "java/lang/String") (C : Fld Z h0 sg "java/lang/String" "coder" "B" (.int (0 : Int32))) (V : Fld Z h0 sg "java/lang/String" "value" "[B" (.ref q)) (Vq : Arv Z h0 q kq .byte (Int32.ofNat ds.length) (own_bs ds) (.int (0 : Int32))) :
    own_Met true false consts_1 l Z a0 (⟨"java/lang/AbstractStringBuilder", "putStringAt", "(ILjava/lang/String;)V"⟩ : MethodName) jdk_68_method_73_code 3 none more ({ frames := 2, cells := 0, slots := 0, locals := 33 } : Room) #[(.ref x), (.int (Int32.ofNat cs.length)), (.ref sg)] h0 [t] (fun v h => v = none ∧ Arv Z h t kt .byte (Int32.ofNat cap) (own_ct (cs ++ ds) (nn - ds.length)) (.int (0 : Int32))) := by
  refine own_enter (own := "java/lang/AbstractStringBuilder") rfl (plainFor_of_name pn_17) ?_
  intro p e s m below meth c T hx hby hml hret hlk hnm K
  rw [ef_rq_ps m x (Int32.ofNat cs.length) sg]
  have A := own_here K
  refine own_aloadN A hx (pc' := 1) (own_dk hby dj68_73 0 rfl) rfl rfl rfl ?_
  refine own_aloadN A hx (pc' := 2) (own_dk hby dj68_73 1 rfl) rfl rfl rfl ?_
  refine own_callV K hx (by rw [hml]; rfl) (own_w hw 432 rfl) (own_decl (own_w hw 433 rfl) (own_w hw 436 rfl)) (fun U hU => notFace_of_selects (args := #[]) (mvT hU (own_w hw 435 rfl))) (own_w hw 435 rfl) (own_w hw 433 rfl) (own_w hw 385 rfl) (own_w hw 436 rfl) (by decide) E (rq_inf l Z a0 hw [] h0 x sg G1 O2 P5 Bc X C) (fun _ q => nomatch q) (argsL := [(.ref sg)]) (rest := []) (lenOf pd_27 rfl) rfl 0 (Nat.le_of_eq rfl) (own_dk hby dj68_73 2 rfl) (pc' := 5) rfl (by decide) (by decide) (by decide) (by decide) ?_
  intro v158 T158 h158 K158 Kp158 Q158
  obtain ⟨rfl, rfl⟩ := Q158
  have E := E.keep Kp158
  have Bv := Bv.keep Kp158 nin0
  have Bc := Bc.keep Kp158 nin0
  have Vt := Vt.keep Kp158 nin0
  have X := X.keep Kp158
  have C := C.keep Kp158 nin0
  have V := V.keep Kp158 nin0
  have Vq := Vq.keep Kp158 nin0
  have A158 := own_here K158
  show own_Go p.tables e below _ T158 (mkF m 5 #[.val (.ref x), .val (.int (Int32.ofNat cs.length)), .val (.ref sg)] [])
  refine own_aloadN A158 hx (pc' := 6) (own_dk hby dj68_73 3 rfl) rfl rfl rfl ?_
  refine own_aloadN A158 hx (pc' := 7) (own_dk hby dj68_73 4 rfl) rfl rfl rfl ?_
  refine own_getF K158 hx (host := "") (Or.inl (own_w hw 389 rfl)) Via.refl Bv (own_dk hby dj68_73 5 rfl) (pc' := 10) rfl ?_
  intro T159 K159
  have A159 := own_here K159
  refine own_iloadN A159 hx (pc' := 11) (own_dk hby dj68_73 6 rfl) rfl rfl ?_
  refine own_aloadN A159 hx (pc' := 12) (own_dk hby dj68_73 7 rfl) rfl rfl rfl ?_
  refine own_getF K159 hx (host := "") (Or.inl (own_w hw 391 rfl)) Via.refl Bc (own_dk hby dj68_73 8 rfl) (pc' := 15) rfl ?_
  intro T160 K160
  have A160 := own_here K160
  refine own_callV K160 hx (by rw [hml]; rfl) (own_w hw 438 rfl) (own_w hw 439 rfl) (fun U hU => notFace_of_selects (args := #[]) (mvT hU (own_w hw 441 rfl))) (own_w hw 441 rfl) (own_w hw 440 rfl) (own_w hw 4 rfl) (own_w hw 442 rfl) (by decide) X (rq_gb l Z a0 hw [] h158 sg t kt cs nn cap kq q ds G1 O2 P5 hcs hd hbd Vt X C V Vq) (own_mem1 (List.mem_of_getElem? (i := 0) rfl)) (argsL := [(.ref t), (.int (Int32.ofNat cs.length)), (.int (0 : Int32))]) (rest := []) (lenOf pd_28 rfl) rfl 0 (Nat.le_of_eq rfl) (own_dk hby dj68_73 9 rfl) (pc' := 18) rfl (by decide) (by decide) (by decide) (by decide) ?_
  intro v161 T161 h161 K161 Kp161 Q161
  obtain ⟨rfl, Y⟩ := Q161
  have A161 := own_here K161
  show own_Go p.tables e below _ T161 (mkF m 18 #[.val (.ref x), .val (.int (Int32.ofNat cs.length)), .val (.ref sg)] [])
  exact own_retV K161 hx hlk hret (own_dk hby dj68_73 10 rfl) (by decide) (by decide) ⟨rfl, Y⟩
theorem dj68_22 : ∀ r ∈ ([(0, .aload_n 1, 1), (1, .ifnonnull 8, 3), (9, .aload_n 1, 1), (10, .invokevirtual 32, 3), (13, .istore_n 2, 1), (14, .aload_n 0, 1), (15, .aload_n 0, 1), (16, .getfield 79, 3), (19, .iload_n 2, 1), (20, .iadd, 1), (21, .invokevirtual 100, 3), (24, .aload_n 0, 1), (25, .aload_n 0, 1), (26, .getfield 79, 3), (29, .aload_n 1, 1), (30, .invokevirtual 208, 3), (33, .aload_n 0, 1), (34, .dup, 1), (35, .getfield 79, 3), (38, .iload_n 2, 1), (39, .iadd, 1), (40, .putfield 79, 3), (43, .aload_n 0, 1), (44, .areturn, 1)] : List (Nat × Instr × Nat)), decode jdk_68_method_22_code r.1 = .ok (r.2.1, r.2.2) := by decide +kernel
theorem pd_29 : parseMethodDescriptor "(ILjava/lang/String;)V" = some ⟨[.int, (.object "java/lang/String")], none⟩ := by decide +kernel
theorem ef_rq_aaG (m : MethodId) (q_0 : Addr) (q_1 : Addr)  : entryFrame m #[(.ref q_0), (.ref q_1)] 3 = mkF m 0 #[.val (.ref q_0), .val (.ref q_1), .unset] [] := by  first | (simp [entryFrame, mkF, argsToLocals, Value.category]; done) | rfl
set_option maxRecDepth 65536 in
set_option maxHeartbeats 40000000 in
theorem rq_aaG (l : Launch) (Z : State) (a0 : Array Value) (hw : ∀ d ∈ tables_1, d.before a0 Z = true) (more : List Jvm.Cond) (h0 : Heap) (x : Addr) (sg : Addr) (c1 : Nat) (t : Addr) (kt : ClassId) (cs : List Int32) (nn cap : Nat) (ds : List Int32) (G1 : Int32) (O2 : Sta Z Z.heap "java/lang/String" "COMPACT_STRINGS" "Z" (.int G1)) (P5 : ¬ (G1 = (0 : Int32)))(hcs : cs.length + nn = cap) (hg : cap < (cs.length + ds.length)) (hc : 0 < cap) (hc1 : c1 = cap + max ((cs.length + ds.length) - cap) (cap + 2)) (hbd : c1 ≤ 100) (E : Exa Z h0 x "java/lang/StringBuilder") (Bv : Fld Z h0 x "java/lang/AbstractStringBuilder" "value" "[B" (.ref t)) (Bc : Fld Z h0 x "java/lang/AbstractStringBuilder" "coder" "B" (.int (0 : Int32))) (Bn : Fld Z h0 x "java/lang/AbstractStringBuilder" "count" "I" (.int (Int32.ofNat cs.length)))(Vt : Arv Z h0 t kt .byte (Int32.ofNat cap) (own_ct cs nn) (.int (0 : Int32))) (S : own_Str Z h0 sg ds) (hl : ∀ c ∈ ds, ¬ (255 : Int32) < c) :
    own_MetR true false consts_1 l Z a0 (⟨"java/lang/AbstractStringBuilder", "append", "(Ljava/lang/String;)Ljava/lang/AbstractStringBuilder;"⟩ : MethodName) jdk_68_method_22_code 3 (some (.object "java/lang/AbstractStringBuilder")) more ({ frames := 4, cells := 1, slots := 100, locals := 62 } : Room) #[(.ref x), (.ref sg)] h0 [x] (fun v h ns => ∃ b kb, v = some (.ref x) ∧ ns = [b] ∧ h0.size ≤ b ∧ Fld Z h x "java/lang/AbstractStringBuilder" "value" "[B" (.ref b) ∧ Fld Z h x "java/lang/AbstractStringBuilder" "coder" "B" (.int (0 : Int32)) ∧ Fld Z h x "java/lang/AbstractStringBuilder" "count" "I" (.int (Int32.ofNat (cs ++ ds).length)) ∧ Arv Z h b kb .byte (Int32.ofNat c1) (own_ct (cs ++ ds) (nn + (c1 - cap) - ds.length)) (.int (0 : Int32))) := by
  refine own_enterR (own := "java/lang/AbstractStringBuilder") rfl (plainFor_of_name pn_17) ?_
  intro p e s m below meth c T hx hby hml hret hlk hnm K
  rw [ef_rq_aaG m x sg]
  have A := own_here K
  refine own_aloadN A hx (pc' := 1) (own_dk hby dj68_22 0 rfl) rfl rfl rfl ?_
  refine own_ifnonnull_t A hx 9 (own_dk hby dj68_22 1 rfl) (by decide) (by decide) ?_
  refine own_aloadN A hx (pc' := 10) (own_dk hby dj68_22 2 rfl) rfl rfl rfl ?_
  refine own_strLen K hx (by rw [hml]; rfl) (own_w hw 404 rfl) (own_w hw 313 rfl) (own_w hw 315 rfl) (own_w hw 314 rfl) (own_wl hw) (own_w hw 5 rfl) S O2 P5 (lenOf pd_14 rfl) 0 (Nat.le_of_eq rfl) (own_dk hby dj68_22 3 rfl) (pc' := 13) rfl (by decide) (by decide) (by decide) (by decide) ?_
  intro T162 K162
  have A162 := own_here K162
  refine own_istoreN A162 hx (pc' := 14) #[.val (.ref x), .val (.ref sg), .val (.int (Int32.ofNat (ds : List Int32).length))] (own_dk hby dj68_22 4 rfl) rfl rfl ?_
  refine own_aloadN A162 hx (pc' := 15) (own_dk hby dj68_22 5 rfl) rfl rfl rfl ?_
  refine own_aloadN A162 hx (pc' := 16) (own_dk hby dj68_22 6 rfl) rfl rfl rfl ?_
  refine own_getF K162 hx (host := "") (Or.inl (own_w hw 405 rfl)) Via.refl Bn (own_dk hby dj68_22 7 rfl) (pc' := 19) rfl ?_
  intro T163 K163
  have A163 := own_here K163
  refine own_iloadN A163 hx (pc' := 20) (own_dk hby dj68_22 8 rfl) rfl rfl ?_
  refine own_iadd A163 hx (pc' := 21) (own_dk hby dj68_22 9 rfl) (z := ((Int32.ofNat cs.length) + (Int32.ofNat (ds : List Int32).length))) rfl rfl ?_
  rw [own_na]
  refine own_callVR K163 hx (by rw [hml]; rfl) (own_w hw 407 rfl) (own_decl (own_w hw 408 rfl) (own_w hw 411 rfl)) (own_nf (own_w hw 410 rfl) rfl) (own_w hw 410 rfl) (own_w hw 408 rfl) (own_w hw 385 rfl) (own_w hw 411 rfl) (by decide) E (rq_eg l Z a0 hw [] h0 x (cs.length + ds.length) c1 _ t kt cs nn cap hcs hg hc hc1 hbd E Bv Bc Bn Vt) (own_mem1 (List.mem_of_getElem? (i := 0) rfl)) (argsL := [(.int (Int32.ofNat (cs.length + ds.length)))]) (rest := []) (lenOf pd_22 rfl) rfl 0 (Nat.le_of_eq rfl) (own_dk hby dj68_22 10 rfl) (pc' := 24) rfl (by decide) (by decide) (by decide) (by decide) ?_
  intro v164 T164 h164 ns164 K164 Kp164 Q164
  obtain ⟨b, kb, rfl, rfl, ge, Bv, Bc, Bn, Vb⟩ := Q164
  have ne_x_b : x ≠ b := Nat.ne_of_lt (Nat.lt_of_lt_of_le E.lt ge)
  have ne_sg_b : sg ≠ b := Nat.ne_of_lt (Nat.lt_of_lt_of_le S.lt ge)
  have off_Kp164 := own_off1 (own_Off.exa E (own_w hw 376 rfl) (by decide))
  have E := E.keep Kp164
  have S := S.keep Kp164 off_Kp164
  have A164 := own_here K164
  show own_Go p.tables e below _ T164 (mkF m 24 #[.val (.ref x), .val (.ref sg), .val (.int (Int32.ofNat (ds : List Int32).length))] [])
  refine own_aloadN A164 hx (pc' := 25) (own_dk hby dj68_22 11 rfl) rfl rfl rfl ?_
  refine own_aloadN A164 hx (pc' := 26) (own_dk hby dj68_22 12 rfl) rfl rfl rfl ?_
  refine own_getF K164 hx (host := "") (Or.inl (own_w hw 405 rfl)) Via.refl Bn (own_dk hby dj68_22 13 rfl) (pc' := 29) rfl ?_
  intro T165 K165
  have A165 := own_here K165
  refine own_aloadN A165 hx (pc' := 30) (own_dk hby dj68_22 14 rfl) rfl rfl rfl ?_
  obtain ⟨q, kq, X, V, C, Vq⟩ := own_lat S hl
  refine own_callV K165 hx (by rw [hml]; rfl) (own_w hw 427 rfl) (own_decl (own_w hw 428 rfl) (own_w hw 431 rfl)) (fun U hU => notFace_of_selects (args := #[]) (mvT hU (own_w hw 430 rfl))) (own_w hw 430 rfl) (own_w hw 428 rfl) (own_w hw 385 rfl) (own_w hw 431 rfl) (by decide) E (rq_ps l Z a0 hw [] h164 x sg b kb cs (nn + (c1 - cap)) c1 kq q ds G1 O2 P5 (by omega) (by omega) hbd Vb E Bv Bc X C V Vq) (own_mem1 (List.mem_of_getElem? (i := 0) rfl)) (argsL := [(.int (Int32.ofNat cs.length)), (.ref sg)]) (rest := []) (lenOf pd_29 rfl) rfl 0 (Nat.le_of_eq rfl) (own_dk hby dj68_22 15 rfl) (pc' := 33) rfl (by decide) (by decide) (by decide) (by decide) ?_
  intro v166 T166 h166 K166 Kp166 Q166
  obtain ⟨rfl, Vz⟩ := Q166
  have E := E.keep Kp166
  have Bv := Bv.keep Kp166 (ninS ne_x_b nin0)
  have Bc := Bc.keep Kp166 (ninS ne_x_b nin0)
  have Bn := Bn.keep Kp166 (ninS ne_x_b nin0)
  have A166 := own_here K166
  show own_Go p.tables e below _ T166 (mkF m 33 #[.val (.ref x), .val (.ref sg), .val (.int (Int32.ofNat (ds : List Int32).length))] [])
  refine own_aloadN A166 hx (pc' := 34) (own_dk hby dj68_22 16 rfl) rfl rfl rfl ?_
  refine own_dup A166 hx (pc' := 35) (own_dk hby dj68_22 17 rfl) rfl rfl ?_
  refine own_getF K166 hx (host := "") (Or.inl (own_w hw 405 rfl)) Via.refl Bn (own_dk hby dj68_22 18 rfl) (pc' := 38) rfl ?_
  intro T167 K167
  have A167 := own_here K167
  refine own_iloadN A167 hx (pc' := 39) (own_dk hby dj68_22 19 rfl) rfl rfl ?_
  refine own_iadd A167 hx (pc' := 40) (own_dk hby dj68_22 20 rfl) (z := ((Int32.ofNat cs.length) + (Int32.ofNat (ds : List Int32).length))) rfl rfl ?_
  rw [own_na]
  refine own_putF K167 hx (host := "") (Or.inl (own_w hw 405 rfl)) Via.refl Bn E (Or.inl (own_w hw 406 rfl)) (own_w hw 376 rfl) (ty := .int) (by decide) rfl rfl (List.mem_of_getElem? (i := 1) rfl) (own_dk hby dj68_22 21 rfl) (pc' := 43) rfl ?_
  intro T168 h168 K168 W168
  have E := E.wr W168
  have Vz := Vz.other W168 (Ne.symm ne_x_b)
  have Bv := Bv.other W168 (Or.inr (slot_ne (Or.inl (own_w hw 390 rfl)) (Or.inl (own_w hw 406 rfl)) (by decide) (t := (.array .byte)) (t' := .int) (by decide) (by decide)))
  have Bc := Bc.other W168 (Or.inr (slot_ne (Or.inl (own_w hw 392 rfl)) (Or.inl (own_w hw 406 rfl)) (by decide) (t := .byte) (t' := .int) (by decide) (by decide)))
  have Bn := Bn.same W168
  have A168 := own_here K168
  refine own_aloadN A168 hx (pc' := 44) (own_dk hby dj68_22 22 rfl) rfl rfl rfl ?_
  exact own_retRR K168 hx hlk hret rfl rfl (own_dk hby dj68_22 23 rfl) (by decide) (by decide) [b] (fun y hy => by cases List.mem_singleton.mp hy; exact ⟨List.mem_of_getElem? (i := 0) rfl, ge⟩) ⟨_, _, rfl, rfl, ge, Bv, Bc, (by rw [List.length_append]; exact Bn), Vz⟩
theorem dj67_7 : ∀ r ∈ ([(0, .aload_n 0, 1), (1, .aload_n 1, 1), (2, .invokespecial 29, 3), (5, .pop, 1), (6, .aload_n 0, 1), (7, .areturn, 1)] : List (Nat × Instr × Nat)), decode jdk_67_method_7_code r.1 = .ok (r.2.1, r.2.2) := by decide +kernel
theorem pd_30 : parseMethodDescriptor "(Ljava/lang/String;)Ljava/lang/AbstractStringBuilder;" = some ⟨[(.object "java/lang/String")], some (.object "java/lang/AbstractStringBuilder")⟩ := by decide +kernel
theorem ef_rq_saG (m : MethodId) (q_0 : Addr) (q_1 : Addr)  : entryFrame m #[(.ref q_0), (.ref q_1)] 2 = mkF m 0 #[.val (.ref q_0), .val (.ref q_1)] [] := by  first | (simp [entryFrame, mkF, argsToLocals, Value.category]; done) | rfl
set_option maxRecDepth 65536 in
set_option maxHeartbeats 40000000 in
theorem rq_saG (l : Launch) (Z : State) (a0 : Array Value) (hw : ∀ d ∈ tables_1, d.before a0 Z = true) (more : List Jvm.Cond) (h0 : Heap) (x : Addr) (sg : Addr) (c1 : Nat) (t : Addr) (kt : ClassId) (cs : List Int32) (nn cap : Nat) (ds : List Int32) (G1 : Int32) (O2 : Sta Z Z.heap "java/lang/String" "COMPACT_STRINGS" "Z" (.int G1)) (P5 : ¬ (G1 = (0 : Int32)))(hcs : cs.length + nn = cap) (hg : cap < (cs.length + ds.length)) (hc : 0 < cap) (hc1 : c1 = cap + max ((cs.length + ds.length) - cap) (cap + 2)) (hbd : c1 ≤ 100) (E : Exa Z h0 x "java/lang/StringBuilder") (Bv : Fld Z h0 x "java/lang/AbstractStringBuilder" "value" "[B" (.ref t)) (Bc : Fld Z h0 x "java/lang/AbstractStringBuilder" "coder" "B" (.int (0 : Int32))) (Bn : Fld Z h0 x "java/lang/AbstractStringBuilder" "count" "I" (.int (Int32.ofNat cs.length)))(Vt : Arv Z h0 t kt .byte (Int32.ofNat cap) (own_ct cs nn) (.int (0 : Int32))) (S : own_Str Z h0 sg ds) (hl : ∀ c ∈ ds, ¬ (255 : Int32) < c) :
    own_MetR true false consts_1 l Z a0 (⟨"java/lang/StringBuilder", "append", "(Ljava/lang/String;)Ljava/lang/StringBuilder;"⟩ : MethodName) jdk_67_method_7_code 2 (some (.object "java/lang/StringBuilder")) more ({ frames := 5, cells := 1, slots := 100, locals := 76 } : Room) #[(.ref x), (.ref sg)] h0 [x] (fun v h ns => ∃ b kb, v = some (.ref x) ∧ ns = [b] ∧ h0.size ≤ b ∧ Fld Z h x "java/lang/AbstractStringBuilder" "value" "[B" (.ref b) ∧ Fld Z h x "java/lang/AbstractStringBuilder" "coder" "B" (.int (0 : Int32)) ∧ Fld Z h x "java/lang/AbstractStringBuilder" "count" "I" (.int (Int32.ofNat (cs ++ ds).length)) ∧ Arv Z h b kb .byte (Int32.ofNat c1) (own_ct (cs ++ ds) (nn + (c1 - cap) - ds.length)) (.int (0 : Int32))) := by
  refine own_enterR (own := "java/lang/StringBuilder") rfl (plainFor_of_name pn_18) ?_
  intro p e s m below meth c T hx hby hml hret hlk hnm K
  rw [ef_rq_saG m x sg]
  have A := own_here K
  refine own_aloadN A hx (pc' := 1) (own_dk hby dj67_7 0 rfl) rfl rfl rfl ?_
  refine own_aloadN A hx (pc' := 2) (own_dk hby dj67_7 1 rfl) rfl rfl rfl ?_
  refine own_superR K hx (by rw [hml]; rfl) (own_w hw 399 rfl) (own_w hw 402 rfl) (own_w hw 400 rfl) (own_w hw 401 rfl) (own_nf (own_w hw 410 rfl) rfl) (by decide) (by decide) (own_w hw 385 rfl) (own_w hw 403 rfl) E (rq_aaG l Z a0 hw [] h0 x sg c1 t kt cs nn cap ds G1 O2 P5 hcs hg hc hc1 hbd E Bv Bc Bn Vt S hl) (own_mem1 (List.mem_of_getElem? (i := 0) rfl)) (argsL := [(.ref sg)]) (rest := []) (lenOf pd_30 rfl) rfl 0 (Nat.le_of_eq rfl) (own_dk hby dj67_7 2 rfl) (pc' := 5) rfl (by decide) (by decide) (by decide) (by decide) ?_
  intro v169 T169 h169 ns169 K169 Kp169 Q169
  obtain ⟨b, kb, rfl, rfl, ge, Bv, Bc, Bn, Vz⟩ := Q169
  have E := E.keep Kp169
  have A169 := own_here K169
  show own_Go p.tables e below _ T169 (mkF m 5 #[.val (.ref x), .val (.ref sg)] [(.ref x)])
  refine own_pop A169 hx (pc' := 6) (own_dk hby dj67_7 3 rfl) rfl rfl ?_
  refine own_aloadN A169 hx (pc' := 7) (own_dk hby dj67_7 4 rfl) rfl rfl rfl ?_
  exact own_retRR K169 hx hlk hret rfl rfl (own_dk hby dj67_7 5 rfl) (by decide) (by decide) [b] (fun y hy => by cases List.mem_singleton.mp hy; exact ⟨List.mem_of_getElem? (i := 0) rfl, ge⟩) ⟨_, _, rfl, rfl, ge, Bv, Bc, Bn, Vz⟩
theorem ef_rq_aaN (m : MethodId) (q_0 : Addr) (q_1 : Addr)  : entryFrame m #[(.ref q_0), (.ref q_1)] 3 = mkF m 0 #[.val (.ref q_0), .val (.ref q_1), .unset] [] := by  first | (simp [entryFrame, mkF, argsToLocals, Value.category]; done) | rfl
set_option maxRecDepth 65536 in
set_option maxHeartbeats 40000000 in
theorem rq_aaN (l : Launch) (Z : State) (a0 : Array Value) (hw : ∀ d ∈ tables_1, d.before a0 Z = true) (more : List Jvm.Cond) (h0 : Heap) (x : Addr) (sg : Addr) (t : Addr) (kt : ClassId) (cs : List Int32) (nn cap : Nat) (ds : List Int32) (G1 : Int32) (O2 : Sta Z Z.heap "java/lang/String" "COMPACT_STRINGS" "Z" (.int G1)) (P5 : ¬ (G1 = (0 : Int32)))(hcs : cs.length + nn = cap) (hd : ds.length ≤ nn) (hbd : cap ≤ 100) (E : Exa Z h0 x "java/lang/StringBuilder") (Bv : Fld Z h0 x "java/lang/AbstractStringBuilder" "value" "[B" (.ref t)) (Bc : Fld Z h0 x "java/lang/AbstractStringBuilder" "coder" "B" (.int (0 : Int32))) (Bn : Fld Z h0 x "java/lang/AbstractStringBuilder" "count" "I" (.int (Int32.ofNat cs.length)))(Vt : Arv Z h0 t kt .byte (Int32.ofNat cap) (own_ct cs nn) (.int (0 : Int32))) (S : own_Str Z h0 sg ds) (hl : ∀ c ∈ ds, ¬ (255 : Int32) < c) (nxt : t ≠ x) :
    own_Met true false consts_1 l Z a0 (⟨"java/lang/AbstractStringBuilder", "append", "(Ljava/lang/String;)Ljava/lang/AbstractStringBuilder;"⟩ : MethodName) jdk_68_method_22_code 3 (some (.object "java/lang/AbstractStringBuilder")) more ({ frames := 3, cells := 0, slots := 0, locals := 47 } : Room) #[(.ref x), (.ref sg)] h0 [x, t] (fun v h => v = some (.ref x) ∧ Fld Z h x "java/lang/AbstractStringBuilder" "value" "[B" (.ref t) ∧ Fld Z h x "java/lang/AbstractStringBuilder" "coder" "B" (.int (0 : Int32)) ∧ Fld Z h x "java/lang/AbstractStringBuilder" "count" "I" (.int (Int32.ofNat (cs ++ ds).length)) ∧ Arv Z h t kt .byte (Int32.ofNat cap) (own_ct (cs ++ ds) (nn - ds.length)) (.int (0 : Int32))) := by
  refine own_enter (own := "java/lang/AbstractStringBuilder") rfl (plainFor_of_name pn_17) ?_
  intro p e s m below meth c T hx hby hml hret hlk hnm K
  rw [ef_rq_aaN m x sg]
  have A := own_here K
  refine own_aloadN A hx (pc' := 1) (own_dk hby dj68_22 0 rfl) rfl rfl rfl ?_
  refine own_ifnonnull_t A hx 9 (own_dk hby dj68_22 1 rfl) (by decide) (by decide) ?_
  refine own_aloadN A hx (pc' := 10) (own_dk hby dj68_22 2 rfl) rfl rfl rfl ?_
  refine own_strLen K hx (by rw [hml]; rfl) (own_w hw 404 rfl) (own_w hw 313 rfl) (own_w hw 315 rfl) (own_w hw 314 rfl) (own_wl hw) (own_w hw 5 rfl) S O2 P5 (lenOf pd_14 rfl) 0 (Nat.le_of_eq rfl) (own_dk hby dj68_22 3 rfl) (pc' := 13) rfl (by decide) (by decide) (by decide) (by decide) ?_
  intro T170 K170
  have A170 := own_here K170
  refine own_istoreN A170 hx (pc' := 14) #[.val (.ref x), .val (.ref sg), .val (.int (Int32.ofNat (ds : List Int32).length))] (own_dk hby dj68_22 4 rfl) rfl rfl ?_
  refine own_aloadN A170 hx (pc' := 15) (own_dk hby dj68_22 5 rfl) rfl rfl rfl ?_
  refine own_aloadN A170 hx (pc' := 16) (own_dk hby dj68_22 6 rfl) rfl rfl rfl ?_
  refine own_getF K170 hx (host := "") (Or.inl (own_w hw 405 rfl)) Via.refl Bn (own_dk hby dj68_22 7 rfl) (pc' := 19) rfl ?_
  intro T171 K171
  have A171 := own_here K171
  refine own_iloadN A171 hx (pc' := 20) (own_dk hby dj68_22 8 rfl) rfl rfl ?_
  refine own_iadd A171 hx (pc' := 21) (own_dk hby dj68_22 9 rfl) (z := ((Int32.ofNat cs.length) + (Int32.ofNat (ds : List Int32).length))) rfl rfl ?_
  rw [own_na]
  refine own_callV K171 hx (by rw [hml]; rfl) (own_w hw 407 rfl) (own_decl (own_w hw 408 rfl) (own_w hw 411 rfl)) (fun U hU => notFace_of_selects (args := #[]) (mvT hU (own_w hw 410 rfl))) (own_w hw 410 rfl) (own_w hw 408 rfl) (own_w hw 385 rfl) (own_w hw 411 rfl) (by decide) E (rq_en l Z a0 hw [] h0 x (cs.length + ds.length) t kt cs nn cap (by omega) hbd Bv Bc Vt) (fun _ q => nomatch q) (argsL := [(.int (Int32.ofNat (cs.length + ds.length)))]) (rest := []) (lenOf pd_22 rfl) rfl 0 (Nat.le_of_eq rfl) (own_dk hby dj68_22 10 rfl) (pc' := 24) rfl (by decide) (by decide) (by decide) (by decide) ?_
  intro v172 T172 h172 K172 Kp172 Q172
  obtain ⟨rfl, rfl⟩ := Q172
  have E := E.keep Kp172
  have Bv := Bv.keep Kp172 nin0
  have Bc := Bc.keep Kp172 nin0
  have Vt := Vt.keep Kp172 nin0
  have Bn := Bn.keep Kp172 nin0
  have S := S.keep Kp172 own_off0
  have A172 := own_here K172
  show own_Go p.tables e below _ T172 (mkF m 24 #[.val (.ref x), .val (.ref sg), .val (.int (Int32.ofNat (ds : List Int32).length))] [])
  refine own_aloadN A172 hx (pc' := 25) (own_dk hby dj68_22 11 rfl) rfl rfl rfl ?_
  refine own_aloadN A172 hx (pc' := 26) (own_dk hby dj68_22 12 rfl) rfl rfl rfl ?_
  refine own_getF K172 hx (host := "") (Or.inl (own_w hw 405 rfl)) Via.refl Bn (own_dk hby dj68_22 13 rfl) (pc' := 29) rfl ?_
  intro T173 K173
  have A173 := own_here K173
  refine own_aloadN A173 hx (pc' := 30) (own_dk hby dj68_22 14 rfl) rfl rfl rfl ?_
  obtain ⟨q, kq, X, V, C, Vq⟩ := own_lat S hl
  refine own_callV K173 hx (by rw [hml]; rfl) (own_w hw 427 rfl) (own_decl (own_w hw 428 rfl) (own_w hw 431 rfl)) (fun U hU => notFace_of_selects (args := #[]) (mvT hU (own_w hw 430 rfl))) (own_w hw 430 rfl) (own_w hw 428 rfl) (own_w hw 385 rfl) (own_w hw 431 rfl) (by decide) E (rq_ps l Z a0 hw [] h172 x sg t kt cs nn cap kq q ds G1 O2 P5 (by omega) (by omega) hbd Vt E Bv Bc X C V Vq) (own_mem1 (List.mem_of_getElem? (i := 1) rfl)) (argsL := [(.int (Int32.ofNat cs.length)), (.ref sg)]) (rest := []) (lenOf pd_29 rfl) rfl 0 (Nat.le_of_eq rfl) (own_dk hby dj68_22 15 rfl) (pc' := 33) rfl (by decide) (by decide) (by decide) (by decide) ?_
  intro v174 T174 h174 K174 Kp174 Q174
  obtain ⟨rfl, Vz⟩ := Q174
  have E := E.keep Kp174
  have Bv := Bv.keep Kp174 (ninS (Ne.symm nxt) nin0)
  have Bc := Bc.keep Kp174 (ninS (Ne.symm nxt) nin0)
  have Bn := Bn.keep Kp174 (ninS (Ne.symm nxt) nin0)
  have A174 := own_here K174
  show own_Go p.tables e below _ T174 (mkF m 33 #[.val (.ref x), .val (.ref sg), .val (.int (Int32.ofNat (ds : List Int32).length))] [])
  refine own_aloadN A174 hx (pc' := 34) (own_dk hby dj68_22 16 rfl) rfl rfl rfl ?_
  refine own_dup A174 hx (pc' := 35) (own_dk hby dj68_22 17 rfl) rfl rfl ?_
  refine own_getF K174 hx (host := "") (Or.inl (own_w hw 405 rfl)) Via.refl Bn (own_dk hby dj68_22 18 rfl) (pc' := 38) rfl ?_
  intro T175 K175
  have A175 := own_here K175
  refine own_iloadN A175 hx (pc' := 39) (own_dk hby dj68_22 19 rfl) rfl rfl ?_
  refine own_iadd A175 hx (pc' := 40) (own_dk hby dj68_22 20 rfl) (z := ((Int32.ofNat cs.length) + (Int32.ofNat (ds : List Int32).length))) rfl rfl ?_
  rw [own_na]
  refine own_putF K175 hx (host := "") (Or.inl (own_w hw 405 rfl)) Via.refl Bn E (Or.inl (own_w hw 406 rfl)) (own_w hw 376 rfl) (ty := .int) (by decide) rfl rfl (List.mem_of_getElem? (i := 0) rfl) (own_dk hby dj68_22 21 rfl) (pc' := 43) rfl ?_
  intro T176 h176 K176 W176
  have E := E.wr W176
  have Vz := Vz.other W176 (Ne.symm (Ne.symm nxt))
  have Bv := Bv.other W176 (Or.inr (slot_ne (Or.inl (own_w hw 390 rfl)) (Or.inl (own_w hw 406 rfl)) (by decide) (t := (.array .byte)) (t' := .int) (by decide) (by decide)))
  have Bc := Bc.other W176 (Or.inr (slot_ne (Or.inl (own_w hw 392 rfl)) (Or.inl (own_w hw 406 rfl)) (by decide) (t := .byte) (t' := .int) (by decide) (by decide)))
  have Bn := Bn.same W176
  have A176 := own_here K176
  refine own_aloadN A176 hx (pc' := 44) (own_dk hby dj68_22 22 rfl) rfl rfl rfl ?_
  exact own_retR K176 hx hlk hret rfl rfl (own_dk hby dj68_22 23 rfl) (by decide) (by decide) ⟨rfl, Bv, Bc, (by rw [List.length_append]; exact Bn), Vz⟩
theorem ef_rq_saN (m : MethodId) (q_0 : Addr) (q_1 : Addr)  : entryFrame m #[(.ref q_0), (.ref q_1)] 2 = mkF m 0 #[.val (.ref q_0), .val (.ref q_1)] [] := by  first | (simp [entryFrame, mkF, argsToLocals, Value.category]; done) | rfl
set_option maxRecDepth 65536 in
set_option maxHeartbeats 40000000 in
theorem rq_saN (l : Launch) (Z : State) (a0 : Array Value) (hw : ∀ d ∈ tables_1, d.before a0 Z = true) (more : List Jvm.Cond) (h0 : Heap) (x : Addr) (sg : Addr) (t : Addr) (kt : ClassId) (cs : List Int32) (nn cap : Nat) (ds : List Int32) (G1 : Int32) (O2 : Sta Z Z.heap "java/lang/String" "COMPACT_STRINGS" "Z" (.int G1)) (P5 : ¬ (G1 = (0 : Int32)))(hcs : cs.length + nn = cap) (hd : ds.length ≤ nn) (hbd : cap ≤ 100) (E : Exa Z h0 x "java/lang/StringBuilder") (Bv : Fld Z h0 x "java/lang/AbstractStringBuilder" "value" "[B" (.ref t)) (Bc : Fld Z h0 x "java/lang/AbstractStringBuilder" "coder" "B" (.int (0 : Int32))) (Bn : Fld Z h0 x "java/lang/AbstractStringBuilder" "count" "I" (.int (Int32.ofNat cs.length)))(Vt : Arv Z h0 t kt .byte (Int32.ofNat cap) (own_ct cs nn) (.int (0 : Int32))) (S : own_Str Z h0 sg ds) (hl : ∀ c ∈ ds, ¬ (255 : Int32) < c) (nxt : t ≠ x) :
    own_Met true false consts_1 l Z a0 (⟨"java/lang/StringBuilder", "append", "(Ljava/lang/String;)Ljava/lang/StringBuilder;"⟩ : MethodName) jdk_67_method_7_code 2 (some (.object "java/lang/StringBuilder")) more ({ frames := 4, cells := 0, slots := 0, locals := 61 } : Room) #[(.ref x), (.ref sg)] h0 [x, t] (fun v h => v = some (.ref x) ∧ Fld Z h x "java/lang/AbstractStringBuilder" "value" "[B" (.ref t) ∧ Fld Z h x "java/lang/AbstractStringBuilder" "coder" "B" (.int (0 : Int32)) ∧ Fld Z h x "java/lang/AbstractStringBuilder" "count" "I" (.int (Int32.ofNat (cs ++ ds).length)) ∧ Arv Z h t kt .byte (Int32.ofNat cap) (own_ct (cs ++ ds) (nn - ds.length)) (.int (0 : Int32))) := by
  refine own_enter (own := "java/lang/StringBuilder") rfl (plainFor_of_name pn_18) ?_
  intro p e s m below meth c T hx hby hml hret hlk hnm K
  rw [ef_rq_saN m x sg]
  have A := own_here K
  refine own_aloadN A hx (pc' := 1) (own_dk hby dj67_7 0 rfl) rfl rfl rfl ?_
  refine own_aloadN A hx (pc' := 2) (own_dk hby dj67_7 1 rfl) rfl rfl rfl ?_
  refine own_superR K hx (by rw [hml]; rfl) (own_w hw 399 rfl) (own_w hw 402 rfl) (own_w hw 400 rfl) (own_w hw 401 rfl) (own_nf (own_w hw 410 rfl) rfl) (by decide) (by decide) (own_w hw 385 rfl) (own_w hw 403 rfl) E (own_Met.r (rq_aaN l Z a0 hw [] h0 x sg t kt cs nn cap ds G1 O2 P5 hcs hd hbd E Bv Bc Bn Vt S hl nxt)) (own_mem2 (List.mem_of_getElem? (i := 0) rfl) (List.mem_of_getElem? (i := 1) rfl)) (argsL := [(.ref sg)]) (rest := []) (lenOf pd_30 rfl) rfl 0 (Nat.le_of_eq rfl) (own_dk hby dj67_7 2 rfl) (pc' := 5) rfl (by decide) (by decide) (by decide) (by decide) ?_
  intro v177 T177 h177 ns177 K177 Kp177 Q177
  obtain ⟨⟨rfl, Bv, Bc, Bn, Vz⟩, rfl⟩ := Q177
  have E := E.keep Kp177
  have A177 := own_here K177
  show own_Go p.tables e below _ T177 (mkF m 5 #[.val (.ref x), .val (.ref sg)] [(.ref x)])
  refine own_pop A177 hx (pc' := 6) (own_dk hby dj67_7 3 rfl) rfl rfl ?_
  refine own_aloadN A177 hx (pc' := 7) (own_dk hby dj67_7 4 rfl) rfl rfl rfl ?_
  exact own_retR K177 hx hlk hret rfl rfl (own_dk hby dj67_7 5 rfl) (by decide) (by decide) ⟨rfl, Bv, Bc, Bn, Vz⟩
theorem dj68_64 : ∀ r ∈ ([(0, .aload_n 0, 1), (1, .getfield 15, 3), (4, .areturn, 1)] : List (Nat × Instr × Nat)), decode jdk_68_method_64_code r.1 = .ok (r.2.1, r.2.2) := by decide +kernel
theorem ef_rq_gv (m : MethodId) (q_0 : Addr)  : entryFrame m #[(.ref q_0)] 1 = mkF m 0 #[.val (.ref q_0)] [] := by  first | (simp [entryFrame, mkF, argsToLocals, Value.category]; done) | rfl
set_option maxRecDepth 65536 in
set_option maxHeartbeats 40000000 in
theorem rq_gv (l : Launch) (Z : State) (a0 : Array Value) (hw : ∀ d ∈ tables_1, d.before a0 Z = true) (more : List Jvm.Cond) (h0 : Heap) (x : Addr) (t : Addr)  (Bv : Fld Z h0 x "java/lang/AbstractStringBuilder" "value" "[B" (.ref t)) :
    own_Met true false consts_1 l Z a0 (⟨"java/lang/AbstractStringBuilder", "getValue", "()[B"⟩ : MethodName) jdk_68_method_64_code 1 (some (.array .byte)) more ({ frames := 0, cells := 0, slots := 0, locals := 0 } : Room) #[(.ref x)] h0 [] (fun v h => v = some (.ref t) ∧ h = h0) := by
  refine own_enter (own := "java/lang/AbstractStringBuilder") rfl (plainFor_of_name pn_17) ?_
  intro p e s m below meth c T hx hby hml hret hlk hnm K
  rw [ef_rq_gv m x]
  have A := own_here K
  refine own_aloadN A hx (pc' := 1) (own_dk hby dj68_64 0 rfl) rfl rfl rfl ?_
  refine own_getF K hx (host := "") (Or.inl (own_w hw 389 rfl)) Via.refl Bv (own_dk hby dj68_64 1 rfl) (pc' := 4) rfl ?_
  intro T178 K178
  have A178 := own_here K178
  exact own_retR K178 hx hlk hret rfl rfl (own_dk hby dj68_64 2 rfl) (by decide) (by decide) ⟨rfl, rfl⟩
theorem dj68_6 : ∀ r ∈ ([(0, .aload_n 0, 1), (1, .getfield 79, 3), (4, .ireturn, 1)] : List (Nat × Instr × Nat)), decode jdk_68_method_6_code r.1 = .ok (r.2.1, r.2.2) := by decide +kernel
theorem ef_rq_ln0 (m : MethodId) (q_0 : Addr)  : entryFrame m #[(.ref q_0)] 1 = mkF m 0 #[.val (.ref q_0)] [] := by  first | (simp [entryFrame, mkF, argsToLocals, Value.category]; done) | rfl
set_option maxRecDepth 65536 in
set_option maxHeartbeats 40000000 in
theorem rq_ln0 (l : Launch) (Z : State) (a0 : Array Value) (hw : ∀ d ∈ tables_1, d.before a0 Z = true) (more : List Jvm.Cond) (h0 : Heap) (x : Addr) (n : Int32)  (Bn : Fld Z h0 x "java/lang/AbstractStringBuilder" "count" "I" (.int n)) :
    own_Met true false consts_1 l Z a0 (⟨"java/lang/AbstractStringBuilder", "length", "()I"⟩ : MethodName) jdk_68_method_6_code 1 (some .int) more ({ frames := 0, cells := 0, slots := 0, locals := 0 } : Room) #[(.ref x)] h0 [] (fun v h => v = some (.int n) ∧ h = h0) := by
  refine own_enter (own := "java/lang/AbstractStringBuilder") rfl (plainFor_of_name pn_17) ?_
  intro p e s m below meth c T hx hby hml hret hlk hnm K
  rw [ef_rq_ln0 m x]
  have A := own_here K
  refine own_aloadN A hx (pc' := 1) (own_dk hby dj68_6 0 rfl) rfl rfl rfl ?_
  refine own_getF K hx (host := "") (Or.inl (own_w hw 405 rfl)) Via.refl Bn (own_dk hby dj68_6 1 rfl) (pc' := 4) rfl ?_
  intro T179 K179
  have A179 := own_here K179
  exact own_retI K179 hx hlk hret (own_dk hby dj68_6 2 rfl) (by decide) (by decide) ⟨rfl, rfl⟩
theorem dj67_93 : ∀ r ∈ ([(0, .aload_n 0, 1), (1, .invokespecial 343, 3), (4, .ireturn, 1)] : List (Nat × Instr × Nat)), decode jdk_67_method_93_code r.1 = .ok (r.2.1, r.2.2) := by decide +kernel
theorem ef_rq_ln (m : MethodId) (q_0 : Addr)  : entryFrame m #[(.ref q_0)] 1 = mkF m 0 #[.val (.ref q_0)] [] := by  first | (simp [entryFrame, mkF, argsToLocals, Value.category]; done) | rfl
set_option maxRecDepth 65536 in
set_option maxHeartbeats 40000000 in
theorem rq_ln (l : Launch) (Z : State) (a0 : Array Value) (hw : ∀ d ∈ tables_1, d.before a0 Z = true) (more : List Jvm.Cond) (h0 : Heap) (x : Addr) (n : Int32)  (E : Exa Z h0 x "java/lang/StringBuilder") (Bn : Fld Z h0 x "java/lang/AbstractStringBuilder" "count" "I" (.int n)) :
    own_Met true false consts_1 l Z a0 (⟨"java/lang/StringBuilder", "length", "()I"⟩ : MethodName) jdk_67_method_93_code 1 (some .int) more ({ frames := 1, cells := 0, slots := 0, locals := 12 } : Room) #[(.ref x)] h0 [] (fun v h => v = some (.int n) ∧ h = h0) := by
  refine own_enter (own := "java/lang/StringBuilder") rfl (plainFor_of_name pn_18) ?_
  intro p e s m below meth c T hx hby hml hret hlk hnm K
  rw [ef_rq_ln m x]
  have A := own_here K
  refine own_aloadN A hx (pc' := 1) (own_dk hby dj67_93 0 rfl) rfl rfl rfl ?_
  refine own_superR K hx (by rw [hml]; rfl) (own_w hw 468 rfl) (own_w hw 463 rfl) (own_w hw 464 rfl) (own_w hw 401 rfl) (own_nf (own_w hw 410 rfl) rfl) (by decide) (by decide) (own_w hw 385 rfl) (own_w hw 469 rfl) E (own_Met.r (rq_ln0 l Z a0 hw [] h0 x n Bn)) (fun _ q => nomatch q) (argsL := []) (rest := []) (lenOf pd_14 rfl) rfl 0 (Nat.le_of_eq rfl) (own_dk hby dj67_93 1 rfl) (pc' := 4) rfl (by decide) (by decide) (by decide) (by decide) ?_
  intro v180 T180 h180 ns180 K180 Kp180 Q180
  obtain ⟨⟨rfl, rfl⟩, rfl⟩ := Q180
  have E := E.keep Kp180
  have Bn := Bn.keep Kp180 nin0
  have A180 := own_here K180
  show own_Go p.tables e below _ T180 (mkF m 4 #[.val (.ref x)] [(.int n)])
  exact own_retI K180 hx hlk hret (own_dk hby dj67_93 2 rfl) (by decide) (by decide) ⟨rfl, rfl⟩
theorem dj68_68 : ∀ r ∈ ([(0, .getstatic 18, 3), (3, .ifCond .eq 14, 3), (6, .aload_n 0, 1), (7, .getfield 22, 3), (10, .ifCond .ne 7, 3), (13, .iconst 1, 1), (14, .goto 4, 3), (18, .ireturn, 1)] : List (Nat × Instr × Nat)), decode jdk_68_method_68_code r.1 = .ok (r.2.1, r.2.2) := by decide +kernel
theorem ef_rq_isl (m : MethodId) (q_0 : Addr)  : entryFrame m #[(.ref q_0)] 1 = mkF m 0 #[.val (.ref q_0)] [] := by  first | (simp [entryFrame, mkF, argsToLocals, Value.category]; done) | rfl
set_option maxRecDepth 65536 in
set_option maxHeartbeats 40000000 in
theorem rq_isl (l : Launch) (Z : State) (a0 : Array Value) (hw : ∀ d ∈ tables_1, d.before a0 Z = true) (more : List Jvm.Cond) (h0 : Heap) (x : Addr)  (G1 : Int32) (O2 : Sta Z Z.heap "java/lang/String" "COMPACT_STRINGS" "Z" (.int G1)) (P5 : ¬ (G1 = (0 : Int32))) (Bc : Fld Z h0 x "java/lang/AbstractStringBuilder" "coder" "B" (.int (0 : Int32))) :
    own_Met true false consts_1 l Z a0 (⟨"java/lang/AbstractStringBuilder", "isLatin1", "()Z"⟩ : MethodName) jdk_68_method_68_code 1 (some .boolean) more ({ frames := 0, cells := 0, slots := 0, locals := 0 } : Room) #[(.ref x)] h0 [] (fun v h => v = some (.int 1) ∧ h = h0) := by
  refine own_enter (own := "java/lang/AbstractStringBuilder") rfl (plainFor_of_name pn_17) ?_
  intro p e s m below meth c T hx hby hml hret hlk hnm K
  rw [ef_rq_isl m x]
  have A := own_here K
  refine own_getS K hx (host := "") (Or.inl (own_w hw 388 rfl)) Via.refl O2 (own_dk hby dj68_68 0 rfl) (pc' := 3) rfl ?_
  intro T181 K181
  have A181 := own_here K181
  refine own_if_eq A181 hx 17 6 (own_dk hby dj68_68 1 rfl) (by decide) (by decide) rfl (fun hc3 => ?_) (fun hc3 => ?_)
  · exact absurd hc3 P5
  refine own_aloadN A181 hx (pc' := 7) (own_dk hby dj68_68 2 rfl) rfl rfl rfl ?_
  refine own_getF K181 hx (host := "") (Or.inl (own_w hw 391 rfl)) Via.refl Bc (own_dk hby dj68_68 3 rfl) (pc' := 10) rfl ?_
  intro T182 K182
  have A182 := own_here K182
  refine own_if_ne A182 hx 17 13 (own_dk hby dj68_68 4 rfl) (by decide) (by decide) rfl (fun hc10 => ?_) (fun hc10 => ?_)
  · exact absurd hc10 (by decide)
  refine own_iconst A182 hx (pc' := 14) (own_dk hby dj68_68 5 rfl) (z := (1 : Int32)) (by decide) rfl ?_
  refine own_goto A182 hx 18 (own_dk hby dj68_68 6 rfl) (by decide) (by decide) ?_
  exact own_retN K182 hx hlk hret (by simp) (own_dk hby dj68_68 7 rfl) (by decide) (by decide) ⟨rfl, rfl⟩
theorem dj65_131 : ∀ r ∈ ([(0, .iload_n 1, 1), (1, .iload_n 0, 1), (2, .if_icmp .ge 35, 3), (37, .return_, 1)] : List (Nat × Instr × Nat)), decode jdk_65_method_131_code r.1 = .ok (r.2.1, r.2.2) := by decide +kernel
theorem ef_rq_ckl (m : MethodId) (q_1 : Int32)  : entryFrame m #[(.int (0 : Int32)), (.int q_1)] 2 = mkF m 0 #[.val (.int (0 : Int32)), .val (.int q_1)] [] := by  first | (simp [entryFrame, mkF, argsToLocals, Value.category]; done) | rfl
set_option maxRecDepth 65536 in
set_option maxHeartbeats 40000000 in
theorem rq_ckl (l : Launch) (Z : State) (a0 : Array Value) (hw : ∀ d ∈ tables_1, d.before a0 Z = true) (more : List Jvm.Cond) (h0 : Heap) (p2 : Int32)  (hp : ¬ p2 < 0) :
    own_Met true false consts_1 l Z a0 (⟨"java/util/Arrays", "checkLength", "(II)V"⟩ : MethodName) jdk_65_method_131_code 2 none more ({ frames := 0, cells := 0, slots := 0, locals := 0 } : Room) #[(.int (0 : Int32)), (.int p2)] h0 [] (fun v h => v = none ∧ h = h0) := by
  refine own_enter (own := "java/util/Arrays") rfl (plainFor_of_name pn_6) ?_
  intro p e s m below meth c T hx hby hml hret hlk hnm K
  rw [ef_rq_ckl m p2]
  have A := own_here K
  refine own_iloadN A hx (pc' := 1) (own_dk hby dj65_131 0 rfl) rfl rfl ?_
  refine own_iloadN A hx (pc' := 2) (own_dk hby dj65_131 1 rfl) rfl rfl ?_
  refine own_icmp_ge A hx 37 5 (own_dk hby dj65_131 2 rfl) (by decide) (by decide) rfl (fun hc2 => ?_) (fun hc2 => ?_)
  rotate_left
  · exact absurd hc2 hp
  exact own_retV K hx hlk hret (own_dk hby dj65_131 3 rfl) (by decide) (by decide) ⟨rfl, rfl⟩
theorem dj65_133 : ∀ r ∈ ([(0, .iload_n 1, 1), (1, .iload_n 2, 1), (2, .invokestatic 343, 3), (5, .iload_n 2, 1), (6, .iload_n 1, 1), (7, .isub, 1), (8, .istore_n 3, 1), (9, .iload_n 3, 1), (10, .newarray .byte, 2), (12, .astore 4, 2), (14, .aload_n 0, 1), (15, .iload_n 1, 1), (16, .aload 4, 2), (18, .iconst 0, 1), (19, .aload_n 0, 1), (20, .arraylength, 1), (21, .iload_n 1, 1), (22, .isub, 1), (23, .iload_n 3, 1), (24, .invokestatic 304, 3), (27, .invokestatic 150, 3), (30, .aload 4, 2), (32, .areturn, 1)] : List (Nat × Instr × Nat)), decode jdk_65_method_133_code r.1 = .ok (r.2.1, r.2.2) := by decide +kernel
theorem pd_31 : parseMethodDescriptor "(II)V" = some ⟨[.int, .int], none⟩ := by decide +kernel
theorem ef_rq_crb (m : MethodId) (q_0 : Addr) (q_2 : Int32)  : entryFrame m #[(.ref q_0), (.int (0 : Int32)), (.int q_2)] 5 = mkF m 0 #[.val (.ref q_0), .val (.int (0 : Int32)), .val (.int q_2), .unset, .unset] [] := by  first | (simp [entryFrame, mkF, argsToLocals, Value.category]; done) | rfl
set_option maxRecDepth 65536 in
set_option maxHeartbeats 40000000 in
theorem rq_crb (l : Launch) (Z : State) (a0 : Array Value) (hw : ∀ d ∈ tables_1, d.before a0 Z = true) (more : List Jvm.Cond) (h0 : Heap) (t : Addr) (kt : ClassId) (cs : List Int32) (nn cap : Nat) (hcs : cs.length + nn = cap) (h0n : 0 < nn) (hbd : cap ≤ 100) (Vt : Arv Z h0 t kt .byte (Int32.ofNat cap) (own_ct cs nn) (.int (0 : Int32))) :
    own_Met true false consts_1 l Z a0 (⟨"java/util/Arrays", "copyOfRangeByte", "([BII)[B"⟩ : MethodName) jdk_65_method_133_code 5 (some (.array .byte)) more ({ frames := 1, cells := 1, slots := 100, locals := 18 } : Room) #[(.ref t), (.int (0 : Int32)), (.int (Int32.ofNat cs.length))] h0 [] (fun v h => ∃ b k, v = some (.ref b) ∧ h0.size ≤ b ∧ Arv Z h b k .byte (Int32.ofNat cs.length) (own_bs cs) (.int (0 : Int32))) := by
  refine own_enter (own := "java/util/Arrays") rfl (plainFor_of_name pn_6) ?_
  intro p e s m below meth c T hx hby hml hret hlk hnm K
  rw [ef_rq_crb m t (Int32.ofNat cs.length)]
  have A := own_here K
  refine own_iloadN A hx (pc' := 1) (own_dk hby dj65_133 0 rfl) rfl rfl ?_
  refine own_iloadN A hx (pc' := 2) (own_dk hby dj65_133 1 rfl) rfl rfl ?_
  refine own_callS K hx (by rw [hml]; rfl) (own_w hw 481 rfl) (own_w hw 482 rfl) (own_w hw 151 rfl) (own_w hw 483 rfl) (by decide) (rq_ckl l Z a0 hw [] h0 (Int32.ofNat cs.length) (own_nat0 (by omega))) (fun _ q => nomatch q) (argsL := [(.int (0 : Int32)), (.int (Int32.ofNat cs.length))]) (rest := []) (lenOf pd_31 rfl) rfl 0 (Nat.le_of_eq rfl) (own_dk hby dj65_133 2 rfl) (pc' := 5) rfl (by decide) (by decide) (by decide) (by decide) ?_
  intro v183 T183 h183 K183 Kp183 Q183
  obtain ⟨rfl, rfl⟩ := Q183
  have Vt := Vt.keep Kp183 nin0
  have A183 := own_here K183
  show own_Go p.tables e below _ T183 (mkF m 5 #[.val (.ref t), .val (.int (0 : Int32)), .val (.int (Int32.ofNat cs.length)), .unset, .unset] [])
  refine own_iloadN A183 hx (pc' := 6) (own_dk hby dj65_133 3 rfl) rfl rfl ?_
  refine own_iloadN A183 hx (pc' := 7) (own_dk hby dj65_133 4 rfl) rfl rfl ?_
  refine own_isub A183 hx (pc' := 8) (own_dk hby dj65_133 5 rfl) (z := ((Int32.ofNat cs.length) - (0 : Int32))) rfl rfl ?_
  rw [Int32.sub_zero]
  refine own_istoreN A183 hx (pc' := 9) #[.val (.ref t), .val (.int (0 : Int32)), .val (.int (Int32.ofNat cs.length)), .val (.int (Int32.ofNat cs.length)), .unset] (own_dk hby dj65_133 6 rfl) rfl rfl ?_
  refine own_iloadN A183 hx (pc' := 10) (own_dk hby dj65_133 7 rfl) rfl rfl ?_
  refine own_newarr K183 hx (own_w hw 6 rfl) (own_dk hby dj65_133 8 rfl) (pc' := 12) rfl (own_nat0 (by omega)) 100 (by rw [own_natcl (by omega)]; omega) (by decide) (by decide) (by decide) ?_
  intro T184 h184 b184 k184 g184 K184 E184 V184
  have ne_t_b184 : t ≠ b184 := by rw [g184]; exact Nat.ne_of_lt Vt.lt
  have Vt := Vt.ext E184
  have A184 := own_here K184
  have Vu : Arv Z h184 b184 k184 .byte (Int32.ofNat (List.replicate cs.length (Value.int (0 : Int32))).length) (List.replicate cs.length (Value.int (0 : Int32))) (.int (0 : Int32)) := by rw [List.length_replicate]; exact V184.pad (pad_rep [] (.int (0 : Int32)) cs.length)
  refine own_astore A184 hx (pc' := 14) #[.val (.ref t), .val (.int (0 : Int32)), .val (.int (Int32.ofNat cs.length)), .val (.int (Int32.ofNat cs.length)), .val (.ref b184)] (own_dk hby dj65_133 9 rfl) rfl rfl rfl ?_
  refine own_aloadN A184 hx (pc' := 15) (own_dk hby dj65_133 10 rfl) rfl rfl rfl ?_
  refine own_iloadN A184 hx (pc' := 16) (own_dk hby dj65_133 11 rfl) rfl rfl ?_
  refine own_aload A184 hx (pc' := 18) (own_dk hby dj65_133 12 rfl) rfl rfl rfl ?_
  refine own_iconst A184 hx (pc' := 19) (own_dk hby dj65_133 13 rfl) (z := (0 : Int32)) (by decide) rfl ?_
  refine own_aloadN A184 hx (pc' := 20) (own_dk hby dj65_133 14 rfl) rfl rfl rfl ?_
  refine own_len K184 hx Vt (own_dk hby dj65_133 15 rfl) (pc' := 21) rfl ?_
  refine own_iloadN A184 hx (pc' := 22) (own_dk hby dj65_133 16 rfl) rfl rfl ?_
  refine own_isub A184 hx (pc' := 23) (own_dk hby dj65_133 17 rfl) (z := ((Int32.ofNat cap) - (0 : Int32))) rfl rfl ?_
  rw [Int32.sub_zero]
  refine own_iloadN A184 hx (pc' := 24) (own_dk hby dj65_133 18 rfl) rfl rfl ?_
  refine own_callS K184 hx (by rw [hml]; rfl) (own_w hw 164 rfl) (own_w hw 165 rfl) (own_w hw 109 rfl) (own_w hw 166 rfl) (by decide) (rq_min l Z a0 hw [] h184 (Int32.ofNat cap) (Int32.ofNat cs.length)) (fun _ q => nomatch q) (argsL := [(.int (Int32.ofNat cap)), (.int (Int32.ofNat cs.length))]) (rest := [(.int (0 : Int32)), (.ref b184), (.int (0 : Int32)), (.ref t)]) (lenOf pd_1 rfl) rfl 4 (Nat.le_of_eq rfl) (own_dk hby dj65_133 19 rfl) (pc' := 27) rfl (by decide) (by decide) (by decide) (by decide) ?_
  intro v185 T185 h185 K185 Kp185 Q185
  obtain ⟨rfl, -⟩ := Q185
  have Vt := Vt.keep Kp185 nin0
  have Vu := Vu.keep Kp185 nin0
  have A185 := own_here K185
  show own_Go p.tables e below _ T185 (mkF m 27 #[.val (.ref t), .val (.int (0 : Int32)), .val (.int (Int32.ofNat cs.length)), .val (.int (Int32.ofNat cs.length)), .val (.ref b184)] [(.int (if (Int32.ofNat cs.length) < (Int32.ofNat cap) then (Int32.ofNat cs.length) else (Int32.ofNat cap))), (.int (0 : Int32)), (.ref b184), (.int (0 : Int32)), (.ref t)])
  rw [if_pos (own_nlt (by omega) (by omega) (by omega))]
  have eL : (own_ct cs nn).length = cap := by rw [own_ctL, hcs]
  have Vs : Arv Z h185 t kt .byte (Int32.ofNat (own_ct cs nn).length) (own_ct cs nn) (.int (0 : Int32)) := by rw [eL]; exact Vt
  refine own_acopyG (i := 0) (j := 0) (n := cs.length) K185 hx (own_w hw 167 rfl) (own_w hw 170 rfl) (own_w hw 168 rfl) (own_w hw 169 rfl) Vs Vu (by decide) (fun q _ => Or.inl (own_getAll (own_ctI cs nn) _)) (List.mem_of_getElem? (i := 0) rfl) (by rw [eL]; omega) (by rw [List.length_replicate]; omega) (by rw [eL]; omega) (by rw [List.length_replicate]; omega) (by rw [hml]; rfl) (own_dk hby dj65_133 20 rfl) (pc' := 30) rfl (by decide) (by decide) ?_
  intro T186 h186 K186 Kp186 Y
  have A186 := own_here K186
  rw [own_cut cs _ rfl List.length_replicate, List.length_replicate] at Y
  refine own_aload A186 hx (pc' := 32) (own_dk hby dj65_133 21 rfl) rfl rfl rfl ?_
  exact own_retR K186 hx hlk hret rfl rfl (own_dk hby dj65_133 22 rfl) (by decide) (by decide) ⟨_, _, rfl, by rw [g184]; exact Nat.le_refl _, Y⟩
theorem dj65_132 : ∀ r ∈ ([(0, .iload_n 1, 1), (1, .ifCond .ne 9, 3), (4, .iload_n 2, 1), (5, .aload_n 0, 1), (6, .arraylength, 1), (7, .if_icmp .eq 10, 3), (10, .aload_n 0, 1), (11, .iload_n 1, 1), (12, .iload_n 2, 1), (13, .invokestatic 339, 3), (16, .areturn, 1)] : List (Nat × Instr × Nat)), decode jdk_65_method_132_code r.1 = .ok (r.2.1, r.2.2) := by decide +kernel
theorem pd_32 : parseMethodDescriptor "([BII)[B" = some ⟨[(.array .byte), .int, .int], some (.array .byte)⟩ := by decide +kernel
theorem ef_rq_cor (m : MethodId) (q_0 : Addr) (q_2 : Int32)  : entryFrame m #[(.ref q_0), (.int (0 : Int32)), (.int q_2)] 3 = mkF m 0 #[.val (.ref q_0), .val (.int (0 : Int32)), .val (.int q_2)] [] := by  first | (simp [entryFrame, mkF, argsToLocals, Value.category]; done) | rfl
set_option maxRecDepth 65536 in
set_option maxHeartbeats 40000000 in
theorem rq_cor (l : Launch) (Z : State) (a0 : Array Value) (hw : ∀ d ∈ tables_1, d.before a0 Z = true) (more : List Jvm.Cond) (h0 : Heap) (t : Addr) (kt : ClassId) (cs : List Int32) (nn cap : Nat) (hcs : cs.length + nn = cap) (h0n : 0 < nn) (hbd : cap ≤ 100) (Vt : Arv Z h0 t kt .byte (Int32.ofNat cap) (own_ct cs nn) (.int (0 : Int32))) :
    own_Met true false consts_1 l Z a0 (⟨"java/util/Arrays", "copyOfRange", "([BII)[B"⟩ : MethodName) jdk_65_method_132_code 3 (some (.array .byte)) more ({ frames := 2, cells := 1, slots := 100, locals := 34 } : Room) #[(.ref t), (.int (0 : Int32)), (.int (Int32.ofNat cs.length))] h0 [] (fun v h => ∃ b k, v = some (.ref b) ∧ h0.size ≤ b ∧ Arv Z h b k .byte (Int32.ofNat cs.length) (own_bs cs) (.int (0 : Int32))) := by
  refine own_enter (own := "java/util/Arrays") rfl (plainFor_of_name pn_6) ?_
  intro p e s m below meth c T hx hby hml hret hlk hnm K
  rw [ef_rq_cor m t (Int32.ofNat cs.length)]
  have A := own_here K
  refine own_iloadN A hx (pc' := 1) (own_dk hby dj65_132 0 rfl) rfl rfl ?_
  refine own_if_ne A hx 10 4 (own_dk hby dj65_132 1 rfl) (by decide) (by decide) rfl (fun hc1 => ?_) (fun hc1 => ?_)
  · exact absurd hc1 (by decide)
  refine own_iloadN A hx (pc' := 5) (own_dk hby dj65_132 2 rfl) rfl rfl ?_
  refine own_aloadN A hx (pc' := 6) (own_dk hby dj65_132 3 rfl) rfl rfl rfl ?_
  refine own_len K hx Vt (own_dk hby dj65_132 4 rfl) (pc' := 7) rfl ?_
  refine own_icmp_eq A hx 17 10 (own_dk hby dj65_132 5 rfl) (by decide) (by decide) rfl (fun hc7 => ?_) (fun hc7 => ?_)
  · exact absurd (own_natinj (by omega) (by omega) hc7) (by omega)
  refine own_aloadN A hx (pc' := 11) (own_dk hby dj65_132 6 rfl) rfl rfl rfl ?_
  refine own_iloadN A hx (pc' := 12) (own_dk hby dj65_132 7 rfl) rfl rfl ?_
  refine own_iloadN A hx (pc' := 13) (own_dk hby dj65_132 8 rfl) rfl rfl ?_
  refine own_callS K hx (by rw [hml]; rfl) (own_w hw 478 rfl) (own_w hw 479 rfl) (own_w hw 151 rfl) (own_w hw 480 rfl) (by decide) (rq_crb l Z a0 hw [] h0 t kt cs nn cap hcs h0n hbd Vt) (fun _ q => nomatch q) (argsL := [(.ref t), (.int (0 : Int32)), (.int (Int32.ofNat cs.length))]) (rest := []) (lenOf pd_32 rfl) rfl 0 (Nat.le_of_eq rfl) (own_dk hby dj65_132 9 rfl) (pc' := 16) rfl (by decide) (by decide) (by decide) (by decide) ?_
  intro v187 T187 h187 K187 Kp187 Q187
  obtain ⟨b, k, rfl, ge, Y⟩ := Q187
  have Vt := Vt.keep Kp187 nin0
  have A187 := own_here K187
  show own_Go p.tables e below _ T187 (mkF m 16 #[.val (.ref t), .val (.int (0 : Int32)), .val (.int (Int32.ofNat cs.length))] [(.ref b)])
  exact own_retR K187 hx hlk hret rfl rfl (own_dk hby dj65_132 10 rfl) (by decide) (by decide) ⟨_, _, rfl, ge, Y⟩
theorem dj42_150 : ∀ r ∈ ([(0, .aload_n 0, 1), (1, .invokespecial 1, 3), (4, .aload_n 1, 1), (5, .invokevirtual 552, 3), (8, .astore_n 3, 1), (9, .aload_n 1, 1), (10, .invokevirtual 549, 3), (13, .istore 4, 2), (15, .aload_n 1, 1), (16, .invokevirtual 1047, 3), (19, .ifCond .eq 22, 3), (22, .aload_n 0, 1), (23, .iconst 0, 1), (24, .putfield 15, 3), (27, .aload_n 0, 1), (28, .aload_n 3, 1), (29, .iconst 0, 1), (30, .iload 4, 2), (32, .invokestatic 54, 3), (35, .putfield 9, 3), (38, .goto 59, 3), (97, .return_, 1)] : List (Nat × Instr × Nat)), decode jdk_42_method_150_code r.1 = .ok (r.2.1, r.2.2) := by decide +kernel
theorem pd_33 : parseMethodDescriptor "()[B" = some ⟨[], some (.array .byte)⟩ := by decide +kernel
theorem ef_rq_si2 (m : MethodId) (q_0 : Addr) (q_1 : Addr)  : entryFrame m #[(.ref q_0), (.ref q_1), .null] 5 = mkF m 0 #[.val (.ref q_0), .val (.ref q_1), .val .null, .unset, .unset] [] := by  first | (simp [entryFrame, mkF, argsToLocals, Value.category]; done) | rfl
set_option maxRecDepth 65536 in
set_option maxHeartbeats 40000000 in
theorem rq_si2 (l : Launch) (Z : State) (a0 : Array Value) (hw : ∀ d ∈ tables_1, d.before a0 Z = true) (more : List Jvm.Cond) (h0 : Heap) (y : Addr) (x : Addr) (t : Addr) (kt : ClassId) (cs : List Int32) (nn cap : Nat) (v0 v1 : Value) (G1 : Int32) (O2 : Sta Z Z.heap "java/lang/String" "COMPACT_STRINGS" "Z" (.int G1)) (P5 : ¬ (G1 = (0 : Int32)))(hcs : cs.length + nn = cap) (h0n : 0 < nn) (hbd : cap ≤ 100) (Vt : Arv Z h0 t kt .byte (Int32.ofNat cap) (own_ct cs nn) (.int (0 : Int32))) (hp : ∀ c ∈ cs, ¬ c < 0 ∧ ¬ (255 : Int32) < c) (Xb : Exa Z h0 x "java/lang/StringBuilder") (Bv : Fld Z h0 x "java/lang/AbstractStringBuilder" "value" "[B" (.ref t)) (Bc : Fld Z h0 x "java/lang/AbstractStringBuilder" "coder" "B" (.int (0 : Int32))) (Bn : Fld Z h0 x "java/lang/AbstractStringBuilder" "count" "I" (.int (Int32.ofNat cs.length))) (E : Exa Z h0 y "java/lang/String") (V : Fld Z h0 y "java/lang/String" "value" "[B" v0) (C : Fld Z h0 y "java/lang/String" "coder" "B" v1) :
    own_Met true false consts_1 l Z a0 (⟨"java/lang/String", "<init>", "(Ljava/lang/AbstractStringBuilder;Ljava/lang/Void;)V"⟩ : MethodName) jdk_42_method_150_code 5 none more ({ frames := 3, cells := 1, slots := 100, locals := 49 } : Room) #[(.ref y), (.ref x), .null] h0 [y] (fun v h => v = none ∧ own_Str Z h y cs) := by
  refine own_enter (own := "java/lang/String") rfl (plainFor_of_name pn_19) ?_
  intro p e s m below meth c T hx hby hml hret hlk hnm K
  rw [ef_rq_si2 m y x]
  have A := own_here K
  have nxy : x ≠ y := Xb.ne E (by decide)
  have nty : t ≠ y := Ne.symm (E.neArv Vt (own_w hw 5 rfl))
  refine own_aloadN A hx (pc' := 1) (own_dk hby dj42_150 0 rfl) rfl rfl rfl ?_
  refine own_initO K hx (own_w hw 20 rfl) (own_w hw 21 rfl) (own_w hw 22 rfl) (by rw [hml]; rfl) 0 (Nat.le_of_eq rfl) (by decide) (by decide) (own_dk hby dj42_150 1 rfl) (pc' := 4) rfl ?_
  intro T188 K188
  have A188 := own_here K188
  refine own_aloadN A188 hx (pc' := 5) (own_dk hby dj42_150 2 rfl) rfl rfl rfl ?_
  refine own_callV K188 hx (by rw [hml]; rfl) (own_w hw 457 rfl) (own_w hw 458 rfl) (fun U hU => notFace_of_selects (args := #[]) (mvT hU (own_w hw 460 rfl))) (own_w hw 460 rfl) (own_w hw 459 rfl) (own_w hw 385 rfl) (own_w hw 461 rfl) (by decide) Xb (rq_gv l Z a0 hw [] h0 x t Bv) (fun _ q => nomatch q) (argsL := []) (rest := []) (lenOf pd_33 rfl) rfl 0 (Nat.le_of_eq rfl) (own_dk hby dj42_150 3 rfl) (pc' := 8) rfl (by decide) (by decide) (by decide) (by decide) ?_
  intro v189 T189 h189 K189 Kp189 Q189
  obtain ⟨rfl, rfl⟩ := Q189
  have E := E.keep Kp189
  have V := V.keep Kp189 nin0
  have C := C.keep Kp189 nin0
  have Xb := Xb.keep Kp189
  have Bv := Bv.keep Kp189 nin0
  have Bc := Bc.keep Kp189 nin0
  have Vt := Vt.keep Kp189 nin0
  have Bn := Bn.keep Kp189 nin0
  have A189 := own_here K189
  show own_Go p.tables e below _ T189 (mkF m 8 #[.val (.ref y), .val (.ref x), .val .null, .unset, .unset] [(.ref t)])
  refine own_astoreN A189 hx (pc' := 9) #[.val (.ref y), .val (.ref x), .val .null, .val (.ref t), .unset] (own_dk hby dj42_150 4 rfl) rfl rfl rfl ?_
  refine own_aloadN A189 hx (pc' := 10) (own_dk hby dj42_150 5 rfl) rfl rfl rfl ?_
  refine own_callV K189 hx (by rw [hml]; rfl) (own_w hw 462 rfl) (own_w hw 463 rfl) (own_nf (own_w hw 410 rfl) rfl) (own_w hw 465 rfl) (own_w hw 466 rfl) (own_w hw 377 rfl) (own_w hw 467 rfl) (by decide) Xb (rq_ln l Z a0 hw [] h189 x (Int32.ofNat cs.length) Xb Bn) (fun _ q => nomatch q) (argsL := []) (rest := []) (lenOf pd_14 rfl) rfl 0 (Nat.le_of_eq rfl) (own_dk hby dj42_150 6 rfl) (pc' := 13) rfl (by decide) (by decide) (by decide) (by decide) ?_
  intro v190 T190 h190 K190 Kp190 Q190
  obtain ⟨rfl, rfl⟩ := Q190
  have E := E.keep Kp190
  have V := V.keep Kp190 nin0
  have C := C.keep Kp190 nin0
  have Xb := Xb.keep Kp190
  have Bv := Bv.keep Kp190 nin0
  have Bc := Bc.keep Kp190 nin0
  have Vt := Vt.keep Kp190 nin0
  have Bn := Bn.keep Kp190 nin0
  have A190 := own_here K190
  show own_Go p.tables e below _ T190 (mkF m 13 #[.val (.ref y), .val (.ref x), .val .null, .val (.ref t), .unset] [(.int (Int32.ofNat cs.length))])
  refine own_istore A190 hx (pc' := 15) #[.val (.ref y), .val (.ref x), .val .null, .val (.ref t), .val (.int (Int32.ofNat cs.length))] (own_dk hby dj42_150 7 rfl) rfl rfl ?_
  refine own_aloadN A190 hx (pc' := 16) (own_dk hby dj42_150 8 rfl) rfl rfl rfl ?_
  refine own_callV K190 hx (by rw [hml]; rfl) (own_w hw 470 rfl) (own_w hw 471 rfl) (fun U hU => notFace_of_selects (args := #[]) (mvT hU (own_w hw 473 rfl))) (own_w hw 473 rfl) (own_w hw 472 rfl) (own_w hw 385 rfl) (own_w hw 474 rfl) (by decide) Xb (rq_isl l Z a0 hw [] h190 x G1 O2 P5 Bc) (fun _ q => nomatch q) (argsL := []) (rest := []) (lenOf pd_10 rfl) rfl 0 (Nat.le_of_eq rfl) (own_dk hby dj42_150 9 rfl) (pc' := 19) rfl (by decide) (by decide) (by decide) (by decide) ?_
  intro v191 T191 h191 K191 Kp191 Q191
  obtain ⟨rfl, rfl⟩ := Q191
  have E := E.keep Kp191
  have V := V.keep Kp191 nin0
  have C := C.keep Kp191 nin0
  have Xb := Xb.keep Kp191
  have Bv := Bv.keep Kp191 nin0
  have Bc := Bc.keep Kp191 nin0
  have Vt := Vt.keep Kp191 nin0
  have Bn := Bn.keep Kp191 nin0
  have A191 := own_here K191
  show own_Go p.tables e below _ T191 (mkF m 19 #[.val (.ref y), .val (.ref x), .val .null, .val (.ref t), .val (.int (Int32.ofNat cs.length))] [(.int (1 : Int32))])
  refine own_if_eq A191 hx 41 22 (own_dk hby dj42_150 10 rfl) (by decide) (by decide) rfl (fun hc19 => ?_) (fun hc19 => ?_)
  · exact absurd hc19 (by decide)
  refine own_aloadN A191 hx (pc' := 23) (own_dk hby dj42_150 11 rfl) rfl rfl rfl ?_
  refine own_iconst A191 hx (pc' := 24) (own_dk hby dj42_150 12 rfl) (z := (0 : Int32)) (by decide) rfl ?_
  refine own_putF K191 hx (host := "") (Or.inl (own_w hw 34 rfl)) Via.refl C E (Or.inr ⟨(own_w hw 8 rfl), rfl, hnm⟩) (own_w hw 5 rfl) (ty := .byte) (by decide) (by decide) (by decide) (List.mem_of_getElem? (i := 0) rfl) (own_dk hby dj42_150 13 rfl) (pc' := 27) rfl ?_
  intro T192 h192 K192 W192
  have E := E.wr W192
  have Xb := Xb.wr W192
  have Bv := Bv.other W192 (Or.inl nxy)
  have Bc := Bc.other W192 (Or.inl nxy)
  have Vt := Vt.other W192 nty
  have Bn := Bn.other W192 (Or.inl nxy)
  have V := V.other W192 (Or.inr (slot_ne (Or.inr (own_w hw 7 rfl)) (Or.inr (own_w hw 8 rfl)) (by decide) (t := (.array .byte)) (t' := .byte) (by decide) (by decide)))
  have C := C.same W192
  have A192 := own_here K192
  refine own_aloadN A192 hx (pc' := 28) (own_dk hby dj42_150 14 rfl) rfl rfl rfl ?_
  refine own_aloadN A192 hx (pc' := 29) (own_dk hby dj42_150 15 rfl) rfl rfl rfl ?_
  refine own_iconst A192 hx (pc' := 30) (own_dk hby dj42_150 16 rfl) (z := (0 : Int32)) (by decide) rfl ?_
  refine own_iload A192 hx (pc' := 32) (own_dk hby dj42_150 17 rfl) rfl rfl ?_
  have ly := E.lt
  refine own_callS K192 hx (by rw [hml]; rfl) (own_w hw 475 rfl) (own_w hw 476 rfl) (own_w hw 151 rfl) (own_w hw 477 rfl) (by decide) (rq_cor l Z a0 hw [] h192 t kt cs nn cap hcs h0n hbd Vt) (fun _ q => nomatch q) (argsL := [(.ref t), (.int (0 : Int32)), (.int (Int32.ofNat cs.length))]) (rest := [(.ref y)]) (lenOf pd_32 rfl) rfl 1 (Nat.le_of_eq rfl) (own_dk hby dj42_150 18 rfl) (pc' := 35) rfl (by decide) (by decide) (by decide) (by decide) ?_
  intro v193 T193 h193 K193 Kp193 Q193
  obtain ⟨b, k, rfl, ge, Y⟩ := Q193
  have E := E.keep Kp193
  have V := V.keep Kp193 nin0
  have C := C.keep Kp193 nin0
  have Vt := Vt.keep Kp193 nin0
  have A193 := own_here K193
  show own_Go p.tables e below _ T193 (mkF m 35 #[.val (.ref y), .val (.ref x), .val .null, .val (.ref t), .val (.int (Int32.ofNat cs.length))] [(.ref b), (.ref y)])
  have nby : b ≠ y := Ne.symm (Nat.ne_of_lt (Nat.lt_of_lt_of_le ly ge))
  refine own_putF K193 hx (host := "") (Or.inl (own_w hw 35 rfl)) Via.refl V E (Or.inr ⟨(own_w hw 7 rfl), rfl, hnm⟩) (own_w hw 5 rfl) (ty := (.array .byte)) (by decide) rfl rfl (List.mem_of_getElem? (i := 0) rfl) (own_dk hby dj42_150 19 rfl) (pc' := 38) rfl ?_
  intro T194 h194 K194 W194
  have E := E.wr W194
  have Y := Y.other W194 nby
  have V := V.same W194
  have C := C.other W194 (Or.inr (slot_ne (Or.inr (own_w hw 8 rfl)) (Or.inr (own_w hw 7 rfl)) (by decide) (t := .byte) (t' := (.array .byte)) (by decide) (by decide)))
  have A194 := own_here K194
  refine own_goto A194 hx 97 (own_dk hby dj42_150 20 rfl) (by decide) (by decide) ?_
  exact own_retV K194 hx hlk hret (own_dk hby dj42_150 21 rfl) (by decide) (by decide) ⟨rfl, own_mk E V C Y hp (by omega)⟩
theorem dj42_53 : ∀ r ∈ ([(0, .aload_n 0, 1), (1, .aload_n 1, 1), (2, .aconst_null, 1), (3, .invokespecial 489, 3), (6, .return_, 1)] : List (Nat × Instr × Nat)), decode jdk_42_method_53_code r.1 = .ok (r.2.1, r.2.2) := by decide +kernel
theorem pd_34 : parseMethodDescriptor "(Ljava/lang/AbstractStringBuilder;Ljava/lang/Void;)V" = some ⟨[(.object "java/lang/AbstractStringBuilder"), (.object "java/lang/Void")], none⟩ := by decide +kernel
theorem ef_rq_si1 (m : MethodId) (q_0 : Addr) (q_1 : Addr)  : entryFrame m #[(.ref q_0), (.ref q_1)] 2 = mkF m 0 #[.val (.ref q_0), .val (.ref q_1)] [] := by  first | (simp [entryFrame, mkF, argsToLocals, Value.category]; done) | rfl
set_option maxRecDepth 65536 in
set_option maxHeartbeats 40000000 in
theorem rq_si1 (l : Launch) (Z : State) (a0 : Array Value) (hw : ∀ d ∈ tables_1, d.before a0 Z = true) (more : List Jvm.Cond) (h0 : Heap) (y : Addr) (x : Addr) (t : Addr) (kt : ClassId) (cs : List Int32) (nn cap : Nat) (v0 v1 : Value) (G1 : Int32) (O2 : Sta Z Z.heap "java/lang/String" "COMPACT_STRINGS" "Z" (.int G1)) (P5 : ¬ (G1 = (0 : Int32)))(hcs : cs.length + nn = cap) (h0n : 0 < nn) (hbd : cap ≤ 100) (Vt : Arv Z h0 t kt .byte (Int32.ofNat cap) (own_ct cs nn) (.int (0 : Int32))) (hp : ∀ c ∈ cs, ¬ c < 0 ∧ ¬ (255 : Int32) < c) (Xb : Exa Z h0 x "java/lang/StringBuilder") (Bv : Fld Z h0 x "java/lang/AbstractStringBuilder" "value" "[B" (.ref t)) (Bc : Fld Z h0 x "java/lang/AbstractStringBuilder" "coder" "B" (.int (0 : Int32))) (Bn : Fld Z h0 x "java/lang/AbstractStringBuilder" "count" "I" (.int (Int32.ofNat cs.length))) (E : Exa Z h0 y "java/lang/String") (V : Fld Z h0 y "java/lang/String" "value" "[B" v0) (C : Fld Z h0 y "java/lang/String" "coder" "B" v1) :
    own_Met true false consts_1 l Z a0 (⟨"java/lang/String", "<init>", "(Ljava/lang/StringBuilder;)V"⟩ : MethodName) jdk_42_method_53_code 2 none more ({ frames := 4, cells := 1, slots := 100, locals := 65 } : Room) #[(.ref y), (.ref x)] h0 [y] (fun v h => v = none ∧ own_Str Z h y cs) := by
  refine own_enter (own := "java/lang/String") rfl (plainFor_of_name pn_19) ?_
  intro p e s m below meth c T hx hby hml hret hlk hnm K
  rw [ef_rq_si1 m y x]
  have A := own_here K
  refine own_aloadN A hx (pc' := 1) (own_dk hby dj42_53 0 rfl) rfl rfl rfl ?_
  refine own_aloadN A hx (pc' := 2) (own_dk hby dj42_53 1 rfl) rfl rfl rfl ?_
  refine own_null A hx (pc' := 3) (own_dk hby dj42_53 2 rfl) rfl ?_
  refine own_callSp K hx (by rw [hml]; rfl) rfl (own_w hw 454 rfl) (own_w hw 455 rfl) (own_w hw 4 rfl) (own_w hw 456 rfl) (by decide) (rq_si2 l Z a0 hw [] h0 y x t kt cs nn cap _ _ G1 O2 P5 hcs h0n hbd Vt hp Xb Bv Bc Bn E V C) (own_mem1 (List.mem_of_getElem? (i := 0) rfl)) (argsL := [(.ref x), .null]) (rest := []) (lenOf pd_34 rfl) rfl 0 (Nat.le_of_eq rfl) (own_dk hby dj42_53 3 rfl) (pc' := 6) rfl (by decide) (by decide) (by decide) (by decide) ?_
  intro v195 T195 h195 K195 Kp195 Q195
  obtain ⟨rfl, Sy⟩ := Q195
  have A195 := own_here K195
  show own_Go p.tables e below _ T195 (mkF m 6 #[.val (.ref y), .val (.ref x)] [])
  exact own_retV K195 hx hlk hret (own_dk hby dj42_53 4 rfl) (by decide) (by decide) ⟨rfl, Sy⟩
theorem dj67_42 : ∀ r ∈ ([(0, .new 18, 3), (3, .dup, 1), (4, .aload_n 0, 1), (5, .invokespecial 137, 3), (8, .areturn, 1)] : List (Nat × Instr × Nat)), decode jdk_67_method_42_code r.1 = .ok (r.2.1, r.2.2) := by decide +kernel
theorem pd_35 : parseMethodDescriptor "(Ljava/lang/StringBuilder;)V" = some ⟨[(.object "java/lang/StringBuilder")], none⟩ := by decide +kernel
theorem ef_rq_ts (m : MethodId) (q_0 : Addr)  : entryFrame m #[(.ref q_0)] 1 = mkF m 0 #[.val (.ref q_0)] [] := by  first | (simp [entryFrame, mkF, argsToLocals, Value.category]; done) | rfl
set_option maxRecDepth 65536 in
set_option maxHeartbeats 40000000 in
theorem rq_ts (l : Launch) (Z : State) (a0 : Array Value) (hw : ∀ d ∈ tables_1, d.before a0 Z = true) (more : List Jvm.Cond) (h0 : Heap) (x : Addr) (t : Addr) (kt : ClassId) (cs : List Int32) (nn cap : Nat) (G1 : Int32) (O2 : Sta Z Z.heap "java/lang/String" "COMPACT_STRINGS" "Z" (.int G1)) (P5 : ¬ (G1 = (0 : Int32)))(hcs : cs.length + nn = cap) (h0n : 0 < nn) (hbd : cap ≤ 100) (Vt : Arv Z h0 t kt .byte (Int32.ofNat cap) (own_ct cs nn) (.int (0 : Int32))) (hp : ∀ c ∈ cs, ¬ c < 0 ∧ ¬ (255 : Int32) < c) (Xb : Exa Z h0 x "java/lang/StringBuilder") (Bv : Fld Z h0 x "java/lang/AbstractStringBuilder" "value" "[B" (.ref t)) (Bc : Fld Z h0 x "java/lang/AbstractStringBuilder" "coder" "B" (.int (0 : Int32))) (Bn : Fld Z h0 x "java/lang/AbstractStringBuilder" "count" "I" (.int (Int32.ofNat cs.length))) :
    own_Met true false consts_1 l Z a0 (⟨"java/lang/StringBuilder", "toString", "()Ljava/lang/String;"⟩ : MethodName) jdk_67_method_42_code 1 (some (.object "java/lang/String")) more ({ frames := 5, cells := 2, slots := 104, locals := 79 } : Room) #[(.ref x)] h0 [] (fun v h => ∃ y, v = some (.ref y) ∧ own_Str Z h y cs) := by
  refine own_enter (own := "java/lang/StringBuilder") rfl (plainFor_of_name pn_18) ?_
  intro p e s m below meth c T hx hby hml hret hlk hnm K
  rw [ef_rq_ts m x]
  have A := own_here K
  refine own_new K hx (own_w hw 450 rfl) (own_w hw 5 rfl) (own_w hw 4 rfl) (own_dk hby dj67_42 0 rfl) (pc' := 3) rfl (by decide) (by decide) ?_
  intro T196 h196 b196 g196 K196 E196 X196 D196 U196
  have ne_x_b196 : x ≠ b196 := by rw [g196]; exact Nat.ne_of_lt Xb.lt
  have ne_t_b196 : t ≠ b196 := by rw [g196]; exact Nat.ne_of_lt Vt.lt
  have Xb := Xb.ext E196
  have Bv := Bv.ext E196
  have Bc := Bc.ext E196
  have Vt := Vt.ext E196
  have Bn := Bn.ext E196
  have A196 := own_here K196
  have F_value_b196 := D196 (Or.inr (own_w hw 7 rfl)) (ty := (.array .byte)) (by decide)
  have F_coder_b196 := D196 (Or.inr (own_w hw 8 rfl)) (ty := .byte) (by decide)
  refine own_dup A196 hx (pc' := 4) (own_dk hby dj67_42 1 rfl) rfl rfl ?_
  refine own_aloadN A196 hx (pc' := 5) (own_dk hby dj67_42 2 rfl) rfl rfl rfl ?_
  have Xa := X196
  refine own_callSp K196 hx (by rw [hml]; rfl) rfl (own_w hw 451 rfl) (own_w hw 452 rfl) (own_w hw 4 rfl) (own_w hw 453 rfl) (by decide) (rq_si1 l Z a0 hw [] h196 b196 x t kt cs nn cap _ _ G1 O2 P5 hcs h0n hbd Vt hp Xb Bv Bc Bn Xa F_value_b196 F_coder_b196) (own_mem1 (List.mem_of_getElem? (i := 0) rfl)) (argsL := [(.ref x)]) (rest := [(.ref b196)]) (lenOf pd_35 rfl) rfl 1 (Nat.le_of_eq rfl) (own_dk hby dj67_42 3 rfl) (pc' := 8) rfl (by decide) (by decide) (by decide) (by decide) ?_
  intro v197 T197 h197 K197 Kp197 Q197
  obtain ⟨rfl, Sy⟩ := Q197
  have A197 := own_here K197
  show own_Go p.tables e below _ T197 (mkF m 8 #[.val (.ref x)] [(.ref b196)])
  exact own_retR K197 hx hlk hret rfl rfl (own_dk hby dj67_42 4 rfl) (by decide) (by decide) ⟨_, rfl, Sy⟩
theorem dp13_4 : ∀ r ∈ ([(0, .aload_n 1, 1), (1, .invokevirtual 21, 3), (4, .ifCond .eq 9, 3), (13, .iload_n 2, 1), (14, .ifCond .eq 41, 3), (55, .aconst_null, 1), (56, .astore_n 3, 1), (57, .aload_n 3, 1), (58, .areturn, 1), (17, .aload_n 0, 1), (18, .getfield 29, 3), (21, .ifnull 34, 3), (7, .ldc 48, 2), (9, .astore_n 3, 1), (10, .goto 47, 3), (24, .new 50, 3), (27, .dup, 1), (28, .invokespecial 52, 3), (31, .ldc 53, 2), (33, .invokevirtual 55, 3), (36, .aload_n 0, 1), (37, .getfield 29, 3), (40, .invokevirtual 55, 3), (43, .ldc 59, 2), (45, .invokevirtual 55, 3), (48, .invokevirtual 61, 3), (51, .astore_n 3, 1), (52, .goto 5, 3)] : List (Nat × Instr × Nat)), decode prog_13_method_4_code r.1 = .ok (r.2.1, r.2.2) := by decide +kernel
theorem ef_rq_dA (m : MethodId) (q_0 : Addr) (q_1 : Addr) (q_2 : Int32)  : entryFrame m #[(.ref q_0), (.ref q_1), (.int q_2)] 4 = mkF m 0 #[.val (.ref q_0), .val (.ref q_1), .val (.int q_2), .unset] [] := by  first | (simp [entryFrame, mkF, argsToLocals, Value.category]; done) | rfl
set_option maxRecDepth 65536 in
set_option maxHeartbeats 40000000 in
theorem rq_dA (l : Launch) (Z : State) (a0 : Array Value) (hw : ∀ d ∈ tables_1, d.before a0 Z = true) (more : List Jvm.Cond) (h0 : Heap) (x : Addr) (r : Addr) (bl : Int32) (tz c5 : Int32) (ld : Addr) (G1 : Int32) (O2 : Sta Z Z.heap "java/lang/String" "COMPACT_STRINGS" "Z" (.int G1)) (P5 : ¬ (G1 = (0 : Int32))) (G3 : Value) (O4 : Sta Z Z.heap "jdk/internal/util/Preconditions" "SIOOBE_FORMATTER" "Ljava/util/function/BiFunction;" G3) (rG3 : G3.isRef = true) (hbl : bl = 0 ∨ bl = 1) (htz : tz = 0 ∨ tz = 1) (H5 : ¬ c5 < 0 ∧ ¬ (255 : Int32) < c5) (Xr : Exa Z h0 r "com/example/regalwerk/regalwerk/MarcRecord") (Fl : Fld Z h0 r "com/example/regalwerk/regalwerk/MarcRecord" "leader" "Ljava/lang/String;" (.ref ld)) (S : own_Str Z h0 ld (own_ld tz c5)) (Gd : Fld Z h0 x "com/example/regalwerk/regalwerk/HoldingsLinker" "deletedTitle" "Ljava/lang/String;" .null) :
    own_Met true false consts_1 l Z a0 (⟨"com/example/regalwerk/regalwerk/HoldingsLinker", "deletion", "(Lcom/example/regalwerk/regalwerk/MarcRecord;Z)Ljava/lang/String;"⟩ : MethodName) prog_13_method_4_code 4 (some (.object "java/lang/String")) more ({ frames := 5, cells := 2, slots := 160, locals := 65 } : Room) #[(.ref x), (.ref r), (.int bl)] h0 [] (fun v h => ∃ u, v = some u ∧ own_DA Z h u (own_del tz c5)) := by
  refine own_enter (own := "com/example/regalwerk/regalwerk/HoldingsLinker") rfl (plainFor_of_name pn_16) ?_
  intro p e s m below meth c T hx hby hml hret hlk hnm K
  rw [ef_rq_dA m x r bl]
  have A := own_here K
  refine own_aloadN A hx (pc' := 1) (own_dk hby dp13_4 0 rfl) rfl rfl rfl ?_
  refine own_callV K hx (by rw [hml]; rfl) (own_w hw 307 rfl) (own_w hw 308 rfl) (fun U hU => notFace_of_selects (args := #[]) (mvT hU (own_w hw 310 rfl))) (own_w hw 310 rfl) (own_w hw 309 rfl) (own_w hw 51 rfl) (own_w hw 311 rfl) (by decide) Xr (rq_del l Z a0 hw [] h0 r tz c5 ld G1 O2 P5 G3 O4 rG3 htz H5 Fl S) (fun _ q => nomatch q) (argsL := []) (rest := []) (lenOf pd_10 rfl) rfl 0 (Nat.le_of_eq rfl) (own_dk hby dp13_4 1 rfl) (pc' := 4) rfl (by decide) (by decide) (by decide) (by decide) ?_
  intro v198 T198 h198 K198 Kp198 Q198
  obtain ⟨rfl, rfl⟩ := Q198
  have Xr := Xr.keep Kp198
  have Fl := Fl.keep Kp198 nin0
  have S := S.keep Kp198 own_off0
  have Gd := Gd.keep Kp198 nin0
  have A198 := own_here K198
  show own_Go p.tables e below _ T198 (mkF m 4 #[.val (.ref x), .val (.ref r), .val (.int bl), .unset] [(.int (own_del tz c5))])
  refine own_if_eq A198 hx 13 7 (own_dk hby dp13_4 2 rfl) (by decide) (by decide) rfl (fun hc4 => ?_) (fun hc4 => ?_)
  · refine own_iloadN A198 hx (pc' := 14) (own_dk hby dp13_4 3 rfl) rfl rfl ?_
    refine own_if_eq A198 hx 55 17 (own_dk hby dp13_4 4 rfl) (by decide) (by decide) rfl (fun hc14 => ?_) (fun hc14 => ?_)
    · refine own_null A198 hx (pc' := 56) (own_dk hby dp13_4 5 rfl) rfl ?_
      refine own_astoreN A198 hx (pc' := 57) #[.val (.ref x), .val (.ref r), .val (.int bl), .val .null] (own_dk hby dp13_4 6 rfl) rfl rfl rfl ?_
      refine own_aloadN A198 hx (pc' := 58) (own_dk hby dp13_4 7 rfl) rfl rfl rfl ?_
      exact own_retR K198 hx hlk hret rfl rfl (own_dk hby dp13_4 8 rfl) (by decide) (by decide) ⟨_, rfl, Or.inr ⟨hc4, rfl⟩⟩
    · refine own_aloadN A198 hx (pc' := 18) (own_dk hby dp13_4 9 rfl) rfl rfl rfl ?_
      refine own_getF K198 hx (host := "") (Or.inl (own_w hw 351 rfl)) Via.refl Gd (own_dk hby dp13_4 10 rfl) (pc' := 21) rfl ?_
      intro T199 K199
      have A199 := own_here K199
      refine own_ifnull_t A199 hx 55 (own_dk hby dp13_4 11 rfl) (by decide) (by decide) ?_
      refine own_null A199 hx (pc' := 56) (own_dk hby dp13_4 5 rfl) rfl ?_
      refine own_astoreN A199 hx (pc' := 57) #[.val (.ref x), .val (.ref r), .val (.int bl), .val .null] (own_dk hby dp13_4 6 rfl) rfl rfl rfl ?_
      refine own_aloadN A199 hx (pc' := 58) (own_dk hby dp13_4 7 rfl) rfl rfl rfl ?_
      exact own_retR K199 hx hlk hret rfl rfl (own_dk hby dp13_4 8 rfl) (by decide) (by decide) ⟨_, rfl, Or.inr ⟨hc4, rfl⟩⟩
  · refine own_ldcR (n := 156) (zn := (39 : Int32)) (vs := [(.int (108 : Int32)), (.int (101 : Int32)), (.int (97 : Int32)), (.int (100 : Int32)), (.int (101 : Int32)), (.int (114 : Int32)), (.int (32 : Int32)), (.int (112 : Int32)), (.int (111 : Int32)), (.int (115 : Int32)), (.int (105 : Int32)), (.int (116 : Int32)), (.int (105 : Int32)), (.int (111 : Int32)), (.int (110 : Int32)), (.int (32 : Int32)), (.int (48 : Int32)), (.int (53 : Int32)), (.int (32 : Int32)), (.int (34 : Int32)), (.int (100 : Int32)), (.int (34 : Int32)), (.int (32 : Int32)), (.int (109 : Int32)), (.int (97 : Int32)), (.int (114 : Int32)), (.int (107 : Int32)), (.int (115 : Int32)), (.int (32 : Int32)), (.int (105 : Int32)), (.int (116 : Int32)), (.int (32 : Int32)), (.int (100 : Int32)), (.int (101 : Int32)), (.int (108 : Int32)), (.int (101 : Int32)), (.int (116 : Int32)), (.int (101 : Int32)), (.int (100 : Int32))]) K198 hx (own_w hw 362 rfl) (own_sa hw) (by decide +kernel) ⟨by decide +kernel, by decide +kernel⟩ (by decide) (by decide) (own_dk hby dp13_4 12 rfl) (pc' := 9) rfl (by decide +kernel) (by decide) (by decide) (by decide) ?_
    intro b200 T200 h200 t200 kt200 K200 E200 X200 C200 V200 Y200 N200
    have Gd := Gd.ext E200
    have A200 := own_here K200
    have S200 := own_Str.of0 (cs := [(108 : Int32), (101 : Int32), (97 : Int32), (100 : Int32), (101 : Int32), (114 : Int32), (32 : Int32), (112 : Int32), (111 : Int32), (115 : Int32), (105 : Int32), (116 : Int32), (105 : Int32), (111 : Int32), (110 : Int32), (32 : Int32), (48 : Int32), (53 : Int32), (32 : Int32), (34 : Int32), (100 : Int32), (34 : Int32), (32 : Int32), (109 : Int32), (97 : Int32), (114 : Int32), (107 : Int32), (115 : Int32), (32 : Int32), (105 : Int32), (116 : Int32), (32 : Int32), (100 : Int32), (101 : Int32), (108 : Int32), (101 : Int32), (116 : Int32), (101 : Int32), (100 : Int32)]) X200 V200 C200 Y200 rfl (by decide +kernel) (by decide +kernel) (by decide)
    refine own_astoreN A200 hx (pc' := 10) #[.val (.ref x), .val (.ref r), .val (.int bl), .val (.ref b200)] (own_dk hby dp13_4 13 rfl) rfl rfl rfl ?_
    refine own_goto A200 hx 57 (own_dk hby dp13_4 14 rfl) (by decide) (by decide) ?_
    refine own_aloadN A200 hx (pc' := 58) (own_dk hby dp13_4 7 rfl) rfl rfl rfl ?_
    exact own_retR K200 hx hlk hret rfl rfl (own_dk hby dp13_4 8 rfl) (by decide) (by decide) ⟨_, rfl, Or.inl ⟨(own_del01 tz c5).resolve_left hc4, _, rfl, S200⟩⟩
theorem pd_36 : parseMethodDescriptor "(Ljava/lang/String;)Ljava/lang/StringBuilder;" = some ⟨[(.object "java/lang/String")], some (.object "java/lang/StringBuilder")⟩ := by decide +kernel
theorem ef_rq_dB (m : MethodId) (q_0 : Addr) (q_1 : Addr) (q_2 : Int32)  : entryFrame m #[(.ref q_0), (.ref q_1), (.int q_2)] 4 = mkF m 0 #[.val (.ref q_0), .val (.ref q_1), .val (.int q_2), .unset] [] := by  first | (simp [entryFrame, mkF, argsToLocals, Value.category]; done) | rfl
set_option maxRecDepth 65536 in
set_option maxHeartbeats 40000000 in
theorem rq_dB (l : Launch) (Z : State) (a0 : Array Value) (hw : ∀ d ∈ tables_1, d.before a0 Z = true) (more : List Jvm.Cond) (h0 : Heap) (x : Addr) (r : Addr) (bl : Int32) (tz c5 : Int32) (ld dd : Addr) (ds : List Int32) (G1 : Int32) (O2 : Sta Z Z.heap "java/lang/String" "COMPACT_STRINGS" "Z" (.int G1)) (P5 : ¬ (G1 = (0 : Int32))) (G3 : Value) (O4 : Sta Z Z.heap "jdk/internal/util/Preconditions" "SIOOBE_FORMATTER" "Ljava/util/function/BiFunction;" G3) (rG3 : G3.isRef = true) (hbl : bl = 0 ∨ bl = 1) (htz : tz = 0 ∨ tz = 1) (H5 : ¬ c5 < 0 ∧ ¬ (255 : Int32) < c5) (Xr : Exa Z h0 r "com/example/regalwerk/regalwerk/MarcRecord") (Fl : Fld Z h0 r "com/example/regalwerk/regalwerk/MarcRecord" "leader" "Ljava/lang/String;" (.ref ld)) (S : own_Str Z h0 ld (own_ld tz c5)) (Gd : Fld Z h0 x "com/example/regalwerk/regalwerk/HoldingsLinker" "deletedTitle" "Ljava/lang/String;" (.ref dd)) (hds : 0 < ds.length ∧ ds.length ≤ 30) (hdp : ∀ c ∈ ds, ¬ c < 0 ∧ ¬ (255 : Int32) < c) (Sd : own_Str Z h0 dd ds) :
    own_Met true false consts_1 l Z a0 (⟨"com/example/regalwerk/regalwerk/HoldingsLinker", "deletion", "(Lcom/example/regalwerk/regalwerk/MarcRecord;Z)Ljava/lang/String;"⟩ : MethodName) prog_13_method_4_code 4 (some (.object "java/lang/String")) more ({ frames := 6, cells := 10, slots := 520, locals := 91 } : Room) #[(.ref x), (.ref r), (.int bl)] h0 [] (fun v h => ∃ u, v = some u ∧ own_DB Z h u (own_del tz c5) bl ds) := by
  refine own_enter (own := "com/example/regalwerk/regalwerk/HoldingsLinker") rfl (plainFor_of_name pn_16) ?_
  intro p e s m below meth c T hx hby hml hret hlk hnm K
  rw [ef_rq_dB m x r bl]
  have A := own_here K
  refine own_aloadN A hx (pc' := 1) (own_dk hby dp13_4 0 rfl) rfl rfl rfl ?_
  refine own_callV K hx (by rw [hml]; rfl) (own_w hw 307 rfl) (own_w hw 308 rfl) (fun U hU => notFace_of_selects (args := #[]) (mvT hU (own_w hw 310 rfl))) (own_w hw 310 rfl) (own_w hw 309 rfl) (own_w hw 51 rfl) (own_w hw 311 rfl) (by decide) Xr (rq_del l Z a0 hw [] h0 r tz c5 ld G1 O2 P5 G3 O4 rG3 htz H5 Fl S) (fun _ q => nomatch q) (argsL := []) (rest := []) (lenOf pd_10 rfl) rfl 0 (Nat.le_of_eq rfl) (own_dk hby dp13_4 1 rfl) (pc' := 4) rfl (by decide) (by decide) (by decide) (by decide) ?_
  intro v201 T201 h201 K201 Kp201 Q201
  obtain ⟨rfl, rfl⟩ := Q201
  have Xr := Xr.keep Kp201
  have Fl := Fl.keep Kp201 nin0
  have S := S.keep Kp201 own_off0
  have Gd := Gd.keep Kp201 nin0
  have A201 := own_here K201
  show own_Go p.tables e below _ T201 (mkF m 4 #[.val (.ref x), .val (.ref r), .val (.int bl), .unset] [(.int (own_del tz c5))])
  refine own_if_eq A201 hx 13 7 (own_dk hby dp13_4 2 rfl) (by decide) (by decide) rfl (fun hc4 => ?_) (fun hc4 => ?_)
  · refine own_iloadN A201 hx (pc' := 14) (own_dk hby dp13_4 3 rfl) rfl rfl ?_
    refine own_if_eq A201 hx 55 17 (own_dk hby dp13_4 4 rfl) (by decide) (by decide) rfl (fun hc14 => ?_) (fun hc14 => ?_)
    · refine own_null A201 hx (pc' := 56) (own_dk hby dp13_4 5 rfl) rfl ?_
      refine own_astoreN A201 hx (pc' := 57) #[.val (.ref x), .val (.ref r), .val (.int bl), .val .null] (own_dk hby dp13_4 6 rfl) rfl rfl rfl ?_
      refine own_aloadN A201 hx (pc' := 58) (own_dk hby dp13_4 7 rfl) rfl rfl rfl ?_
      exact own_retR K201 hx hlk hret rfl rfl (own_dk hby dp13_4 8 rfl) (by decide) (by decide) ⟨_, rfl, Or.inr (Or.inl ⟨hc4, hc14, rfl⟩)⟩
    · refine own_aloadN A201 hx (pc' := 18) (own_dk hby dp13_4 9 rfl) rfl rfl rfl ?_
      refine own_getF K201 hx (host := "") (Or.inl (own_w hw 351 rfl)) Via.refl Gd (own_dk hby dp13_4 10 rfl) (pc' := 21) rfl ?_
      intro T202 K202
      have A202 := own_here K202
      refine own_ifnull_f A202 hx 24 (own_dk hby dp13_4 11 rfl) rfl ?_
      refine own_new K202 hx (own_w hw 375 rfl) (own_w hw 376 rfl) (own_w hw 377 rfl) (own_dk hby dp13_4 15 rfl) (pc' := 27) rfl (by decide) (by decide) ?_
      intro T203 h203 b203 g203 K203 E203 X203 D203 U203
      have ne_x_b203 : x ≠ b203 := by rw [g203]; exact Nat.ne_of_lt Gd.lt
      have Gd := Gd.ext E203
      have A203 := own_here K203
      have F_value_b203 := D203 (Or.inl (own_w hw 390 rfl)) (ty := (.array .byte)) (by decide)
      have F_coder_b203 := D203 (Or.inl (own_w hw 392 rfl)) (ty := .byte) (by decide)
      have F_count_b203 := D203 (Or.inl (own_w hw 406 rfl)) (ty := .int) (by decide)
      refine own_dup A203 hx (pc' := 28) (own_dk hby dp13_4 16 rfl) rfl rfl ?_
      refine own_callSp K203 hx (by rw [hml]; rfl) rfl (own_w hw 378 rfl) (own_w hw 379 rfl) (own_w hw 377 rfl) (own_w hw 380 rfl) (by decide) (rq_sbi l Z a0 hw [] h203 b203 _ _ _ G1 O2 P5 X203 F_value_b203 F_coder_b203 F_count_b203) (own_mem1 (List.mem_of_getElem? (i := 0) rfl)) (argsL := []) (rest := [(.ref b203)]) (lenOf pd_0 rfl) rfl 1 (Nat.le_of_eq rfl) (own_dk hby dp13_4 17 rfl) (pc' := 31) rfl (by decide) (by decide) (by decide) (by decide) ?_
      intro v204 T204 h204 K204 Kp204 Q204
      obtain ⟨rfl, t0, kt0, Bv, Bc, Bn, Vt⟩ := Q204
      have Gd := Gd.keep Kp204 (ninS ne_x_b203 nin0)
      have X203 := X203.keep Kp204
      have A204 := own_here K204
      show own_Go p.tables e below _ T204 (mkF m 31 #[.val (.ref x), .val (.ref r), .val (.int bl), .unset] [(.ref b203)])
      refine own_ldcR (n := 156) (zn := (39 : Int32)) (vs := [(.int (108 : Int32)), (.int (101 : Int32)), (.int (97 : Int32)), (.int (100 : Int32)), (.int (101 : Int32)), (.int (114 : Int32)), (.int (32 : Int32)), (.int (112 : Int32)), (.int (111 : Int32)), (.int (115 : Int32)), (.int (105 : Int32)), (.int (116 : Int32)), (.int (105 : Int32)), (.int (111 : Int32)), (.int (110 : Int32)), (.int (32 : Int32)), (.int (48 : Int32)), (.int (53 : Int32)), (.int (32 : Int32)), (.int (34 : Int32)), (.int (100 : Int32)), (.int (34 : Int32)), (.int (32 : Int32)), (.int (109 : Int32)), (.int (97 : Int32)), (.int (114 : Int32)), (.int (107 : Int32)), (.int (115 : Int32)), (.int (32 : Int32)), (.int (105 : Int32)), (.int (116 : Int32)), (.int (115 : Int32)), (.int (32 : Int32)), (.int (116 : Int32)), (.int (105 : Int32)), (.int (116 : Int32)), (.int (108 : Int32)), (.int (101 : Int32)), (.int (32 : Int32))]) K204 hx (own_w hw 393 rfl) (own_sa hw) (by decide +kernel) ⟨by decide +kernel, by decide +kernel⟩ (by decide) (by decide) (own_dk hby dp13_4 18 rfl) (pc' := 33) rfl (by decide +kernel) (by decide) (by decide) (by decide) ?_
      intro b205 T205 h205 t205 kt205 K205 E205 X205 C205 V205 Y205 N205
      have Gd := Gd.ext E205
      have X203 := X203.ext E205
      have Bv := Bv.ext E205
      have Bc := Bc.ext E205
      have Bn := Bn.ext E205
      have Vt := Vt.ext E205
      have A205 := own_here K205
      have S205 := own_Str.of0 (cs := [(108 : Int32), (101 : Int32), (97 : Int32), (100 : Int32), (101 : Int32), (114 : Int32), (32 : Int32), (112 : Int32), (111 : Int32), (115 : Int32), (105 : Int32), (116 : Int32), (105 : Int32), (111 : Int32), (110 : Int32), (32 : Int32), (48 : Int32), (53 : Int32), (32 : Int32), (34 : Int32), (100 : Int32), (34 : Int32), (32 : Int32), (109 : Int32), (97 : Int32), (114 : Int32), (107 : Int32), (115 : Int32), (32 : Int32), (105 : Int32), (116 : Int32), (115 : Int32), (32 : Int32), (116 : Int32), (105 : Int32), (116 : Int32), (108 : Int32), (101 : Int32), (32 : Int32)]) X205 V205 C205 Y205 rfl (by decide +kernel) (by decide +kernel) (by decide)
      refine own_callVR K205 hx (by rw [hml]; rfl) (own_w hw 394 rfl) (own_w hw 395 rfl) (own_nf (own_w hw 397 rfl) rfl) (own_w hw 397 rfl) (own_w hw 396 rfl) (own_w hw 377 rfl) (own_w hw 398 rfl) (by decide) X203 (rq_saG l Z a0 hw [] h205 b203 b205 39 t0 kt0 [] 16 16 own_T2 G1 O2 P5 rfl (by decide) (by decide) (by decide) (by decide) X203 Bv Bc Bn Vt S205 (by decide)) (own_mem1 (List.mem_of_getElem? (i := 0) rfl)) (argsL := [(.ref b205)]) (rest := []) (lenOf pd_36 rfl) rfl 0 (Nat.le_of_eq rfl) (own_dk hby dp13_4 19 rfl) (pc' := 36) rfl (by decide) (by decide) (by decide) (by decide) ?_
      intro v206 T206 h206 ns206 K206 Kp206 Q206
      obtain ⟨t1, k1, rfl, rfl, ge1, Bv, Bc, Bn, Vt⟩ := Q206
      have ne_x_t1 : x ≠ t1 := Nat.ne_of_lt (Nat.lt_of_lt_of_le Gd.lt ge1)
      have ne_b203_t1 : b203 ≠ t1 := Nat.ne_of_lt (Nat.lt_of_lt_of_le X203.lt ge1)
      have ne_b205_t1 : b205 ≠ t1 := Nat.ne_of_lt (Nat.lt_of_lt_of_le S205.lt ge1)
      have off_Kp206 := own_off1 (own_Off.exa X203 (own_w hw 376 rfl) (by decide))
      have Gd := Gd.keep Kp206 (ninS ne_x_b203 nin0)
      have X203 := X203.keep Kp206
      have S205 := S205.keep Kp206 off_Kp206
      have A206 := own_here K206
      show own_Go p.tables e below _ T206 (mkF m 36 #[.val (.ref x), .val (.ref r), .val (.int bl), .unset] [(.ref b203)])
      refine own_aloadN A206 hx (pc' := 37) (own_dk hby dp13_4 20 rfl) rfl rfl rfl ?_
      refine own_getF K206 hx (host := "") (Or.inl (own_w hw 351 rfl)) Via.refl Gd (own_dk hby dp13_4 21 rfl) (pc' := 40) rfl ?_
      intro T207 K207
      have A207 := own_here K207
      have Sd' := Sd.keep (own_kept K207) own_off0
      have l2 : ([] ++ own_T2 : List Int32).length = 39 := rfl
      refine own_callVR K207 hx (by rw [hml]; rfl) (own_w hw 394 rfl) (own_w hw 395 rfl) (own_nf (own_w hw 397 rfl) rfl) (own_w hw 397 rfl) (own_w hw 396 rfl) (own_w hw 377 rfl) (own_w hw 398 rfl) (by decide) X203 (rq_saG l Z a0 hw [] h206 b203 dd 80 t1 k1 ([] ++ own_T2) 0 39 ds G1 O2 P5 rfl (by rw [l2]; omega) (by decide) (by rw [l2]; omega) (by decide) X203 Bv Bc Bn Vt Sd' (fun c hc => (hdp c hc).2)) (own_mem1 (List.mem_of_getElem? (i := 1) rfl)) (argsL := [(.ref dd)]) (rest := []) (lenOf pd_36 rfl) rfl 0 (Nat.le_of_eq rfl) (own_dk hby dp13_4 22 rfl) (pc' := 43) rfl (by decide) (by decide) (by decide) (by decide) ?_
      intro v208 T208 h208 ns208 K208 Kp208 Q208
      obtain ⟨t2, k2, rfl, rfl, ge2, Bv, Bc, Bn, Vt⟩ := Q208
      have ne_x_t2 : x ≠ t2 := Nat.ne_of_lt (Nat.lt_of_lt_of_le Gd.lt ge2)
      have ne_b203_t2 : b203 ≠ t2 := Nat.ne_of_lt (Nat.lt_of_lt_of_le X203.lt ge2)
      have Gd := Gd.keep Kp208 (ninS ne_x_b203 nin0)
      have X203 := X203.keep Kp208
      have A208 := own_here K208
      show own_Go p.tables e below _ T208 (mkF m 43 #[.val (.ref x), .val (.ref r), .val (.int bl), .unset] [(.ref b203)])
      refine own_ldcR (n := 32) (zn := (8 : Int32)) (vs := [(.int (32 : Int32)), (.int (100 : Int32)), (.int (101 : Int32)), (.int (108 : Int32)), (.int (101 : Int32)), (.int (116 : Int32)), (.int (101 : Int32)), (.int (100 : Int32))]) K208 hx (own_w hw 444 rfl) (own_sa hw) (by decide +kernel) ⟨by decide +kernel, by decide +kernel⟩ (by decide) (by decide) (own_dk hby dp13_4 23 rfl) (pc' := 45) rfl (by decide +kernel) (by decide) (by decide) (by decide) ?_
      intro b209 T209 h209 t209 kt209 K209 E209 X209 C209 V209 Y209 N209
      have Gd := Gd.ext E209
      have X203 := X203.ext E209
      have Bv := Bv.ext E209
      have Bc := Bc.ext E209
      have Bn := Bn.ext E209
      have Vt := Vt.ext E209
      have A209 := own_here K209
      have S209 := own_Str.of0 (cs := [(32 : Int32), (100 : Int32), (101 : Int32), (108 : Int32), (101 : Int32), (116 : Int32), (101 : Int32), (100 : Int32)]) X209 V209 C209 Y209 rfl (by decide +kernel) (by decide +kernel) (by decide)
      have l3 : ([] ++ own_T2 ++ ds).length = 39 + ds.length := by rw [List.length_append]; rfl
      have l3' : own_T3.length = 8 := rfl
      refine own_callV K209 hx (by rw [hml]; rfl) (own_w hw 394 rfl) (own_w hw 395 rfl) (fun U hU => notFace_of_selects (args := #[]) (mvT hU (own_w hw 397 rfl))) (own_w hw 397 rfl) (own_w hw 396 rfl) (own_w hw 377 rfl) (own_w hw 398 rfl) (by decide) X203 (rq_saN l Z a0 hw [] h209 b203 b209 t2 k2 ([] ++ own_T2 ++ ds) (0 + (80 - 39) - ds.length) 80 own_T3 G1 O2 P5 (by rw [l3]; omega) (by rw [l3']; omega) (by decide) X203 Bv Bc Bn Vt S209 (by decide) (Ne.symm ne_b203_t2)) (own_mem2 (List.mem_of_getElem? (i := 2) rfl) (List.mem_of_getElem? (i := 0) rfl)) (argsL := [(.ref b209)]) (rest := []) (lenOf pd_36 rfl) rfl 0 (Nat.le_of_eq rfl) (own_dk hby dp13_4 24 rfl) (pc' := 48) rfl (by decide) (by decide) (by decide) (by decide) ?_
      intro v210 T210 h210 K210 Kp210 Q210
      obtain ⟨rfl, Bv, Bc, Bn, Vt⟩ := Q210
      have Gd := Gd.keep Kp210 (ninS ne_x_b203 (ninS ne_x_t2 nin0))
      have X203 := X203.keep Kp210
      have A210 := own_here K210
      show own_Go p.tables e below _ T210 (mkF m 48 #[.val (.ref x), .val (.ref r), .val (.int bl), .unset] [(.ref b203)])
      have l4 : ([] ++ own_T2 ++ ds ++ own_T3).length = 47 + ds.length := by rw [List.length_append, l3, l3']; omega
      have hp4 : ∀ c ∈ ([] ++ own_T2 ++ ds ++ own_T3), ¬ c < 0 ∧ ¬ (255 : Int32) < c := by
        intro c hc
        rcases List.mem_append.mp hc with hc | hc
        · rcases List.mem_append.mp hc with hc | hc
          · exact (by decide : ∀ c ∈ own_T2, ¬ c < 0 ∧ ¬ (255 : Int32) < c) c hc
          · exact hdp c hc
        · exact (by decide : ∀ c ∈ own_T3, ¬ c < 0 ∧ ¬ (255 : Int32) < c) c hc
      refine own_callV K210 hx (by rw [hml]; rfl) (own_w hw 445 rfl) (own_w hw 446 rfl) (fun U hU => notFace_of_selects (args := #[]) (mvT hU (own_w hw 448 rfl))) (own_w hw 448 rfl) (own_w hw 447 rfl) (own_w hw 377 rfl) (own_w hw 449 rfl) (by decide) X203 (rq_ts l Z a0 hw [] h210 b203 t2 k2 ([] ++ own_T2 ++ ds ++ own_T3) (0 + (80 - 39) - ds.length - own_T3.length) 80 G1 O2 P5 (by rw [l4, l3']; omega) (by rw [l3']; omega) (by decide) Vt hp4 X203 Bv Bc Bn) (fun _ q => nomatch q) (argsL := []) (rest := []) (lenOf pd_19 rfl) rfl 0 (Nat.le_of_eq rfl) (own_dk hby dp13_4 25 rfl) (pc' := 51) rfl (by decide) (by decide) (by decide) (by decide) ?_
      intro v211 T211 h211 K211 Kp211 Q211
      obtain ⟨ry, rfl, Sy⟩ := Q211
      have Gd := Gd.keep Kp211 nin0
      have X203 := X203.keep Kp211
      have A211 := own_here K211
      show own_Go p.tables e below _ T211 (mkF m 51 #[.val (.ref x), .val (.ref r), .val (.int bl), .unset] [(.ref ry)])
      refine own_astoreN A211 hx (pc' := 52) #[.val (.ref x), .val (.ref r), .val (.int bl), .val (.ref ry)] (own_dk hby dp13_4 26 rfl) rfl rfl rfl ?_
      refine own_goto A211 hx 57 (own_dk hby dp13_4 27 rfl) (by decide) (by decide) ?_
      refine own_aloadN A211 hx (pc' := 58) (own_dk hby dp13_4 7 rfl) rfl rfl rfl ?_
      exact own_retR K211 hx hlk hret rfl rfl (own_dk hby dp13_4 8 rfl) (by decide) (by decide) ⟨_, rfl, Or.inr (Or.inr ⟨hc4, hbl.resolve_left hc14, _, rfl, Sy⟩)⟩
  · refine own_ldcR (n := 156) (zn := (39 : Int32)) (vs := [(.int (108 : Int32)), (.int (101 : Int32)), (.int (97 : Int32)), (.int (100 : Int32)), (.int (101 : Int32)), (.int (114 : Int32)), (.int (32 : Int32)), (.int (112 : Int32)), (.int (111 : Int32)), (.int (115 : Int32)), (.int (105 : Int32)), (.int (116 : Int32)), (.int (105 : Int32)), (.int (111 : Int32)), (.int (110 : Int32)), (.int (32 : Int32)), (.int (48 : Int32)), (.int (53 : Int32)), (.int (32 : Int32)), (.int (34 : Int32)), (.int (100 : Int32)), (.int (34 : Int32)), (.int (32 : Int32)), (.int (109 : Int32)), (.int (97 : Int32)), (.int (114 : Int32)), (.int (107 : Int32)), (.int (115 : Int32)), (.int (32 : Int32)), (.int (105 : Int32)), (.int (116 : Int32)), (.int (32 : Int32)), (.int (100 : Int32)), (.int (101 : Int32)), (.int (108 : Int32)), (.int (101 : Int32)), (.int (116 : Int32)), (.int (101 : Int32)), (.int (100 : Int32))]) K201 hx (own_w hw 362 rfl) (own_sa hw) (by decide +kernel) ⟨by decide +kernel, by decide +kernel⟩ (by decide) (by decide) (own_dk hby dp13_4 12 rfl) (pc' := 9) rfl (by decide +kernel) (by decide) (by decide) (by decide) ?_
    intro b212 T212 h212 t212 kt212 K212 E212 X212 C212 V212 Y212 N212
    have Gd := Gd.ext E212
    have A212 := own_here K212
    have S212 := own_Str.of0 (cs := [(108 : Int32), (101 : Int32), (97 : Int32), (100 : Int32), (101 : Int32), (114 : Int32), (32 : Int32), (112 : Int32), (111 : Int32), (115 : Int32), (105 : Int32), (116 : Int32), (105 : Int32), (111 : Int32), (110 : Int32), (32 : Int32), (48 : Int32), (53 : Int32), (32 : Int32), (34 : Int32), (100 : Int32), (34 : Int32), (32 : Int32), (109 : Int32), (97 : Int32), (114 : Int32), (107 : Int32), (115 : Int32), (32 : Int32), (105 : Int32), (116 : Int32), (32 : Int32), (100 : Int32), (101 : Int32), (108 : Int32), (101 : Int32), (116 : Int32), (101 : Int32), (100 : Int32)]) X212 V212 C212 Y212 rfl (by decide +kernel) (by decide +kernel) (by decide)
    refine own_astoreN A212 hx (pc' := 10) #[.val (.ref x), .val (.ref r), .val (.int bl), .val (.ref b212)] (own_dk hby dp13_4 13 rfl) rfl rfl rfl ?_
    refine own_goto A212 hx 57 (own_dk hby dp13_4 14 rfl) (by decide) (by decide) ?_
    refine own_aloadN A212 hx (pc' := 58) (own_dk hby dp13_4 7 rfl) rfl rfl rfl ?_
    exact own_retR K212 hx hlk hret rfl rfl (own_dk hby dp13_4 8 rfl) (by decide) (by decide) ⟨_, rfl, Or.inl ⟨(own_del01 tz c5).resolve_left hc4, _, rfl, S212⟩⟩
theorem dm2 : ∀ r ∈ ([(0, .iload_n 0, 1), (1, .ifCond .eq 44, 3), (45, .new 7, 3), (48, .dup, 1), (49, .iconst 5, 1), (50, .newarray .char, 2), (52, .dup, 1), (53, .iconst 0, 1), (54, .bipush 100, 2), (56, .castore, 1), (57, .dup, 1), (58, .iconst 1, 1), (59, .bipush 100, 2), (61, .castore, 1), (62, .dup, 1), (63, .iconst 2, 1), (64, .bipush 100, 2), (66, .castore, 1), (67, .dup, 1), (68, .iconst 3, 1), (69, .bipush 100, 2), (71, .castore, 1), (72, .dup, 1), (73, .iconst 4, 1), (74, .bipush 100, 2), (76, .castore, 1), (77, .invokespecial 9, 3), (80, .areturn, 1), (4, .new 7, 3), (7, .dup, 1), (8, .bipush 6, 2), (10, .newarray .char, 2), (12, .dup, 1), (13, .iconst 0, 1), (14, .bipush 48, 2), (16, .castore, 1), (17, .dup, 1), (18, .iconst 1, 1), (19, .bipush 48, 2), (21, .castore, 1), (22, .dup, 1), (23, .iconst 2, 1), (24, .bipush 48, 2), (26, .castore, 1), (27, .dup, 1), (28, .iconst 3, 1), (29, .bipush 48, 2), (31, .castore, 1), (32, .dup, 1), (33, .iconst 4, 1), (34, .bipush 48, 2), (36, .castore, 1), (37, .dup, 1), (38, .iconst 5, 1), (39, .iload_n 1, 1), (40, .castore, 1), (41, .invokespecial 9, 3), (44, .areturn, 1)] : List (Nat × Instr × Nat)), decode method_2_code r.1 = .ok (r.2.1, r.2.2) := by decide +kernel
theorem pd_37 : parseMethodDescriptor "([C)V" = some ⟨[(.array .char)], none⟩ := by decide +kernel
theorem ef_rq_lead (m : MethodId) (q_0 : Int32) (q_1 : Int32)  : entryFrame m #[(.int q_0), (.int q_1)] 2 = mkF m 0 #[.val (.int q_0), .val (.int q_1)] [] := by  first | (simp [entryFrame, mkF, argsToLocals, Value.category]; done) | rfl
set_option maxRecDepth 65536 in
set_option maxHeartbeats 40000000 in
theorem rq_lead (l : Launch) (Z : State) (a0 : Array Value) (hw : ∀ d ∈ tables_1, d.before a0 Z = true) (more : List Jvm.Cond) (h0 : Heap) (z : Int32) (c5 : Int32)  (G1 : Int32) (O2 : Sta Z Z.heap "java/lang/String" "COMPACT_STRINGS" "Z" (.int G1)) (P5 : ¬ (G1 = (0 : Int32))) (hz : z = 0 ∨ z = 1) (H5 : ¬ c5 < 0 ∧ ¬ (255 : Int32) < c5) :
    own_Met true false consts_1 l Z a0 (⟨"com/example/regalwerk/regalwerk/HoldingsLinkerDeletionPinLaw", "leader", "(ZC)Ljava/lang/String;"⟩ : MethodName) method_2_code 2 (some (.object "java/lang/String")) more ({ frames := 4, cells := 3, slots := 16, locals := 66 } : Room) #[(.int z), (.int c5)] h0 [] (fun v h => ∃ a, v = some (.ref a) ∧ own_Str Z h a (own_ld z c5)) := by
  refine own_enter (own := "com/example/regalwerk/regalwerk/HoldingsLinkerDeletionPinLaw") rfl (plainFor_of_name pn_5) ?_
  intro p e s m below meth c T hx hby hml hret hlk hnm K
  rw [ef_rq_lead m z c5]
  have A := own_here K
  rcases hz with rfl | rfl
  · refine own_iloadN A hx (pc' := 1) (own_dk hby dm2 0 rfl) rfl rfl ?_
    refine own_if_eq A hx 45 4 (own_dk hby dm2 1 rfl) (by decide) (by decide) rfl (fun hc1 => ?_) (fun hc1 => ?_)
    rotate_left
    · exact absurd hc1 (by decide)
    refine own_new K hx (own_w hw 11 rfl) (own_w hw 5 rfl) (own_w hw 4 rfl) (own_dk hby dm2 2 rfl) (pc' := 48) rfl (by decide) (by decide) ?_
    intro T213 h213 b213 g213 K213 E213 X213 D213 U213
    have A213 := own_here K213
    have F_value_b213 := D213 (Or.inr (own_w hw 7 rfl)) (ty := (.array .byte)) (by decide)
    have F_coder_b213 := D213 (Or.inr (own_w hw 8 rfl)) (ty := .byte) (by decide)
    refine own_dup A213 hx (pc' := 49) (own_dk hby dm2 3 rfl) rfl rfl ?_
    refine own_iconst A213 hx (pc' := 50) (own_dk hby dm2 4 rfl) (z := (5 : Int32)) (by decide) rfl ?_
    refine own_newarr K213 hx (own_w hw 12 rfl) (own_dk hby dm2 5 rfl) (pc' := 52) rfl (by decide) 5 (by decide) (by decide) (by decide) (by decide) ?_
    intro T214 h214 b214 k214 g214 K214 E214 V214
    have ne_b213_b214 : b213 ≠ b214 := by rw [g214]; exact Nat.ne_of_lt X213.lt
    have X213 := X213.ext E214
    have F_value_b213 := F_value_b213.ext E214
    have F_coder_b213 := F_coder_b213.ext E214
    have A214 := own_here K214
    have V214 : Arv Z h214 b214 k214 .char (5 : Int32) [(.int (0 : Int32)), (.int (0 : Int32)), (.int (0 : Int32)), (.int (0 : Int32)), (.int (0 : Int32))] (.int (0 : Int32)) := V214.pad (pad_rep [] (.int (0 : Int32)) 5)
    refine own_dup A214 hx (pc' := 53) (own_dk hby dm2 6 rfl) rfl rfl ?_
    refine own_iconst A214 hx (pc' := 54) (own_dk hby dm2 7 rfl) (z := (0 : Int32)) (by decide) rfl ?_
    refine own_bipush A214 hx (pc' := 56) (own_dk hby dm2 8 rfl) (z := (100 : Int32)) (by decide) rfl ?_
    refine own_stC K214 hx V214 (List.mem_of_getElem? (i := 0) rfl) (by decide) 0 rfl (Nat.le_of_ble_eq_true rfl) (own_dk hby dm2 9 rfl) (pc' := 57) rfl ?_
    intro T215 h215 K215 W215 V215
    have X213 := X213.wr W215
    have F_value_b213 := F_value_b213.other W215 (Or.inl ne_b213_b214)
    have F_coder_b213 := F_coder_b213.other W215 (Or.inl ne_b213_b214)
    have A215 := own_here K215
    refine own_dup A215 hx (pc' := 58) (own_dk hby dm2 10 rfl) rfl rfl ?_
    refine own_iconst A215 hx (pc' := 59) (own_dk hby dm2 11 rfl) (z := (1 : Int32)) (by decide) rfl ?_
    refine own_bipush A215 hx (pc' := 61) (own_dk hby dm2 12 rfl) (z := (100 : Int32)) (by decide) rfl ?_
    refine own_stC K215 hx V215 (List.mem_of_getElem? (i := 0) rfl) (by decide) 1 rfl (Nat.le_of_ble_eq_true rfl) (own_dk hby dm2 13 rfl) (pc' := 62) rfl ?_
    intro T216 h216 K216 W216 V216
    have X213 := X213.wr W216
    have F_value_b213 := F_value_b213.other W216 (Or.inl ne_b213_b214)
    have F_coder_b213 := F_coder_b213.other W216 (Or.inl ne_b213_b214)
    have A216 := own_here K216
    refine own_dup A216 hx (pc' := 63) (own_dk hby dm2 14 rfl) rfl rfl ?_
    refine own_iconst A216 hx (pc' := 64) (own_dk hby dm2 15 rfl) (z := (2 : Int32)) (by decide) rfl ?_
    refine own_bipush A216 hx (pc' := 66) (own_dk hby dm2 16 rfl) (z := (100 : Int32)) (by decide) rfl ?_
    refine own_stC K216 hx V216 (List.mem_of_getElem? (i := 0) rfl) (by decide) 2 rfl (Nat.le_of_ble_eq_true rfl) (own_dk hby dm2 17 rfl) (pc' := 67) rfl ?_
    intro T217 h217 K217 W217 V217
    have X213 := X213.wr W217
    have F_value_b213 := F_value_b213.other W217 (Or.inl ne_b213_b214)
    have F_coder_b213 := F_coder_b213.other W217 (Or.inl ne_b213_b214)
    have A217 := own_here K217
    refine own_dup A217 hx (pc' := 68) (own_dk hby dm2 18 rfl) rfl rfl ?_
    refine own_iconst A217 hx (pc' := 69) (own_dk hby dm2 19 rfl) (z := (3 : Int32)) (by decide) rfl ?_
    refine own_bipush A217 hx (pc' := 71) (own_dk hby dm2 20 rfl) (z := (100 : Int32)) (by decide) rfl ?_
    refine own_stC K217 hx V217 (List.mem_of_getElem? (i := 0) rfl) (by decide) 3 rfl (Nat.le_of_ble_eq_true rfl) (own_dk hby dm2 21 rfl) (pc' := 72) rfl ?_
    intro T218 h218 K218 W218 V218
    have X213 := X213.wr W218
    have F_value_b213 := F_value_b213.other W218 (Or.inl ne_b213_b214)
    have F_coder_b213 := F_coder_b213.other W218 (Or.inl ne_b213_b214)
    have A218 := own_here K218
    refine own_dup A218 hx (pc' := 73) (own_dk hby dm2 22 rfl) rfl rfl ?_
    refine own_iconst A218 hx (pc' := 74) (own_dk hby dm2 23 rfl) (z := (4 : Int32)) (by decide) rfl ?_
    refine own_bipush A218 hx (pc' := 76) (own_dk hby dm2 24 rfl) (z := (100 : Int32)) (by decide) rfl ?_
    refine own_stC K218 hx V218 (List.mem_of_getElem? (i := 0) rfl) (by decide) 4 rfl (Nat.le_of_ble_eq_true rfl) (own_dk hby dm2 25 rfl) (pc' := 77) rfl ?_
    intro T219 h219 K219 W219 V219
    have X213 := X213.wr W219
    have F_value_b213 := F_value_b213.other W219 (Or.inl ne_b213_b214)
    have F_coder_b213 := F_coder_b213.other W219 (Or.inl ne_b213_b214)
    have A219 := own_here K219
    have V219 : Arv Z h219 b214 k214 .char (5 : Int32) [(.int (nar .char (100 : Int32))), (.int (nar .char (100 : Int32))), (.int (nar .char (100 : Int32))), (.int (nar .char (100 : Int32))), (.int (nar .char (100 : Int32)))] (.int (0 : Int32)) := V219
    have hp220 : ∀ c ∈ ([(nar .char (100 : Int32)), (nar .char (100 : Int32)), (nar .char (100 : Int32)), (nar .char (100 : Int32)), (nar .char (100 : Int32))] : List Int32), ¬ c < 0 ∧ ¬ (255 : Int32) < c := by
      intro c hc
      simp only [List.mem_cons, List.not_mem_nil, or_false] at hc
      rcases hc with rfl | rfl | rfl | rfl | rfl <;> first | decide | (rw [own_nr H5]; exact H5)
    refine own_strNew K219 hx (by rw [hml]; rfl) (own_w hw 13 rfl) (own_w hw 14 rfl) (own_w hw 15 rfl) (own_wn hw) (own_w hw 5 rfl) (List.mem_of_getElem? (i := 1) rfl) X213 F_value_b213 F_coder_b213 V219 O2 P5 (cs := [(nar .char (100 : Int32)), (nar .char (100 : Int32)), (nar .char (100 : Int32)), (nar .char (100 : Int32)), (nar .char (100 : Int32))]) (n := 5) rfl rfl (by decide) (by decide) hp220 (lenOf pd_37 rfl) 1 (Nat.le_of_eq rfl) (own_dk hby dm2 26 rfl) (pc' := 80) rfl (by decide) (by decide) (by decide) (by decide) ?_
    intro T220 h220 K220 Kp220 Z220
    have V219 := V219.keep Kp220 (ninS (Ne.symm ne_b213_b214) nin0)
    have A220 := own_here K220
    exact own_retR K220 hx hlk hret rfl rfl (own_dk hby dm2 27 rfl) (by decide) (by decide) ⟨_, rfl, by rw [own_ld, if_pos rfl]; exact Z220⟩
  · refine own_iloadN A hx (pc' := 1) (own_dk hby dm2 0 rfl) rfl rfl ?_
    refine own_if_eq A hx 45 4 (own_dk hby dm2 1 rfl) (by decide) (by decide) rfl (fun hc1 => ?_) (fun hc1 => ?_)
    · exact absurd hc1 (by decide)
    refine own_new K hx (own_w hw 11 rfl) (own_w hw 5 rfl) (own_w hw 4 rfl) (own_dk hby dm2 28 rfl) (pc' := 7) rfl (by decide) (by decide) ?_
    intro T221 h221 b221 g221 K221 E221 X221 D221 U221
    have A221 := own_here K221
    have F_value_b221 := D221 (Or.inr (own_w hw 7 rfl)) (ty := (.array .byte)) (by decide)
    have F_coder_b221 := D221 (Or.inr (own_w hw 8 rfl)) (ty := .byte) (by decide)
    refine own_dup A221 hx (pc' := 8) (own_dk hby dm2 29 rfl) rfl rfl ?_
    refine own_bipush A221 hx (pc' := 10) (own_dk hby dm2 30 rfl) (z := (6 : Int32)) (by decide) rfl ?_
    refine own_newarr K221 hx (own_w hw 12 rfl) (own_dk hby dm2 31 rfl) (pc' := 12) rfl (by decide) 6 (by decide) (by decide) (by decide) (by decide) ?_
    intro T222 h222 b222 k222 g222 K222 E222 V222
    have ne_b221_b222 : b221 ≠ b222 := by rw [g222]; exact Nat.ne_of_lt X221.lt
    have X221 := X221.ext E222
    have F_value_b221 := F_value_b221.ext E222
    have F_coder_b221 := F_coder_b221.ext E222
    have A222 := own_here K222
    have V222 : Arv Z h222 b222 k222 .char (6 : Int32) [(.int (0 : Int32)), (.int (0 : Int32)), (.int (0 : Int32)), (.int (0 : Int32)), (.int (0 : Int32)), (.int (0 : Int32))] (.int (0 : Int32)) := V222.pad (pad_rep [] (.int (0 : Int32)) 6)
    refine own_dup A222 hx (pc' := 13) (own_dk hby dm2 32 rfl) rfl rfl ?_
    refine own_iconst A222 hx (pc' := 14) (own_dk hby dm2 33 rfl) (z := (0 : Int32)) (by decide) rfl ?_
    refine own_bipush A222 hx (pc' := 16) (own_dk hby dm2 34 rfl) (z := (48 : Int32)) (by decide) rfl ?_
    refine own_stC K222 hx V222 (List.mem_of_getElem? (i := 0) rfl) (by decide) 0 rfl (Nat.le_of_ble_eq_true rfl) (own_dk hby dm2 35 rfl) (pc' := 17) rfl ?_
    intro T223 h223 K223 W223 V223
    have X221 := X221.wr W223
    have F_value_b221 := F_value_b221.other W223 (Or.inl ne_b221_b222)
    have F_coder_b221 := F_coder_b221.other W223 (Or.inl ne_b221_b222)
    have A223 := own_here K223
    refine own_dup A223 hx (pc' := 18) (own_dk hby dm2 36 rfl) rfl rfl ?_
    refine own_iconst A223 hx (pc' := 19) (own_dk hby dm2 37 rfl) (z := (1 : Int32)) (by decide) rfl ?_
    refine own_bipush A223 hx (pc' := 21) (own_dk hby dm2 38 rfl) (z := (48 : Int32)) (by decide) rfl ?_
    refine own_stC K223 hx V223 (List.mem_of_getElem? (i := 0) rfl) (by decide) 1 rfl (Nat.le_of_ble_eq_true rfl) (own_dk hby dm2 39 rfl) (pc' := 22) rfl ?_
    intro T224 h224 K224 W224 V224
    have X221 := X221.wr W224
    have F_value_b221 := F_value_b221.other W224 (Or.inl ne_b221_b222)
    have F_coder_b221 := F_coder_b221.other W224 (Or.inl ne_b221_b222)
    have A224 := own_here K224
    refine own_dup A224 hx (pc' := 23) (own_dk hby dm2 40 rfl) rfl rfl ?_
    refine own_iconst A224 hx (pc' := 24) (own_dk hby dm2 41 rfl) (z := (2 : Int32)) (by decide) rfl ?_
    refine own_bipush A224 hx (pc' := 26) (own_dk hby dm2 42 rfl) (z := (48 : Int32)) (by decide) rfl ?_
    refine own_stC K224 hx V224 (List.mem_of_getElem? (i := 0) rfl) (by decide) 2 rfl (Nat.le_of_ble_eq_true rfl) (own_dk hby dm2 43 rfl) (pc' := 27) rfl ?_
    intro T225 h225 K225 W225 V225
    have X221 := X221.wr W225
    have F_value_b221 := F_value_b221.other W225 (Or.inl ne_b221_b222)
    have F_coder_b221 := F_coder_b221.other W225 (Or.inl ne_b221_b222)
    have A225 := own_here K225
    refine own_dup A225 hx (pc' := 28) (own_dk hby dm2 44 rfl) rfl rfl ?_
    refine own_iconst A225 hx (pc' := 29) (own_dk hby dm2 45 rfl) (z := (3 : Int32)) (by decide) rfl ?_
    refine own_bipush A225 hx (pc' := 31) (own_dk hby dm2 46 rfl) (z := (48 : Int32)) (by decide) rfl ?_
    refine own_stC K225 hx V225 (List.mem_of_getElem? (i := 0) rfl) (by decide) 3 rfl (Nat.le_of_ble_eq_true rfl) (own_dk hby dm2 47 rfl) (pc' := 32) rfl ?_
    intro T226 h226 K226 W226 V226
    have X221 := X221.wr W226
    have F_value_b221 := F_value_b221.other W226 (Or.inl ne_b221_b222)
    have F_coder_b221 := F_coder_b221.other W226 (Or.inl ne_b221_b222)
    have A226 := own_here K226
    refine own_dup A226 hx (pc' := 33) (own_dk hby dm2 48 rfl) rfl rfl ?_
    refine own_iconst A226 hx (pc' := 34) (own_dk hby dm2 49 rfl) (z := (4 : Int32)) (by decide) rfl ?_
    refine own_bipush A226 hx (pc' := 36) (own_dk hby dm2 50 rfl) (z := (48 : Int32)) (by decide) rfl ?_
    refine own_stC K226 hx V226 (List.mem_of_getElem? (i := 0) rfl) (by decide) 4 rfl (Nat.le_of_ble_eq_true rfl) (own_dk hby dm2 51 rfl) (pc' := 37) rfl ?_
    intro T227 h227 K227 W227 V227
    have X221 := X221.wr W227
    have F_value_b221 := F_value_b221.other W227 (Or.inl ne_b221_b222)
    have F_coder_b221 := F_coder_b221.other W227 (Or.inl ne_b221_b222)
    have A227 := own_here K227
    refine own_dup A227 hx (pc' := 38) (own_dk hby dm2 52 rfl) rfl rfl ?_
    refine own_iconst A227 hx (pc' := 39) (own_dk hby dm2 53 rfl) (z := (5 : Int32)) (by decide) rfl ?_
    refine own_iloadN A227 hx (pc' := 40) (own_dk hby dm2 54 rfl) rfl rfl ?_
    refine own_stC K227 hx V227 (List.mem_of_getElem? (i := 0) rfl) (by decide) 5 rfl (Nat.le_of_ble_eq_true rfl) (own_dk hby dm2 55 rfl) (pc' := 41) rfl ?_
    intro T228 h228 K228 W228 V228
    have X221 := X221.wr W228
    have F_value_b221 := F_value_b221.other W228 (Or.inl ne_b221_b222)
    have F_coder_b221 := F_coder_b221.other W228 (Or.inl ne_b221_b222)
    have A228 := own_here K228
    have V228 : Arv Z h228 b222 k222 .char (6 : Int32) [(.int (nar .char (48 : Int32))), (.int (nar .char (48 : Int32))), (.int (nar .char (48 : Int32))), (.int (nar .char (48 : Int32))), (.int (nar .char (48 : Int32))), (.int (nar .char c5))] (.int (0 : Int32)) := V228
    have hp229 : ∀ c ∈ ([(nar .char (48 : Int32)), (nar .char (48 : Int32)), (nar .char (48 : Int32)), (nar .char (48 : Int32)), (nar .char (48 : Int32)), (nar .char c5)] : List Int32), ¬ c < 0 ∧ ¬ (255 : Int32) < c := by
      intro c hc
      simp only [List.mem_cons, List.not_mem_nil, or_false] at hc
      rcases hc with rfl | rfl | rfl | rfl | rfl | rfl <;> first | decide | (rw [own_nr H5]; exact H5)
    refine own_strNew K228 hx (by rw [hml]; rfl) (own_w hw 13 rfl) (own_w hw 14 rfl) (own_w hw 15 rfl) (own_wn hw) (own_w hw 5 rfl) (List.mem_of_getElem? (i := 1) rfl) X221 F_value_b221 F_coder_b221 V228 O2 P5 (cs := [(nar .char (48 : Int32)), (nar .char (48 : Int32)), (nar .char (48 : Int32)), (nar .char (48 : Int32)), (nar .char (48 : Int32)), (nar .char c5)]) (n := 6) rfl rfl (by decide) (by decide) hp229 (lenOf pd_37 rfl) 1 (Nat.le_of_eq rfl) (own_dk hby dm2 56 rfl) (pc' := 44) rfl (by decide) (by decide) (by decide) (by decide) ?_
    intro T229 h229 K229 Kp229 Z229
    have V228 := V228.keep Kp229 (ninS (Ne.symm ne_b221_b222) nin0)
    have A229 := own_here K229
    exact own_retR K229 hx hlk hret rfl rfl (own_dk hby dm2 57 rfl) (by decide) (by decide) ⟨_, rfl, by rw [own_ld, if_neg (by decide)]; rw [own_nr H5] at Z229; exact Z229⟩
theorem dm4 : ∀ r ∈ ([(0, .new 7, 3), (3, .dup, 1), (4, .bipush 49, 2), (6, .newarray .char, 2), (8, .dup, 1), (9, .iconst 0, 1), (10, .bipush 108, 2), (12, .castore, 1), (13, .dup, 1), (14, .iconst 1, 1), (15, .bipush 101, 2), (17, .castore, 1), (18, .dup, 1), (19, .iconst 2, 1), (20, .bipush 97, 2), (22, .castore, 1), (23, .dup, 1), (24, .iconst 3, 1), (25, .bipush 100, 2), (27, .castore, 1), (28, .dup, 1), (29, .iconst 4, 1), (30, .bipush 101, 2), (32, .castore, 1), (33, .dup, 1), (34, .iconst 5, 1), (35, .bipush 114, 2), (37, .castore, 1), (38, .dup, 1), (39, .bipush 6, 2), (41, .bipush 32, 2), (43, .castore, 1), (44, .dup, 1), (45, .bipush 7, 2), (47, .bipush 112, 2), (49, .castore, 1), (50, .dup, 1), (51, .bipush 8, 2), (53, .bipush 111, 2), (55, .castore, 1), (56, .dup, 1), (57, .bipush 9, 2), (59, .bipush 115, 2), (61, .castore, 1), (62, .dup, 1), (63, .bipush 10, 2), (65, .bipush 105, 2), (67, .castore, 1), (68, .dup, 1), (69, .bipush 11, 2), (71, .bipush 116, 2), (73, .castore, 1), (74, .dup, 1), (75, .bipush 12, 2), (77, .bipush 105, 2), (79, .castore, 1), (80, .dup, 1), (81, .bipush 13, 2), (83, .bipush 111, 2), (85, .castore, 1), (86, .dup, 1), (87, .bipush 14, 2), (89, .bipush 110, 2), (91, .castore, 1), (92, .dup, 1), (93, .bipush 15, 2), (95, .bipush 32, 2), (97, .castore, 1), (98, .dup, 1), (99, .bipush 16, 2), (101, .bipush 48, 2), (103, .castore, 1), (104, .dup, 1), (105, .bipush 17, 2), (107, .bipush 53, 2), (109, .castore, 1), (110, .dup, 1), (111, .bipush 18, 2), (113, .bipush 32, 2), (115, .castore, 1), (116, .dup, 1), (117, .bipush 19, 2), (119, .bipush 34, 2), (121, .castore, 1), (122, .dup, 1), (123, .bipush 20, 2), (125, .bipush 100, 2), (127, .castore, 1), (128, .dup, 1), (129, .bipush 21, 2), (131, .bipush 34, 2), (133, .castore, 1), (134, .dup, 1), (135, .bipush 22, 2), (137, .bipush 32, 2), (139, .castore, 1), (140, .dup, 1), (141, .bipush 23, 2), (143, .bipush 109, 2), (145, .castore, 1), (146, .dup, 1), (147, .bipush 24, 2), (149, .bipush 97, 2), (151, .castore, 1), (152, .dup, 1), (153, .bipush 25, 2), (155, .bipush 114, 2), (157, .castore, 1), (158, .dup, 1), (159, .bipush 26, 2), (161, .bipush 107, 2), (163, .castore, 1), (164, .dup, 1), (165, .bipush 27, 2), (167, .bipush 115, 2), (169, .castore, 1), (170, .dup, 1), (171, .bipush 28, 2), (173, .bipush 32, 2), (175, .castore, 1), (176, .dup, 1), (177, .bipush 29, 2), (179, .bipush 105, 2), (181, .castore, 1), (182, .dup, 1), (183, .bipush 30, 2), (185, .bipush 116, 2), (187, .castore, 1), (188, .dup, 1), (189, .bipush 31, 2), (191, .bipush 115, 2), (193, .castore, 1), (194, .dup, 1), (195, .bipush 32, 2), (197, .bipush 32, 2), (199, .castore, 1), (200, .dup, 1), (201, .bipush 33, 2), (203, .bipush 116, 2), (205, .castore, 1), (206, .dup, 1), (207, .bipush 34, 2), (209, .bipush 105, 2), (211, .castore, 1), (212, .dup, 1), (213, .bipush 35, 2), (215, .bipush 116, 2), (217, .castore, 1), (218, .dup, 1), (219, .bipush 36, 2), (221, .bipush 108, 2), (223, .castore, 1), (224, .dup, 1), (225, .bipush 37, 2), (227, .bipush 101, 2), (229, .castore, 1), (230, .dup, 1), (231, .bipush 38, 2), (233, .bipush 32, 2), (235, .castore, 1), (236, .dup, 1), (237, .bipush 39, 2), (239, .iload_n 0, 1), (240, .castore, 1), (241, .dup, 1), (242, .bipush 40, 2), (244, .iload_n 1, 1), (245, .castore, 1), (246, .dup, 1), (247, .bipush 41, 2), (249, .bipush 32, 2), (251, .castore, 1), (252, .dup, 1), (253, .bipush 42, 2), (255, .bipush 100, 2), (257, .castore, 1), (258, .dup, 1), (259, .bipush 43, 2), (261, .bipush 101, 2), (263, .castore, 1), (264, .dup, 1), (265, .bipush 44, 2), (267, .bipush 108, 2), (269, .castore, 1), (270, .dup, 1), (271, .bipush 45, 2), (273, .bipush 101, 2), (275, .castore, 1), (276, .dup, 1), (277, .bipush 46, 2), (279, .bipush 116, 2), (281, .castore, 1), (282, .dup, 1), (283, .bipush 47, 2), (285, .bipush 101, 2), (287, .castore, 1), (288, .dup, 1), (289, .bipush 48, 2), (291, .bipush 100, 2), (293, .castore, 1), (294, .invokespecial 9, 3), (297, .areturn, 1)] : List (Nat × Instr × Nat)), decode method_4_code r.1 = .ok (r.2.1, r.2.2) := by decide +kernel
theorem ef_rq_tc (m : MethodId) (q_0 : Int32) (q_1 : Int32)  : entryFrame m #[(.int q_0), (.int q_1)] 2 = mkF m 0 #[.val (.int q_0), .val (.int q_1)] [] := by  first | (simp [entryFrame, mkF, argsToLocals, Value.category]; done) | rfl
set_option maxRecDepth 65536 in
set_option maxHeartbeats 40000000 in
theorem rq_tc (l : Launch) (Z : State) (a0 : Array Value) (hw : ∀ d ∈ tables_1, d.before a0 Z = true) (more : List Jvm.Cond) (h0 : Heap) (p0 : Int32) (p1 : Int32)  (G1 : Int32) (O2 : Sta Z Z.heap "java/lang/String" "COMPACT_STRINGS" "Z" (.int G1)) (P5 : ¬ (G1 = (0 : Int32))) (HA : ¬ p0 < 0 ∧ ¬ (255 : Int32) < p0) (HB : ¬ p1 < 0 ∧ ¬ (255 : Int32) < p1) :
    own_Met true false consts_1 l Z a0 (⟨"com/example/regalwerk/regalwerk/HoldingsLinkerDeletionPinLaw", "titleClause", "(CC)Ljava/lang/String;"⟩ : MethodName) method_4_code 2 (some (.object "java/lang/String")) more ({ frames := 4, cells := 3, slots := 102, locals := 66 } : Room) #[(.int p0), (.int p1)] h0 [] (fun v h => ∃ a, v = some (.ref a) ∧ own_Str Z h a (own_T2 ++ [p0, p1] ++ own_T3)) := by
  refine own_enter (own := "com/example/regalwerk/regalwerk/HoldingsLinkerDeletionPinLaw") rfl (plainFor_of_name pn_5) ?_
  intro p e s m below meth c T hx hby hml hret hlk hnm K
  rw [ef_rq_tc m p0 p1]
  have A := own_here K
  refine own_new K hx (own_w hw 11 rfl) (own_w hw 5 rfl) (own_w hw 4 rfl) (own_dk hby dm4 0 rfl) (pc' := 3) rfl (by decide) (by decide) ?_
  intro T230 h230 b230 g230 K230 E230 X230 D230 U230
  have A230 := own_here K230
  have F_value_b230 := D230 (Or.inr (own_w hw 7 rfl)) (ty := (.array .byte)) (by decide)
  have F_coder_b230 := D230 (Or.inr (own_w hw 8 rfl)) (ty := .byte) (by decide)
  refine own_dup A230 hx (pc' := 4) (own_dk hby dm4 1 rfl) rfl rfl ?_
  refine own_bipush A230 hx (pc' := 6) (own_dk hby dm4 2 rfl) (z := (49 : Int32)) (by decide) rfl ?_
  refine own_newarr K230 hx (own_w hw 12 rfl) (own_dk hby dm4 3 rfl) (pc' := 8) rfl (by decide) 49 (by decide) (by decide) (by decide) (by decide) ?_
  intro T231 h231 b231 k231 g231 K231 E231 V231
  have ne_b230_b231 : b230 ≠ b231 := by rw [g231]; exact Nat.ne_of_lt X230.lt
  have X230 := X230.ext E231
  have F_value_b230 := F_value_b230.ext E231
  have F_coder_b230 := F_coder_b230.ext E231
  have A231 := own_here K231
  have V231 : Arv Z h231 b231 k231 .char (49 : Int32) [(.int (0 : Int32)), (.int (0 : Int32)), (.int (0 : Int32)), (.int (0 : Int32)), (.int (0 : Int32)), (.int (0 : Int32)), (.int (0 : Int32)), (.int (0 : Int32)), (.int (0 : Int32)), (.int (0 : Int32)), (.int (0 : Int32)), (.int (0 : Int32)), (.int (0 : Int32)), (.int (0 : Int32)), (.int (0 : Int32)), (.int (0 : Int32)), (.int (0 : Int32)), (.int (0 : Int32)), (.int (0 : Int32)), (.int (0 : Int32)), (.int (0 : Int32)), (.int (0 : Int32)), (.int (0 : Int32)), (.int (0 : Int32)), (.int (0 : Int32)), (.int (0 : Int32)), (.int (0 : Int32)), (.int (0 : Int32)), (.int (0 : Int32)), (.int (0 : Int32)), (.int (0 : Int32)), (.int (0 : Int32)), (.int (0 : Int32)), (.int (0 : Int32)), (.int (0 : Int32)), (.int (0 : Int32)), (.int (0 : Int32)), (.int (0 : Int32)), (.int (0 : Int32)), (.int (0 : Int32)), (.int (0 : Int32)), (.int (0 : Int32)), (.int (0 : Int32)), (.int (0 : Int32)), (.int (0 : Int32)), (.int (0 : Int32)), (.int (0 : Int32)), (.int (0 : Int32)), (.int (0 : Int32))] (.int (0 : Int32)) := V231.pad (pad_rep [] (.int (0 : Int32)) 49)
  refine own_dup A231 hx (pc' := 9) (own_dk hby dm4 4 rfl) rfl rfl ?_
  refine own_iconst A231 hx (pc' := 10) (own_dk hby dm4 5 rfl) (z := (0 : Int32)) (by decide) rfl ?_
  refine own_bipush A231 hx (pc' := 12) (own_dk hby dm4 6 rfl) (z := (108 : Int32)) (by decide) rfl ?_
  refine own_stC K231 hx V231 (List.mem_of_getElem? (i := 0) rfl) (by decide) 0 rfl (Nat.le_of_ble_eq_true rfl) (own_dk hby dm4 7 rfl) (pc' := 13) rfl ?_
  intro T232 h232 K232 W232 V232
  have X230 := X230.wr W232
  have F_value_b230 := F_value_b230.other W232 (Or.inl ne_b230_b231)
  have F_coder_b230 := F_coder_b230.other W232 (Or.inl ne_b230_b231)
  have A232 := own_here K232
  refine own_dup A232 hx (pc' := 14) (own_dk hby dm4 8 rfl) rfl rfl ?_
  refine own_iconst A232 hx (pc' := 15) (own_dk hby dm4 9 rfl) (z := (1 : Int32)) (by decide) rfl ?_
  refine own_bipush A232 hx (pc' := 17) (own_dk hby dm4 10 rfl) (z := (101 : Int32)) (by decide) rfl ?_
  refine own_stC K232 hx V232 (List.mem_of_getElem? (i := 0) rfl) (by decide) 1 rfl (Nat.le_of_ble_eq_true rfl) (own_dk hby dm4 11 rfl) (pc' := 18) rfl ?_
  intro T233 h233 K233 W233 V233
  have X230 := X230.wr W233
  have F_value_b230 := F_value_b230.other W233 (Or.inl ne_b230_b231)
  have F_coder_b230 := F_coder_b230.other W233 (Or.inl ne_b230_b231)
  have A233 := own_here K233
  refine own_dup A233 hx (pc' := 19) (own_dk hby dm4 12 rfl) rfl rfl ?_
  refine own_iconst A233 hx (pc' := 20) (own_dk hby dm4 13 rfl) (z := (2 : Int32)) (by decide) rfl ?_
  refine own_bipush A233 hx (pc' := 22) (own_dk hby dm4 14 rfl) (z := (97 : Int32)) (by decide) rfl ?_
  refine own_stC K233 hx V233 (List.mem_of_getElem? (i := 0) rfl) (by decide) 2 rfl (Nat.le_of_ble_eq_true rfl) (own_dk hby dm4 15 rfl) (pc' := 23) rfl ?_
  intro T234 h234 K234 W234 V234
  have X230 := X230.wr W234
  have F_value_b230 := F_value_b230.other W234 (Or.inl ne_b230_b231)
  have F_coder_b230 := F_coder_b230.other W234 (Or.inl ne_b230_b231)
  have A234 := own_here K234
  refine own_dup A234 hx (pc' := 24) (own_dk hby dm4 16 rfl) rfl rfl ?_
  refine own_iconst A234 hx (pc' := 25) (own_dk hby dm4 17 rfl) (z := (3 : Int32)) (by decide) rfl ?_
  refine own_bipush A234 hx (pc' := 27) (own_dk hby dm4 18 rfl) (z := (100 : Int32)) (by decide) rfl ?_
  refine own_stC K234 hx V234 (List.mem_of_getElem? (i := 0) rfl) (by decide) 3 rfl (Nat.le_of_ble_eq_true rfl) (own_dk hby dm4 19 rfl) (pc' := 28) rfl ?_
  intro T235 h235 K235 W235 V235
  have X230 := X230.wr W235
  have F_value_b230 := F_value_b230.other W235 (Or.inl ne_b230_b231)
  have F_coder_b230 := F_coder_b230.other W235 (Or.inl ne_b230_b231)
  have A235 := own_here K235
  refine own_dup A235 hx (pc' := 29) (own_dk hby dm4 20 rfl) rfl rfl ?_
  refine own_iconst A235 hx (pc' := 30) (own_dk hby dm4 21 rfl) (z := (4 : Int32)) (by decide) rfl ?_
  refine own_bipush A235 hx (pc' := 32) (own_dk hby dm4 22 rfl) (z := (101 : Int32)) (by decide) rfl ?_
  refine own_stC K235 hx V235 (List.mem_of_getElem? (i := 0) rfl) (by decide) 4 rfl (Nat.le_of_ble_eq_true rfl) (own_dk hby dm4 23 rfl) (pc' := 33) rfl ?_
  intro T236 h236 K236 W236 V236
  have X230 := X230.wr W236
  have F_value_b230 := F_value_b230.other W236 (Or.inl ne_b230_b231)
  have F_coder_b230 := F_coder_b230.other W236 (Or.inl ne_b230_b231)
  have A236 := own_here K236
  refine own_dup A236 hx (pc' := 34) (own_dk hby dm4 24 rfl) rfl rfl ?_
  refine own_iconst A236 hx (pc' := 35) (own_dk hby dm4 25 rfl) (z := (5 : Int32)) (by decide) rfl ?_
  refine own_bipush A236 hx (pc' := 37) (own_dk hby dm4 26 rfl) (z := (114 : Int32)) (by decide) rfl ?_
  refine own_stC K236 hx V236 (List.mem_of_getElem? (i := 0) rfl) (by decide) 5 rfl (Nat.le_of_ble_eq_true rfl) (own_dk hby dm4 27 rfl) (pc' := 38) rfl ?_
  intro T237 h237 K237 W237 V237
  have X230 := X230.wr W237
  have F_value_b230 := F_value_b230.other W237 (Or.inl ne_b230_b231)
  have F_coder_b230 := F_coder_b230.other W237 (Or.inl ne_b230_b231)
  have A237 := own_here K237
  refine own_dup A237 hx (pc' := 39) (own_dk hby dm4 28 rfl) rfl rfl ?_
  refine own_bipush A237 hx (pc' := 41) (own_dk hby dm4 29 rfl) (z := (6 : Int32)) (by decide) rfl ?_
  refine own_bipush A237 hx (pc' := 43) (own_dk hby dm4 30 rfl) (z := (32 : Int32)) (by decide) rfl ?_
  refine own_stC K237 hx V237 (List.mem_of_getElem? (i := 0) rfl) (by decide) 6 rfl (Nat.le_of_ble_eq_true rfl) (own_dk hby dm4 31 rfl) (pc' := 44) rfl ?_
  intro T238 h238 K238 W238 V238
  have X230 := X230.wr W238
  have F_value_b230 := F_value_b230.other W238 (Or.inl ne_b230_b231)
  have F_coder_b230 := F_coder_b230.other W238 (Or.inl ne_b230_b231)
  have A238 := own_here K238
  refine own_dup A238 hx (pc' := 45) (own_dk hby dm4 32 rfl) rfl rfl ?_
  refine own_bipush A238 hx (pc' := 47) (own_dk hby dm4 33 rfl) (z := (7 : Int32)) (by decide) rfl ?_
  refine own_bipush A238 hx (pc' := 49) (own_dk hby dm4 34 rfl) (z := (112 : Int32)) (by decide) rfl ?_
  refine own_stC K238 hx V238 (List.mem_of_getElem? (i := 0) rfl) (by decide) 7 rfl (Nat.le_of_ble_eq_true rfl) (own_dk hby dm4 35 rfl) (pc' := 50) rfl ?_
  intro T239 h239 K239 W239 V239
  have X230 := X230.wr W239
  have F_value_b230 := F_value_b230.other W239 (Or.inl ne_b230_b231)
  have F_coder_b230 := F_coder_b230.other W239 (Or.inl ne_b230_b231)
  have A239 := own_here K239
  refine own_dup A239 hx (pc' := 51) (own_dk hby dm4 36 rfl) rfl rfl ?_
  refine own_bipush A239 hx (pc' := 53) (own_dk hby dm4 37 rfl) (z := (8 : Int32)) (by decide) rfl ?_
  refine own_bipush A239 hx (pc' := 55) (own_dk hby dm4 38 rfl) (z := (111 : Int32)) (by decide) rfl ?_
  refine own_stC K239 hx V239 (List.mem_of_getElem? (i := 0) rfl) (by decide) 8 rfl (Nat.le_of_ble_eq_true rfl) (own_dk hby dm4 39 rfl) (pc' := 56) rfl ?_
  intro T240 h240 K240 W240 V240
  have X230 := X230.wr W240
  have F_value_b230 := F_value_b230.other W240 (Or.inl ne_b230_b231)
  have F_coder_b230 := F_coder_b230.other W240 (Or.inl ne_b230_b231)
  have A240 := own_here K240
  refine own_dup A240 hx (pc' := 57) (own_dk hby dm4 40 rfl) rfl rfl ?_
  refine own_bipush A240 hx (pc' := 59) (own_dk hby dm4 41 rfl) (z := (9 : Int32)) (by decide) rfl ?_
  refine own_bipush A240 hx (pc' := 61) (own_dk hby dm4 42 rfl) (z := (115 : Int32)) (by decide) rfl ?_
  refine own_stC K240 hx V240 (List.mem_of_getElem? (i := 0) rfl) (by decide) 9 rfl (Nat.le_of_ble_eq_true rfl) (own_dk hby dm4 43 rfl) (pc' := 62) rfl ?_
  intro T241 h241 K241 W241 V241
  have X230 := X230.wr W241
  have F_value_b230 := F_value_b230.other W241 (Or.inl ne_b230_b231)
  have F_coder_b230 := F_coder_b230.other W241 (Or.inl ne_b230_b231)
  have A241 := own_here K241
  refine own_dup A241 hx (pc' := 63) (own_dk hby dm4 44 rfl) rfl rfl ?_
  refine own_bipush A241 hx (pc' := 65) (own_dk hby dm4 45 rfl) (z := (10 : Int32)) (by decide) rfl ?_
  refine own_bipush A241 hx (pc' := 67) (own_dk hby dm4 46 rfl) (z := (105 : Int32)) (by decide) rfl ?_
  refine own_stC K241 hx V241 (List.mem_of_getElem? (i := 0) rfl) (by decide) 10 rfl (Nat.le_of_ble_eq_true rfl) (own_dk hby dm4 47 rfl) (pc' := 68) rfl ?_
  intro T242 h242 K242 W242 V242
  have X230 := X230.wr W242
  have F_value_b230 := F_value_b230.other W242 (Or.inl ne_b230_b231)
  have F_coder_b230 := F_coder_b230.other W242 (Or.inl ne_b230_b231)
  have A242 := own_here K242
  refine own_dup A242 hx (pc' := 69) (own_dk hby dm4 48 rfl) rfl rfl ?_
  refine own_bipush A242 hx (pc' := 71) (own_dk hby dm4 49 rfl) (z := (11 : Int32)) (by decide) rfl ?_
  refine own_bipush A242 hx (pc' := 73) (own_dk hby dm4 50 rfl) (z := (116 : Int32)) (by decide) rfl ?_
  refine own_stC K242 hx V242 (List.mem_of_getElem? (i := 0) rfl) (by decide) 11 rfl (Nat.le_of_ble_eq_true rfl) (own_dk hby dm4 51 rfl) (pc' := 74) rfl ?_
  intro T243 h243 K243 W243 V243
  have X230 := X230.wr W243
  have F_value_b230 := F_value_b230.other W243 (Or.inl ne_b230_b231)
  have F_coder_b230 := F_coder_b230.other W243 (Or.inl ne_b230_b231)
  have A243 := own_here K243
  refine own_dup A243 hx (pc' := 75) (own_dk hby dm4 52 rfl) rfl rfl ?_
  refine own_bipush A243 hx (pc' := 77) (own_dk hby dm4 53 rfl) (z := (12 : Int32)) (by decide) rfl ?_
  refine own_bipush A243 hx (pc' := 79) (own_dk hby dm4 54 rfl) (z := (105 : Int32)) (by decide) rfl ?_
  refine own_stC K243 hx V243 (List.mem_of_getElem? (i := 0) rfl) (by decide) 12 rfl (Nat.le_of_ble_eq_true rfl) (own_dk hby dm4 55 rfl) (pc' := 80) rfl ?_
  intro T244 h244 K244 W244 V244
  have X230 := X230.wr W244
  have F_value_b230 := F_value_b230.other W244 (Or.inl ne_b230_b231)
  have F_coder_b230 := F_coder_b230.other W244 (Or.inl ne_b230_b231)
  have A244 := own_here K244
  refine own_dup A244 hx (pc' := 81) (own_dk hby dm4 56 rfl) rfl rfl ?_
  refine own_bipush A244 hx (pc' := 83) (own_dk hby dm4 57 rfl) (z := (13 : Int32)) (by decide) rfl ?_
  refine own_bipush A244 hx (pc' := 85) (own_dk hby dm4 58 rfl) (z := (111 : Int32)) (by decide) rfl ?_
  refine own_stC K244 hx V244 (List.mem_of_getElem? (i := 0) rfl) (by decide) 13 rfl (Nat.le_of_ble_eq_true rfl) (own_dk hby dm4 59 rfl) (pc' := 86) rfl ?_
  intro T245 h245 K245 W245 V245
  have X230 := X230.wr W245
  have F_value_b230 := F_value_b230.other W245 (Or.inl ne_b230_b231)
  have F_coder_b230 := F_coder_b230.other W245 (Or.inl ne_b230_b231)
  have A245 := own_here K245
  refine own_dup A245 hx (pc' := 87) (own_dk hby dm4 60 rfl) rfl rfl ?_
  refine own_bipush A245 hx (pc' := 89) (own_dk hby dm4 61 rfl) (z := (14 : Int32)) (by decide) rfl ?_
  refine own_bipush A245 hx (pc' := 91) (own_dk hby dm4 62 rfl) (z := (110 : Int32)) (by decide) rfl ?_
  refine own_stC K245 hx V245 (List.mem_of_getElem? (i := 0) rfl) (by decide) 14 rfl (Nat.le_of_ble_eq_true rfl) (own_dk hby dm4 63 rfl) (pc' := 92) rfl ?_
  intro T246 h246 K246 W246 V246
  have X230 := X230.wr W246
  have F_value_b230 := F_value_b230.other W246 (Or.inl ne_b230_b231)
  have F_coder_b230 := F_coder_b230.other W246 (Or.inl ne_b230_b231)
  have A246 := own_here K246
  refine own_dup A246 hx (pc' := 93) (own_dk hby dm4 64 rfl) rfl rfl ?_
  refine own_bipush A246 hx (pc' := 95) (own_dk hby dm4 65 rfl) (z := (15 : Int32)) (by decide) rfl ?_
  refine own_bipush A246 hx (pc' := 97) (own_dk hby dm4 66 rfl) (z := (32 : Int32)) (by decide) rfl ?_
  refine own_stC K246 hx V246 (List.mem_of_getElem? (i := 0) rfl) (by decide) 15 rfl (Nat.le_of_ble_eq_true rfl) (own_dk hby dm4 67 rfl) (pc' := 98) rfl ?_
  intro T247 h247 K247 W247 V247
  have X230 := X230.wr W247
  have F_value_b230 := F_value_b230.other W247 (Or.inl ne_b230_b231)
  have F_coder_b230 := F_coder_b230.other W247 (Or.inl ne_b230_b231)
  have A247 := own_here K247
  refine own_dup A247 hx (pc' := 99) (own_dk hby dm4 68 rfl) rfl rfl ?_
  refine own_bipush A247 hx (pc' := 101) (own_dk hby dm4 69 rfl) (z := (16 : Int32)) (by decide) rfl ?_
  refine own_bipush A247 hx (pc' := 103) (own_dk hby dm4 70 rfl) (z := (48 : Int32)) (by decide) rfl ?_
  refine own_stC K247 hx V247 (List.mem_of_getElem? (i := 0) rfl) (by decide) 16 rfl (Nat.le_of_ble_eq_true rfl) (own_dk hby dm4 71 rfl) (pc' := 104) rfl ?_
  intro T248 h248 K248 W248 V248
  have X230 := X230.wr W248
  have F_value_b230 := F_value_b230.other W248 (Or.inl ne_b230_b231)
  have F_coder_b230 := F_coder_b230.other W248 (Or.inl ne_b230_b231)
  have A248 := own_here K248
  refine own_dup A248 hx (pc' := 105) (own_dk hby dm4 72 rfl) rfl rfl ?_
  refine own_bipush A248 hx (pc' := 107) (own_dk hby dm4 73 rfl) (z := (17 : Int32)) (by decide) rfl ?_
  refine own_bipush A248 hx (pc' := 109) (own_dk hby dm4 74 rfl) (z := (53 : Int32)) (by decide) rfl ?_
  refine own_stC K248 hx V248 (List.mem_of_getElem? (i := 0) rfl) (by decide) 17 rfl (Nat.le_of_ble_eq_true rfl) (own_dk hby dm4 75 rfl) (pc' := 110) rfl ?_
  intro T249 h249 K249 W249 V249
  have X230 := X230.wr W249
  have F_value_b230 := F_value_b230.other W249 (Or.inl ne_b230_b231)
  have F_coder_b230 := F_coder_b230.other W249 (Or.inl ne_b230_b231)
  have A249 := own_here K249
  refine own_dup A249 hx (pc' := 111) (own_dk hby dm4 76 rfl) rfl rfl ?_
  refine own_bipush A249 hx (pc' := 113) (own_dk hby dm4 77 rfl) (z := (18 : Int32)) (by decide) rfl ?_
  refine own_bipush A249 hx (pc' := 115) (own_dk hby dm4 78 rfl) (z := (32 : Int32)) (by decide) rfl ?_
  refine own_stC K249 hx V249 (List.mem_of_getElem? (i := 0) rfl) (by decide) 18 rfl (Nat.le_of_ble_eq_true rfl) (own_dk hby dm4 79 rfl) (pc' := 116) rfl ?_
  intro T250 h250 K250 W250 V250
  have X230 := X230.wr W250
  have F_value_b230 := F_value_b230.other W250 (Or.inl ne_b230_b231)
  have F_coder_b230 := F_coder_b230.other W250 (Or.inl ne_b230_b231)
  have A250 := own_here K250
  refine own_dup A250 hx (pc' := 117) (own_dk hby dm4 80 rfl) rfl rfl ?_
  refine own_bipush A250 hx (pc' := 119) (own_dk hby dm4 81 rfl) (z := (19 : Int32)) (by decide) rfl ?_
  refine own_bipush A250 hx (pc' := 121) (own_dk hby dm4 82 rfl) (z := (34 : Int32)) (by decide) rfl ?_
  refine own_stC K250 hx V250 (List.mem_of_getElem? (i := 0) rfl) (by decide) 19 rfl (Nat.le_of_ble_eq_true rfl) (own_dk hby dm4 83 rfl) (pc' := 122) rfl ?_
  intro T251 h251 K251 W251 V251
  have X230 := X230.wr W251
  have F_value_b230 := F_value_b230.other W251 (Or.inl ne_b230_b231)
  have F_coder_b230 := F_coder_b230.other W251 (Or.inl ne_b230_b231)
  have A251 := own_here K251
  refine own_dup A251 hx (pc' := 123) (own_dk hby dm4 84 rfl) rfl rfl ?_
  refine own_bipush A251 hx (pc' := 125) (own_dk hby dm4 85 rfl) (z := (20 : Int32)) (by decide) rfl ?_
  refine own_bipush A251 hx (pc' := 127) (own_dk hby dm4 86 rfl) (z := (100 : Int32)) (by decide) rfl ?_
  refine own_stC K251 hx V251 (List.mem_of_getElem? (i := 0) rfl) (by decide) 20 rfl (Nat.le_of_ble_eq_true rfl) (own_dk hby dm4 87 rfl) (pc' := 128) rfl ?_
  intro T252 h252 K252 W252 V252
  have X230 := X230.wr W252
  have F_value_b230 := F_value_b230.other W252 (Or.inl ne_b230_b231)
  have F_coder_b230 := F_coder_b230.other W252 (Or.inl ne_b230_b231)
  have A252 := own_here K252
  refine own_dup A252 hx (pc' := 129) (own_dk hby dm4 88 rfl) rfl rfl ?_
  refine own_bipush A252 hx (pc' := 131) (own_dk hby dm4 89 rfl) (z := (21 : Int32)) (by decide) rfl ?_
  refine own_bipush A252 hx (pc' := 133) (own_dk hby dm4 90 rfl) (z := (34 : Int32)) (by decide) rfl ?_
  refine own_stC K252 hx V252 (List.mem_of_getElem? (i := 0) rfl) (by decide) 21 rfl (Nat.le_of_ble_eq_true rfl) (own_dk hby dm4 91 rfl) (pc' := 134) rfl ?_
  intro T253 h253 K253 W253 V253
  have X230 := X230.wr W253
  have F_value_b230 := F_value_b230.other W253 (Or.inl ne_b230_b231)
  have F_coder_b230 := F_coder_b230.other W253 (Or.inl ne_b230_b231)
  have A253 := own_here K253
  refine own_dup A253 hx (pc' := 135) (own_dk hby dm4 92 rfl) rfl rfl ?_
  refine own_bipush A253 hx (pc' := 137) (own_dk hby dm4 93 rfl) (z := (22 : Int32)) (by decide) rfl ?_
  refine own_bipush A253 hx (pc' := 139) (own_dk hby dm4 94 rfl) (z := (32 : Int32)) (by decide) rfl ?_
  refine own_stC K253 hx V253 (List.mem_of_getElem? (i := 0) rfl) (by decide) 22 rfl (Nat.le_of_ble_eq_true rfl) (own_dk hby dm4 95 rfl) (pc' := 140) rfl ?_
  intro T254 h254 K254 W254 V254
  have X230 := X230.wr W254
  have F_value_b230 := F_value_b230.other W254 (Or.inl ne_b230_b231)
  have F_coder_b230 := F_coder_b230.other W254 (Or.inl ne_b230_b231)
  have A254 := own_here K254
  refine own_dup A254 hx (pc' := 141) (own_dk hby dm4 96 rfl) rfl rfl ?_
  refine own_bipush A254 hx (pc' := 143) (own_dk hby dm4 97 rfl) (z := (23 : Int32)) (by decide) rfl ?_
  refine own_bipush A254 hx (pc' := 145) (own_dk hby dm4 98 rfl) (z := (109 : Int32)) (by decide) rfl ?_
  refine own_stC K254 hx V254 (List.mem_of_getElem? (i := 0) rfl) (by decide) 23 rfl (Nat.le_of_ble_eq_true rfl) (own_dk hby dm4 99 rfl) (pc' := 146) rfl ?_
  intro T255 h255 K255 W255 V255
  have X230 := X230.wr W255
  have F_value_b230 := F_value_b230.other W255 (Or.inl ne_b230_b231)
  have F_coder_b230 := F_coder_b230.other W255 (Or.inl ne_b230_b231)
  have A255 := own_here K255
  refine own_dup A255 hx (pc' := 147) (own_dk hby dm4 100 rfl) rfl rfl ?_
  refine own_bipush A255 hx (pc' := 149) (own_dk hby dm4 101 rfl) (z := (24 : Int32)) (by decide) rfl ?_
  refine own_bipush A255 hx (pc' := 151) (own_dk hby dm4 102 rfl) (z := (97 : Int32)) (by decide) rfl ?_
  refine own_stC K255 hx V255 (List.mem_of_getElem? (i := 0) rfl) (by decide) 24 rfl (Nat.le_of_ble_eq_true rfl) (own_dk hby dm4 103 rfl) (pc' := 152) rfl ?_
  intro T256 h256 K256 W256 V256
  have X230 := X230.wr W256
  have F_value_b230 := F_value_b230.other W256 (Or.inl ne_b230_b231)
  have F_coder_b230 := F_coder_b230.other W256 (Or.inl ne_b230_b231)
  have A256 := own_here K256
  refine own_dup A256 hx (pc' := 153) (own_dk hby dm4 104 rfl) rfl rfl ?_
  refine own_bipush A256 hx (pc' := 155) (own_dk hby dm4 105 rfl) (z := (25 : Int32)) (by decide) rfl ?_
  refine own_bipush A256 hx (pc' := 157) (own_dk hby dm4 106 rfl) (z := (114 : Int32)) (by decide) rfl ?_
  refine own_stC K256 hx V256 (List.mem_of_getElem? (i := 0) rfl) (by decide) 25 rfl (Nat.le_of_ble_eq_true rfl) (own_dk hby dm4 107 rfl) (pc' := 158) rfl ?_
  intro T257 h257 K257 W257 V257
  have X230 := X230.wr W257
  have F_value_b230 := F_value_b230.other W257 (Or.inl ne_b230_b231)
  have F_coder_b230 := F_coder_b230.other W257 (Or.inl ne_b230_b231)
  have A257 := own_here K257
  refine own_dup A257 hx (pc' := 159) (own_dk hby dm4 108 rfl) rfl rfl ?_
  refine own_bipush A257 hx (pc' := 161) (own_dk hby dm4 109 rfl) (z := (26 : Int32)) (by decide) rfl ?_
  refine own_bipush A257 hx (pc' := 163) (own_dk hby dm4 110 rfl) (z := (107 : Int32)) (by decide) rfl ?_
  refine own_stC K257 hx V257 (List.mem_of_getElem? (i := 0) rfl) (by decide) 26 rfl (Nat.le_of_ble_eq_true rfl) (own_dk hby dm4 111 rfl) (pc' := 164) rfl ?_
  intro T258 h258 K258 W258 V258
  have X230 := X230.wr W258
  have F_value_b230 := F_value_b230.other W258 (Or.inl ne_b230_b231)
  have F_coder_b230 := F_coder_b230.other W258 (Or.inl ne_b230_b231)
  have A258 := own_here K258
  refine own_dup A258 hx (pc' := 165) (own_dk hby dm4 112 rfl) rfl rfl ?_
  refine own_bipush A258 hx (pc' := 167) (own_dk hby dm4 113 rfl) (z := (27 : Int32)) (by decide) rfl ?_
  refine own_bipush A258 hx (pc' := 169) (own_dk hby dm4 114 rfl) (z := (115 : Int32)) (by decide) rfl ?_
  refine own_stC K258 hx V258 (List.mem_of_getElem? (i := 0) rfl) (by decide) 27 rfl (Nat.le_of_ble_eq_true rfl) (own_dk hby dm4 115 rfl) (pc' := 170) rfl ?_
  intro T259 h259 K259 W259 V259
  have X230 := X230.wr W259
  have F_value_b230 := F_value_b230.other W259 (Or.inl ne_b230_b231)
  have F_coder_b230 := F_coder_b230.other W259 (Or.inl ne_b230_b231)
  have A259 := own_here K259
  refine own_dup A259 hx (pc' := 171) (own_dk hby dm4 116 rfl) rfl rfl ?_
  refine own_bipush A259 hx (pc' := 173) (own_dk hby dm4 117 rfl) (z := (28 : Int32)) (by decide) rfl ?_
  refine own_bipush A259 hx (pc' := 175) (own_dk hby dm4 118 rfl) (z := (32 : Int32)) (by decide) rfl ?_
  refine own_stC K259 hx V259 (List.mem_of_getElem? (i := 0) rfl) (by decide) 28 rfl (Nat.le_of_ble_eq_true rfl) (own_dk hby dm4 119 rfl) (pc' := 176) rfl ?_
  intro T260 h260 K260 W260 V260
  have X230 := X230.wr W260
  have F_value_b230 := F_value_b230.other W260 (Or.inl ne_b230_b231)
  have F_coder_b230 := F_coder_b230.other W260 (Or.inl ne_b230_b231)
  have A260 := own_here K260
  refine own_dup A260 hx (pc' := 177) (own_dk hby dm4 120 rfl) rfl rfl ?_
  refine own_bipush A260 hx (pc' := 179) (own_dk hby dm4 121 rfl) (z := (29 : Int32)) (by decide) rfl ?_
  refine own_bipush A260 hx (pc' := 181) (own_dk hby dm4 122 rfl) (z := (105 : Int32)) (by decide) rfl ?_
  refine own_stC K260 hx V260 (List.mem_of_getElem? (i := 0) rfl) (by decide) 29 rfl (Nat.le_of_ble_eq_true rfl) (own_dk hby dm4 123 rfl) (pc' := 182) rfl ?_
  intro T261 h261 K261 W261 V261
  have X230 := X230.wr W261
  have F_value_b230 := F_value_b230.other W261 (Or.inl ne_b230_b231)
  have F_coder_b230 := F_coder_b230.other W261 (Or.inl ne_b230_b231)
  have A261 := own_here K261
  refine own_dup A261 hx (pc' := 183) (own_dk hby dm4 124 rfl) rfl rfl ?_
  refine own_bipush A261 hx (pc' := 185) (own_dk hby dm4 125 rfl) (z := (30 : Int32)) (by decide) rfl ?_
  refine own_bipush A261 hx (pc' := 187) (own_dk hby dm4 126 rfl) (z := (116 : Int32)) (by decide) rfl ?_
  refine own_stC K261 hx V261 (List.mem_of_getElem? (i := 0) rfl) (by decide) 30 rfl (Nat.le_of_ble_eq_true rfl) (own_dk hby dm4 127 rfl) (pc' := 188) rfl ?_
  intro T262 h262 K262 W262 V262
  have X230 := X230.wr W262
  have F_value_b230 := F_value_b230.other W262 (Or.inl ne_b230_b231)
  have F_coder_b230 := F_coder_b230.other W262 (Or.inl ne_b230_b231)
  have A262 := own_here K262
  refine own_dup A262 hx (pc' := 189) (own_dk hby dm4 128 rfl) rfl rfl ?_
  refine own_bipush A262 hx (pc' := 191) (own_dk hby dm4 129 rfl) (z := (31 : Int32)) (by decide) rfl ?_
  refine own_bipush A262 hx (pc' := 193) (own_dk hby dm4 130 rfl) (z := (115 : Int32)) (by decide) rfl ?_
  refine own_stC K262 hx V262 (List.mem_of_getElem? (i := 0) rfl) (by decide) 31 rfl (Nat.le_of_ble_eq_true rfl) (own_dk hby dm4 131 rfl) (pc' := 194) rfl ?_
  intro T263 h263 K263 W263 V263
  have X230 := X230.wr W263
  have F_value_b230 := F_value_b230.other W263 (Or.inl ne_b230_b231)
  have F_coder_b230 := F_coder_b230.other W263 (Or.inl ne_b230_b231)
  have A263 := own_here K263
  refine own_dup A263 hx (pc' := 195) (own_dk hby dm4 132 rfl) rfl rfl ?_
  refine own_bipush A263 hx (pc' := 197) (own_dk hby dm4 133 rfl) (z := (32 : Int32)) (by decide) rfl ?_
  refine own_bipush A263 hx (pc' := 199) (own_dk hby dm4 134 rfl) (z := (32 : Int32)) (by decide) rfl ?_
  refine own_stC K263 hx V263 (List.mem_of_getElem? (i := 0) rfl) (by decide) 32 rfl (Nat.le_of_ble_eq_true rfl) (own_dk hby dm4 135 rfl) (pc' := 200) rfl ?_
  intro T264 h264 K264 W264 V264
  have X230 := X230.wr W264
  have F_value_b230 := F_value_b230.other W264 (Or.inl ne_b230_b231)
  have F_coder_b230 := F_coder_b230.other W264 (Or.inl ne_b230_b231)
  have A264 := own_here K264
  refine own_dup A264 hx (pc' := 201) (own_dk hby dm4 136 rfl) rfl rfl ?_
  refine own_bipush A264 hx (pc' := 203) (own_dk hby dm4 137 rfl) (z := (33 : Int32)) (by decide) rfl ?_
  refine own_bipush A264 hx (pc' := 205) (own_dk hby dm4 138 rfl) (z := (116 : Int32)) (by decide) rfl ?_
  refine own_stC K264 hx V264 (List.mem_of_getElem? (i := 0) rfl) (by decide) 33 rfl (Nat.le_of_ble_eq_true rfl) (own_dk hby dm4 139 rfl) (pc' := 206) rfl ?_
  intro T265 h265 K265 W265 V265
  have X230 := X230.wr W265
  have F_value_b230 := F_value_b230.other W265 (Or.inl ne_b230_b231)
  have F_coder_b230 := F_coder_b230.other W265 (Or.inl ne_b230_b231)
  have A265 := own_here K265
  refine own_dup A265 hx (pc' := 207) (own_dk hby dm4 140 rfl) rfl rfl ?_
  refine own_bipush A265 hx (pc' := 209) (own_dk hby dm4 141 rfl) (z := (34 : Int32)) (by decide) rfl ?_
  refine own_bipush A265 hx (pc' := 211) (own_dk hby dm4 142 rfl) (z := (105 : Int32)) (by decide) rfl ?_
  refine own_stC K265 hx V265 (List.mem_of_getElem? (i := 0) rfl) (by decide) 34 rfl (Nat.le_of_ble_eq_true rfl) (own_dk hby dm4 143 rfl) (pc' := 212) rfl ?_
  intro T266 h266 K266 W266 V266
  have X230 := X230.wr W266
  have F_value_b230 := F_value_b230.other W266 (Or.inl ne_b230_b231)
  have F_coder_b230 := F_coder_b230.other W266 (Or.inl ne_b230_b231)
  have A266 := own_here K266
  refine own_dup A266 hx (pc' := 213) (own_dk hby dm4 144 rfl) rfl rfl ?_
  refine own_bipush A266 hx (pc' := 215) (own_dk hby dm4 145 rfl) (z := (35 : Int32)) (by decide) rfl ?_
  refine own_bipush A266 hx (pc' := 217) (own_dk hby dm4 146 rfl) (z := (116 : Int32)) (by decide) rfl ?_
  refine own_stC K266 hx V266 (List.mem_of_getElem? (i := 0) rfl) (by decide) 35 rfl (Nat.le_of_ble_eq_true rfl) (own_dk hby dm4 147 rfl) (pc' := 218) rfl ?_
  intro T267 h267 K267 W267 V267
  have X230 := X230.wr W267
  have F_value_b230 := F_value_b230.other W267 (Or.inl ne_b230_b231)
  have F_coder_b230 := F_coder_b230.other W267 (Or.inl ne_b230_b231)
  have A267 := own_here K267
  refine own_dup A267 hx (pc' := 219) (own_dk hby dm4 148 rfl) rfl rfl ?_
  refine own_bipush A267 hx (pc' := 221) (own_dk hby dm4 149 rfl) (z := (36 : Int32)) (by decide) rfl ?_
  refine own_bipush A267 hx (pc' := 223) (own_dk hby dm4 150 rfl) (z := (108 : Int32)) (by decide) rfl ?_
  refine own_stC K267 hx V267 (List.mem_of_getElem? (i := 0) rfl) (by decide) 36 rfl (Nat.le_of_ble_eq_true rfl) (own_dk hby dm4 151 rfl) (pc' := 224) rfl ?_
  intro T268 h268 K268 W268 V268
  have X230 := X230.wr W268
  have F_value_b230 := F_value_b230.other W268 (Or.inl ne_b230_b231)
  have F_coder_b230 := F_coder_b230.other W268 (Or.inl ne_b230_b231)
  have A268 := own_here K268
  refine own_dup A268 hx (pc' := 225) (own_dk hby dm4 152 rfl) rfl rfl ?_
  refine own_bipush A268 hx (pc' := 227) (own_dk hby dm4 153 rfl) (z := (37 : Int32)) (by decide) rfl ?_
  refine own_bipush A268 hx (pc' := 229) (own_dk hby dm4 154 rfl) (z := (101 : Int32)) (by decide) rfl ?_
  refine own_stC K268 hx V268 (List.mem_of_getElem? (i := 0) rfl) (by decide) 37 rfl (Nat.le_of_ble_eq_true rfl) (own_dk hby dm4 155 rfl) (pc' := 230) rfl ?_
  intro T269 h269 K269 W269 V269
  have X230 := X230.wr W269
  have F_value_b230 := F_value_b230.other W269 (Or.inl ne_b230_b231)
  have F_coder_b230 := F_coder_b230.other W269 (Or.inl ne_b230_b231)
  have A269 := own_here K269
  refine own_dup A269 hx (pc' := 231) (own_dk hby dm4 156 rfl) rfl rfl ?_
  refine own_bipush A269 hx (pc' := 233) (own_dk hby dm4 157 rfl) (z := (38 : Int32)) (by decide) rfl ?_
  refine own_bipush A269 hx (pc' := 235) (own_dk hby dm4 158 rfl) (z := (32 : Int32)) (by decide) rfl ?_
  refine own_stC K269 hx V269 (List.mem_of_getElem? (i := 0) rfl) (by decide) 38 rfl (Nat.le_of_ble_eq_true rfl) (own_dk hby dm4 159 rfl) (pc' := 236) rfl ?_
  intro T270 h270 K270 W270 V270
  have X230 := X230.wr W270
  have F_value_b230 := F_value_b230.other W270 (Or.inl ne_b230_b231)
  have F_coder_b230 := F_coder_b230.other W270 (Or.inl ne_b230_b231)
  have A270 := own_here K270
  refine own_dup A270 hx (pc' := 237) (own_dk hby dm4 160 rfl) rfl rfl ?_
  refine own_bipush A270 hx (pc' := 239) (own_dk hby dm4 161 rfl) (z := (39 : Int32)) (by decide) rfl ?_
  refine own_iloadN A270 hx (pc' := 240) (own_dk hby dm4 162 rfl) rfl rfl ?_
  refine own_stC K270 hx V270 (List.mem_of_getElem? (i := 0) rfl) (by decide) 39 rfl (Nat.le_of_ble_eq_true rfl) (own_dk hby dm4 163 rfl) (pc' := 241) rfl ?_
  intro T271 h271 K271 W271 V271
  have X230 := X230.wr W271
  have F_value_b230 := F_value_b230.other W271 (Or.inl ne_b230_b231)
  have F_coder_b230 := F_coder_b230.other W271 (Or.inl ne_b230_b231)
  have A271 := own_here K271
  refine own_dup A271 hx (pc' := 242) (own_dk hby dm4 164 rfl) rfl rfl ?_
  refine own_bipush A271 hx (pc' := 244) (own_dk hby dm4 165 rfl) (z := (40 : Int32)) (by decide) rfl ?_
  refine own_iloadN A271 hx (pc' := 245) (own_dk hby dm4 166 rfl) rfl rfl ?_
  refine own_stC K271 hx V271 (List.mem_of_getElem? (i := 0) rfl) (by decide) 40 rfl (Nat.le_of_ble_eq_true rfl) (own_dk hby dm4 167 rfl) (pc' := 246) rfl ?_
  intro T272 h272 K272 W272 V272
  have X230 := X230.wr W272
  have F_value_b230 := F_value_b230.other W272 (Or.inl ne_b230_b231)
  have F_coder_b230 := F_coder_b230.other W272 (Or.inl ne_b230_b231)
  have A272 := own_here K272
  refine own_dup A272 hx (pc' := 247) (own_dk hby dm4 168 rfl) rfl rfl ?_
  refine own_bipush A272 hx (pc' := 249) (own_dk hby dm4 169 rfl) (z := (41 : Int32)) (by decide) rfl ?_
  refine own_bipush A272 hx (pc' := 251) (own_dk hby dm4 170 rfl) (z := (32 : Int32)) (by decide) rfl ?_
  refine own_stC K272 hx V272 (List.mem_of_getElem? (i := 0) rfl) (by decide) 41 rfl (Nat.le_of_ble_eq_true rfl) (own_dk hby dm4 171 rfl) (pc' := 252) rfl ?_
  intro T273 h273 K273 W273 V273
  have X230 := X230.wr W273
  have F_value_b230 := F_value_b230.other W273 (Or.inl ne_b230_b231)
  have F_coder_b230 := F_coder_b230.other W273 (Or.inl ne_b230_b231)
  have A273 := own_here K273
  refine own_dup A273 hx (pc' := 253) (own_dk hby dm4 172 rfl) rfl rfl ?_
  refine own_bipush A273 hx (pc' := 255) (own_dk hby dm4 173 rfl) (z := (42 : Int32)) (by decide) rfl ?_
  refine own_bipush A273 hx (pc' := 257) (own_dk hby dm4 174 rfl) (z := (100 : Int32)) (by decide) rfl ?_
  refine own_stC K273 hx V273 (List.mem_of_getElem? (i := 0) rfl) (by decide) 42 rfl (Nat.le_of_ble_eq_true rfl) (own_dk hby dm4 175 rfl) (pc' := 258) rfl ?_
  intro T274 h274 K274 W274 V274
  have X230 := X230.wr W274
  have F_value_b230 := F_value_b230.other W274 (Or.inl ne_b230_b231)
  have F_coder_b230 := F_coder_b230.other W274 (Or.inl ne_b230_b231)
  have A274 := own_here K274
  refine own_dup A274 hx (pc' := 259) (own_dk hby dm4 176 rfl) rfl rfl ?_
  refine own_bipush A274 hx (pc' := 261) (own_dk hby dm4 177 rfl) (z := (43 : Int32)) (by decide) rfl ?_
  refine own_bipush A274 hx (pc' := 263) (own_dk hby dm4 178 rfl) (z := (101 : Int32)) (by decide) rfl ?_
  refine own_stC K274 hx V274 (List.mem_of_getElem? (i := 0) rfl) (by decide) 43 rfl (Nat.le_of_ble_eq_true rfl) (own_dk hby dm4 179 rfl) (pc' := 264) rfl ?_
  intro T275 h275 K275 W275 V275
  have X230 := X230.wr W275
  have F_value_b230 := F_value_b230.other W275 (Or.inl ne_b230_b231)
  have F_coder_b230 := F_coder_b230.other W275 (Or.inl ne_b230_b231)
  have A275 := own_here K275
  refine own_dup A275 hx (pc' := 265) (own_dk hby dm4 180 rfl) rfl rfl ?_
  refine own_bipush A275 hx (pc' := 267) (own_dk hby dm4 181 rfl) (z := (44 : Int32)) (by decide) rfl ?_
  refine own_bipush A275 hx (pc' := 269) (own_dk hby dm4 182 rfl) (z := (108 : Int32)) (by decide) rfl ?_
  refine own_stC K275 hx V275 (List.mem_of_getElem? (i := 0) rfl) (by decide) 44 rfl (Nat.le_of_ble_eq_true rfl) (own_dk hby dm4 183 rfl) (pc' := 270) rfl ?_
  intro T276 h276 K276 W276 V276
  have X230 := X230.wr W276
  have F_value_b230 := F_value_b230.other W276 (Or.inl ne_b230_b231)
  have F_coder_b230 := F_coder_b230.other W276 (Or.inl ne_b230_b231)
  have A276 := own_here K276
  refine own_dup A276 hx (pc' := 271) (own_dk hby dm4 184 rfl) rfl rfl ?_
  refine own_bipush A276 hx (pc' := 273) (own_dk hby dm4 185 rfl) (z := (45 : Int32)) (by decide) rfl ?_
  refine own_bipush A276 hx (pc' := 275) (own_dk hby dm4 186 rfl) (z := (101 : Int32)) (by decide) rfl ?_
  refine own_stC K276 hx V276 (List.mem_of_getElem? (i := 0) rfl) (by decide) 45 rfl (Nat.le_of_ble_eq_true rfl) (own_dk hby dm4 187 rfl) (pc' := 276) rfl ?_
  intro T277 h277 K277 W277 V277
  have X230 := X230.wr W277
  have F_value_b230 := F_value_b230.other W277 (Or.inl ne_b230_b231)
  have F_coder_b230 := F_coder_b230.other W277 (Or.inl ne_b230_b231)
  have A277 := own_here K277
  refine own_dup A277 hx (pc' := 277) (own_dk hby dm4 188 rfl) rfl rfl ?_
  refine own_bipush A277 hx (pc' := 279) (own_dk hby dm4 189 rfl) (z := (46 : Int32)) (by decide) rfl ?_
  refine own_bipush A277 hx (pc' := 281) (own_dk hby dm4 190 rfl) (z := (116 : Int32)) (by decide) rfl ?_
  refine own_stC K277 hx V277 (List.mem_of_getElem? (i := 0) rfl) (by decide) 46 rfl (Nat.le_of_ble_eq_true rfl) (own_dk hby dm4 191 rfl) (pc' := 282) rfl ?_
  intro T278 h278 K278 W278 V278
  have X230 := X230.wr W278
  have F_value_b230 := F_value_b230.other W278 (Or.inl ne_b230_b231)
  have F_coder_b230 := F_coder_b230.other W278 (Or.inl ne_b230_b231)
  have A278 := own_here K278
  refine own_dup A278 hx (pc' := 283) (own_dk hby dm4 192 rfl) rfl rfl ?_
  refine own_bipush A278 hx (pc' := 285) (own_dk hby dm4 193 rfl) (z := (47 : Int32)) (by decide) rfl ?_
  refine own_bipush A278 hx (pc' := 287) (own_dk hby dm4 194 rfl) (z := (101 : Int32)) (by decide) rfl ?_
  refine own_stC K278 hx V278 (List.mem_of_getElem? (i := 0) rfl) (by decide) 47 rfl (Nat.le_of_ble_eq_true rfl) (own_dk hby dm4 195 rfl) (pc' := 288) rfl ?_
  intro T279 h279 K279 W279 V279
  have X230 := X230.wr W279
  have F_value_b230 := F_value_b230.other W279 (Or.inl ne_b230_b231)
  have F_coder_b230 := F_coder_b230.other W279 (Or.inl ne_b230_b231)
  have A279 := own_here K279
  refine own_dup A279 hx (pc' := 289) (own_dk hby dm4 196 rfl) rfl rfl ?_
  refine own_bipush A279 hx (pc' := 291) (own_dk hby dm4 197 rfl) (z := (48 : Int32)) (by decide) rfl ?_
  refine own_bipush A279 hx (pc' := 293) (own_dk hby dm4 198 rfl) (z := (100 : Int32)) (by decide) rfl ?_
  refine own_stC K279 hx V279 (List.mem_of_getElem? (i := 0) rfl) (by decide) 48 rfl (Nat.le_of_ble_eq_true rfl) (own_dk hby dm4 199 rfl) (pc' := 294) rfl ?_
  intro T280 h280 K280 W280 V280
  have X230 := X230.wr W280
  have F_value_b230 := F_value_b230.other W280 (Or.inl ne_b230_b231)
  have F_coder_b230 := F_coder_b230.other W280 (Or.inl ne_b230_b231)
  have A280 := own_here K280
  have V280 : Arv Z h280 b231 k231 .char (49 : Int32) [(.int (nar .char (108 : Int32))), (.int (nar .char (101 : Int32))), (.int (nar .char (97 : Int32))), (.int (nar .char (100 : Int32))), (.int (nar .char (101 : Int32))), (.int (nar .char (114 : Int32))), (.int (nar .char (32 : Int32))), (.int (nar .char (112 : Int32))), (.int (nar .char (111 : Int32))), (.int (nar .char (115 : Int32))), (.int (nar .char (105 : Int32))), (.int (nar .char (116 : Int32))), (.int (nar .char (105 : Int32))), (.int (nar .char (111 : Int32))), (.int (nar .char (110 : Int32))), (.int (nar .char (32 : Int32))), (.int (nar .char (48 : Int32))), (.int (nar .char (53 : Int32))), (.int (nar .char (32 : Int32))), (.int (nar .char (34 : Int32))), (.int (nar .char (100 : Int32))), (.int (nar .char (34 : Int32))), (.int (nar .char (32 : Int32))), (.int (nar .char (109 : Int32))), (.int (nar .char (97 : Int32))), (.int (nar .char (114 : Int32))), (.int (nar .char (107 : Int32))), (.int (nar .char (115 : Int32))), (.int (nar .char (32 : Int32))), (.int (nar .char (105 : Int32))), (.int (nar .char (116 : Int32))), (.int (nar .char (115 : Int32))), (.int (nar .char (32 : Int32))), (.int (nar .char (116 : Int32))), (.int (nar .char (105 : Int32))), (.int (nar .char (116 : Int32))), (.int (nar .char (108 : Int32))), (.int (nar .char (101 : Int32))), (.int (nar .char (32 : Int32))), (.int (nar .char p0)), (.int (nar .char p1)), (.int (nar .char (32 : Int32))), (.int (nar .char (100 : Int32))), (.int (nar .char (101 : Int32))), (.int (nar .char (108 : Int32))), (.int (nar .char (101 : Int32))), (.int (nar .char (116 : Int32))), (.int (nar .char (101 : Int32))), (.int (nar .char (100 : Int32)))] (.int (0 : Int32)) := V280
  have hp281 : ∀ c ∈ ([(nar .char (108 : Int32)), (nar .char (101 : Int32)), (nar .char (97 : Int32)), (nar .char (100 : Int32)), (nar .char (101 : Int32)), (nar .char (114 : Int32)), (nar .char (32 : Int32)), (nar .char (112 : Int32)), (nar .char (111 : Int32)), (nar .char (115 : Int32)), (nar .char (105 : Int32)), (nar .char (116 : Int32)), (nar .char (105 : Int32)), (nar .char (111 : Int32)), (nar .char (110 : Int32)), (nar .char (32 : Int32)), (nar .char (48 : Int32)), (nar .char (53 : Int32)), (nar .char (32 : Int32)), (nar .char (34 : Int32)), (nar .char (100 : Int32)), (nar .char (34 : Int32)), (nar .char (32 : Int32)), (nar .char (109 : Int32)), (nar .char (97 : Int32)), (nar .char (114 : Int32)), (nar .char (107 : Int32)), (nar .char (115 : Int32)), (nar .char (32 : Int32)), (nar .char (105 : Int32)), (nar .char (116 : Int32)), (nar .char (115 : Int32)), (nar .char (32 : Int32)), (nar .char (116 : Int32)), (nar .char (105 : Int32)), (nar .char (116 : Int32)), (nar .char (108 : Int32)), (nar .char (101 : Int32)), (nar .char (32 : Int32)), (nar .char p0), (nar .char p1), (nar .char (32 : Int32)), (nar .char (100 : Int32)), (nar .char (101 : Int32)), (nar .char (108 : Int32)), (nar .char (101 : Int32)), (nar .char (116 : Int32)), (nar .char (101 : Int32)), (nar .char (100 : Int32))] : List Int32), ¬ c < 0 ∧ ¬ (255 : Int32) < c := by
    intro c hc
    simp only [List.mem_cons, List.not_mem_nil, or_false] at hc
    rcases hc with rfl | rfl | rfl | rfl | rfl | rfl | rfl | rfl | rfl | rfl | rfl | rfl | rfl | rfl | rfl | rfl | rfl | rfl | rfl | rfl | rfl | rfl | rfl | rfl | rfl | rfl | rfl | rfl | rfl | rfl | rfl | rfl | rfl | rfl | rfl | rfl | rfl | rfl | rfl | rfl | rfl | rfl | rfl | rfl | rfl | rfl | rfl | rfl | rfl <;> first | decide | (rw [own_nr HA]; exact HA) | (rw [own_nr HB]; exact HB)
  refine own_strNew K280 hx (by rw [hml]; rfl) (own_w hw 13 rfl) (own_w hw 14 rfl) (own_w hw 15 rfl) (own_wn hw) (own_w hw 5 rfl) (List.mem_of_getElem? (i := 1) rfl) X230 F_value_b230 F_coder_b230 V280 O2 P5 (cs := [(nar .char (108 : Int32)), (nar .char (101 : Int32)), (nar .char (97 : Int32)), (nar .char (100 : Int32)), (nar .char (101 : Int32)), (nar .char (114 : Int32)), (nar .char (32 : Int32)), (nar .char (112 : Int32)), (nar .char (111 : Int32)), (nar .char (115 : Int32)), (nar .char (105 : Int32)), (nar .char (116 : Int32)), (nar .char (105 : Int32)), (nar .char (111 : Int32)), (nar .char (110 : Int32)), (nar .char (32 : Int32)), (nar .char (48 : Int32)), (nar .char (53 : Int32)), (nar .char (32 : Int32)), (nar .char (34 : Int32)), (nar .char (100 : Int32)), (nar .char (34 : Int32)), (nar .char (32 : Int32)), (nar .char (109 : Int32)), (nar .char (97 : Int32)), (nar .char (114 : Int32)), (nar .char (107 : Int32)), (nar .char (115 : Int32)), (nar .char (32 : Int32)), (nar .char (105 : Int32)), (nar .char (116 : Int32)), (nar .char (115 : Int32)), (nar .char (32 : Int32)), (nar .char (116 : Int32)), (nar .char (105 : Int32)), (nar .char (116 : Int32)), (nar .char (108 : Int32)), (nar .char (101 : Int32)), (nar .char (32 : Int32)), (nar .char p0), (nar .char p1), (nar .char (32 : Int32)), (nar .char (100 : Int32)), (nar .char (101 : Int32)), (nar .char (108 : Int32)), (nar .char (101 : Int32)), (nar .char (116 : Int32)), (nar .char (101 : Int32)), (nar .char (100 : Int32))]) (n := 49) rfl rfl (by decide) (by decide) hp281 (lenOf pd_37 rfl) 1 (Nat.le_of_eq rfl) (own_dk hby dm4 200 rfl) (pc' := 297) rfl (by decide) (by decide) (by decide) (by decide) ?_
  intro T281 h281 K281 Kp281 Z281
  have V280 := V280.keep Kp281 (ninS (Ne.symm ne_b230_b231) nin0)
  have A281 := own_here K281
  exact own_retR K281 hx hlk hret rfl rfl (own_dk hby dm4 201 rfl) (by decide) (by decide) ⟨_, rfl, by rw [own_nr HA, own_nr HB] at Z281; exact Z281⟩
theorem pd_38 : parseMethodDescriptor "(Ljava/lang/String;Ljava/lang/String;)V" = some ⟨[(.object "java/lang/String"), (.object "java/lang/String")], none⟩ := by decide +kernel
theorem pd_39 : parseMethodDescriptor "(ZC)Ljava/lang/String;" = some ⟨[.boolean, .char], some (.object "java/lang/String")⟩ := by decide +kernel
theorem pd_40 : parseMethodDescriptor "(ZLjava/lang/Object;)Ljava/util/ArrayList;" = some ⟨[.boolean, (.object "java/lang/Object")], some (.object "java/util/ArrayList")⟩ := by decide +kernel
theorem pd_41 : parseMethodDescriptor "(Ljava/lang/String;Ljava/util/List;)V" = some ⟨[(.object "java/lang/String"), (.object "java/util/List")], none⟩ := by decide +kernel
theorem pd_42 : parseMethodDescriptor "(Lcom/example/regalwerk/regalwerk/MarcRecord;Z)Ljava/lang/String;" = some ⟨[(.object "com/example/regalwerk/regalwerk/MarcRecord"), .boolean], some (.object "java/lang/String")⟩ := by decide +kernel
theorem pd_43 : parseMethodDescriptor "(Lcom/example/regalwerk/regalwerk/MarcRecord;Lcom/example/regalwerk/regalwerk/SruCollection;)V" = some ⟨[(.object "com/example/regalwerk/regalwerk/MarcRecord"), (.object "com/example/regalwerk/regalwerk/SruCollection")], none⟩ := by decide +kernel
theorem pd_44 : parseMethodDescriptor "(CC)Ljava/lang/String;" = some ⟨[.char, .char], some (.object "java/lang/String")⟩ := by decide +kernel
theorem ef_rm_law (m : MethodId) (q_0 : Int32) (q_1 : Int32) (q_2 : Int32) (q_3 : Int32)  : entryFrame m #[(.int q_0), (.int q_1), (.int q_2), (.int q_3)] maxLocals = mkF m 0 #[.val (.int q_0), .val (.int q_1), .val (.int q_2), .val (.int q_3), .unset, .unset, .unset, .unset, .unset, .unset, .unset, .unset, .unset, .unset, .unset, .unset, .unset, .unset, .unset, .unset, .unset] [] := by  first | (simp [entryFrame, mkF, argsToLocals, Value.category, maxLocals]; done) | rfl
set_option maxRecDepth 65536 in
set_option maxHeartbeats 40000000 in
theorem rm_law (l : Launch) (Z : State) (a0 : Array Value) (hw : ∀ d ∈ tables_1, d.before a0 Z = true) (more : List Jvm.Cond) (h0 : Heap) (i0 : Int32) (i1 : Int32) (i2 : Int32) (i3 : Int32)  (G1 : Int32) (O2 : Sta Z Z.heap "java/lang/String" "COMPACT_STRINGS" "Z" (.int G1)) (P5 : ¬ (G1 = (0 : Int32))) (G3 : Value) (O4 : Sta Z Z.heap "jdk/internal/util/Preconditions" "SIOOBE_FORMATTER" "Ljava/util/function/BiFunction;" G3) (rG3 : G3.isRef = true) (aD : Addr) (SDc : Sta Z Z.heap "java/util/ArrayList" "DEFAULTCAPACITY_EMPTY_ELEMENTDATA" "[Ljava/lang/Object;" (.ref aD)) (kD : ClassId) (AD : Arv Z Z.heap aD kD (.object "java/lang/Object") (0 : Int32) [] .null) (aM : Addr) (SM : Sta Z Z.heap "java/util/ImmutableCollections" "EMPTY" "Ljava/lang/Object;" (.ref aM)) (aL : Addr) (SL : Sta Z Z.heap "java/util/ImmutableCollections" "EMPTY_LIST" "Ljava/util/ImmutableCollections$ListN;" (.ref aL)) (XL : Exa Z Z.heap aL "java/util/ImmutableCollections$ListN") (aE : Addr) (FE : Fld Z Z.heap aL "java/util/ImmutableCollections$ListN" "elements" "[Ljava/lang/Object;" (.ref aE)) (kE : ClassId) (AE : Arv Z Z.heap aE kE (.object "java/lang/Object") (0 : Int32) [] .null) (mr : Addr) (MRo : own_Mir Z "[Ljava/lang/Object;" mr) :
    own_Met true false consts_1 l Z a0 x code maxLocals ret more room_1 #[(.int i0), (.int i1), (.int i2), (.int i3)] h0 [] (fun v h => v = some (.int 1)) := by
  refine own_enter (own := "com/example/regalwerk/regalwerk/HoldingsLinkerDeletionPinLaw") rfl (plainFor_of_name pn_5) ?_
  intro p e s m below meth c T hx hby hml hret hlk hnm K
  rw [ef_rm_law m i0 i1 i2 i3]
  have A := own_here K
  refine own_iloadN A hx (pc' := 1) (hb hby at_0) rfl rfl ?_
  refine own_iconst A hx (pc' := 2) (hb hby at_1) (z := (1 : Int32)) (by decide) rfl ?_
  refine own_iand A hx (pc' := 3) (hb hby at_2) (z := (i0 &&& (1 : Int32))) rfl rfl ?_
  have J19_282 : ∀ (T282 : State) (h282 : Heap) (h5 : Int32), own_S true false consts_1 p l e room_1 s m #[(.int i0), (.int i1), (.int i2), (.int i3)] below meth c Z a0 "com/example/regalwerk/regalwerk/HoldingsLinkerDeletionPinLaw" h0 [] T282 h282 [] 0 0 → (¬ h5 < 0 ∧ ¬ (255 : Int32) < h5) → own_Go p.tables e below (own_Post true consts_1 Z room_1 h0 [] (fun v h => v = some (.int 1)) s) T282 (mkF m 19 #[.val (.int i0), .val (.int i1), .val (.int i2), .val (.int i3), .unset, .unset, .unset, .unset, .unset, .unset, .unset, .unset, .unset, .unset, .unset, .unset, .unset, .unset, .unset, .unset, .unset] [(.int h5)]) := by
    intro T282 h282 h5 K282 H5
    have A282 := own_here K282
    refine own_istore A282 hx (pc' := 21) #[.val (.int i0), .val (.int i1), .val (.int i2), .val (.int i3), .val (.int h5), .unset, .unset, .unset, .unset, .unset, .unset, .unset, .unset, .unset, .unset, .unset, .unset, .unset, .unset, .unset, .unset] (hb hby at_19) rfl rfl ?_
    refine own_iloadN A282 hx (pc' := 22) (hb hby at_21) rfl rfl ?_
    refine own_bipush A282 hx (pc' := 24) (hb hby at_22) (z := (9 : Int32)) (by decide) rfl ?_
    refine own_iushr A282 hx (pc' := 25) (hb hby at_24) (z := ((i0.toUInt32 >>> ((9 : Int32) &&& 31).toUInt32).toInt32)) rfl rfl ?_
    refine own_iconst A282 hx (pc' := 26) (hb hby at_25) (z := (1 : Int32)) (by decide) rfl ?_
    refine own_iand A282 hx (pc' := 27) (hb hby at_26) (z := (((i0.toUInt32 >>> ((9 : Int32) &&& 31).toUInt32).toInt32) &&& (1 : Int32))) rfl rfl ?_
    have J35_283 : ∀ (T283 : State) (h283 : Heap) (hL : Int32), own_S true false consts_1 p l e room_1 s m #[(.int i0), (.int i1), (.int i2), (.int i3)] below meth c Z a0 "com/example/regalwerk/regalwerk/HoldingsLinkerDeletionPinLaw" h0 [] T283 h283 [] 0 0 → (hL = 0 ∨ hL = 1) → own_Go p.tables e below (own_Post true consts_1 Z room_1 h0 [] (fun v h => v = some (.int 1)) s) T283 (mkF m 35 #[.val (.int i0), .val (.int i1), .val (.int i2), .val (.int i3), .val (.int h5), .unset, .unset, .unset, .unset, .unset, .unset, .unset, .unset, .unset, .unset, .unset, .unset, .unset, .unset, .unset, .unset] [(.int hL)]) := by
      intro T283 h283 hL K283 hhL
      have A283 := own_here K283
      refine own_istore A283 hx (pc' := 37) #[.val (.int i0), .val (.int i1), .val (.int i2), .val (.int i3), .val (.int h5), .val (.int hL), .unset, .unset, .unset, .unset, .unset, .unset, .unset, .unset, .unset, .unset, .unset, .unset, .unset, .unset, .unset] (hb hby at_35) rfl rfl ?_
      refine own_iloadN A283 hx (pc' := 38) (hb hby at_37) rfl rfl ?_
      refine own_iconst A283 hx (pc' := 39) (hb hby at_38) (z := (1 : Int32)) (by decide) rfl ?_
      refine own_iand A283 hx (pc' := 40) (hb hby at_39) (z := (i1 &&& (1 : Int32))) rfl rfl ?_
      have J56_284 : ∀ (T284 : State) (h284 : Heap) (t5 : Int32), own_S true false consts_1 p l e room_1 s m #[(.int i0), (.int i1), (.int i2), (.int i3)] below meth c Z a0 "com/example/regalwerk/regalwerk/HoldingsLinkerDeletionPinLaw" h0 [] T284 h284 [] 0 0 → (¬ t5 < 0 ∧ ¬ (255 : Int32) < t5) → own_Go p.tables e below (own_Post true consts_1 Z room_1 h0 [] (fun v h => v = some (.int 1)) s) T284 (mkF m 56 #[.val (.int i0), .val (.int i1), .val (.int i2), .val (.int i3), .val (.int h5), .val (.int hL), .unset, .unset, .unset, .unset, .unset, .unset, .unset, .unset, .unset, .unset, .unset, .unset, .unset, .unset, .unset] [(.int t5)]) := by
        intro T284 h284 t5 K284 HT
        have A284 := own_here K284
        refine own_istore A284 hx (pc' := 58) #[.val (.int i0), .val (.int i1), .val (.int i2), .val (.int i3), .val (.int h5), .val (.int hL), .val (.int t5), .unset, .unset, .unset, .unset, .unset, .unset, .unset, .unset, .unset, .unset, .unset, .unset, .unset, .unset] (hb hby at_56) rfl rfl ?_
        refine own_iloadN A284 hx (pc' := 59) (hb hby at_58) rfl rfl ?_
        refine own_bipush A284 hx (pc' := 61) (hb hby at_59) (z := (9 : Int32)) (by decide) rfl ?_
        refine own_iushr A284 hx (pc' := 62) (hb hby at_61) (z := ((i1.toUInt32 >>> ((9 : Int32) &&& 31).toUInt32).toInt32)) rfl rfl ?_
        refine own_iconst A284 hx (pc' := 63) (hb hby at_62) (z := (1 : Int32)) (by decide) rfl ?_
        refine own_iand A284 hx (pc' := 64) (hb hby at_63) (z := (((i1.toUInt32 >>> ((9 : Int32) &&& 31).toUInt32).toInt32) &&& (1 : Int32))) rfl rfl ?_
        have J72_285 : ∀ (T285 : State) (h285 : Heap) (tL : Int32), own_S true false consts_1 p l e room_1 s m #[(.int i0), (.int i1), (.int i2), (.int i3)] below meth c Z a0 "com/example/regalwerk/regalwerk/HoldingsLinkerDeletionPinLaw" h0 [] T285 h285 [] 0 0 → (tL = 0 ∨ tL = 1) → own_Go p.tables e below (own_Post true consts_1 Z room_1 h0 [] (fun v h => v = some (.int 1)) s) T285 (mkF m 72 #[.val (.int i0), .val (.int i1), .val (.int i2), .val (.int i3), .val (.int h5), .val (.int hL), .val (.int t5), .unset, .unset, .unset, .unset, .unset, .unset, .unset, .unset, .unset, .unset, .unset, .unset, .unset, .unset] [(.int tL)]) := by
          intro T285 h285 tL K285 htL
          have A285 := own_here K285
          refine own_istore A285 hx (pc' := 74) #[.val (.int i0), .val (.int i1), .val (.int i2), .val (.int i3), .val (.int h5), .val (.int hL), .val (.int t5), .val (.int tL), .unset, .unset, .unset, .unset, .unset, .unset, .unset, .unset, .unset, .unset, .unset, .unset, .unset] (hb hby at_72) rfl rfl ?_
          refine own_iloadN A285 hx (pc' := 75) (hb hby at_74) rfl rfl ?_
          refine own_bipush A285 hx (pc' := 77) (hb hby at_75) (z := (10 : Int32)) (by decide) rfl ?_
          refine own_iushr A285 hx (pc' := 78) (hb hby at_77) (z := ((i1.toUInt32 >>> ((10 : Int32) &&& 31).toUInt32).toInt32)) rfl rfl ?_
          refine own_iconst A285 hx (pc' := 79) (hb hby at_78) (z := (1 : Int32)) (by decide) rfl ?_
          refine own_iand A285 hx (pc' := 80) (hb hby at_79) (z := (((i1.toUInt32 >>> ((10 : Int32) &&& 31).toUInt32).toInt32) &&& (1 : Int32))) rfl rfl ?_
          have J88_286 : ∀ (T286 : State) (h286 : Heap) (hs : Int32), own_S true false consts_1 p l e room_1 s m #[(.int i0), (.int i1), (.int i2), (.int i3)] below meth c Z a0 "com/example/regalwerk/regalwerk/HoldingsLinkerDeletionPinLaw" h0 [] T286 h286 [] 0 0 → (hs = 0 ∨ hs = 1) → own_Go p.tables e below (own_Post true consts_1 Z room_1 h0 [] (fun v h => v = some (.int 1)) s) T286 (mkF m 88 #[.val (.int i0), .val (.int i1), .val (.int i2), .val (.int i3), .val (.int h5), .val (.int hL), .val (.int t5), .val (.int tL), .unset, .unset, .unset, .unset, .unset, .unset, .unset, .unset, .unset, .unset, .unset, .unset, .unset] [(.int hs)]) := by
            intro T286 h286 hs K286 hhs
            have A286 := own_here K286
            refine own_istore A286 hx (pc' := 90) #[.val (.int i0), .val (.int i1), .val (.int i2), .val (.int i3), .val (.int h5), .val (.int hL), .val (.int t5), .val (.int tL), .val (.int hs), .unset, .unset, .unset, .unset, .unset, .unset, .unset, .unset, .unset, .unset, .unset, .unset] (hb hby at_88) rfl rfl ?_
            refine own_iloadN A286 hx (pc' := 91) (hb hby at_90) rfl rfl ?_
            refine own_bipush A286 hx (pc' := 93) (hb hby at_91) (z := (11 : Int32)) (by decide) rfl ?_
            refine own_iushr A286 hx (pc' := 94) (hb hby at_93) (z := ((i1.toUInt32 >>> ((11 : Int32) &&& 31).toUInt32).toInt32)) rfl rfl ?_
            refine own_iconst A286 hx (pc' := 95) (hb hby at_94) (z := (1 : Int32)) (by decide) rfl ?_
            refine own_iand A286 hx (pc' := 96) (hb hby at_95) (z := (((i1.toUInt32 >>> ((11 : Int32) &&& 31).toUInt32).toInt32) &&& (1 : Int32))) rfl rfl ?_
            have J104_287 : ∀ (T287 : State) (h287 : Heap) (bl : Int32), own_S true false consts_1 p l e room_1 s m #[(.int i0), (.int i1), (.int i2), (.int i3)] below meth c Z a0 "com/example/regalwerk/regalwerk/HoldingsLinkerDeletionPinLaw" h0 [] T287 h287 [] 0 0 → (bl = 0 ∨ bl = 1) → own_Go p.tables e below (own_Post true consts_1 Z room_1 h0 [] (fun v h => v = some (.int 1)) s) T287 (mkF m 104 #[.val (.int i0), .val (.int i1), .val (.int i2), .val (.int i3), .val (.int h5), .val (.int hL), .val (.int t5), .val (.int tL), .val (.int hs), .unset, .unset, .unset, .unset, .unset, .unset, .unset, .unset, .unset, .unset, .unset, .unset] [(.int bl)]) := by
              intro T287 h287 bl K287 hbl
              have A287 := own_here K287
              refine own_istore A287 hx (pc' := 106) #[.val (.int i0), .val (.int i1), .val (.int i2), .val (.int i3), .val (.int h5), .val (.int hL), .val (.int t5), .val (.int tL), .val (.int hs), .val (.int bl), .unset, .unset, .unset, .unset, .unset, .unset, .unset, .unset, .unset, .unset, .unset] (hb hby at_104) rfl rfl ?_
              refine own_iloadN A287 hx (pc' := 107) (hb hby at_106) rfl rfl ?_
              refine own_bipush A287 hx (pc' := 109) (hb hby at_107) (z := (12 : Int32)) (by decide) rfl ?_
              refine own_iushr A287 hx (pc' := 110) (hb hby at_109) (z := ((i1.toUInt32 >>> ((12 : Int32) &&& 31).toUInt32).toInt32)) rfl rfl ?_
              refine own_iconst A287 hx (pc' := 111) (hb hby at_110) (z := (1 : Int32)) (by decide) rfl ?_
              refine own_iand A287 hx (pc' := 112) (hb hby at_111) (z := (((i1.toUInt32 >>> ((12 : Int32) &&& 31).toUInt32).toInt32) &&& (1 : Int32))) rfl rfl ?_
              have J120_288 : ∀ (T288 : State) (h288 : Heap) (ti : Int32), own_S true false consts_1 p l e room_1 s m #[(.int i0), (.int i1), (.int i2), (.int i3)] below meth c Z a0 "com/example/regalwerk/regalwerk/HoldingsLinkerDeletionPinLaw" h0 [] T288 h288 [] 0 0 → (ti = 0 ∨ ti = 1) → own_Go p.tables e below (own_Post true consts_1 Z room_1 h0 [] (fun v h => v = some (.int 1)) s) T288 (mkF m 120 #[.val (.int i0), .val (.int i1), .val (.int i2), .val (.int i3), .val (.int h5), .val (.int hL), .val (.int t5), .val (.int tL), .val (.int hs), .val (.int bl), .unset, .unset, .unset, .unset, .unset, .unset, .unset, .unset, .unset, .unset, .unset] [(.int ti)]) := by
                intro T288 h288 ti K288 hti
                have A288 := own_here K288
                refine own_istore A288 hx (pc' := 122) #[.val (.int i0), .val (.int i1), .val (.int i2), .val (.int i3), .val (.int h5), .val (.int hL), .val (.int t5), .val (.int tL), .val (.int hs), .val (.int bl), .val (.int ti), .unset, .unset, .unset, .unset, .unset, .unset, .unset, .unset, .unset, .unset] (hb hby at_120) rfl rfl ?_
                refine own_iloadN A288 hx (pc' := 123) (hb hby at_122) rfl rfl ?_
                refine own_sipush A288 hx (pc' := 126) (hb hby at_123) (z := (255 : Int32)) (by decide) rfl ?_
                refine own_iand A288 hx (pc' := 127) (hb hby at_126) (z := (i2 &&& (255 : Int32))) rfl rfl ?_
                refine own_i2c A288 hx (pc' := 128) (hb hby at_127) (z := ((i2 &&& (255 : Int32)).toUInt32.toUInt16.toUInt32.toInt32)) rfl rfl ?_
                refine own_istore A288 hx (pc' := 130) #[.val (.int i0), .val (.int i1), .val (.int i2), .val (.int i3), .val (.int h5), .val (.int hL), .val (.int t5), .val (.int tL), .val (.int hs), .val (.int bl), .val (.int ti), .val (.int ((i2 &&& (255 : Int32)).toUInt32.toUInt16.toUInt32.toInt32)), .unset, .unset, .unset, .unset, .unset, .unset, .unset, .unset, .unset] (hb hby at_128) rfl rfl ?_
                refine own_iloadN A288 hx (pc' := 131) (hb hby at_130) rfl rfl ?_
                refine own_sipush A288 hx (pc' := 134) (hb hby at_131) (z := (255 : Int32)) (by decide) rfl ?_
                refine own_iand A288 hx (pc' := 135) (hb hby at_134) (z := (i3 &&& (255 : Int32))) rfl rfl ?_
                refine own_i2c A288 hx (pc' := 136) (hb hby at_135) (z := ((i3 &&& (255 : Int32)).toUInt32.toUInt16.toUInt32.toInt32)) rfl rfl ?_
                refine own_istore A288 hx (pc' := 138) #[.val (.int i0), .val (.int i1), .val (.int i2), .val (.int i3), .val (.int h5), .val (.int hL), .val (.int t5), .val (.int tL), .val (.int hs), .val (.int bl), .val (.int ti), .val (.int ((i2 &&& (255 : Int32)).toUInt32.toUInt16.toUInt32.toInt32)), .val (.int ((i3 &&& (255 : Int32)).toUInt32.toUInt16.toUInt32.toInt32)), .unset, .unset, .unset, .unset, .unset, .unset, .unset, .unset] (hb hby at_136) rfl rfl ?_
                obtain ⟨c0, hc0⟩ : ∃ z, z = ((i2 &&& (255 : Int32)).toUInt32.toUInt16.toUInt32.toInt32) := ⟨_, rfl⟩
                rw [← hc0]
                have HA := own_c255 i2
                rw [← hc0] at HA
                obtain ⟨c1, hc1⟩ : ∃ z, z = ((i3 &&& (255 : Int32)).toUInt32.toUInt16.toUInt32.toInt32) := ⟨_, rfl⟩
                rw [← hc1]
                have HB := own_c255 i3
                rw [← hc1] at HB
                refine own_new K288 hx (own_w hw 0 rfl) (own_w hw 1 rfl) (own_w hw 2 rfl) (hb hby at_138) (pc' := 141) rfl (by decide) (by decide) ?_
                intro T289 h289 b289 g289 K289 E289 X289 D289 U289
                have A289 := own_here K289
                have F_tag_b289 := D289 (Or.inr (own_w hw 46 rfl)) (ty := (.object "java/lang/String")) (by decide)
                have F_value_b289 := D289 (Or.inr (own_w hw 48 rfl)) (ty := (.object "java/lang/String")) (by decide)
                refine own_dup A289 hx (pc' := 142) (hb hby at_141) rfl rfl ?_
                refine own_ldcR (n := 12) (zn := (3 : Int32)) (vs := [(.int (48 : Int32)), (.int (48 : Int32)), (.int (49 : Int32))]) K289 hx (own_w hw 3 rfl) (own_sa hw) (by decide +kernel) ⟨by decide +kernel, by decide +kernel⟩ (by decide) (by decide) (hb hby at_142) (pc' := 144) rfl (by decide +kernel) (by decide) (by decide) (by decide) ?_
                intro b290 T290 h290 t290 kt290 K290 E290 X290 C290 V290 Y290 N290
                have X289 := X289.ext E290
                have F_tag_b289 := F_tag_b289.ext E290
                have F_value_b289 := F_value_b289.ext E290
                have A290 := own_here K290
                refine own_new K290 hx (own_w hw 11 rfl) (own_w hw 5 rfl) (own_w hw 4 rfl) (hb hby at_144) (pc' := 147) rfl (by decide) (by decide) ?_
                intro T291 h291 b291 g291 K291 E291 X291 D291 U291
                have ne_b289_b291 : b289 ≠ b291 := by rw [g291]; exact Nat.ne_of_lt X289.lt
                have ne_b290_b291 : b290 ≠ b291 := by rw [g291]; exact Nat.ne_of_lt X290.lt
                have ne_t290_b291 : t290 ≠ b291 := by rw [g291]; exact Nat.ne_of_lt Y290.lt
                have X289 := X289.ext E291
                have F_tag_b289 := F_tag_b289.ext E291
                have F_value_b289 := F_value_b289.ext E291
                have X290 := X290.ext E291
                have C290 := C290.ext E291
                have V290 := V290.ext E291
                have Y290 := Y290.ext E291
                have A291 := own_here K291
                have F_value_b291 := D291 (Or.inr (own_w hw 7 rfl)) (ty := (.array .byte)) (by decide)
                have F_coder_b291 := D291 (Or.inr (own_w hw 8 rfl)) (ty := .byte) (by decide)
                refine own_dup A291 hx (pc' := 148) (hb hby at_147) rfl rfl ?_
                refine own_iconst A291 hx (pc' := 149) (hb hby at_148) (z := (2 : Int32)) (by decide) rfl ?_
                refine own_newarr K291 hx (own_w hw 12 rfl) (hb hby at_149) (pc' := 151) rfl (by decide) 2 (by decide) (by decide) (by decide) (by decide) ?_
                intro T292 h292 b292 k292 g292 K292 E292 V292
                have ne_b289_b292 : b289 ≠ b292 := by rw [g292]; exact Nat.ne_of_lt X289.lt
                have ne_b290_b292 : b290 ≠ b292 := by rw [g292]; exact Nat.ne_of_lt X290.lt
                have ne_t290_b292 : t290 ≠ b292 := by rw [g292]; exact Nat.ne_of_lt Y290.lt
                have ne_b291_b292 : b291 ≠ b292 := by rw [g292]; exact Nat.ne_of_lt X291.lt
                have X289 := X289.ext E292
                have F_tag_b289 := F_tag_b289.ext E292
                have F_value_b289 := F_value_b289.ext E292
                have X290 := X290.ext E292
                have C290 := C290.ext E292
                have V290 := V290.ext E292
                have Y290 := Y290.ext E292
                have X291 := X291.ext E292
                have F_value_b291 := F_value_b291.ext E292
                have F_coder_b291 := F_coder_b291.ext E292
                have A292 := own_here K292
                have V292 : Arv Z h292 b292 k292 .char (2 : Int32) [(.int (0 : Int32)), (.int (0 : Int32))] (.int (0 : Int32)) := V292.pad (pad_rep [] (.int (0 : Int32)) 2)
                refine own_dup A292 hx (pc' := 152) (hb hby at_151) rfl rfl ?_
                refine own_iconst A292 hx (pc' := 153) (hb hby at_152) (z := (0 : Int32)) (by decide) rfl ?_
                refine own_iload A292 hx (pc' := 155) (hb hby at_153) rfl rfl ?_
                refine own_stC K292 hx V292 (List.mem_of_getElem? (i := 0) rfl) (by decide) 0 rfl (Nat.le_of_ble_eq_true rfl) (hb hby at_155) (pc' := 156) rfl ?_
                intro T293 h293 K293 W293 V293
                have X289 := X289.wr W293
                have F_tag_b289 := F_tag_b289.other W293 (Or.inl ne_b289_b292)
                have F_value_b289 := F_value_b289.other W293 (Or.inl ne_b289_b292)
                have X290 := X290.wr W293
                have C290 := C290.other W293 (Or.inl ne_b290_b292)
                have V290 := V290.other W293 (Or.inl ne_b290_b292)
                have Y290 := Y290.other W293 ne_t290_b292
                have X291 := X291.wr W293
                have F_value_b291 := F_value_b291.other W293 (Or.inl ne_b291_b292)
                have F_coder_b291 := F_coder_b291.other W293 (Or.inl ne_b291_b292)
                have A293 := own_here K293
                refine own_dup A293 hx (pc' := 157) (hb hby at_156) rfl rfl ?_
                refine own_iconst A293 hx (pc' := 158) (hb hby at_157) (z := (1 : Int32)) (by decide) rfl ?_
                refine own_iload A293 hx (pc' := 160) (hb hby at_158) rfl rfl ?_
                refine own_stC K293 hx V293 (List.mem_of_getElem? (i := 0) rfl) (by decide) 1 rfl (Nat.le_of_ble_eq_true rfl) (hb hby at_160) (pc' := 161) rfl ?_
                intro T294 h294 K294 W294 V294
                have X289 := X289.wr W294
                have F_tag_b289 := F_tag_b289.other W294 (Or.inl ne_b289_b292)
                have F_value_b289 := F_value_b289.other W294 (Or.inl ne_b289_b292)
                have X290 := X290.wr W294
                have C290 := C290.other W294 (Or.inl ne_b290_b292)
                have V290 := V290.other W294 (Or.inl ne_b290_b292)
                have Y290 := Y290.other W294 ne_t290_b292
                have X291 := X291.wr W294
                have F_value_b291 := F_value_b291.other W294 (Or.inl ne_b291_b292)
                have F_coder_b291 := F_coder_b291.other W294 (Or.inl ne_b291_b292)
                have A294 := own_here K294
                have V294 : Arv Z h294 b292 k292 .char (2 : Int32) [(.int (nar .char c0)), (.int (nar .char c1))] (.int (0 : Int32)) := V294
                have hp295 : ∀ c ∈ ([(nar .char c0), (nar .char c1)] : List Int32), ¬ c < 0 ∧ ¬ (255 : Int32) < c := by
                  intro c hc
                  simp only [List.mem_cons, List.not_mem_nil, or_false] at hc
                  rcases hc with rfl | rfl <;> first | (rw [own_nr HA]; exact HA) | (rw [own_nr HB]; exact HB)
                refine own_strNew K294 hx (by rw [hml]; rfl) (own_w hw 13 rfl) (own_w hw 14 rfl) (own_w hw 15 rfl) (own_wn hw) (own_w hw 5 rfl) (List.mem_of_getElem? (i := 1) rfl) X291 F_value_b291 F_coder_b291 V294 O2 P5 (cs := [(nar .char c0), (nar .char c1)]) (n := 2) rfl rfl (by decide) (by decide) hp295 (lenOf pd_37 rfl) 4 (Nat.le_of_eq rfl) (hb hby at_161) (pc' := 164) rfl (by decide) (by decide) (by decide) (by decide) ?_
                intro T295 h295 K295 Kp295 Z295
                have X289 := X289.keep Kp295
                have F_tag_b289 := F_tag_b289.keep Kp295 (ninS ne_b289_b291 nin0)
                have F_value_b289 := F_value_b289.keep Kp295 (ninS ne_b289_b291 nin0)
                have X290 := X290.keep Kp295
                have C290 := C290.keep Kp295 (ninS ne_b290_b291 nin0)
                have V290 := V290.keep Kp295 (ninS ne_b290_b291 nin0)
                have Y290 := Y290.keep Kp295 (ninS ne_t290_b291 nin0)
                have V294 := V294.keep Kp295 (ninS (Ne.symm ne_b291_b292) nin0)
                have A295 := own_here K295
                rw [own_nr HA, own_nr HB] at Z295
                have S290 := own_Str.of0 (cs := [48, 48, 49]) X290 V290 C290 Y290 rfl (by decide +kernel) (by decide +kernel) (by decide)
                refine own_callSp K295 hx (by rw [hml]; rfl) rfl (own_w hw 36 rfl) (own_w hw 37 rfl) (own_w hw 2 rfl) (own_w hw 38 rfl) (by decide) (rq_cf l Z a0 hw [] h295 b289 b290 b291 _ _ X289 F_tag_b289 F_value_b289) (own_mem1 (List.mem_of_getElem? (i := 2) rfl)) (argsL := [(.ref b290), (.ref b291)]) (rest := [(.ref b289)]) (lenOf pd_38 rfl) rfl 1 (Nat.le_of_eq rfl) (hb hby at_164) (pc' := 167) rfl (by decide) (by decide) (by decide) (by decide) ?_
                intro v296 T296 h296 K296 Kp296 Q296
                obtain ⟨rfl, Ft, Fv⟩ := Q296
                have off_Kp296 := own_off1 (own_Off.exa X289 (own_w hw 1 rfl) (by decide))
                have X289 := X289.keep Kp296
                have Z295 := Z295.keep Kp296 off_Kp296
                have S290 := S290.keep Kp296 off_Kp296
                have A296 := own_here K296
                show own_Go p.tables e below _ T296 (mkF m 167 #[.val (.int i0), .val (.int i1), .val (.int i2), .val (.int i3), .val (.int h5), .val (.int hL), .val (.int t5), .val (.int tL), .val (.int hs), .val (.int bl), .val (.int ti), .val (.int c0), .val (.int c1), .unset, .unset, .unset, .unset, .unset, .unset, .unset, .unset] [(.ref b289)])
                refine own_astore A296 hx (pc' := 169) #[.val (.int i0), .val (.int i1), .val (.int i2), .val (.int i3), .val (.int h5), .val (.int hL), .val (.int t5), .val (.int tL), .val (.int hs), .val (.int bl), .val (.int ti), .val (.int c0), .val (.int c1), .val (.ref b289), .unset, .unset, .unset, .unset, .unset, .unset, .unset] (hb hby at_167) rfl rfl rfl ?_
                refine own_new K296 hx (own_w hw 49 rfl) (own_w hw 50 rfl) (own_w hw 51 rfl) (hb hby at_169) (pc' := 172) rfl (by decide) (by decide) ?_
                intro T297 h297 b297 g297 K297 E297 X297 D297 U297
                have ne_b289_b297 : b289 ≠ b297 := by rw [g297]; exact Nat.ne_of_lt X289.lt
                have ne_b291_b297 : b291 ≠ b297 := by rw [g297]; exact Nat.ne_of_lt Z295.lt
                have ne_b290_b297 : b290 ≠ b297 := by rw [g297]; exact Nat.ne_of_lt S290.lt
                have X289 := X289.ext E297
                have Z295 := Z295.ext E297
                have S290 := S290.ext E297
                have Ft := Ft.ext E297
                have Fv := Fv.ext E297
                have A297 := own_here K297
                have F_leader_b297 := D297 (Or.inr (own_w hw 205 rfl)) (ty := (.object "java/lang/String")) (by decide)
                have F_fields_b297 := D297 (Or.inr (own_w hw 207 rfl)) (ty := (.object "java/util/List")) (by decide)
                refine own_dup A297 hx (pc' := 173) (hb hby at_172) rfl rfl ?_
                refine own_iload A297 hx (pc' := 175) (hb hby at_173) rfl rfl ?_
                refine own_iload A297 hx (pc' := 177) (hb hby at_175) rfl rfl ?_
                refine own_callS K297 hx (by rw [hml]; rfl) (own_w hw 52 rfl) (own_w hw 53 rfl) (own_w hw 54 rfl) (own_w hw 55 rfl) (by decide) (rq_lead l Z a0 hw [] h297 tL t5 G1 O2 P5 htL HT) (fun _ q => nomatch q) (argsL := [(.int tL), (.int t5)]) (rest := [(.ref b297), (.ref b297)]) (lenOf pd_39 rfl) rfl 2 (Nat.le_of_eq rfl) (hb hby at_177) (pc' := 180) rfl (by decide) (by decide) (by decide) (by decide) ?_
                intro v298 T298 h298 K298 Kp298 Q298
                obtain ⟨ld1, rfl, Sl1⟩ := Q298
                have X289 := X289.keep Kp298
                have Z295 := Z295.keep Kp298 own_off0
                have S290 := S290.keep Kp298 own_off0
                have Ft := Ft.keep Kp298 nin0
                have Fv := Fv.keep Kp298 nin0
                have X297 := X297.keep Kp298
                have F_leader_b297 := F_leader_b297.keep Kp298 nin0
                have F_fields_b297 := F_fields_b297.keep Kp298 nin0
                have A298 := own_here K298
                show own_Go p.tables e below _ T298 (mkF m 180 #[.val (.int i0), .val (.int i1), .val (.int i2), .val (.int i3), .val (.int h5), .val (.int hL), .val (.int t5), .val (.int tL), .val (.int hs), .val (.int bl), .val (.int ti), .val (.int c0), .val (.int c1), .val (.ref b289), .unset, .unset, .unset, .unset, .unset, .unset, .unset] [(.ref ld1), (.ref b297), (.ref b297)])
                refine own_iload A298 hx (pc' := 182) (hb hby at_180) rfl rfl ?_
                refine own_aload A298 hx (pc' := 184) (hb hby at_182) rfl rfl rfl ?_
                refine own_callS K298 hx (by rw [hml]; rfl) (own_w hw 56 rfl) (own_w hw 57 rfl) (own_w hw 54 rfl) (own_w hw 58 rfl) (by decide) (rq_fld l Z a0 hw [] h298 hs b289 aD SDc kD AD hhs X289) (fun _ q => nomatch q) (argsL := [(.int hs), (.ref b289)]) (rest := [(.ref ld1), (.ref b297), (.ref b297)]) (lenOf pd_40 rfl) rfl 3 (Nat.le_of_eq rfl) (hb hby at_184) (pc' := 187) rfl (by decide) (by decide) (by decide) (by decide) ?_
                intro v299 T299 h299 K299 Kp299 Q299
                obtain ⟨al1, rfl, B1⟩ := Q299
                have X289 := X289.keep Kp299
                have Z295 := Z295.keep Kp299 own_off0
                have S290 := S290.keep Kp299 own_off0
                have Ft := Ft.keep Kp299 nin0
                have Fv := Fv.keep Kp299 nin0
                have X297 := X297.keep Kp299
                have F_leader_b297 := F_leader_b297.keep Kp299 nin0
                have F_fields_b297 := F_fields_b297.keep Kp299 nin0
                have Sl1 := Sl1.keep Kp299 own_off0
                have A299 := own_here K299
                show own_Go p.tables e below _ T299 (mkF m 187 #[.val (.int i0), .val (.int i1), .val (.int i2), .val (.int i3), .val (.int h5), .val (.int hL), .val (.int t5), .val (.int tL), .val (.int hs), .val (.int bl), .val (.int ti), .val (.int c0), .val (.int c1), .val (.ref b289), .unset, .unset, .unset, .unset, .unset, .unset, .unset] [(.ref al1), (.ref ld1), (.ref b297), (.ref b297)])
                refine own_callSp K299 hx (by rw [hml]; rfl) rfl (own_w hw 114 rfl) (own_w hw 115 rfl) (own_w hw 51 rfl) (own_w hw 116 rfl) (by decide) (rq_mr l Z a0 hw [] h299 b297 ld1 al1 _ _ aM SM aL SL XL aE FE kE AE mr MRo hs b289 hhs B1 X289 X297 F_leader_b297 F_fields_b297) (own_mem1 (List.mem_of_getElem? (i := 0) rfl)) (argsL := [(.ref ld1), (.ref al1)]) (rest := [(.ref b297)]) (lenOf pd_41 rfl) rfl 1 (Nat.le_of_eq rfl) (hb hby at_187) (pc' := 190) rfl (by decide) (by decide) (by decide) (by decide) ?_
                intro v300 T300 h300 K300 Kp300 Q300
                obtain ⟨rfl, Fl1, L1, Fi1, Fq1⟩ := Q300
                have off_Kp300 := own_off1 (own_Off.exa X297 (own_w hw 50 rfl) (by decide))
                have X289 := X289.keep Kp300
                have Z295 := Z295.keep Kp300 off_Kp300
                have S290 := S290.keep Kp300 off_Kp300
                have Ft := Ft.keep Kp300 (ninS ne_b289_b297 nin0)
                have Fv := Fv.keep Kp300 (ninS ne_b289_b297 nin0)
                have X297 := X297.keep Kp300
                have Sl1 := Sl1.keep Kp300 off_Kp300
                have A300 := own_here K300
                show own_Go p.tables e below _ T300 (mkF m 190 #[.val (.int i0), .val (.int i1), .val (.int i2), .val (.int i3), .val (.int h5), .val (.int hL), .val (.int t5), .val (.int tL), .val (.int hs), .val (.int bl), .val (.int ti), .val (.int c0), .val (.int c1), .val (.ref b289), .unset, .unset, .unset, .unset, .unset, .unset, .unset] [(.ref b297)])
                refine own_astore A300 hx (pc' := 192) #[.val (.int i0), .val (.int i1), .val (.int i2), .val (.int i3), .val (.int h5), .val (.int hL), .val (.int t5), .val (.int tL), .val (.int hs), .val (.int bl), .val (.int ti), .val (.int c0), .val (.int c1), .val (.ref b289), .val (.ref b297), .unset, .unset, .unset, .unset, .unset, .unset] (hb hby at_190) rfl rfl rfl ?_
                refine own_new K300 hx (own_w hw 49 rfl) (own_w hw 50 rfl) (own_w hw 51 rfl) (hb hby at_192) (pc' := 195) rfl (by decide) (by decide) ?_
                intro T301 h301 b301 g301 K301 E301 X301 D301 U301
                have ne_b289_b301 : b289 ≠ b301 := by rw [g301]; exact Nat.ne_of_lt X289.lt
                have ne_b291_b301 : b291 ≠ b301 := by rw [g301]; exact Nat.ne_of_lt Z295.lt
                have ne_b290_b301 : b290 ≠ b301 := by rw [g301]; exact Nat.ne_of_lt S290.lt
                have ne_b297_b301 : b297 ≠ b301 := by rw [g301]; exact Nat.ne_of_lt X297.lt
                have ne_ld1_b301 : ld1 ≠ b301 := by rw [g301]; exact Nat.ne_of_lt Sl1.lt
                have X289 := X289.ext E301
                have Z295 := Z295.ext E301
                have S290 := S290.ext E301
                have Ft := Ft.ext E301
                have Fv := Fv.ext E301
                have X297 := X297.ext E301
                have Sl1 := Sl1.ext E301
                have Fl1 := Fl1.ext E301
                have Fi1 := Fi1.ext E301
                have Fq1 := Fq1.ext E301
                have A301 := own_here K301
                have F_leader_b301 := D301 (Or.inr (own_w hw 205 rfl)) (ty := (.object "java/lang/String")) (by decide)
                have F_fields_b301 := D301 (Or.inr (own_w hw 207 rfl)) (ty := (.object "java/util/List")) (by decide)
                refine own_dup A301 hx (pc' := 196) (hb hby at_195) rfl rfl ?_
                refine own_iload A301 hx (pc' := 198) (hb hby at_196) rfl rfl ?_
                refine own_iload A301 hx (pc' := 200) (hb hby at_198) rfl rfl ?_
                refine own_callS K301 hx (by rw [hml]; rfl) (own_w hw 52 rfl) (own_w hw 53 rfl) (own_w hw 54 rfl) (own_w hw 55 rfl) (by decide) (rq_lead l Z a0 hw [] h301 hL h5 G1 O2 P5 hhL H5) (fun _ q => nomatch q) (argsL := [(.int hL), (.int h5)]) (rest := [(.ref b301), (.ref b301)]) (lenOf pd_39 rfl) rfl 2 (Nat.le_of_eq rfl) (hb hby at_200) (pc' := 203) rfl (by decide) (by decide) (by decide) (by decide) ?_
                intro v302 T302 h302 K302 Kp302 Q302
                obtain ⟨ld2, rfl, Sl2⟩ := Q302
                have X289 := X289.keep Kp302
                have Z295 := Z295.keep Kp302 own_off0
                have S290 := S290.keep Kp302 own_off0
                have Ft := Ft.keep Kp302 nin0
                have Fv := Fv.keep Kp302 nin0
                have X297 := X297.keep Kp302
                have Sl1 := Sl1.keep Kp302 own_off0
                have Fl1 := Fl1.keep Kp302 nin0
                have Fi1 := Fi1.keep Kp302 nin0
                have Fq1 := Fq1.keep Kp302 own_not0
                have X301 := X301.keep Kp302
                have F_leader_b301 := F_leader_b301.keep Kp302 nin0
                have F_fields_b301 := F_fields_b301.keep Kp302 nin0
                have A302 := own_here K302
                show own_Go p.tables e below _ T302 (mkF m 203 #[.val (.int i0), .val (.int i1), .val (.int i2), .val (.int i3), .val (.int h5), .val (.int hL), .val (.int t5), .val (.int tL), .val (.int hs), .val (.int bl), .val (.int ti), .val (.int c0), .val (.int c1), .val (.ref b289), .val (.ref b297), .unset, .unset, .unset, .unset, .unset, .unset] [(.ref ld2), (.ref b301), (.ref b301)])
                refine own_iconst A302 hx (pc' := 204) (hb hby at_203) (z := (0 : Int32)) (by decide) rfl ?_
                refine own_aload A302 hx (pc' := 206) (hb hby at_204) rfl rfl rfl ?_
                refine own_callS K302 hx (by rw [hml]; rfl) (own_w hw 56 rfl) (own_w hw 57 rfl) (own_w hw 54 rfl) (own_w hw 58 rfl) (by decide) (rq_fld l Z a0 hw [] h302 (0 : Int32) b289 aD SDc kD AD (Or.inl rfl) X289) (fun _ q => nomatch q) (argsL := [(.int (0 : Int32)), (.ref b289)]) (rest := [(.ref ld2), (.ref b301), (.ref b301)]) (lenOf pd_40 rfl) rfl 3 (Nat.le_of_eq rfl) (hb hby at_206) (pc' := 209) rfl (by decide) (by decide) (by decide) (by decide) ?_
                intro v303 T303 h303 K303 Kp303 Q303
                obtain ⟨al2, rfl, B2⟩ := Q303
                have X289 := X289.keep Kp303
                have Z295 := Z295.keep Kp303 own_off0
                have S290 := S290.keep Kp303 own_off0
                have Ft := Ft.keep Kp303 nin0
                have Fv := Fv.keep Kp303 nin0
                have X297 := X297.keep Kp303
                have Sl1 := Sl1.keep Kp303 own_off0
                have Fl1 := Fl1.keep Kp303 nin0
                have Fi1 := Fi1.keep Kp303 nin0
                have Fq1 := Fq1.keep Kp303 own_not0
                have X301 := X301.keep Kp303
                have F_leader_b301 := F_leader_b301.keep Kp303 nin0
                have F_fields_b301 := F_fields_b301.keep Kp303 nin0
                have Sl2 := Sl2.keep Kp303 own_off0
                have A303 := own_here K303
                show own_Go p.tables e below _ T303 (mkF m 209 #[.val (.int i0), .val (.int i1), .val (.int i2), .val (.int i3), .val (.int h5), .val (.int hL), .val (.int t5), .val (.int tL), .val (.int hs), .val (.int bl), .val (.int ti), .val (.int c0), .val (.int c1), .val (.ref b289), .val (.ref b297), .unset, .unset, .unset, .unset, .unset, .unset] [(.ref al2), (.ref ld2), (.ref b301), (.ref b301)])
                refine own_callSp K303 hx (by rw [hml]; rfl) rfl (own_w hw 114 rfl) (own_w hw 115 rfl) (own_w hw 51 rfl) (own_w hw 116 rfl) (by decide) (rq_mr l Z a0 hw [] h303 b301 ld2 al2 _ _ aM SM aL SL XL aE FE kE AE mr MRo (0 : Int32) b289 (Or.inl rfl) B2 X289 X301 F_leader_b301 F_fields_b301) (own_mem1 (List.mem_of_getElem? (i := 0) rfl)) (argsL := [(.ref ld2), (.ref al2)]) (rest := [(.ref b301)]) (lenOf pd_41 rfl) rfl 1 (Nat.le_of_eq rfl) (hb hby at_209) (pc' := 212) rfl (by decide) (by decide) (by decide) (by decide) ?_
                intro v304 T304 h304 K304 Kp304 Q304
                obtain ⟨rfl, Fl2, L2, Fi2, Fq2⟩ := Q304
                have off_Kp304 := own_off1 (own_Off.exa X301 (own_w hw 50 rfl) (by decide))
                have fsn_Kp304 := own_not1 X301 (by decide)
                have X289 := X289.keep Kp304
                have Z295 := Z295.keep Kp304 off_Kp304
                have S290 := S290.keep Kp304 off_Kp304
                have Ft := Ft.keep Kp304 (ninS ne_b289_b301 nin0)
                have Fv := Fv.keep Kp304 (ninS ne_b289_b301 nin0)
                have X297 := X297.keep Kp304
                have Sl1 := Sl1.keep Kp304 off_Kp304
                have Fl1 := Fl1.keep Kp304 (ninS ne_b297_b301 nin0)
                have Fi1 := Fi1.keep Kp304 (ninS ne_b297_b301 nin0)
                have Fq1 := Fq1.keep Kp304 fsn_Kp304
                have X301 := X301.keep Kp304
                have Sl2 := Sl2.keep Kp304 off_Kp304
                have A304 := own_here K304
                show own_Go p.tables e below _ T304 (mkF m 212 #[.val (.int i0), .val (.int i1), .val (.int i2), .val (.int i3), .val (.int h5), .val (.int hL), .val (.int t5), .val (.int tL), .val (.int hs), .val (.int bl), .val (.int ti), .val (.int c0), .val (.int c1), .val (.ref b289), .val (.ref b297), .unset, .unset, .unset, .unset, .unset, .unset] [(.ref b301)])
                refine own_astore A304 hx (pc' := 214) #[.val (.int i0), .val (.int i1), .val (.int i2), .val (.int i3), .val (.int h5), .val (.int hL), .val (.int t5), .val (.int tL), .val (.int hs), .val (.int bl), .val (.int ti), .val (.int c0), .val (.int c1), .val (.ref b289), .val (.ref b297), .val (.ref b301), .unset, .unset, .unset, .unset, .unset] (hb hby at_212) rfl rfl rfl ?_
                refine own_new K304 hx (own_w hw 212 rfl) (own_w hw 213 rfl) (own_w hw 214 rfl) (hb hby at_214) (pc' := 217) rfl (by decide) (by decide) ?_
                intro T305 h305 b305 g305 K305 E305 X305 D305 U305
                have ne_b289_b305 : b289 ≠ b305 := by rw [g305]; exact Nat.ne_of_lt X289.lt
                have ne_b291_b305 : b291 ≠ b305 := by rw [g305]; exact Nat.ne_of_lt Z295.lt
                have ne_b290_b305 : b290 ≠ b305 := by rw [g305]; exact Nat.ne_of_lt S290.lt
                have ne_b297_b305 : b297 ≠ b305 := by rw [g305]; exact Nat.ne_of_lt X297.lt
                have ne_ld1_b305 : ld1 ≠ b305 := by rw [g305]; exact Nat.ne_of_lt Sl1.lt
                have ne_b301_b305 : b301 ≠ b305 := by rw [g305]; exact Nat.ne_of_lt X301.lt
                have ne_ld2_b305 : ld2 ≠ b305 := by rw [g305]; exact Nat.ne_of_lt Sl2.lt
                have X289 := X289.ext E305
                have Z295 := Z295.ext E305
                have S290 := S290.ext E305
                have Ft := Ft.ext E305
                have Fv := Fv.ext E305
                have X297 := X297.ext E305
                have Sl1 := Sl1.ext E305
                have Fl1 := Fl1.ext E305
                have Fi1 := Fi1.ext E305
                have Fq1 := Fq1.ext E305
                have X301 := X301.ext E305
                have Sl2 := Sl2.ext E305
                have Fl2 := Fl2.ext E305
                have A305 := own_here K305
                have F_titleId_b305 := D305 (Or.inl (own_w hw 306 rfl)) (ty := (.object "java/lang/String")) (by decide)
                have F_deletedTitle_b305 := D305 (Or.inl (own_w hw 352 rfl)) (ty := (.object "java/lang/String")) (by decide)
                have F_titleCollection_b305 := D305 (Or.inl (own_w hw 354 rfl)) (ty := (.object "com/example/regalwerk/regalwerk/SruCollection")) (by decide)
                have F_open_b305 := D305 (Or.inl (own_w hw 356 rfl)) (ty := .boolean) (by decide)
                refine own_dup A305 hx (pc' := 218) (hb hby at_217) rfl rfl ?_
                refine own_callSp K305 hx (by rw [hml]; rfl) rfl (own_w hw 215 rfl) (own_w hw 216 rfl) (own_w hw 214 rfl) (own_w hw 217 rfl) (by decide) (rq_hli l Z a0 hw [] h305 b305) (fun _ q => nomatch q) (argsL := []) (rest := [(.ref b305)]) (lenOf pd_0 rfl) rfl 1 (Nat.le_of_eq rfl) (hb hby at_218) (pc' := 221) rfl (by decide) (by decide) (by decide) (by decide) ?_
                intro v306 T306 h306 K306 Kp306 Q306
                obtain ⟨rfl, rfl⟩ := Q306
                have X289 := X289.keep Kp306
                have Z295 := Z295.keep Kp306 own_off0
                have S290 := S290.keep Kp306 own_off0
                have Ft := Ft.keep Kp306 nin0
                have Fv := Fv.keep Kp306 nin0
                have X297 := X297.keep Kp306
                have Sl1 := Sl1.keep Kp306 own_off0
                have Fl1 := Fl1.keep Kp306 nin0
                have Fi1 := Fi1.keep Kp306 nin0
                have Fq1 := Fq1.keep Kp306 own_not0
                have X301 := X301.keep Kp306
                have Sl2 := Sl2.keep Kp306 own_off0
                have Fl2 := Fl2.keep Kp306 nin0
                have X305 := X305.keep Kp306
                have F_titleId_b305 := F_titleId_b305.keep Kp306 nin0
                have F_deletedTitle_b305 := F_deletedTitle_b305.keep Kp306 nin0
                have F_titleCollection_b305 := F_titleCollection_b305.keep Kp306 nin0
                have F_open_b305 := F_open_b305.keep Kp306 nin0
                have A306 := own_here K306
                show own_Go p.tables e below _ T306 (mkF m 221 #[.val (.int i0), .val (.int i1), .val (.int i2), .val (.int i3), .val (.int h5), .val (.int hL), .val (.int t5), .val (.int tL), .val (.int hs), .val (.int bl), .val (.int ti), .val (.int c0), .val (.int c1), .val (.ref b289), .val (.ref b297), .val (.ref b301), .unset, .unset, .unset, .unset, .unset] [(.ref b305)])
                refine own_astore A306 hx (pc' := 223) #[.val (.int i0), .val (.int i1), .val (.int i2), .val (.int i3), .val (.int h5), .val (.int hL), .val (.int t5), .val (.int tL), .val (.int hs), .val (.int bl), .val (.int ti), .val (.int c0), .val (.int c1), .val (.ref b289), .val (.ref b297), .val (.ref b301), .val (.ref b305), .unset, .unset, .unset, .unset] (hb hby at_221) rfl rfl rfl ?_
                refine own_iload A306 hx (pc' := 225) (hb hby at_223) rfl rfl ?_
                rcases hti with rfl | rfl
                · refine own_if_eq A306 hx 236 228 (hb hby at_225) (by decide) (by decide) rfl (fun hc225 => ?_) (fun hc225 => ?_)
                  rotate_left
                  · exact absurd hc225 (by decide)
                  refine own_aload A306 hx (pc' := 238) (hb hby at_236) rfl rfl rfl ?_
                  refine own_aload A306 hx (pc' := 240) (hb hby at_238) rfl rfl rfl ?_
                  refine own_iload A306 hx (pc' := 242) (hb hby at_240) rfl rfl ?_
                  refine own_callV K306 hx (by rw [hml]; rfl) (own_w hw 357 rfl) (own_w hw 358 rfl) (fun U hU => notFace_of_selects (args := #[]) (mvT hU (own_w hw 360 rfl))) (own_w hw 360 rfl) (own_w hw 359 rfl) (own_w hw 214 rfl) (own_w hw 361 rfl) (by decide) X305 (rq_dA l Z a0 hw [] h306 b305 b301 bl hL h5 ld2 G1 O2 P5 G3 O4 rG3 hbl hhL H5 X301 Fl2 Sl2 F_deletedTitle_b305) (fun _ q => nomatch q) (argsL := [(.ref b301), (.int bl)]) (rest := []) (lenOf pd_42 rfl) rfl 0 (Nat.le_of_eq rfl) (hb hby at_242) (pc' := 245) rfl (by decide) (by decide) (by decide) (by decide) ?_
                  intro v307 T307 h307 K307 Kp307 Q307
                  obtain ⟨r, rfl, DD⟩ := Q307
                  have A307 := own_here K307
                  have hr_r := DD.ref
                  show own_Go p.tables e below _ T307 (mkF m 245 #[.val (.int i0), .val (.int i1), .val (.int i2), .val (.int i3), .val (.int h5), .val (.int hL), .val (.int t5), .val (.int tL), .val (.int hs), .val (.int bl), .val (.int (0 : Int32)), .val (.int c0), .val (.int c1), .val (.ref b289), .val (.ref b297), .val (.ref b301), .val (.ref b305), .unset, .unset, .unset, .unset] [r])
                  refine own_astore A307 hx (pc' := 247) #[.val (.int i0), .val (.int i1), .val (.int i2), .val (.int i3), .val (.int h5), .val (.int hL), .val (.int t5), .val (.int tL), .val (.int hs), .val (.int bl), .val (.int (0 : Int32)), .val (.int c0), .val (.int c1), .val (.ref b289), .val (.ref b297), .val (.ref b301), .val (.ref b305), .val r, .unset, .unset, .unset] (hb hby at_245) hr_r (by rcases ref_cases hr_r with rfl | ⟨_, rfl⟩ <;> rfl) rfl ?_
                  refine own_iload A307 hx (pc' := 249) (hb hby at_247) rfl rfl ?_
                  have J264_308 : ∀ (T308 : State) (h308 : Heap) (x18 : Int32), own_S true false consts_1 p l e room_1 s m #[(.int i0), (.int i1), (.int i2), (.int i3)] below meth c Z a0 "com/example/regalwerk/regalwerk/HoldingsLinkerDeletionPinLaw" h0 [] T308 h308 [b305, b301, b297, b292, b291, b289] 25 258 → own_DA Z h308 r (own_del hL h5) → x18 = own_del hL h5 → own_Go p.tables e below (own_Post true consts_1 Z room_1 h0 [] (fun v h => v = some (.int 1)) s) T308 (mkF m 264 #[.val (.int i0), .val (.int i1), .val (.int i2), .val (.int i3), .val (.int h5), .val (.int hL), .val (.int t5), .val (.int tL), .val (.int hs), .val (.int bl), .val (.int (0 : Int32)), .val (.int c0), .val (.int c1), .val (.ref b289), .val (.ref b297), .val (.ref b301), .val (.ref b305), .val r, .unset, .unset, .unset] [(.int x18)]) := by
                    intro T308 h308 x18 K308 DD e18
                    have A308 := own_here K308
                    refine own_istore A308 hx (pc' := 266) #[.val (.int i0), .val (.int i1), .val (.int i2), .val (.int i3), .val (.int h5), .val (.int hL), .val (.int t5), .val (.int tL), .val (.int hs), .val (.int bl), .val (.int (0 : Int32)), .val (.int c0), .val (.int c1), .val (.ref b289), .val (.ref b297), .val (.ref b301), .val (.ref b305), .val r, .val (.int x18), .unset, .unset] (hb hby at_264) rfl rfl ?_
                    refine own_iload A308 hx (pc' := 268) (hb hby at_266) rfl rfl ?_
                    refine own_if_eq A308 hx 287 271 (hb hby at_268) (by decide) (by decide) rfl (fun hc268 => ?_) (fun hc268 => ?_)
                    rotate_left
                    · exact absurd hc268 (by decide)
                    refine own_iconst A308 hx (pc' := 288) (hb hby at_287) (z := (0 : Int32)) (by decide) rfl ?_
                    refine own_istore A308 hx (pc' := 290) #[.val (.int i0), .val (.int i1), .val (.int i2), .val (.int i3), .val (.int h5), .val (.int hL), .val (.int t5), .val (.int tL), .val (.int hs), .val (.int bl), .val (.int (0 : Int32)), .val (.int c0), .val (.int c1), .val (.ref b289), .val (.ref b297), .val (.ref b301), .val (.ref b305), .val r, .val (.int x18), .val (.int (0 : Int32)), .unset] (hb hby at_288) rfl rfl ?_
                    rcases DD with ⟨dl, ra, rfl, Sr⟩ | ⟨dl, rfl⟩
                    · obtain rfl : x18 = 1 := e18.trans dl
                      show own_Go p.tables e below _ T308 (mkF m 290 #[.val (.int i0), .val (.int i1), .val (.int i2), .val (.int i3), .val (.int h5), .val (.int hL), .val (.int t5), .val (.int tL), .val (.int hs), .val (.int bl), .val (.int (0 : Int32)), .val (.int c0), .val (.int c1), .val (.ref b289), .val (.ref b297), .val (.ref b301), .val (.ref b305), .val (.ref ra), .val (.int (1 : Int32)), .val (.int (0 : Int32)), .unset] [])
                      refine own_iload A308 hx (pc' := 292) (hb hby at_290) rfl rfl ?_
                      refine own_if_eq A308 hx 302 295 (hb hby at_292) (by decide) (by decide) rfl (fun hc292 => ?_) (fun hc292 => ?_)
                      · exact absurd hc292 (by decide)
                      refine own_ldcR (n := 156) (zn := (39 : Int32)) (vs := [(.int (108 : Int32)), (.int (101 : Int32)), (.int (97 : Int32)), (.int (100 : Int32)), (.int (101 : Int32)), (.int (114 : Int32)), (.int (32 : Int32)), (.int (112 : Int32)), (.int (111 : Int32)), (.int (115 : Int32)), (.int (105 : Int32)), (.int (116 : Int32)), (.int (105 : Int32)), (.int (111 : Int32)), (.int (110 : Int32)), (.int (32 : Int32)), (.int (48 : Int32)), (.int (53 : Int32)), (.int (32 : Int32)), (.int (34 : Int32)), (.int (100 : Int32)), (.int (34 : Int32)), (.int (32 : Int32)), (.int (109 : Int32)), (.int (97 : Int32)), (.int (114 : Int32)), (.int (107 : Int32)), (.int (115 : Int32)), (.int (32 : Int32)), (.int (105 : Int32)), (.int (116 : Int32)), (.int (32 : Int32)), (.int (100 : Int32)), (.int (101 : Int32)), (.int (108 : Int32)), (.int (101 : Int32)), (.int (116 : Int32)), (.int (101 : Int32)), (.int (100 : Int32))]) K308 hx (own_w hw 363 rfl) (own_sa hw) (by decide +kernel) ⟨by decide +kernel, by decide +kernel⟩ (by decide) (by decide) (hb hby at_295) (pc' := 297) rfl (by decide +kernel) (by decide) (by decide) (by decide) ?_
                      intro b309 T309 h309 t309 kt309 K309 E309 X309 C309 V309 Y309 N309
                      have Sr := Sr.ext E309
                      have A309 := own_here K309
                      have S309 := own_Str.of0 (cs := [(108 : Int32), (101 : Int32), (97 : Int32), (100 : Int32), (101 : Int32), (114 : Int32), (32 : Int32), (112 : Int32), (111 : Int32), (115 : Int32), (105 : Int32), (116 : Int32), (105 : Int32), (111 : Int32), (110 : Int32), (32 : Int32), (48 : Int32), (53 : Int32), (32 : Int32), (34 : Int32), (100 : Int32), (34 : Int32), (32 : Int32), (109 : Int32), (97 : Int32), (114 : Int32), (107 : Int32), (115 : Int32), (32 : Int32), (105 : Int32), (116 : Int32), (32 : Int32), (100 : Int32), (101 : Int32), (108 : Int32), (101 : Int32), (116 : Int32), (101 : Int32), (100 : Int32)]) X309 V309 C309 Y309 rfl (by decide +kernel) (by decide +kernel) (by decide)
                      refine own_astore A309 hx (pc' := 299) #[.val (.int i0), .val (.int i1), .val (.int i2), .val (.int i3), .val (.int h5), .val (.int hL), .val (.int t5), .val (.int tL), .val (.int hs), .val (.int bl), .val (.int (0 : Int32)), .val (.int c0), .val (.int c1), .val (.ref b289), .val (.ref b297), .val (.ref b301), .val (.ref b305), .val (.ref ra), .val (.int (1 : Int32)), .val (.int (0 : Int32)), .val (.ref b309)] (hb hby at_297) rfl rfl rfl ?_
                      refine own_goto A309 hx 339 (hb hby at_299) (by decide) (by decide) ?_
                      refine own_aload A309 hx (pc' := 341) (hb hby at_339) rfl rfl rfl ?_
                      refine own_ifnonnull_t A309 hx 357 (hb hby at_341) (by decide) (by decide) ?_
                      refine own_aload A309 hx (pc' := 359) (hb hby at_357) rfl rfl rfl ?_
                      refine own_aload A309 hx (pc' := 361) (hb hby at_359) rfl rfl rfl ?_
                      refine own_strEq K309 hx (by rw [hml]; rfl) (own_w hw 364 rfl) (own_w hw 296 rfl) (own_w hw 298 rfl) (own_w hw 297 rfl) (own_we hw) (own_w hw 5 rfl) S309 Sr O2 P5 (lenOf pd_5 rfl) 0 (Nat.le_of_eq rfl) (hb hby at_361) (pc' := 364) rfl (by decide) (by decide) (by decide) (by decide) ?_
                      intro T310 K310
                      have A310 := own_here K310
                      exact own_retN K310 hx hlk hret (by simp) (hb hby at_364) (by decide) (by decide) (by show some (Value.int (nar .boolean _)) = _; rw [if_pos (by first | rfl | decide)]; rfl)
                    · obtain rfl : x18 = 0 := e18.trans dl
                      show own_Go p.tables e below _ T308 (mkF m 290 #[.val (.int i0), .val (.int i1), .val (.int i2), .val (.int i3), .val (.int h5), .val (.int hL), .val (.int t5), .val (.int tL), .val (.int hs), .val (.int bl), .val (.int (0 : Int32)), .val (.int c0), .val (.int c1), .val (.ref b289), .val (.ref b297), .val (.ref b301), .val (.ref b305), .val .null, .val (.int (0 : Int32)), .val (.int (0 : Int32)), .unset] [])
                      refine own_iload A308 hx (pc' := 292) (hb hby at_290) rfl rfl ?_
                      refine own_if_eq A308 hx 302 295 (hb hby at_292) (by decide) (by decide) rfl (fun hc292 => ?_) (fun hc292 => ?_)
                      rotate_left
                      · exact absurd hc292 (by decide)
                      refine own_iload A308 hx (pc' := 304) (hb hby at_302) rfl rfl ?_
                      refine own_if_eq A308 hx 336 307 (hb hby at_304) (by decide) (by decide) rfl (fun hc304 => ?_) (fun hc304 => ?_)
                      · refine own_null A308 hx (pc' := 337) (hb hby at_336) rfl ?_
                        refine own_astore A308 hx (pc' := 339) #[.val (.int i0), .val (.int i1), .val (.int i2), .val (.int i3), .val (.int h5), .val (.int hL), .val (.int t5), .val (.int tL), .val (.int hs), .val (.int bl), .val (.int (0 : Int32)), .val (.int c0), .val (.int c1), .val (.ref b289), .val (.ref b297), .val (.ref b301), .val (.ref b305), .val .null, .val (.int (0 : Int32)), .val (.int (0 : Int32)), .val .null] (hb hby at_337) rfl rfl rfl ?_
                        refine own_aload A308 hx (pc' := 341) (hb hby at_339) rfl rfl rfl ?_
                        refine own_ifnonnull_f A308 hx 344 (hb hby at_341) rfl ?_
                        refine own_aload A308 hx (pc' := 346) (hb hby at_344) rfl rfl rfl ?_
                        refine own_ifnonnull_f A308 hx 349 (hb hby at_346) rfl ?_
                        refine own_iconst A308 hx (pc' := 350) (hb hby at_349) (z := (1 : Int32)) (by decide) rfl ?_
                        refine own_goto A308 hx 364 (hb hby at_350) (by decide) (by decide) ?_
                        exact own_retN K308 hx hlk hret (by simp) (hb hby at_364) (by decide) (by decide) rfl
                      · refine own_iload A308 hx (pc' := 309) (hb hby at_307) rfl rfl ?_
                        refine own_if_eq A308 hx 336 312 (hb hby at_309) (by decide) (by decide) rfl (fun hc309 => ?_) (fun hc309 => ?_)
                        rotate_left
                        · exact absurd hc309 (by decide)
                        refine own_null A308 hx (pc' := 337) (hb hby at_336) rfl ?_
                        refine own_astore A308 hx (pc' := 339) #[.val (.int i0), .val (.int i1), .val (.int i2), .val (.int i3), .val (.int h5), .val (.int hL), .val (.int t5), .val (.int tL), .val (.int hs), .val (.int bl), .val (.int (0 : Int32)), .val (.int c0), .val (.int c1), .val (.ref b289), .val (.ref b297), .val (.ref b301), .val (.ref b305), .val .null, .val (.int (0 : Int32)), .val (.int (0 : Int32)), .val .null] (hb hby at_337) rfl rfl rfl ?_
                        refine own_aload A308 hx (pc' := 341) (hb hby at_339) rfl rfl rfl ?_
                        refine own_ifnonnull_f A308 hx 344 (hb hby at_341) rfl ?_
                        refine own_aload A308 hx (pc' := 346) (hb hby at_344) rfl rfl rfl ?_
                        refine own_ifnonnull_f A308 hx 349 (hb hby at_346) rfl ?_
                        refine own_iconst A308 hx (pc' := 350) (hb hby at_349) (z := (1 : Int32)) (by decide) rfl ?_
                        refine own_goto A308 hx 364 (hb hby at_350) (by decide) (by decide) ?_
                        exact own_retN K308 hx hlk hret (by simp) (hb hby at_364) (by decide) (by decide) rfl
                  refine own_if_eq A307 hx 263 252 (hb hby at_249) (by decide) (by decide) rfl (fun hc249 => ?_) (fun hc249 => ?_)
                  · refine own_iconst A307 hx (pc' := 264) (hb hby at_263) (z := (0 : Int32)) (by decide) rfl ?_
                    exact J264_308 T307 h307 (0 : Int32) (own_more K307 (by decide) (by decide)) DD (by rw [own_del, if_pos hc249])
                  · refine own_iload A307 hx (pc' := 254) (hb hby at_252) rfl rfl ?_
                    refine own_bipush A307 hx (pc' := 256) (hb hby at_254) (z := (100 : Int32)) (by decide) rfl ?_
                    refine own_icmp_ne A307 hx 263 259 (hb hby at_256) (by decide) (by decide) rfl (fun hc256 => ?_) (fun hc256 => ?_)
                    · refine own_iconst A307 hx (pc' := 264) (hb hby at_263) (z := (0 : Int32)) (by decide) rfl ?_
                      exact J264_308 T307 h307 (0 : Int32) (own_more K307 (by decide) (by decide)) DD (by rw [own_del, if_neg hc249, if_neg hc256])
                    · refine own_iconst A307 hx (pc' := 260) (hb hby at_259) (z := (1 : Int32)) (by decide) rfl ?_
                      refine own_goto A307 hx 264 (hb hby at_260) (by decide) (by decide) ?_
                      exact J264_308 T307 h307 (1 : Int32) (own_more K307 (by decide) (by decide)) DD (by rw [own_del, if_neg hc249, if_pos hc256])
                · refine own_if_eq A306 hx 236 228 (hb hby at_225) (by decide) (by decide) rfl (fun hc225 => ?_) (fun hc225 => ?_)
                  · exact absurd hc225 (by decide)
                  refine own_aload A306 hx (pc' := 230) (hb hby at_228) rfl rfl rfl ?_
                  refine own_aload A306 hx (pc' := 232) (hb hby at_230) rfl rfl rfl ?_
                  refine own_null A306 hx (pc' := 233) (hb hby at_232) rfl ?_
                  refine own_callV K306 hx (by rw [hml]; rfl) (own_w hw 219 rfl) (own_w hw 220 rfl) (fun U hU => notFace_of_selects (args := #[]) (mvT hU (own_w hw 222 rfl))) (own_w hw 222 rfl) (own_w hw 221 rfl) (own_w hw 214 rfl) (own_w hw 223 rfl) (by decide) X305 (rq_tit l Z a0 hw [] h306 b305 b297 L1 b289 b290 b291 hs c0 c1 tL t5 ld1 _ _ _ _ G1 O2 P5 G3 O4 rG3 aM SM aL SL XL aE FE kE AE hhs htL HT X305 X297 F_titleId_b305 F_deletedTitle_b305 F_titleCollection_b305 F_open_b305 Fi1 Fq1 X289 Ft Fv S290 Z295 Fl1 Sl1) (own_mem1 (List.mem_of_getElem? (i := 0) rfl)) (argsL := [(.ref b297), .null]) (rest := []) (lenOf pd_43 rfl) rfl 0 (Nat.le_of_eq rfl) (hb hby at_233) (pc' := 236) rfl (by decide) (by decide) (by decide) (by decide) ?_
                  intro v311 T311 h311 K311 Kp311 Q311
                  obtain ⟨rfl, du, Gd, DT⟩ := Q311
                  have off_Kp311 := own_off1 (own_Off.exa X305 (own_w hw 213 rfl) (by decide))
                  have fsn_Kp311 := own_not1 X305 (by decide)
                  have X289 := X289.keep Kp311
                  have Z295 := Z295.keep Kp311 off_Kp311
                  have S290 := S290.keep Kp311 off_Kp311
                  have Ft := Ft.keep Kp311 (ninS ne_b289_b305 nin0)
                  have Fv := Fv.keep Kp311 (ninS ne_b289_b305 nin0)
                  have X297 := X297.keep Kp311
                  have Sl1 := Sl1.keep Kp311 off_Kp311
                  have Fl1 := Fl1.keep Kp311 (ninS ne_b297_b305 nin0)
                  have Fi1 := Fi1.keep Kp311 (ninS ne_b297_b305 nin0)
                  have Fq1 := Fq1.keep Kp311 fsn_Kp311
                  have X301 := X301.keep Kp311
                  have Sl2 := Sl2.keep Kp311 off_Kp311
                  have Fl2 := Fl2.keep Kp311 (ninS ne_b301_b305 nin0)
                  have X305 := X305.keep Kp311
                  have A311 := own_here K311
                  show own_Go p.tables e below _ T311 (mkF m 236 #[.val (.int i0), .val (.int i1), .val (.int i2), .val (.int i3), .val (.int h5), .val (.int hL), .val (.int t5), .val (.int tL), .val (.int hs), .val (.int bl), .val (.int (1 : Int32)), .val (.int c0), .val (.int c1), .val (.ref b289), .val (.ref b297), .val (.ref b301), .val (.ref b305), .unset, .unset, .unset, .unset] [])
                  rcases DT with ⟨td, rfl⟩ | ⟨td, dd, rfl, Sd⟩
                  · refine own_aload A311 hx (pc' := 238) (hb hby at_236) rfl rfl rfl ?_
                    refine own_aload A311 hx (pc' := 240) (hb hby at_238) rfl rfl rfl ?_
                    refine own_iload A311 hx (pc' := 242) (hb hby at_240) rfl rfl ?_
                    refine own_callV K311 hx (by rw [hml]; rfl) (own_w hw 357 rfl) (own_w hw 358 rfl) (fun U hU => notFace_of_selects (args := #[]) (mvT hU (own_w hw 360 rfl))) (own_w hw 360 rfl) (own_w hw 359 rfl) (own_w hw 214 rfl) (own_w hw 361 rfl) (by decide) X305 (rq_dA l Z a0 hw [] h311 b305 b301 bl hL h5 ld2 G1 O2 P5 G3 O4 rG3 hbl hhL H5 X301 Fl2 Sl2 Gd) (fun _ q => nomatch q) (argsL := [(.ref b301), (.int bl)]) (rest := []) (lenOf pd_42 rfl) rfl 0 (Nat.le_of_eq rfl) (hb hby at_242) (pc' := 245) rfl (by decide) (by decide) (by decide) (by decide) ?_
                    intro v312 T312 h312 K312 Kp312 Q312
                    obtain ⟨r, rfl, DD⟩ := Q312
                    have A312 := own_here K312
                    have hr_r := DD.ref
                    show own_Go p.tables e below _ T312 (mkF m 245 #[.val (.int i0), .val (.int i1), .val (.int i2), .val (.int i3), .val (.int h5), .val (.int hL), .val (.int t5), .val (.int tL), .val (.int hs), .val (.int bl), .val (.int (1 : Int32)), .val (.int c0), .val (.int c1), .val (.ref b289), .val (.ref b297), .val (.ref b301), .val (.ref b305), .unset, .unset, .unset, .unset] [r])
                    refine own_astore A312 hx (pc' := 247) #[.val (.int i0), .val (.int i1), .val (.int i2), .val (.int i3), .val (.int h5), .val (.int hL), .val (.int t5), .val (.int tL), .val (.int hs), .val (.int bl), .val (.int (1 : Int32)), .val (.int c0), .val (.int c1), .val (.ref b289), .val (.ref b297), .val (.ref b301), .val (.ref b305), .val r, .unset, .unset, .unset] (hb hby at_245) hr_r (by rcases ref_cases hr_r with rfl | ⟨_, rfl⟩ <;> rfl) rfl ?_
                    refine own_iload A312 hx (pc' := 249) (hb hby at_247) rfl rfl ?_
                    have J264_313 : ∀ (T313 : State) (h313 : Heap) (x18 : Int32), own_S true false consts_1 p l e room_1 s m #[(.int i0), (.int i1), (.int i2), (.int i3)] below meth c Z a0 "com/example/regalwerk/regalwerk/HoldingsLinkerDeletionPinLaw" h0 [] T313 h313 [b305, b301, b297, b292, b291, b289] 33 334 → own_DA Z h313 r (own_del hL h5) → x18 = own_del hL h5 → own_Go p.tables e below (own_Post true consts_1 Z room_1 h0 [] (fun v h => v = some (.int 1)) s) T313 (mkF m 264 #[.val (.int i0), .val (.int i1), .val (.int i2), .val (.int i3), .val (.int h5), .val (.int hL), .val (.int t5), .val (.int tL), .val (.int hs), .val (.int bl), .val (.int (1 : Int32)), .val (.int c0), .val (.int c1), .val (.ref b289), .val (.ref b297), .val (.ref b301), .val (.ref b305), .val r, .unset, .unset, .unset] [(.int x18)]) := by
                      intro T313 h313 x18 K313 DD e18
                      have A313 := own_here K313
                      refine own_istore A313 hx (pc' := 266) #[.val (.int i0), .val (.int i1), .val (.int i2), .val (.int i3), .val (.int h5), .val (.int hL), .val (.int t5), .val (.int tL), .val (.int hs), .val (.int bl), .val (.int (1 : Int32)), .val (.int c0), .val (.int c1), .val (.ref b289), .val (.ref b297), .val (.ref b301), .val (.ref b305), .val r, .val (.int x18), .unset, .unset] (hb hby at_264) rfl rfl ?_
                      refine own_iload A313 hx (pc' := 268) (hb hby at_266) rfl rfl ?_
                      refine own_if_eq A313 hx 287 271 (hb hby at_268) (by decide) (by decide) rfl (fun hc268 => ?_) (fun hc268 => ?_)
                      · exact absurd hc268 (by decide)
                      refine own_iload A313 hx (pc' := 273) (hb hby at_271) rfl rfl ?_
                      have J288_314 : ∀ (T314 : State) (h314 : Heap) (x19 : Int32), own_S true false consts_1 p l e room_1 s m #[(.int i0), (.int i1), (.int i2), (.int i3)] below meth c Z a0 "com/example/regalwerk/regalwerk/HoldingsLinkerDeletionPinLaw" h0 [] T314 h314 [b305, b301, b297, b292, b291, b289] 33 334 → own_DA Z h314 r (own_del hL h5) → x19 = own_del tL t5 → own_Go p.tables e below (own_Post true consts_1 Z room_1 h0 [] (fun v h => v = some (.int 1)) s) T314 (mkF m 288 #[.val (.int i0), .val (.int i1), .val (.int i2), .val (.int i3), .val (.int h5), .val (.int hL), .val (.int t5), .val (.int tL), .val (.int hs), .val (.int bl), .val (.int (1 : Int32)), .val (.int c0), .val (.int c1), .val (.ref b289), .val (.ref b297), .val (.ref b301), .val (.ref b305), .val r, .val (.int x18), .unset, .unset] [(.int x19)]) := by
                        intro T314 h314 x19 K314 DD e19
                        have A314 := own_here K314
                        refine own_istore A314 hx (pc' := 290) #[.val (.int i0), .val (.int i1), .val (.int i2), .val (.int i3), .val (.int h5), .val (.int hL), .val (.int t5), .val (.int tL), .val (.int hs), .val (.int bl), .val (.int (1 : Int32)), .val (.int c0), .val (.int c1), .val (.ref b289), .val (.ref b297), .val (.ref b301), .val (.ref b305), .val r, .val (.int x18), .val (.int x19), .unset] (hb hby at_288) rfl rfl ?_
                        rcases DD with ⟨dl, ra, rfl, Sr⟩ | ⟨dl, rfl⟩
                        · obtain rfl : x18 = 1 := e18.trans dl
                          obtain rfl : x19 = 0 := e19.trans td
                          show own_Go p.tables e below _ T314 (mkF m 290 #[.val (.int i0), .val (.int i1), .val (.int i2), .val (.int i3), .val (.int h5), .val (.int hL), .val (.int t5), .val (.int tL), .val (.int hs), .val (.int bl), .val (.int (1 : Int32)), .val (.int c0), .val (.int c1), .val (.ref b289), .val (.ref b297), .val (.ref b301), .val (.ref b305), .val (.ref ra), .val (.int (1 : Int32)), .val (.int (0 : Int32)), .unset] [])
                          refine own_iload A314 hx (pc' := 292) (hb hby at_290) rfl rfl ?_
                          refine own_if_eq A314 hx 302 295 (hb hby at_292) (by decide) (by decide) rfl (fun hc292 => ?_) (fun hc292 => ?_)
                          · exact absurd hc292 (by decide)
                          refine own_ldcR (n := 156) (zn := (39 : Int32)) (vs := [(.int (108 : Int32)), (.int (101 : Int32)), (.int (97 : Int32)), (.int (100 : Int32)), (.int (101 : Int32)), (.int (114 : Int32)), (.int (32 : Int32)), (.int (112 : Int32)), (.int (111 : Int32)), (.int (115 : Int32)), (.int (105 : Int32)), (.int (116 : Int32)), (.int (105 : Int32)), (.int (111 : Int32)), (.int (110 : Int32)), (.int (32 : Int32)), (.int (48 : Int32)), (.int (53 : Int32)), (.int (32 : Int32)), (.int (34 : Int32)), (.int (100 : Int32)), (.int (34 : Int32)), (.int (32 : Int32)), (.int (109 : Int32)), (.int (97 : Int32)), (.int (114 : Int32)), (.int (107 : Int32)), (.int (115 : Int32)), (.int (32 : Int32)), (.int (105 : Int32)), (.int (116 : Int32)), (.int (32 : Int32)), (.int (100 : Int32)), (.int (101 : Int32)), (.int (108 : Int32)), (.int (101 : Int32)), (.int (116 : Int32)), (.int (101 : Int32)), (.int (100 : Int32))]) K314 hx (own_w hw 363 rfl) (own_sa hw) (by decide +kernel) ⟨by decide +kernel, by decide +kernel⟩ (by decide) (by decide) (hb hby at_295) (pc' := 297) rfl (by decide +kernel) (by decide) (by decide) (by decide) ?_
                          intro b315 T315 h315 t315 kt315 K315 E315 X315 C315 V315 Y315 N315
                          have Sr := Sr.ext E315
                          have A315 := own_here K315
                          have S315 := own_Str.of0 (cs := [(108 : Int32), (101 : Int32), (97 : Int32), (100 : Int32), (101 : Int32), (114 : Int32), (32 : Int32), (112 : Int32), (111 : Int32), (115 : Int32), (105 : Int32), (116 : Int32), (105 : Int32), (111 : Int32), (110 : Int32), (32 : Int32), (48 : Int32), (53 : Int32), (32 : Int32), (34 : Int32), (100 : Int32), (34 : Int32), (32 : Int32), (109 : Int32), (97 : Int32), (114 : Int32), (107 : Int32), (115 : Int32), (32 : Int32), (105 : Int32), (116 : Int32), (32 : Int32), (100 : Int32), (101 : Int32), (108 : Int32), (101 : Int32), (116 : Int32), (101 : Int32), (100 : Int32)]) X315 V315 C315 Y315 rfl (by decide +kernel) (by decide +kernel) (by decide)
                          refine own_astore A315 hx (pc' := 299) #[.val (.int i0), .val (.int i1), .val (.int i2), .val (.int i3), .val (.int h5), .val (.int hL), .val (.int t5), .val (.int tL), .val (.int hs), .val (.int bl), .val (.int (1 : Int32)), .val (.int c0), .val (.int c1), .val (.ref b289), .val (.ref b297), .val (.ref b301), .val (.ref b305), .val (.ref ra), .val (.int (1 : Int32)), .val (.int (0 : Int32)), .val (.ref b315)] (hb hby at_297) rfl rfl rfl ?_
                          refine own_goto A315 hx 339 (hb hby at_299) (by decide) (by decide) ?_
                          refine own_aload A315 hx (pc' := 341) (hb hby at_339) rfl rfl rfl ?_
                          refine own_ifnonnull_t A315 hx 357 (hb hby at_341) (by decide) (by decide) ?_
                          refine own_aload A315 hx (pc' := 359) (hb hby at_357) rfl rfl rfl ?_
                          refine own_aload A315 hx (pc' := 361) (hb hby at_359) rfl rfl rfl ?_
                          refine own_strEq K315 hx (by rw [hml]; rfl) (own_w hw 364 rfl) (own_w hw 296 rfl) (own_w hw 298 rfl) (own_w hw 297 rfl) (own_we hw) (own_w hw 5 rfl) S315 Sr O2 P5 (lenOf pd_5 rfl) 0 (Nat.le_of_eq rfl) (hb hby at_361) (pc' := 364) rfl (by decide) (by decide) (by decide) (by decide) ?_
                          intro T316 K316
                          have A316 := own_here K316
                          exact own_retN K316 hx hlk hret (by simp) (hb hby at_364) (by decide) (by decide) (by show some (Value.int (nar .boolean _)) = _; rw [if_pos (by first | rfl | decide)]; rfl)
                        · obtain rfl : x18 = 0 := e18.trans dl
                          obtain rfl : x19 = 0 := e19.trans td
                          show own_Go p.tables e below _ T314 (mkF m 290 #[.val (.int i0), .val (.int i1), .val (.int i2), .val (.int i3), .val (.int h5), .val (.int hL), .val (.int t5), .val (.int tL), .val (.int hs), .val (.int bl), .val (.int (1 : Int32)), .val (.int c0), .val (.int c1), .val (.ref b289), .val (.ref b297), .val (.ref b301), .val (.ref b305), .val .null, .val (.int (0 : Int32)), .val (.int (0 : Int32)), .unset] [])
                          refine own_iload A314 hx (pc' := 292) (hb hby at_290) rfl rfl ?_
                          refine own_if_eq A314 hx 302 295 (hb hby at_292) (by decide) (by decide) rfl (fun hc292 => ?_) (fun hc292 => ?_)
                          rotate_left
                          · exact absurd hc292 (by decide)
                          refine own_iload A314 hx (pc' := 304) (hb hby at_302) rfl rfl ?_
                          refine own_if_eq A314 hx 336 307 (hb hby at_304) (by decide) (by decide) rfl (fun hc304 => ?_) (fun hc304 => ?_)
                          · refine own_null A314 hx (pc' := 337) (hb hby at_336) rfl ?_
                            refine own_astore A314 hx (pc' := 339) #[.val (.int i0), .val (.int i1), .val (.int i2), .val (.int i3), .val (.int h5), .val (.int hL), .val (.int t5), .val (.int tL), .val (.int hs), .val (.int bl), .val (.int (1 : Int32)), .val (.int c0), .val (.int c1), .val (.ref b289), .val (.ref b297), .val (.ref b301), .val (.ref b305), .val .null, .val (.int (0 : Int32)), .val (.int (0 : Int32)), .val .null] (hb hby at_337) rfl rfl rfl ?_
                            refine own_aload A314 hx (pc' := 341) (hb hby at_339) rfl rfl rfl ?_
                            refine own_ifnonnull_f A314 hx 344 (hb hby at_341) rfl ?_
                            refine own_aload A314 hx (pc' := 346) (hb hby at_344) rfl rfl rfl ?_
                            refine own_ifnonnull_f A314 hx 349 (hb hby at_346) rfl ?_
                            refine own_iconst A314 hx (pc' := 350) (hb hby at_349) (z := (1 : Int32)) (by decide) rfl ?_
                            refine own_goto A314 hx 364 (hb hby at_350) (by decide) (by decide) ?_
                            exact own_retN K314 hx hlk hret (by simp) (hb hby at_364) (by decide) (by decide) rfl
                          · refine own_iload A314 hx (pc' := 309) (hb hby at_307) rfl rfl ?_
                            refine own_if_eq A314 hx 336 312 (hb hby at_309) (by decide) (by decide) rfl (fun hc309 => ?_) (fun hc309 => ?_)
                            rotate_left
                            · exact absurd hc309 (by decide)
                            refine own_null A314 hx (pc' := 337) (hb hby at_336) rfl ?_
                            refine own_astore A314 hx (pc' := 339) #[.val (.int i0), .val (.int i1), .val (.int i2), .val (.int i3), .val (.int h5), .val (.int hL), .val (.int t5), .val (.int tL), .val (.int hs), .val (.int bl), .val (.int (1 : Int32)), .val (.int c0), .val (.int c1), .val (.ref b289), .val (.ref b297), .val (.ref b301), .val (.ref b305), .val .null, .val (.int (0 : Int32)), .val (.int (0 : Int32)), .val .null] (hb hby at_337) rfl rfl rfl ?_
                            refine own_aload A314 hx (pc' := 341) (hb hby at_339) rfl rfl rfl ?_
                            refine own_ifnonnull_f A314 hx 344 (hb hby at_341) rfl ?_
                            refine own_aload A314 hx (pc' := 346) (hb hby at_344) rfl rfl rfl ?_
                            refine own_ifnonnull_f A314 hx 349 (hb hby at_346) rfl ?_
                            refine own_iconst A314 hx (pc' := 350) (hb hby at_349) (z := (1 : Int32)) (by decide) rfl ?_
                            refine own_goto A314 hx 364 (hb hby at_350) (by decide) (by decide) ?_
                            exact own_retN K314 hx hlk hret (by simp) (hb hby at_364) (by decide) (by decide) rfl
                      refine own_if_eq A313 hx 287 276 (hb hby at_273) (by decide) (by decide) rfl (fun hc273 => ?_) (fun hc273 => ?_)
                      · refine own_iconst A313 hx (pc' := 288) (hb hby at_287) (z := (0 : Int32)) (by decide) rfl ?_
                        exact J288_314 T313 h313 (0 : Int32) (own_more K313 (by decide) (by decide)) DD (by rw [own_del, if_pos hc273])
                      · refine own_iload A313 hx (pc' := 278) (hb hby at_276) rfl rfl ?_
                        refine own_bipush A313 hx (pc' := 280) (hb hby at_278) (z := (100 : Int32)) (by decide) rfl ?_
                        refine own_icmp_ne A313 hx 287 283 (hb hby at_280) (by decide) (by decide) rfl (fun hc280 => ?_) (fun hc280 => ?_)
                        · refine own_iconst A313 hx (pc' := 288) (hb hby at_287) (z := (0 : Int32)) (by decide) rfl ?_
                          exact J288_314 T313 h313 (0 : Int32) (own_more K313 (by decide) (by decide)) DD (by rw [own_del, if_neg hc273, if_neg hc280])
                        · refine own_iconst A313 hx (pc' := 284) (hb hby at_283) (z := (1 : Int32)) (by decide) rfl ?_
                          refine own_goto A313 hx 288 (hb hby at_284) (by decide) (by decide) ?_
                          exact J288_314 T313 h313 (1 : Int32) (own_more K313 (by decide) (by decide)) DD (by rw [own_del, if_neg hc273, if_pos hc280])
                    refine own_if_eq A312 hx 263 252 (hb hby at_249) (by decide) (by decide) rfl (fun hc249 => ?_) (fun hc249 => ?_)
                    · refine own_iconst A312 hx (pc' := 264) (hb hby at_263) (z := (0 : Int32)) (by decide) rfl ?_
                      exact J264_313 T312 h312 (0 : Int32) (own_more K312 (by decide) (by decide)) DD (by rw [own_del, if_pos hc249])
                    · refine own_iload A312 hx (pc' := 254) (hb hby at_252) rfl rfl ?_
                      refine own_bipush A312 hx (pc' := 256) (hb hby at_254) (z := (100 : Int32)) (by decide) rfl ?_
                      refine own_icmp_ne A312 hx 263 259 (hb hby at_256) (by decide) (by decide) rfl (fun hc256 => ?_) (fun hc256 => ?_)
                      · refine own_iconst A312 hx (pc' := 264) (hb hby at_263) (z := (0 : Int32)) (by decide) rfl ?_
                        exact J264_313 T312 h312 (0 : Int32) (own_more K312 (by decide) (by decide)) DD (by rw [own_del, if_neg hc249, if_neg hc256])
                      · refine own_iconst A312 hx (pc' := 260) (hb hby at_259) (z := (1 : Int32)) (by decide) rfl ?_
                        refine own_goto A312 hx 264 (hb hby at_260) (by decide) (by decide) ?_
                        exact J264_313 T312 h312 (1 : Int32) (own_more K312 (by decide) (by decide)) DD (by rw [own_del, if_neg hc249, if_pos hc256])
                  · rcases hhs with rfl | rfl
                    · rw [own_id, if_pos rfl] at Sd
                      refine own_aload A311 hx (pc' := 238) (hb hby at_236) rfl rfl rfl ?_
                      refine own_aload A311 hx (pc' := 240) (hb hby at_238) rfl rfl rfl ?_
                      refine own_iload A311 hx (pc' := 242) (hb hby at_240) rfl rfl ?_
                      refine own_callV K311 hx (by rw [hml]; rfl) (own_w hw 357 rfl) (own_w hw 358 rfl) (fun U hU => notFace_of_selects (args := #[]) (mvT hU (own_w hw 360 rfl))) (own_w hw 360 rfl) (own_w hw 359 rfl) (own_w hw 214 rfl) (own_w hw 361 rfl) (by decide) X305 (rq_dB l Z a0 hw [] h311 b305 b301 bl hL h5 ld2 dd own_NO G1 O2 P5 G3 O4 rG3 hbl hhL H5 X301 Fl2 Sl2 Gd (by decide) (by decide) Sd) (fun _ q => nomatch q) (argsL := [(.ref b301), (.int bl)]) (rest := []) (lenOf pd_42 rfl) rfl 0 (Nat.le_of_eq rfl) (hb hby at_242) (pc' := 245) rfl (by decide) (by decide) (by decide) (by decide) ?_
                      intro v317 T317 h317 K317 Kp317 Q317
                      obtain ⟨r, rfl, DD⟩ := Q317
                      have A317 := own_here K317
                      have hr_r := DD.ref
                      show own_Go p.tables e below _ T317 (mkF m 245 #[.val (.int i0), .val (.int i1), .val (.int i2), .val (.int i3), .val (.int h5), .val (.int hL), .val (.int t5), .val (.int tL), .val (.int (0 : Int32)), .val (.int bl), .val (.int (1 : Int32)), .val (.int c0), .val (.int c1), .val (.ref b289), .val (.ref b297), .val (.ref b301), .val (.ref b305), .unset, .unset, .unset, .unset] [r])
                      refine own_astore A317 hx (pc' := 247) #[.val (.int i0), .val (.int i1), .val (.int i2), .val (.int i3), .val (.int h5), .val (.int hL), .val (.int t5), .val (.int tL), .val (.int (0 : Int32)), .val (.int bl), .val (.int (1 : Int32)), .val (.int c0), .val (.int c1), .val (.ref b289), .val (.ref b297), .val (.ref b301), .val (.ref b305), .val r, .unset, .unset, .unset] (hb hby at_245) hr_r (by rcases ref_cases hr_r with rfl | ⟨_, rfl⟩ <;> rfl) rfl ?_
                      refine own_iload A317 hx (pc' := 249) (hb hby at_247) rfl rfl ?_
                      have J264_318 : ∀ (T318 : State) (h318 : Heap) (x18 : Int32), own_S true false consts_1 p l e room_1 s m #[(.int i0), (.int i1), (.int i2), (.int i3)] below meth c Z a0 "com/example/regalwerk/regalwerk/HoldingsLinkerDeletionPinLaw" h0 [] T318 h318 [b305, b301, b297, b292, b291, b289] 41 694 → own_DB Z h318 r (own_del hL h5) bl own_NO → x18 = own_del hL h5 → own_Go p.tables e below (own_Post true consts_1 Z room_1 h0 [] (fun v h => v = some (.int 1)) s) T318 (mkF m 264 #[.val (.int i0), .val (.int i1), .val (.int i2), .val (.int i3), .val (.int h5), .val (.int hL), .val (.int t5), .val (.int tL), .val (.int (0 : Int32)), .val (.int bl), .val (.int (1 : Int32)), .val (.int c0), .val (.int c1), .val (.ref b289), .val (.ref b297), .val (.ref b301), .val (.ref b305), .val r, .unset, .unset, .unset] [(.int x18)]) := by
                        intro T318 h318 x18 K318 DD e18
                        have A318 := own_here K318
                        refine own_istore A318 hx (pc' := 266) #[.val (.int i0), .val (.int i1), .val (.int i2), .val (.int i3), .val (.int h5), .val (.int hL), .val (.int t5), .val (.int tL), .val (.int (0 : Int32)), .val (.int bl), .val (.int (1 : Int32)), .val (.int c0), .val (.int c1), .val (.ref b289), .val (.ref b297), .val (.ref b301), .val (.ref b305), .val r, .val (.int x18), .unset, .unset] (hb hby at_264) rfl rfl ?_
                        refine own_iload A318 hx (pc' := 268) (hb hby at_266) rfl rfl ?_
                        refine own_if_eq A318 hx 287 271 (hb hby at_268) (by decide) (by decide) rfl (fun hc268 => ?_) (fun hc268 => ?_)
                        · exact absurd hc268 (by decide)
                        refine own_iload A318 hx (pc' := 273) (hb hby at_271) rfl rfl ?_
                        have J288_319 : ∀ (T319 : State) (h319 : Heap) (x19 : Int32), own_S true false consts_1 p l e room_1 s m #[(.int i0), (.int i1), (.int i2), (.int i3)] below meth c Z a0 "com/example/regalwerk/regalwerk/HoldingsLinkerDeletionPinLaw" h0 [] T319 h319 [b305, b301, b297, b292, b291, b289] 41 694 → own_DB Z h319 r (own_del hL h5) bl own_NO → x19 = own_del tL t5 → own_Go p.tables e below (own_Post true consts_1 Z room_1 h0 [] (fun v h => v = some (.int 1)) s) T319 (mkF m 288 #[.val (.int i0), .val (.int i1), .val (.int i2), .val (.int i3), .val (.int h5), .val (.int hL), .val (.int t5), .val (.int tL), .val (.int (0 : Int32)), .val (.int bl), .val (.int (1 : Int32)), .val (.int c0), .val (.int c1), .val (.ref b289), .val (.ref b297), .val (.ref b301), .val (.ref b305), .val r, .val (.int x18), .unset, .unset] [(.int x19)]) := by
                          intro T319 h319 x19 K319 DD e19
                          have A319 := own_here K319
                          refine own_istore A319 hx (pc' := 290) #[.val (.int i0), .val (.int i1), .val (.int i2), .val (.int i3), .val (.int h5), .val (.int hL), .val (.int t5), .val (.int tL), .val (.int (0 : Int32)), .val (.int bl), .val (.int (1 : Int32)), .val (.int c0), .val (.int c1), .val (.ref b289), .val (.ref b297), .val (.ref b301), .val (.ref b305), .val r, .val (.int x18), .val (.int x19), .unset] (hb hby at_288) rfl rfl ?_
                          rcases DD with ⟨dl, ra, rfl, Sr⟩ | ⟨dl, hb0, rfl⟩ | ⟨dl, hb1, ra, rfl, Sr⟩
                          · obtain rfl : x18 = 1 := e18.trans dl
                            obtain rfl : x19 = 1 := e19.trans td
                            show own_Go p.tables e below _ T319 (mkF m 290 #[.val (.int i0), .val (.int i1), .val (.int i2), .val (.int i3), .val (.int h5), .val (.int hL), .val (.int t5), .val (.int tL), .val (.int (0 : Int32)), .val (.int bl), .val (.int (1 : Int32)), .val (.int c0), .val (.int c1), .val (.ref b289), .val (.ref b297), .val (.ref b301), .val (.ref b305), .val (.ref ra), .val (.int (1 : Int32)), .val (.int (1 : Int32)), .unset] [])
                            refine own_iload A319 hx (pc' := 292) (hb hby at_290) rfl rfl ?_
                            refine own_if_eq A319 hx 302 295 (hb hby at_292) (by decide) (by decide) rfl (fun hc292 => ?_) (fun hc292 => ?_)
                            · exact absurd hc292 (by decide)
                            refine own_ldcR (n := 156) (zn := (39 : Int32)) (vs := [(.int (108 : Int32)), (.int (101 : Int32)), (.int (97 : Int32)), (.int (100 : Int32)), (.int (101 : Int32)), (.int (114 : Int32)), (.int (32 : Int32)), (.int (112 : Int32)), (.int (111 : Int32)), (.int (115 : Int32)), (.int (105 : Int32)), (.int (116 : Int32)), (.int (105 : Int32)), (.int (111 : Int32)), (.int (110 : Int32)), (.int (32 : Int32)), (.int (48 : Int32)), (.int (53 : Int32)), (.int (32 : Int32)), (.int (34 : Int32)), (.int (100 : Int32)), (.int (34 : Int32)), (.int (32 : Int32)), (.int (109 : Int32)), (.int (97 : Int32)), (.int (114 : Int32)), (.int (107 : Int32)), (.int (115 : Int32)), (.int (32 : Int32)), (.int (105 : Int32)), (.int (116 : Int32)), (.int (32 : Int32)), (.int (100 : Int32)), (.int (101 : Int32)), (.int (108 : Int32)), (.int (101 : Int32)), (.int (116 : Int32)), (.int (101 : Int32)), (.int (100 : Int32))]) K319 hx (own_w hw 363 rfl) (own_sa hw) (by decide +kernel) ⟨by decide +kernel, by decide +kernel⟩ (by decide) (by decide) (hb hby at_295) (pc' := 297) rfl (by decide +kernel) (by decide) (by decide) (by decide) ?_
                            intro b320 T320 h320 t320 kt320 K320 E320 X320 C320 V320 Y320 N320
                            have Sr := Sr.ext E320
                            have A320 := own_here K320
                            have S320 := own_Str.of0 (cs := [(108 : Int32), (101 : Int32), (97 : Int32), (100 : Int32), (101 : Int32), (114 : Int32), (32 : Int32), (112 : Int32), (111 : Int32), (115 : Int32), (105 : Int32), (116 : Int32), (105 : Int32), (111 : Int32), (110 : Int32), (32 : Int32), (48 : Int32), (53 : Int32), (32 : Int32), (34 : Int32), (100 : Int32), (34 : Int32), (32 : Int32), (109 : Int32), (97 : Int32), (114 : Int32), (107 : Int32), (115 : Int32), (32 : Int32), (105 : Int32), (116 : Int32), (32 : Int32), (100 : Int32), (101 : Int32), (108 : Int32), (101 : Int32), (116 : Int32), (101 : Int32), (100 : Int32)]) X320 V320 C320 Y320 rfl (by decide +kernel) (by decide +kernel) (by decide)
                            refine own_astore A320 hx (pc' := 299) #[.val (.int i0), .val (.int i1), .val (.int i2), .val (.int i3), .val (.int h5), .val (.int hL), .val (.int t5), .val (.int tL), .val (.int (0 : Int32)), .val (.int bl), .val (.int (1 : Int32)), .val (.int c0), .val (.int c1), .val (.ref b289), .val (.ref b297), .val (.ref b301), .val (.ref b305), .val (.ref ra), .val (.int (1 : Int32)), .val (.int (1 : Int32)), .val (.ref b320)] (hb hby at_297) rfl rfl rfl ?_
                            refine own_goto A320 hx 339 (hb hby at_299) (by decide) (by decide) ?_
                            refine own_aload A320 hx (pc' := 341) (hb hby at_339) rfl rfl rfl ?_
                            refine own_ifnonnull_t A320 hx 357 (hb hby at_341) (by decide) (by decide) ?_
                            refine own_aload A320 hx (pc' := 359) (hb hby at_357) rfl rfl rfl ?_
                            refine own_aload A320 hx (pc' := 361) (hb hby at_359) rfl rfl rfl ?_
                            refine own_strEq K320 hx (by rw [hml]; rfl) (own_w hw 364 rfl) (own_w hw 296 rfl) (own_w hw 298 rfl) (own_w hw 297 rfl) (own_we hw) (own_w hw 5 rfl) S320 Sr O2 P5 (lenOf pd_5 rfl) 0 (Nat.le_of_eq rfl) (hb hby at_361) (pc' := 364) rfl (by decide) (by decide) (by decide) (by decide) ?_
                            intro T321 K321
                            have A321 := own_here K321
                            exact own_retN K321 hx hlk hret (by simp) (hb hby at_364) (by decide) (by decide) (by show some (Value.int (nar .boolean _)) = _; rw [if_pos (by first | rfl | decide)]; rfl)
                          · obtain rfl : x18 = 0 := e18.trans dl
                            obtain rfl : x19 = 1 := e19.trans td
                            subst hb0
                            show own_Go p.tables e below _ T319 (mkF m 290 #[.val (.int i0), .val (.int i1), .val (.int i2), .val (.int i3), .val (.int h5), .val (.int hL), .val (.int t5), .val (.int tL), .val (.int (0 : Int32)), .val (.int (0 : Int32)), .val (.int (1 : Int32)), .val (.int c0), .val (.int c1), .val (.ref b289), .val (.ref b297), .val (.ref b301), .val (.ref b305), .val .null, .val (.int (0 : Int32)), .val (.int (1 : Int32)), .unset] [])
                            refine own_iload A319 hx (pc' := 292) (hb hby at_290) rfl rfl ?_
                            refine own_if_eq A319 hx 302 295 (hb hby at_292) (by decide) (by decide) rfl (fun hc292 => ?_) (fun hc292 => ?_)
                            rotate_left
                            · exact absurd hc292 (by decide)
                            refine own_iload A319 hx (pc' := 304) (hb hby at_302) rfl rfl ?_
                            refine own_if_eq A319 hx 336 307 (hb hby at_304) (by decide) (by decide) rfl (fun hc304 => ?_) (fun hc304 => ?_)
                            rotate_left
                            · exact absurd hc304 (by decide)
                            refine own_null A319 hx (pc' := 337) (hb hby at_336) rfl ?_
                            refine own_astore A319 hx (pc' := 339) #[.val (.int i0), .val (.int i1), .val (.int i2), .val (.int i3), .val (.int h5), .val (.int hL), .val (.int t5), .val (.int tL), .val (.int (0 : Int32)), .val (.int (0 : Int32)), .val (.int (1 : Int32)), .val (.int c0), .val (.int c1), .val (.ref b289), .val (.ref b297), .val (.ref b301), .val (.ref b305), .val .null, .val (.int (0 : Int32)), .val (.int (1 : Int32)), .val .null] (hb hby at_337) rfl rfl rfl ?_
                            refine own_aload A319 hx (pc' := 341) (hb hby at_339) rfl rfl rfl ?_
                            refine own_ifnonnull_f A319 hx 344 (hb hby at_341) rfl ?_
                            refine own_aload A319 hx (pc' := 346) (hb hby at_344) rfl rfl rfl ?_
                            refine own_ifnonnull_f A319 hx 349 (hb hby at_346) rfl ?_
                            refine own_iconst A319 hx (pc' := 350) (hb hby at_349) (z := (1 : Int32)) (by decide) rfl ?_
                            refine own_goto A319 hx 364 (hb hby at_350) (by decide) (by decide) ?_
                            exact own_retN K319 hx hlk hret (by simp) (hb hby at_364) (by decide) (by decide) rfl
                          · obtain rfl : x18 = 0 := e18.trans dl
                            obtain rfl : x19 = 1 := e19.trans td
                            subst hb1
                            show own_Go p.tables e below _ T319 (mkF m 290 #[.val (.int i0), .val (.int i1), .val (.int i2), .val (.int i3), .val (.int h5), .val (.int hL), .val (.int t5), .val (.int tL), .val (.int (0 : Int32)), .val (.int (1 : Int32)), .val (.int (1 : Int32)), .val (.int c0), .val (.int c1), .val (.ref b289), .val (.ref b297), .val (.ref b301), .val (.ref b305), .val (.ref ra), .val (.int (0 : Int32)), .val (.int (1 : Int32)), .unset] [])
                            refine own_iload A319 hx (pc' := 292) (hb hby at_290) rfl rfl ?_
                            refine own_if_eq A319 hx 302 295 (hb hby at_292) (by decide) (by decide) rfl (fun hc292 => ?_) (fun hc292 => ?_)
                            rotate_left
                            · exact absurd hc292 (by decide)
                            refine own_iload A319 hx (pc' := 304) (hb hby at_302) rfl rfl ?_
                            refine own_if_eq A319 hx 336 307 (hb hby at_304) (by decide) (by decide) rfl (fun hc304 => ?_) (fun hc304 => ?_)
                            · exact absurd hc304 (by decide)
                            refine own_iload A319 hx (pc' := 309) (hb hby at_307) rfl rfl ?_
                            refine own_if_eq A319 hx 336 312 (hb hby at_309) (by decide) (by decide) rfl (fun hc309 => ?_) (fun hc309 => ?_)
                            · exact absurd hc309 (by decide)
                            refine own_iload A319 hx (pc' := 314) (hb hby at_312) rfl rfl ?_
                            refine own_if_eq A319 hx 329 317 (hb hby at_314) (by decide) (by decide) rfl (fun hc314 => ?_) (fun hc314 => ?_)
                            rotate_left
                            · exact absurd hc314 (by decide)
                            refine own_ldcR (n := 220) (zn := (55 : Int32)) (vs := [(.int (108 : Int32)), (.int (101 : Int32)), (.int (97 : Int32)), (.int (100 : Int32)), (.int (101 : Int32)), (.int (114 : Int32)), (.int (32 : Int32)), (.int (112 : Int32)), (.int (111 : Int32)), (.int (115 : Int32)), (.int (105 : Int32)), (.int (116 : Int32)), (.int (105 : Int32)), (.int (111 : Int32)), (.int (110 : Int32)), (.int (32 : Int32)), (.int (48 : Int32)), (.int (53 : Int32)), (.int (32 : Int32)), (.int (34 : Int32)), (.int (100 : Int32)), (.int (34 : Int32)), (.int (32 : Int32)), (.int (109 : Int32)), (.int (97 : Int32)), (.int (114 : Int32)), (.int (107 : Int32)), (.int (115 : Int32)), (.int (32 : Int32)), (.int (105 : Int32)), (.int (116 : Int32)), (.int (115 : Int32)), (.int (32 : Int32)), (.int (116 : Int32)), (.int (105 : Int32)), (.int (116 : Int32)), (.int (108 : Int32)), (.int (101 : Int32)), (.int (32 : Int32)), (.int (40 : Int32)), (.int (110 : Int32)), (.int (111 : Int32)), (.int (32 : Int32)), (.int (48 : Int32)), (.int (48 : Int32)), (.int (49 : Int32)), (.int (41 : Int32)), (.int (32 : Int32)), (.int (100 : Int32)), (.int (101 : Int32)), (.int (108 : Int32)), (.int (101 : Int32)), (.int (116 : Int32)), (.int (101 : Int32)), (.int (100 : Int32))]) K319 hx (own_w hw 484 rfl) (own_sa hw) (by decide +kernel) ⟨by decide +kernel, by decide +kernel⟩ (by decide) (by decide) (hb hby at_329) (pc' := 331) rfl (by decide +kernel) (by decide) (by decide) (by decide) ?_
                            intro b322 T322 h322 t322 kt322 K322 E322 X322 C322 V322 Y322 N322
                            have Sr := Sr.ext E322
                            have A322 := own_here K322
                            have S322 := own_Str.of0 (cs := [(108 : Int32), (101 : Int32), (97 : Int32), (100 : Int32), (101 : Int32), (114 : Int32), (32 : Int32), (112 : Int32), (111 : Int32), (115 : Int32), (105 : Int32), (116 : Int32), (105 : Int32), (111 : Int32), (110 : Int32), (32 : Int32), (48 : Int32), (53 : Int32), (32 : Int32), (34 : Int32), (100 : Int32), (34 : Int32), (32 : Int32), (109 : Int32), (97 : Int32), (114 : Int32), (107 : Int32), (115 : Int32), (32 : Int32), (105 : Int32), (116 : Int32), (115 : Int32), (32 : Int32), (116 : Int32), (105 : Int32), (116 : Int32), (108 : Int32), (101 : Int32), (32 : Int32), (40 : Int32), (110 : Int32), (111 : Int32), (32 : Int32), (48 : Int32), (48 : Int32), (49 : Int32), (41 : Int32), (32 : Int32), (100 : Int32), (101 : Int32), (108 : Int32), (101 : Int32), (116 : Int32), (101 : Int32), (100 : Int32)]) X322 V322 C322 Y322 rfl (by decide +kernel) (by decide +kernel) (by decide)
                            refine own_astore A322 hx (pc' := 333) #[.val (.int i0), .val (.int i1), .val (.int i2), .val (.int i3), .val (.int h5), .val (.int hL), .val (.int t5), .val (.int tL), .val (.int (0 : Int32)), .val (.int (1 : Int32)), .val (.int (1 : Int32)), .val (.int c0), .val (.int c1), .val (.ref b289), .val (.ref b297), .val (.ref b301), .val (.ref b305), .val (.ref ra), .val (.int (0 : Int32)), .val (.int (1 : Int32)), .val (.ref b322)] (hb hby at_331) rfl rfl rfl ?_
                            refine own_goto A322 hx 339 (hb hby at_333) (by decide) (by decide) ?_
                            refine own_aload A322 hx (pc' := 341) (hb hby at_339) rfl rfl rfl ?_
                            refine own_ifnonnull_t A322 hx 357 (hb hby at_341) (by decide) (by decide) ?_
                            refine own_aload A322 hx (pc' := 359) (hb hby at_357) rfl rfl rfl ?_
                            refine own_aload A322 hx (pc' := 361) (hb hby at_359) rfl rfl rfl ?_
                            refine own_strEq K322 hx (by rw [hml]; rfl) (own_w hw 364 rfl) (own_w hw 296 rfl) (own_w hw 298 rfl) (own_w hw 297 rfl) (own_we hw) (own_w hw 5 rfl) S322 Sr O2 P5 (lenOf pd_5 rfl) 0 (Nat.le_of_eq rfl) (hb hby at_361) (pc' := 364) rfl (by decide) (by decide) (by decide) (by decide) ?_
                            intro T323 K323
                            have A323 := own_here K323
                            exact own_retN K323 hx hlk hret (by simp) (hb hby at_364) (by decide) (by decide) (by show some (Value.int (nar .boolean _)) = _; rw [if_pos (by first | rfl | decide)]; rfl)
                        refine own_if_eq A318 hx 287 276 (hb hby at_273) (by decide) (by decide) rfl (fun hc273 => ?_) (fun hc273 => ?_)
                        · refine own_iconst A318 hx (pc' := 288) (hb hby at_287) (z := (0 : Int32)) (by decide) rfl ?_
                          exact J288_319 T318 h318 (0 : Int32) (own_more K318 (by decide) (by decide)) DD (by rw [own_del, if_pos hc273])
                        · refine own_iload A318 hx (pc' := 278) (hb hby at_276) rfl rfl ?_
                          refine own_bipush A318 hx (pc' := 280) (hb hby at_278) (z := (100 : Int32)) (by decide) rfl ?_
                          refine own_icmp_ne A318 hx 287 283 (hb hby at_280) (by decide) (by decide) rfl (fun hc280 => ?_) (fun hc280 => ?_)
                          · refine own_iconst A318 hx (pc' := 288) (hb hby at_287) (z := (0 : Int32)) (by decide) rfl ?_
                            exact J288_319 T318 h318 (0 : Int32) (own_more K318 (by decide) (by decide)) DD (by rw [own_del, if_neg hc273, if_neg hc280])
                          · refine own_iconst A318 hx (pc' := 284) (hb hby at_283) (z := (1 : Int32)) (by decide) rfl ?_
                            refine own_goto A318 hx 288 (hb hby at_284) (by decide) (by decide) ?_
                            exact J288_319 T318 h318 (1 : Int32) (own_more K318 (by decide) (by decide)) DD (by rw [own_del, if_neg hc273, if_pos hc280])
                      refine own_if_eq A317 hx 263 252 (hb hby at_249) (by decide) (by decide) rfl (fun hc249 => ?_) (fun hc249 => ?_)
                      · refine own_iconst A317 hx (pc' := 264) (hb hby at_263) (z := (0 : Int32)) (by decide) rfl ?_
                        exact J264_318 T317 h317 (0 : Int32) (own_more K317 (by decide) (by decide)) DD (by rw [own_del, if_pos hc249])
                      · refine own_iload A317 hx (pc' := 254) (hb hby at_252) rfl rfl ?_
                        refine own_bipush A317 hx (pc' := 256) (hb hby at_254) (z := (100 : Int32)) (by decide) rfl ?_
                        refine own_icmp_ne A317 hx 263 259 (hb hby at_256) (by decide) (by decide) rfl (fun hc256 => ?_) (fun hc256 => ?_)
                        · refine own_iconst A317 hx (pc' := 264) (hb hby at_263) (z := (0 : Int32)) (by decide) rfl ?_
                          exact J264_318 T317 h317 (0 : Int32) (own_more K317 (by decide) (by decide)) DD (by rw [own_del, if_neg hc249, if_neg hc256])
                        · refine own_iconst A317 hx (pc' := 260) (hb hby at_259) (z := (1 : Int32)) (by decide) rfl ?_
                          refine own_goto A317 hx 264 (hb hby at_260) (by decide) (by decide) ?_
                          exact J264_318 T317 h317 (1 : Int32) (own_more K317 (by decide) (by decide)) DD (by rw [own_del, if_neg hc249, if_pos hc256])
                    · rw [own_id, if_neg (by decide)] at Sd
                      refine own_aload A311 hx (pc' := 238) (hb hby at_236) rfl rfl rfl ?_
                      refine own_aload A311 hx (pc' := 240) (hb hby at_238) rfl rfl rfl ?_
                      refine own_iload A311 hx (pc' := 242) (hb hby at_240) rfl rfl ?_
                      refine own_callV K311 hx (by rw [hml]; rfl) (own_w hw 357 rfl) (own_w hw 358 rfl) (fun U hU => notFace_of_selects (args := #[]) (mvT hU (own_w hw 360 rfl))) (own_w hw 360 rfl) (own_w hw 359 rfl) (own_w hw 214 rfl) (own_w hw 361 rfl) (by decide) X305 (rq_dB l Z a0 hw [] h311 b305 b301 bl hL h5 ld2 dd [c0, c1] G1 O2 P5 G3 O4 rG3 hbl hhL H5 X301 Fl2 Sl2 Gd ⟨Nat.le_of_ble_eq_true rfl, Nat.le_of_ble_eq_true rfl⟩ (by intro c hc; simp only [List.mem_cons, List.not_mem_nil, or_false] at hc; rcases hc with rfl | rfl; exact HA; exact HB) Sd) (fun _ q => nomatch q) (argsL := [(.ref b301), (.int bl)]) (rest := []) (lenOf pd_42 rfl) rfl 0 (Nat.le_of_eq rfl) (hb hby at_242) (pc' := 245) rfl (by decide) (by decide) (by decide) (by decide) ?_
                      intro v324 T324 h324 K324 Kp324 Q324
                      obtain ⟨r, rfl, DD⟩ := Q324
                      have A324 := own_here K324
                      have hr_r := DD.ref
                      show own_Go p.tables e below _ T324 (mkF m 245 #[.val (.int i0), .val (.int i1), .val (.int i2), .val (.int i3), .val (.int h5), .val (.int hL), .val (.int t5), .val (.int tL), .val (.int (1 : Int32)), .val (.int bl), .val (.int (1 : Int32)), .val (.int c0), .val (.int c1), .val (.ref b289), .val (.ref b297), .val (.ref b301), .val (.ref b305), .unset, .unset, .unset, .unset] [r])
                      refine own_astore A324 hx (pc' := 247) #[.val (.int i0), .val (.int i1), .val (.int i2), .val (.int i3), .val (.int h5), .val (.int hL), .val (.int t5), .val (.int tL), .val (.int (1 : Int32)), .val (.int bl), .val (.int (1 : Int32)), .val (.int c0), .val (.int c1), .val (.ref b289), .val (.ref b297), .val (.ref b301), .val (.ref b305), .val r, .unset, .unset, .unset] (hb hby at_245) hr_r (by rcases ref_cases hr_r with rfl | ⟨_, rfl⟩ <;> rfl) rfl ?_
                      refine own_iload A324 hx (pc' := 249) (hb hby at_247) rfl rfl ?_
                      have J264_325 : ∀ (T325 : State) (h325 : Heap) (x18 : Int32), own_S true false consts_1 p l e room_1 s m #[(.int i0), (.int i1), (.int i2), (.int i3)] below meth c Z a0 "com/example/regalwerk/regalwerk/HoldingsLinkerDeletionPinLaw" h0 [] T325 h325 [b305, b301, b297, b292, b291, b289] 41 694 → own_DB Z h325 r (own_del hL h5) bl [c0, c1] → x18 = own_del hL h5 → own_Go p.tables e below (own_Post true consts_1 Z room_1 h0 [] (fun v h => v = some (.int 1)) s) T325 (mkF m 264 #[.val (.int i0), .val (.int i1), .val (.int i2), .val (.int i3), .val (.int h5), .val (.int hL), .val (.int t5), .val (.int tL), .val (.int (1 : Int32)), .val (.int bl), .val (.int (1 : Int32)), .val (.int c0), .val (.int c1), .val (.ref b289), .val (.ref b297), .val (.ref b301), .val (.ref b305), .val r, .unset, .unset, .unset] [(.int x18)]) := by
                        intro T325 h325 x18 K325 DD e18
                        have A325 := own_here K325
                        refine own_istore A325 hx (pc' := 266) #[.val (.int i0), .val (.int i1), .val (.int i2), .val (.int i3), .val (.int h5), .val (.int hL), .val (.int t5), .val (.int tL), .val (.int (1 : Int32)), .val (.int bl), .val (.int (1 : Int32)), .val (.int c0), .val (.int c1), .val (.ref b289), .val (.ref b297), .val (.ref b301), .val (.ref b305), .val r, .val (.int x18), .unset, .unset] (hb hby at_264) rfl rfl ?_
                        refine own_iload A325 hx (pc' := 268) (hb hby at_266) rfl rfl ?_
                        refine own_if_eq A325 hx 287 271 (hb hby at_268) (by decide) (by decide) rfl (fun hc268 => ?_) (fun hc268 => ?_)
                        · exact absurd hc268 (by decide)
                        refine own_iload A325 hx (pc' := 273) (hb hby at_271) rfl rfl ?_
                        have J288_326 : ∀ (T326 : State) (h326 : Heap) (x19 : Int32), own_S true false consts_1 p l e room_1 s m #[(.int i0), (.int i1), (.int i2), (.int i3)] below meth c Z a0 "com/example/regalwerk/regalwerk/HoldingsLinkerDeletionPinLaw" h0 [] T326 h326 [b305, b301, b297, b292, b291, b289] 41 694 → own_DB Z h326 r (own_del hL h5) bl [c0, c1] → x19 = own_del tL t5 → own_Go p.tables e below (own_Post true consts_1 Z room_1 h0 [] (fun v h => v = some (.int 1)) s) T326 (mkF m 288 #[.val (.int i0), .val (.int i1), .val (.int i2), .val (.int i3), .val (.int h5), .val (.int hL), .val (.int t5), .val (.int tL), .val (.int (1 : Int32)), .val (.int bl), .val (.int (1 : Int32)), .val (.int c0), .val (.int c1), .val (.ref b289), .val (.ref b297), .val (.ref b301), .val (.ref b305), .val r, .val (.int x18), .unset, .unset] [(.int x19)]) := by
                          intro T326 h326 x19 K326 DD e19
                          have A326 := own_here K326
                          refine own_istore A326 hx (pc' := 290) #[.val (.int i0), .val (.int i1), .val (.int i2), .val (.int i3), .val (.int h5), .val (.int hL), .val (.int t5), .val (.int tL), .val (.int (1 : Int32)), .val (.int bl), .val (.int (1 : Int32)), .val (.int c0), .val (.int c1), .val (.ref b289), .val (.ref b297), .val (.ref b301), .val (.ref b305), .val r, .val (.int x18), .val (.int x19), .unset] (hb hby at_288) rfl rfl ?_
                          rcases DD with ⟨dl, ra, rfl, Sr⟩ | ⟨dl, hb0, rfl⟩ | ⟨dl, hb1, ra, rfl, Sr⟩
                          · obtain rfl : x18 = 1 := e18.trans dl
                            obtain rfl : x19 = 1 := e19.trans td
                            show own_Go p.tables e below _ T326 (mkF m 290 #[.val (.int i0), .val (.int i1), .val (.int i2), .val (.int i3), .val (.int h5), .val (.int hL), .val (.int t5), .val (.int tL), .val (.int (1 : Int32)), .val (.int bl), .val (.int (1 : Int32)), .val (.int c0), .val (.int c1), .val (.ref b289), .val (.ref b297), .val (.ref b301), .val (.ref b305), .val (.ref ra), .val (.int (1 : Int32)), .val (.int (1 : Int32)), .unset] [])
                            refine own_iload A326 hx (pc' := 292) (hb hby at_290) rfl rfl ?_
                            refine own_if_eq A326 hx 302 295 (hb hby at_292) (by decide) (by decide) rfl (fun hc292 => ?_) (fun hc292 => ?_)
                            · exact absurd hc292 (by decide)
                            refine own_ldcR (n := 156) (zn := (39 : Int32)) (vs := [(.int (108 : Int32)), (.int (101 : Int32)), (.int (97 : Int32)), (.int (100 : Int32)), (.int (101 : Int32)), (.int (114 : Int32)), (.int (32 : Int32)), (.int (112 : Int32)), (.int (111 : Int32)), (.int (115 : Int32)), (.int (105 : Int32)), (.int (116 : Int32)), (.int (105 : Int32)), (.int (111 : Int32)), (.int (110 : Int32)), (.int (32 : Int32)), (.int (48 : Int32)), (.int (53 : Int32)), (.int (32 : Int32)), (.int (34 : Int32)), (.int (100 : Int32)), (.int (34 : Int32)), (.int (32 : Int32)), (.int (109 : Int32)), (.int (97 : Int32)), (.int (114 : Int32)), (.int (107 : Int32)), (.int (115 : Int32)), (.int (32 : Int32)), (.int (105 : Int32)), (.int (116 : Int32)), (.int (32 : Int32)), (.int (100 : Int32)), (.int (101 : Int32)), (.int (108 : Int32)), (.int (101 : Int32)), (.int (116 : Int32)), (.int (101 : Int32)), (.int (100 : Int32))]) K326 hx (own_w hw 363 rfl) (own_sa hw) (by decide +kernel) ⟨by decide +kernel, by decide +kernel⟩ (by decide) (by decide) (hb hby at_295) (pc' := 297) rfl (by decide +kernel) (by decide) (by decide) (by decide) ?_
                            intro b327 T327 h327 t327 kt327 K327 E327 X327 C327 V327 Y327 N327
                            have Sr := Sr.ext E327
                            have A327 := own_here K327
                            have S327 := own_Str.of0 (cs := [(108 : Int32), (101 : Int32), (97 : Int32), (100 : Int32), (101 : Int32), (114 : Int32), (32 : Int32), (112 : Int32), (111 : Int32), (115 : Int32), (105 : Int32), (116 : Int32), (105 : Int32), (111 : Int32), (110 : Int32), (32 : Int32), (48 : Int32), (53 : Int32), (32 : Int32), (34 : Int32), (100 : Int32), (34 : Int32), (32 : Int32), (109 : Int32), (97 : Int32), (114 : Int32), (107 : Int32), (115 : Int32), (32 : Int32), (105 : Int32), (116 : Int32), (32 : Int32), (100 : Int32), (101 : Int32), (108 : Int32), (101 : Int32), (116 : Int32), (101 : Int32), (100 : Int32)]) X327 V327 C327 Y327 rfl (by decide +kernel) (by decide +kernel) (by decide)
                            refine own_astore A327 hx (pc' := 299) #[.val (.int i0), .val (.int i1), .val (.int i2), .val (.int i3), .val (.int h5), .val (.int hL), .val (.int t5), .val (.int tL), .val (.int (1 : Int32)), .val (.int bl), .val (.int (1 : Int32)), .val (.int c0), .val (.int c1), .val (.ref b289), .val (.ref b297), .val (.ref b301), .val (.ref b305), .val (.ref ra), .val (.int (1 : Int32)), .val (.int (1 : Int32)), .val (.ref b327)] (hb hby at_297) rfl rfl rfl ?_
                            refine own_goto A327 hx 339 (hb hby at_299) (by decide) (by decide) ?_
                            refine own_aload A327 hx (pc' := 341) (hb hby at_339) rfl rfl rfl ?_
                            refine own_ifnonnull_t A327 hx 357 (hb hby at_341) (by decide) (by decide) ?_
                            refine own_aload A327 hx (pc' := 359) (hb hby at_357) rfl rfl rfl ?_
                            refine own_aload A327 hx (pc' := 361) (hb hby at_359) rfl rfl rfl ?_
                            refine own_strEq K327 hx (by rw [hml]; rfl) (own_w hw 364 rfl) (own_w hw 296 rfl) (own_w hw 298 rfl) (own_w hw 297 rfl) (own_we hw) (own_w hw 5 rfl) S327 Sr O2 P5 (lenOf pd_5 rfl) 0 (Nat.le_of_eq rfl) (hb hby at_361) (pc' := 364) rfl (by decide) (by decide) (by decide) (by decide) ?_
                            intro T328 K328
                            have A328 := own_here K328
                            exact own_retN K328 hx hlk hret (by simp) (hb hby at_364) (by decide) (by decide) (by show some (Value.int (nar .boolean _)) = _; rw [if_pos (by first | rfl | decide)]; rfl)
                          · obtain rfl : x18 = 0 := e18.trans dl
                            obtain rfl : x19 = 1 := e19.trans td
                            subst hb0
                            show own_Go p.tables e below _ T326 (mkF m 290 #[.val (.int i0), .val (.int i1), .val (.int i2), .val (.int i3), .val (.int h5), .val (.int hL), .val (.int t5), .val (.int tL), .val (.int (1 : Int32)), .val (.int (0 : Int32)), .val (.int (1 : Int32)), .val (.int c0), .val (.int c1), .val (.ref b289), .val (.ref b297), .val (.ref b301), .val (.ref b305), .val .null, .val (.int (0 : Int32)), .val (.int (1 : Int32)), .unset] [])
                            refine own_iload A326 hx (pc' := 292) (hb hby at_290) rfl rfl ?_
                            refine own_if_eq A326 hx 302 295 (hb hby at_292) (by decide) (by decide) rfl (fun hc292 => ?_) (fun hc292 => ?_)
                            rotate_left
                            · exact absurd hc292 (by decide)
                            refine own_iload A326 hx (pc' := 304) (hb hby at_302) rfl rfl ?_
                            refine own_if_eq A326 hx 336 307 (hb hby at_304) (by decide) (by decide) rfl (fun hc304 => ?_) (fun hc304 => ?_)
                            rotate_left
                            · exact absurd hc304 (by decide)
                            refine own_null A326 hx (pc' := 337) (hb hby at_336) rfl ?_
                            refine own_astore A326 hx (pc' := 339) #[.val (.int i0), .val (.int i1), .val (.int i2), .val (.int i3), .val (.int h5), .val (.int hL), .val (.int t5), .val (.int tL), .val (.int (1 : Int32)), .val (.int (0 : Int32)), .val (.int (1 : Int32)), .val (.int c0), .val (.int c1), .val (.ref b289), .val (.ref b297), .val (.ref b301), .val (.ref b305), .val .null, .val (.int (0 : Int32)), .val (.int (1 : Int32)), .val .null] (hb hby at_337) rfl rfl rfl ?_
                            refine own_aload A326 hx (pc' := 341) (hb hby at_339) rfl rfl rfl ?_
                            refine own_ifnonnull_f A326 hx 344 (hb hby at_341) rfl ?_
                            refine own_aload A326 hx (pc' := 346) (hb hby at_344) rfl rfl rfl ?_
                            refine own_ifnonnull_f A326 hx 349 (hb hby at_346) rfl ?_
                            refine own_iconst A326 hx (pc' := 350) (hb hby at_349) (z := (1 : Int32)) (by decide) rfl ?_
                            refine own_goto A326 hx 364 (hb hby at_350) (by decide) (by decide) ?_
                            exact own_retN K326 hx hlk hret (by simp) (hb hby at_364) (by decide) (by decide) rfl
                          · obtain rfl : x18 = 0 := e18.trans dl
                            obtain rfl : x19 = 1 := e19.trans td
                            subst hb1
                            show own_Go p.tables e below _ T326 (mkF m 290 #[.val (.int i0), .val (.int i1), .val (.int i2), .val (.int i3), .val (.int h5), .val (.int hL), .val (.int t5), .val (.int tL), .val (.int (1 : Int32)), .val (.int (1 : Int32)), .val (.int (1 : Int32)), .val (.int c0), .val (.int c1), .val (.ref b289), .val (.ref b297), .val (.ref b301), .val (.ref b305), .val (.ref ra), .val (.int (0 : Int32)), .val (.int (1 : Int32)), .unset] [])
                            refine own_iload A326 hx (pc' := 292) (hb hby at_290) rfl rfl ?_
                            refine own_if_eq A326 hx 302 295 (hb hby at_292) (by decide) (by decide) rfl (fun hc292 => ?_) (fun hc292 => ?_)
                            rotate_left
                            · exact absurd hc292 (by decide)
                            refine own_iload A326 hx (pc' := 304) (hb hby at_302) rfl rfl ?_
                            refine own_if_eq A326 hx 336 307 (hb hby at_304) (by decide) (by decide) rfl (fun hc304 => ?_) (fun hc304 => ?_)
                            · exact absurd hc304 (by decide)
                            refine own_iload A326 hx (pc' := 309) (hb hby at_307) rfl rfl ?_
                            refine own_if_eq A326 hx 336 312 (hb hby at_309) (by decide) (by decide) rfl (fun hc309 => ?_) (fun hc309 => ?_)
                            · exact absurd hc309 (by decide)
                            refine own_iload A326 hx (pc' := 314) (hb hby at_312) rfl rfl ?_
                            refine own_if_eq A326 hx 329 317 (hb hby at_314) (by decide) (by decide) rfl (fun hc314 => ?_) (fun hc314 => ?_)
                            · exact absurd hc314 (by decide)
                            refine own_iload A326 hx (pc' := 319) (hb hby at_317) rfl rfl ?_
                            refine own_iload A326 hx (pc' := 321) (hb hby at_319) rfl rfl ?_
                            refine own_callS K326 hx (by rw [hml]; rfl) (own_w hw 489 rfl) (own_w hw 490 rfl) (own_w hw 54 rfl) (own_w hw 491 rfl) (by decide) (rq_tc l Z a0 hw [] h326 c0 c1 G1 O2 P5 HA HB) (fun _ q => nomatch q) (argsL := [(.int c0), (.int c1)]) (rest := []) (lenOf pd_44 rfl) rfl 0 (Nat.le_of_eq rfl) (hb hby at_321) (pc' := 324) rfl (by decide) (by decide) (by decide) (by decide) ?_
                            intro v329 T329 h329 K329 Kp329 Q329
                            obtain ⟨xa, rfl, Sx⟩ := Q329
                            have Sr := Sr.keep Kp329 own_off0
                            have A329 := own_here K329
                            show own_Go p.tables e below _ T329 (mkF m 324 #[.val (.int i0), .val (.int i1), .val (.int i2), .val (.int i3), .val (.int h5), .val (.int hL), .val (.int t5), .val (.int tL), .val (.int (1 : Int32)), .val (.int (1 : Int32)), .val (.int (1 : Int32)), .val (.int c0), .val (.int c1), .val (.ref b289), .val (.ref b297), .val (.ref b301), .val (.ref b305), .val (.ref ra), .val (.int (0 : Int32)), .val (.int (1 : Int32)), .unset] [(.ref xa)])
                            refine own_astore A329 hx (pc' := 326) #[.val (.int i0), .val (.int i1), .val (.int i2), .val (.int i3), .val (.int h5), .val (.int hL), .val (.int t5), .val (.int tL), .val (.int (1 : Int32)), .val (.int (1 : Int32)), .val (.int (1 : Int32)), .val (.int c0), .val (.int c1), .val (.ref b289), .val (.ref b297), .val (.ref b301), .val (.ref b305), .val (.ref ra), .val (.int (0 : Int32)), .val (.int (1 : Int32)), .val (.ref xa)] (hb hby at_324) rfl rfl rfl ?_
                            refine own_goto A329 hx 339 (hb hby at_326) (by decide) (by decide) ?_
                            refine own_aload A329 hx (pc' := 341) (hb hby at_339) rfl rfl rfl ?_
                            refine own_ifnonnull_t A329 hx 357 (hb hby at_341) (by decide) (by decide) ?_
                            refine own_aload A329 hx (pc' := 359) (hb hby at_357) rfl rfl rfl ?_
                            refine own_aload A329 hx (pc' := 361) (hb hby at_359) rfl rfl rfl ?_
                            refine own_strEq K329 hx (by rw [hml]; rfl) (own_w hw 364 rfl) (own_w hw 296 rfl) (own_w hw 298 rfl) (own_w hw 297 rfl) (own_we hw) (own_w hw 5 rfl) Sx Sr O2 P5 (lenOf pd_5 rfl) 0 (Nat.le_of_eq rfl) (hb hby at_361) (pc' := 364) rfl (by decide) (by decide) (by decide) (by decide) ?_
                            intro T330 K330
                            have A330 := own_here K330
                            exact own_retN K330 hx hlk hret (by simp) (hb hby at_364) (by decide) (by decide) (by show some (Value.int (nar .boolean _)) = _; rw [if_pos (by first | rfl | decide)]; rfl)
                        refine own_if_eq A325 hx 287 276 (hb hby at_273) (by decide) (by decide) rfl (fun hc273 => ?_) (fun hc273 => ?_)
                        · refine own_iconst A325 hx (pc' := 288) (hb hby at_287) (z := (0 : Int32)) (by decide) rfl ?_
                          exact J288_326 T325 h325 (0 : Int32) (own_more K325 (by decide) (by decide)) DD (by rw [own_del, if_pos hc273])
                        · refine own_iload A325 hx (pc' := 278) (hb hby at_276) rfl rfl ?_
                          refine own_bipush A325 hx (pc' := 280) (hb hby at_278) (z := (100 : Int32)) (by decide) rfl ?_
                          refine own_icmp_ne A325 hx 287 283 (hb hby at_280) (by decide) (by decide) rfl (fun hc280 => ?_) (fun hc280 => ?_)
                          · refine own_iconst A325 hx (pc' := 288) (hb hby at_287) (z := (0 : Int32)) (by decide) rfl ?_
                            exact J288_326 T325 h325 (0 : Int32) (own_more K325 (by decide) (by decide)) DD (by rw [own_del, if_neg hc273, if_neg hc280])
                          · refine own_iconst A325 hx (pc' := 284) (hb hby at_283) (z := (1 : Int32)) (by decide) rfl ?_
                            refine own_goto A325 hx 288 (hb hby at_284) (by decide) (by decide) ?_
                            exact J288_326 T325 h325 (1 : Int32) (own_more K325 (by decide) (by decide)) DD (by rw [own_del, if_neg hc273, if_pos hc280])
                      refine own_if_eq A324 hx 263 252 (hb hby at_249) (by decide) (by decide) rfl (fun hc249 => ?_) (fun hc249 => ?_)
                      · refine own_iconst A324 hx (pc' := 264) (hb hby at_263) (z := (0 : Int32)) (by decide) rfl ?_
                        exact J264_325 T324 h324 (0 : Int32) (own_more K324 (by decide) (by decide)) DD (by rw [own_del, if_pos hc249])
                      · refine own_iload A324 hx (pc' := 254) (hb hby at_252) rfl rfl ?_
                        refine own_bipush A324 hx (pc' := 256) (hb hby at_254) (z := (100 : Int32)) (by decide) rfl ?_
                        refine own_icmp_ne A324 hx 263 259 (hb hby at_256) (by decide) (by decide) rfl (fun hc256 => ?_) (fun hc256 => ?_)
                        · refine own_iconst A324 hx (pc' := 264) (hb hby at_263) (z := (0 : Int32)) (by decide) rfl ?_
                          exact J264_325 T324 h324 (0 : Int32) (own_more K324 (by decide) (by decide)) DD (by rw [own_del, if_neg hc249, if_neg hc256])
                        · refine own_iconst A324 hx (pc' := 260) (hb hby at_259) (z := (1 : Int32)) (by decide) rfl ?_
                          refine own_goto A324 hx 264 (hb hby at_260) (by decide) (by decide) ?_
                          exact J264_325 T324 h324 (1 : Int32) (own_more K324 (by decide) (by decide)) DD (by rw [own_del, if_neg hc249, if_pos hc256])
              refine own_if_ne A287 hx 119 115 (hb hby at_112) (by decide) (by decide) rfl (fun hc112 => ?_) (fun hc112 => ?_)
              · refine own_iconst A287 hx (pc' := 120) (hb hby at_119) (z := (0 : Int32)) (by decide) rfl ?_
                exact J120_288 T287 h287 (0 : Int32) (own_sub (own_more K287 (by decide) (by decide)) (by simp))  (Or.inl rfl)
              · refine own_iconst A287 hx (pc' := 116) (hb hby at_115) (z := (1 : Int32)) (by decide) rfl ?_
                refine own_goto A287 hx 120 (hb hby at_116) (by decide) (by decide) ?_
                exact J120_288 T287 h287 (1 : Int32) (own_sub (own_more K287 (by decide) (by decide)) (by simp))  (Or.inr rfl)
            refine own_if_eq A286 hx 103 99 (hb hby at_96) (by decide) (by decide) rfl (fun hc96 => ?_) (fun hc96 => ?_)
            · refine own_iconst A286 hx (pc' := 104) (hb hby at_103) (z := (0 : Int32)) (by decide) rfl ?_
              exact J104_287 T286 h286 (0 : Int32) (own_more K286 (by decide) (by decide))  (Or.inl rfl)
            · refine own_iconst A286 hx (pc' := 100) (hb hby at_99) (z := (1 : Int32)) (by decide) rfl ?_
              refine own_goto A286 hx 104 (hb hby at_100) (by decide) (by decide) ?_
              exact J104_287 T286 h286 (1 : Int32) (own_more K286 (by decide) (by decide))  (Or.inr rfl)
          refine own_if_ne A285 hx 87 83 (hb hby at_80) (by decide) (by decide) rfl (fun hc80 => ?_) (fun hc80 => ?_)
          · refine own_iconst A285 hx (pc' := 88) (hb hby at_87) (z := (0 : Int32)) (by decide) rfl ?_
            exact J88_286 T285 h285 (0 : Int32) (own_more K285 (by decide) (by decide))  (Or.inl rfl)
          · refine own_iconst A285 hx (pc' := 84) (hb hby at_83) (z := (1 : Int32)) (by decide) rfl ?_
            refine own_goto A285 hx 88 (hb hby at_84) (by decide) (by decide) ?_
            exact J88_286 T285 h285 (1 : Int32) (own_more K285 (by decide) (by decide))  (Or.inr rfl)
        refine own_if_ne A284 hx 71 67 (hb hby at_64) (by decide) (by decide) rfl (fun hc64 => ?_) (fun hc64 => ?_)
        · refine own_iconst A284 hx (pc' := 72) (hb hby at_71) (z := (0 : Int32)) (by decide) rfl ?_
          exact J72_285 T284 h284 (0 : Int32) (own_more K284 (by decide) (by decide))  (Or.inl rfl)
        · refine own_iconst A284 hx (pc' := 68) (hb hby at_67) (z := (1 : Int32)) (by decide) rfl ?_
          refine own_goto A284 hx 72 (hb hby at_68) (by decide) (by decide) ?_
          exact J72_285 T284 h284 (1 : Int32) (own_more K284 (by decide) (by decide))  (Or.inr rfl)
      refine own_if_eq A283 hx 48 43 (hb hby at_40) (by decide) (by decide) rfl (fun hc40 => ?_) (fun hc40 => ?_)
      · refine own_iloadN A283 hx (pc' := 49) (hb hby at_48) rfl rfl ?_
        refine own_iconst A283 hx (pc' := 50) (hb hby at_49) (z := (1 : Int32)) (by decide) rfl ?_
        refine own_iushr A283 hx (pc' := 51) (hb hby at_50) (z := ((i1.toUInt32 >>> ((1 : Int32) &&& 31).toUInt32).toInt32)) rfl rfl ?_
        refine own_sipush A283 hx (pc' := 54) (hb hby at_51) (z := (255 : Int32)) (by decide) rfl ?_
        refine own_iand A283 hx (pc' := 55) (hb hby at_54) (z := (((i1.toUInt32 >>> ((1 : Int32) &&& 31).toUInt32).toInt32) &&& (255 : Int32))) rfl rfl ?_
        refine own_i2c A283 hx (pc' := 56) (hb hby at_55) (z := ((((i1.toUInt32 >>> ((1 : Int32) &&& 31).toUInt32).toInt32) &&& (255 : Int32)).toUInt32.toUInt16.toUInt32.toInt32)) rfl rfl ?_
        exact J56_284 T283 h283 ((((i1.toUInt32 >>> ((1 : Int32) &&& 31).toUInt32).toInt32) &&& (255 : Int32)).toUInt32.toUInt16.toUInt32.toInt32) (own_more K283 (by decide) (by decide))  (own_c255 _)
      · refine own_bipush A283 hx (pc' := 45) (hb hby at_43) (z := (100 : Int32)) (by decide) rfl ?_
        refine own_goto A283 hx 56 (hb hby at_45) (by decide) (by decide) ?_
        exact J56_284 T283 h283 (100 : Int32) (own_more K283 (by decide) (by decide))  (by decide)
    refine own_if_ne A282 hx 34 30 (hb hby at_27) (by decide) (by decide) rfl (fun hc27 => ?_) (fun hc27 => ?_)
    · refine own_iconst A282 hx (pc' := 35) (hb hby at_34) (z := (0 : Int32)) (by decide) rfl ?_
      exact J35_283 T282 h282 (0 : Int32) (own_more K282 (by decide) (by decide))  (Or.inl rfl)
    · refine own_iconst A282 hx (pc' := 31) (hb hby at_30) (z := (1 : Int32)) (by decide) rfl ?_
      refine own_goto A282 hx 35 (hb hby at_31) (by decide) (by decide) ?_
      exact J35_283 T282 h282 (1 : Int32) (own_more K282 (by decide) (by decide))  (Or.inr rfl)
  refine own_if_eq A hx 11 6 (hb hby at_3) (by decide) (by decide) rfl (fun hc3 => ?_) (fun hc3 => ?_)
  · refine own_iloadN A hx (pc' := 12) (hb hby at_11) rfl rfl ?_
    refine own_iconst A hx (pc' := 13) (hb hby at_12) (z := (1 : Int32)) (by decide) rfl ?_
    refine own_iushr A hx (pc' := 14) (hb hby at_13) (z := ((i0.toUInt32 >>> ((1 : Int32) &&& 31).toUInt32).toInt32)) rfl rfl ?_
    refine own_sipush A hx (pc' := 17) (hb hby at_14) (z := (255 : Int32)) (by decide) rfl ?_
    refine own_iand A hx (pc' := 18) (hb hby at_17) (z := (((i0.toUInt32 >>> ((1 : Int32) &&& 31).toUInt32).toInt32) &&& (255 : Int32))) rfl rfl ?_
    refine own_i2c A hx (pc' := 19) (hb hby at_18) (z := ((((i0.toUInt32 >>> ((1 : Int32) &&& 31).toUInt32).toInt32) &&& (255 : Int32)).toUInt32.toUInt16.toUInt32.toInt32)) rfl rfl ?_
    exact J19_282 T h0 ((((i0.toUInt32 >>> ((1 : Int32) &&& 31).toUInt32).toInt32) &&& (255 : Int32)).toUInt32.toUInt16.toUInt32.toInt32) (own_more K (by decide) (by decide))  (own_c255 _)
  · refine own_bipush A hx (pc' := 8) (hb hby at_6) (z := (100 : Int32)) (by decide) rfl ?_
    refine own_goto A hx 19 (hb hby at_8) (by decide) (by decide) ?_
    exact J19_282 T h0 (100 : Int32) (own_more K (by decide) (by decide))  (by decide)
theorem own_empt {s : State} {a : Addr} {a0 : Array Value} {t : Term} {ty : FieldType} (hf : Fit s) (ev : t.eval a0 s none [] s = some (.ref a)) (w1 : (Cond.arrayOf t ty).value a0 s none s [] = some true) (w2 : (Cond.eq (.length t) (.int (0 : Int32))).value a0 s none s [] = some true) : ∃ k, Arv s s.heap a k ty (0 : Int32) [] .null := by
  obtain ⟨c, A⟩ := Arr.start ev w1
  have hat : s.arrayAt? a = some c := A.fin (Vm.Alike.refl _)
  obtain ⟨z1, z2⟩ := own_lenV ev hat (eqv_i (Term.int_eval (0)) w2)
  exact ⟨c.cls, Arv.start hf A z1 z2 (by decide) rfl trivial⟩

set_option maxRecDepth 65536 in
set_option maxHeartbeats 40000000 in
theorem comes_1 {Post : Tables → Env → Array Value → State → Outcome → State → Prop} (hpost : ∀ tb e args s v u, (limb_1_1.after args s (.returned v) u = true ∧ limb_1_2.after args s (.returned v) u = true ∧ True) → own_End true s (.returned v) u (Jvm.fieldLocs frame_1_writes args s ++ Jvm.arrayLocs frame_1_arrays args s ++ Jvm.staticLocs frame_1_statics s) 88 10112 → Post tb e args s (.returned v) u) :
    ArmFor flags0 classFile x code maxLocals ret World_1 tables_1 room_1 Calls_1 rest_1 Pre_1 Post := by
  intro l hfl _ _ p e ha hc hk s m args below hf hA hF happ hP
  obtain ⟨hcalls, hrest, hpre⟩ := hP
  obtain ⟨-, -, -, hnamed, -, -, -, hat⟩ := (Spec.applies_iff hf).mp happ
  obtain ⟨hg, hn⟩ := and_e (Cond.before_iff.mp (show (Jvm.Cond.and given_1 narrow_1).before args s = true from hpre))
  obtain ⟨g_c, g_r0⟩ := and_e hg
  obtain ⟨g_0, g_r1⟩ := and_e g_r0
  obtain ⟨g_1, g_r2⟩ := and_e g_r1
  obtain ⟨g_2, g_r3⟩ := and_e g_r2
  obtain ⟨w0, w1, w2, w3, rfl⟩ : ∃ w0 w1 w2 w3 : Value, args = #[w0, w1, w2, w3] := by
    have hs : args.size = 4 := by simpa [Cond.value, given_1] using g_c
    obtain ⟨L⟩ := args
    match L, hs with
    | [w0, w1, w2, w3], _ => exact ⟨w0, w1, w2, w3, rfl⟩
  have hw := fun d (hd : d ∈ tables_1) => atoms_spec (ws := Jvm.Cond.code x code maxLocals ret :: tables_1) hat d (List.mem_cons_of_mem _ hd)
  have hfit : Fit s := fun {y c} hc i hi => by
    obtain ⟨ha, rfl⟩ := Array.getElem?_eq_some_iff.mp hc
    have q := List.all_eq_true.mp ((Array.all_eq_true_iff_forall_mem.mp hF) _ (Array.getElem_mem ha)) i (List.mem_range.mpr hi)
    simpa [Array.getElem?_eq_getElem hi] using q
  obtain ⟨hsets, hown0⟩ := atoms_of _ (rest_1_c_eq ▸ (show rest_1_c.before _ s = true from hrest))
  obtain ⟨i0, ei0⟩ := is_v g_0
  obtain rfl : w0 = (.int i0) := Option.some.inj ei0
  obtain ⟨i1, ei1⟩ := is_v g_1
  obtain rfl : w1 = (.int i1) := Option.some.inj ei1
  obtain ⟨i2, ei2⟩ := is_v g_2
  obtain rfl : w2 = (.int i2) := Option.some.inj ei2
  obtain ⟨i3, ei3⟩ := is_v g_r3
  obtain rfl : w3 = (.int i3) := Option.some.inj ei3
  have n5 := not_v (Cond.before_iff.mp (hsets _ (List.mem_of_getElem? (i := 2) rfl)))
  obtain ⟨z1, ez1⟩ := is_v (Cond.before_iff.mp (hsets _ (List.mem_of_getElem? (i := 1) rfl)))
  have S12 : Sta s s.heap "java/lang/String" "COMPACT_STRINGS" "Z" (.int z1) := Sta.start ez1 (Or.inl (hsets _ (List.mem_of_getElem? (i := 0) rfl)))
  have c17 : ¬ (z1 = (0 : Int32)) := gotF (Cond.eq_ints ez1 (Term.int_eval (0))) n5
  obtain ⟨v13, e14, r15⟩ := isR_v (Cond.before_iff.mp (hsets _ (List.mem_of_getElem? (i := 8) rfl)))
  have S16 : Sta s s.heap "jdk/internal/util/Preconditions" "SIOOBE_FORMATTER" "Ljava/util/function/BiFunction;" v13 := Sta.start e14 (Or.inl (hsets _ (List.mem_of_getElem? (i := 7) rfl)))
  have wD := Cond.before_iff.mp (hsets _ (List.mem_of_getElem? (i := 16) rfl))
  obtain ⟨aD, eD⟩ := exa_v wD
  have SDc := Sta.start eD (Or.inr ⟨(own_w hw 61 rfl), hsets _ (List.mem_of_getElem? (i := 11) rfl)⟩)
  obtain ⟨kD, AD⟩ := own_empt hfit eD (Cond.before_iff.mp (hsets _ (List.mem_of_getElem? (i := 15) rfl))) (Cond.before_iff.mp (hsets _ (List.mem_of_getElem? (i := 17) rfl)))
  have wM := Cond.before_iff.mp (hsets _ (List.mem_of_getElem? (i := 20) rfl))
  obtain ⟨aM, eM⟩ := exa_v wM
  have SM := Sta.start eM (Or.inl (hsets _ (List.mem_of_getElem? (i := 19) rfl)))
  have wL := Cond.before_iff.mp (hsets _ (List.mem_of_getElem? (i := 26) rfl))
  obtain ⟨aL, eL⟩ := exa_v wL
  have SL := Sta.start eL (Or.inl (hsets _ (List.mem_of_getElem? (i := 25) rfl)))
  have XL := Exa.start eL wL
  have wE := Cond.before_iff.mp (hsets _ (List.mem_of_getElem? (i := 31) rfl))
  obtain ⟨aE, eE⟩ := exa_v wE
  have FE := Fld.start (Z := s) (show s.fieldOf? aL "java/util/ImmutableCollections$ListN" "elements" "[Ljava/lang/Object;" = some (.ref aE) by have q := eE; have q2 := eL; simp only [Term.eval] at q q2; rw [q2] at q; exact q)
  obtain ⟨kE, AE⟩ := own_empt hfit eE (Cond.before_iff.mp (hsets _ (List.mem_of_getElem? (i := 30) rfl))) (Cond.before_iff.mp (hsets _ (List.mem_of_getElem? (i := 32) rfl)))
  obtain ⟨cK, kK, mr, g1, g2, g3⟩ := hcalls.1
  have MRo : own_Mir s "[Ljava/lang/Object;" mr := ⟨cK, kK, g1, g2, g3.1⟩
  have hEW : EW s _ consts_1 := (EW.cons (own_w hw 224 rfl) (by decide +kernel) (EW.cons (own_w hw 362 rfl) (by decide +kernel) (EW.cons (own_w hw 393 rfl) (by decide +kernel) (EW.cons (own_w hw 444 rfl) (by decide +kernel) (EW.cons (own_w hw 3 rfl) (by decide +kernel) (EW.cons (own_w hw 363 rfl) (by decide +kernel) (EW.cons (own_w hw 484 rfl) (by decide +kernel) (EW.cons (own_w hw 349 rfl) (by decide +kernel) (EW.cons (own_w hw 374 rfl) (by decide +kernel) EW.nil)))))))))
  have hCH : CHv s consts_1 s.vm s.heap := CHv.start hEW (fun p hp => hcalls.2.1 p hp) (hsets _ (List.mem_of_getElem? (i := 2) rfl)) (own_w hw 6 rfl) (own_w hw 5 rfl)
  obtain ⟨n, o, h1, h2, h3, v, L, rfl, rfl, hKp, N, hCH, hE⟩ := rm_law l s _ hw tables_1 s.heap i0 i1 i2 i3 z1 S12 c17 v13 S16 r15 aD SDc kD AD aM SM aL SL XL aE FE kE AE mr MRo p e ha hc hk s m _ below hf ((Spec.applies_iff_loose hf).mp happ).1 ⟨rfl, State.Warmed39.refl s, rfl, ⟨Nat.le_refl _, fun _ _ q => q⟩, hEW, hCH, fun _ q => nomatch q⟩ (fun q => by cases q)
  refine ⟨n, _, h1, h2, h3, hpost _ _ _ _ _ _ ⟨Cond.after_iff.mpr rfl, Cond.after_iff.mpr (eq_i res_at (Term.int_eval (1)) rfl), trivial⟩ ⟨fun _ => ⟨(hE.1 rfl).1, (hE.1 rfl).2.1, (hE.1 rfl).2.2.1, ((hE.1 rfl).2.2.2.sift fun y hy => Or.inr (N y hy)).mono (by decide) (by decide)⟩, (fun q => by cases q)⟩⟩
theorem main_1_1 : Claimed_1_1 := comes_1 fun _ _ _ _ _ _ h hF => ⟨h.1, hF.1 rfl⟩
theorem main_1_2 : Claimed_1_2 := comes_1 fun _ _ _ _ _ _ h hF => ⟨h.2.1, hF.1 rfl⟩

end Jvm.Pilot.@@N@@
namespace Jvm.Pilot.@@N@@
open Jvm Jvm.ClassFile Sem Op Lib Jvm.Free Jvm.Stand Jvm.Pilot.@@N@@.Jvm.D
/-! MADE BY PROGRAM (witnessworld.py) out of the Statement's table words and the real class files: 49 classes; the members and pool entries that the words name. The judged class is class 1, her method 4. -/
namespace start1
open Jvm.ClassFile
def u (s : String) : CpInfo := .utf8 (stringToUtf16 s)
/-- a pool by its gaps: so many unusable entries, then the entry; so many at the end -/
def gap : Nat → List CpInfo → List CpInfo
  | 0, r => r
  | n + 1, r => .unusable :: gap n r
def poolList (es : List (Nat × CpInfo)) (last : Nat) : List CpInfo := es.foldr (fun e r => gap e.1 (e.2 :: r)) (gap last [])
def pool (es : List (Nat × CpInfo)) (last : Nat) : Array CpInfo := ⟨poolList es last⟩
def fileOf (pool : Array CpInfo) (this : Nat) (attrs : Array Attribute := #[]) (ms : Array MethodInfo := #[]) (fl : Nat := 33) (sup : Nat := 0) (ifs : Array Nat := #[]) (fds : Array FieldInfo := #[]) : ClassFile where
  minorVersion := 0
  majorVersion := 65
  constantPool := pool
  accessFlags := fl
  thisClass := this
  superClass := sup
  interfaces := ifs
  fields := fds
  methods := ms
  attributes := attrs
def plain (name : String) (sup : Option ClassId) : Class where
  name := name
  kind := .ordinary
  loader := none
  accessFlags := 33
  super := sup
  interfaces := #[]
  cf := none
  fields := #[]
  methods := #[]
  instanceTypes := #[]
  staticTypes := #[]
  resolved := #[]
  callSites := []
  init := .initialized
  statics := none
  mirror := none

def pool0 : Array CpInfo := pool [(5, u "<init>"), (0, u "()V"), (1, .class_ 10), (1, u "java/lang/Object"), (0, u "getClass"), (0, u "()Ljava/lang/Class;")] 111

def k0c0 : Code := { maxStack := 0, maxLocals := 1, code := object_method_1_code, exceptionTable := #[], attributes := #[] }
def k0m0 : Method := { name := "<init>", desc := "()V", sig := { parameters := [], returnType := none }, accessFlags := 1, code := some k0c0 }
def k0m1 : Method := { name := "getClass", desc := "()Ljava/lang/Class;", sig := { parameters := [], returnType := some (.object "java/lang/Class") }, accessFlags := 273, code := none }
/-- java/lang/Object -/
def k0 : Class := { plain "java/lang/Object" none with
  accessFlags := 33
  interfaces := #[]
  cf := some (fileOf pool0 8 #[] #[{ accessFlags := 1, nameIndex := 5, descriptorIndex := 6, attributes := #[] }, { accessFlags := 273, nameIndex := 11, descriptorIndex := 12, attributes := #[] }] 33 0 #[] #[])
  fields := #[]
  methods := #[k0m0, k0m1]
  instanceTypes := #[]
  staticTypes := #[]
  resolved := Array.replicate 124 none
  statics := none }

def pool1 : Array CpInfo := pool [(2, .class_ 4), (0, .nameAndType 5 6), (0, u "java/lang/Object"), (0, u "<init>"), (0, u "()V"), (0, .class_ 8), (0, u "java/lang/String"), (0, .methodref 7 10), (0, .nameAndType 5 11), (0, u "([C)V"), (0, .class_ 13), (0, u "java/util/ArrayList"), (0, .methodref 12 3), (0, .methodref 12 16), (0, .nameAndType 17 18), (0, u "add"), (0, u "(Ljava/lang/Object;)Z"), (0, .class_ 20), (0, u "com/example/regalwerk/regalwerk/ControlField"), (0, .string 22), (0, u "001"), (0, .methodref 19 24), (0, .nameAndType 5 25), (0, u "(Ljava/lang/String;Ljava/lang/String;)V"), (0, .class_ 27), (0, u "com/example/regalwerk/regalwerk/MarcRecord"), (0, .methodref 29 30), (0, .class_ 31), (0, .nameAndType 32 33), (0, u "com/example/regalwerk/regalwerk/HoldingsLinkerDeletionPinLaw"), (0, u "leader"), (0, u "(ZC)Ljava/lang/String;"), (0, .methodref 29 35), (0, .nameAndType 36 37), (0, u "fields"), (0, u "(ZLjava/lang/Object;)Ljava/util/ArrayList;"), (0, .methodref 26 39), (0, .nameAndType 5 40), (0, u "(Ljava/lang/String;Ljava/util/List;)V"), (0, .class_ 42), (0, u "com/example/regalwerk/regalwerk/HoldingsLinker"), (0, .methodref 41 3), (0, .methodref 41 45), (0, .nameAndType 46 47), (0, u "title"), (0, u "(Lcom/example/regalwerk/regalwerk/MarcRecord;Lcom/example/regalwerk/regalwerk/SruCollection;)V"), (0, .methodref 41 49), (0, .nameAndType 50 51), (0, u "deletion"), (0, u "(Lcom/example/regalwerk/regalwerk/MarcRecord;Z)Ljava/lang/String;"), (0, .string 53), (0, u "leader position 05 \"d\" marks it deleted"), (0, .methodref 29 55), (0, .nameAndType 56 57), (0, u "titleClause"), (0, u "(CC)Ljava/lang/String;"), (0, .string 59), (0, u "leader position 05 \"d\" marks its title (no 001) deleted"), (0, .methodref 7 61), (0, .nameAndType 62 18), (0, u "equals"), (5, u "law"), (0, u "(IIII)Z")] 2

def k1m0 : Method := { name := "<init>", desc := "()V", sig := { parameters := [], returnType := none }, accessFlags := 1, code := none }
def k1c1 : Code := { maxStack := 6, maxLocals := 2, code := method_2_code, exceptionTable := #[], attributes := #[] }
def k1m1 : Method := { name := "leader", desc := "(ZC)Ljava/lang/String;", sig := { parameters := [.boolean, .char], returnType := some (.object "java/lang/String") }, accessFlags := 10, code := some k1c1 }
def k1c2 : Code := { maxStack := 2, maxLocals := 3, code := method_3_code, exceptionTable := #[], attributes := #[] }
def k1m2 : Method := { name := "fields", desc := "(ZLjava/lang/Object;)Ljava/util/ArrayList;", sig := { parameters := [.boolean, (.object "java/lang/Object")], returnType := some (.object "java/util/ArrayList") }, accessFlags := 10, code := some k1c2 }
def k1c3 : Code := { maxStack := 6, maxLocals := 2, code := method_4_code, exceptionTable := #[], attributes := #[] }
def k1m3 : Method := { name := "titleClause", desc := "(CC)Ljava/lang/String;", sig := { parameters := [.char, .char], returnType := some (.object "java/lang/String") }, accessFlags := 10, code := some k1c3 }
def k1c4 : Code := { maxStack := 9, maxLocals := 21, code := code, exceptionTable := #[], attributes := #[] }
def k1m4 : Method := { name := "law", desc := "(IIII)Z", sig := { parameters := [.int, .int, .int, .int], returnType := some .boolean }, accessFlags := 9, code := some k1c4 }
/-- com/example/regalwerk/regalwerk/HoldingsLinkerDeletionPinLaw -/
def k1 : Class := { plain "com/example/regalwerk/regalwerk/HoldingsLinkerDeletionPinLaw" (some 0) with
  accessFlags := 49
  interfaces := #[]
  cf := some (fileOf pool1 29 #[] #[{ accessFlags := 1, nameIndex := 5, descriptorIndex := 6, attributes := #[] }, { accessFlags := 10, nameIndex := 32, descriptorIndex := 33, attributes := #[] }, { accessFlags := 10, nameIndex := 36, descriptorIndex := 37, attributes := #[] }, { accessFlags := 10, nameIndex := 56, descriptorIndex := 57, attributes := #[] }, { accessFlags := 9, nameIndex := 68, descriptorIndex := 69, attributes := #[] }] 49 2 #[] #[])
  fields := #[]
  methods := #[k1m0, k1m1, k1m2, k1m3, k1m4]
  instanceTypes := #[]
  staticTypes := #[]
  resolved := Array.replicate 72 none
  statics := none }

def pool2 : Array CpInfo := pool [(1, .methodref 2 3), (0, .class_ 4), (0, .nameAndType 5 6), (0, u "java/lang/Object"), (0, u "<init>"), (0, u "()V"), (0, .class_ 8), (0, u "java/lang/Record")] 13

def k2c0 : Code := { maxStack := 1, maxLocals := 1, code := jdk_30_method_1_code, exceptionTable := #[], attributes := #[] }
def k2m0 : Method := { name := "<init>", desc := "()V", sig := { parameters := [], returnType := none }, accessFlags := 4, code := some k2c0 }
/-- java/lang/Record -/
def k2 : Class := { plain "java/lang/Record" (some 0) with
  accessFlags := 1057
  interfaces := #[]
  cf := some (fileOf pool2 7 #[] #[{ accessFlags := 4, nameIndex := 5, descriptorIndex := 6, attributes := #[] }] 1057 2 #[] #[])
  fields := #[]
  methods := #[k2m0]
  instanceTypes := #[]
  staticTypes := #[]
  resolved := Array.replicate 22 none
  statics := none }

def pool3 : Array CpInfo := pool [(1, .class_ 2), (0, u "com/example/regalwerk/regalwerk/Field"), (0, .class_ 4), (0, u "java/lang/Object")] 9

/-- com/example/regalwerk/regalwerk/Field -/
def k3 : Class := { plain "com/example/regalwerk/regalwerk/Field" (some 0) with
  accessFlags := 1536
  interfaces := #[]
  cf := some (fileOf pool3 1 #[] #[] 1536 3 #[] #[])
  fields := #[]
  methods := #[]
  instanceTypes := #[]
  staticTypes := #[]
  resolved := Array.replicate 14 none
  statics := none }

def pool4 : Array CpInfo := pool [(1, .methodref 2 3), (0, .class_ 4), (0, .nameAndType 5 6), (0, u "java/lang/Record"), (0, u "<init>"), (0, u "()V"), (0, .fieldref 8 9), (0, .class_ 10), (0, .nameAndType 11 12), (0, u "com/example/regalwerk/regalwerk/ControlField"), (0, u "tag"), (0, u "Ljava/lang/String;"), (0, .fieldref 8 14), (0, .nameAndType 15 12), (0, u "value"), (12, .class_ 29), (0, u "com/example/regalwerk/regalwerk/Field"), (0, u "(Ljava/lang/String;Ljava/lang/String;)V"), (3, u "()Ljava/lang/String;")] 23

def k4c0 : Code := { maxStack := 2, maxLocals := 3, code := prog_3_method_1_code, exceptionTable := #[], attributes := #[] }
def k4m0 : Method := { name := "<init>", desc := "(Ljava/lang/String;Ljava/lang/String;)V", sig := { parameters := [(.object "java/lang/String"), (.object "java/lang/String")], returnType := none }, accessFlags := 0, code := some k4c0 }
def k4c1 : Code := { maxStack := 1, maxLocals := 1, code := prog_3_method_5_code, exceptionTable := #[], attributes := #[] }
def k4m1 : Method := { name := "tag", desc := "()Ljava/lang/String;", sig := { parameters := [], returnType := some (.object "java/lang/String") }, accessFlags := 1, code := some k4c1 }
def k4c2 : Code := { maxStack := 1, maxLocals := 1, code := prog_3_method_6_code, exceptionTable := #[], attributes := #[] }
def k4m2 : Method := { name := "value", desc := "()Ljava/lang/String;", sig := { parameters := [], returnType := some (.object "java/lang/String") }, accessFlags := 1, code := some k4c2 }
/-- com/example/regalwerk/regalwerk/ControlField -/
def k4 : Class := { plain "com/example/regalwerk/regalwerk/ControlField" (some 2) with
  accessFlags := 48
  interfaces := #[3]
  cf := some (fileOf pool4 8 #[] #[{ accessFlags := 0, nameIndex := 5, descriptorIndex := 30, attributes := #[] }, { accessFlags := 1, nameIndex := 11, descriptorIndex := 34, attributes := #[] }, { accessFlags := 1, nameIndex := 15, descriptorIndex := 34, attributes := #[] }] 48 2 #[28] #[{ accessFlags := 18, nameIndex := 11, descriptorIndex := 12, attributes := #[] }, { accessFlags := 18, nameIndex := 15, descriptorIndex := 12, attributes := #[] }])
  fields := #[{ name := "tag", type := (.object "java/lang/String"), accessFlags := 18, slot := 0, constantValue := 0 }, { name := "value", type := (.object "java/lang/String"), accessFlags := 18, slot := 1, constantValue := 0 }]
  methods := #[k4m0, k4m1, k4m2]
  instanceTypes := #[(.object "java/lang/String"), (.object "java/lang/String")]
  staticTypes := #[]
  resolved := Array.replicate 58 none
  statics := none }

def pool5 : Array CpInfo := pool [(1, .class_ 2), (0, u "java/io/Serializable"), (0, .class_ 4), (0, u "java/lang/Object")] 2

/-- java/io/Serializable -/
def k5 : Class := { plain "java/io/Serializable" (some 0) with
  accessFlags := 1537
  interfaces := #[]
  cf := some (fileOf pool5 1 #[] #[] 1537 3 #[] #[])
  fields := #[]
  methods := #[]
  instanceTypes := #[]
  staticTypes := #[]
  resolved := Array.replicate 7 none
  statics := none }

def pool6 : Array CpInfo := pool [(1, .class_ 2), (0, u "java/lang/Comparable"), (0, .class_ 4), (0, u "java/lang/Object")] 7

/-- java/lang/Comparable -/
def k6 : Class := { plain "java/lang/Comparable" (some 0) with
  accessFlags := 1537
  interfaces := #[]
  cf := some (fileOf pool6 1 #[] #[] 1537 3 #[] #[])
  fields := #[]
  methods := #[]
  instanceTypes := #[]
  staticTypes := #[]
  resolved := Array.replicate 12 none
  statics := none }

def pool7 : Array CpInfo := pool [(2, .class_ 4), (1, u "java/lang/CharSequence"), (42, .class_ 48), (0, u "java/lang/CharSequence$1CodePointIterator"), (10, .class_ 60), (0, u "java/lang/CharSequence$1CharIterator"), (5, .class_ 67), (0, u "java/lang/Object")] 63

/-- java/lang/CharSequence -/
def k7 : Class := { plain "java/lang/CharSequence" (some 0) with
  accessFlags := 1537
  interfaces := #[]
  cf := some (fileOf pool7 2 #[.nestMembers #[47, 59]] #[] 1537 66 #[] #[])
  fields := #[]
  methods := #[]
  instanceTypes := #[]
  staticTypes := #[]
  resolved := Array.replicate 131 none
  statics := none }

def pool8 : Array CpInfo := pool [(1, .class_ 2), (0, u "java/lang/constant/Constable"), (0, .class_ 4), (0, u "java/lang/Object")] 6

/-- java/lang/constant/Constable -/
def k8 : Class := { plain "java/lang/constant/Constable" (some 0) with
  accessFlags := 1537
  interfaces := #[]
  cf := some (fileOf pool8 1 #[] #[] 1537 3 #[] #[])
  fields := #[]
  methods := #[]
  instanceTypes := #[]
  staticTypes := #[]
  resolved := Array.replicate 11 none
  statics := none }

def pool9 : Array CpInfo := pool [(1, .class_ 2), (0, u "java/lang/constant/ConstantDesc"), (0, .class_ 4), (0, u "java/lang/Object")] 32

/-- java/lang/constant/ConstantDesc -/
def k9 : Class := { plain "java/lang/constant/ConstantDesc" (some 0) with
  accessFlags := 1537
  interfaces := #[]
  cf := some (fileOf pool9 1 #[] #[] 1537 3 #[] #[])
  fields := #[]
  methods := #[]
  instanceTypes := #[]
  staticTypes := #[]
  resolved := Array.replicate 37 none
  statics := none }

def pool10 : Array CpInfo := pool [(1, .methodref 2 3), (0, .class_ 4), (0, .nameAndType 5 6), (0, u "java/lang/Object"), (0, u "<init>"), (0, u "()V"), (2, .fieldref 10 11), (0, .class_ 12), (0, .nameAndType 13 14), (0, u "java/lang/String"), (0, u "value"), (0, u "[B"), (0, .fieldref 10 16), (0, .nameAndType 17 18), (0, u "coder"), (0, u "B"), (2, u "hash"), (0, u "I"), (2, u "hashIsZero"), (0, u "Z"), (0, .methodref 10 28), (0, .nameAndType 5 29), (0, u "([CIILjava/lang/Void;)V"), (8, .fieldref 10 39), (0, .nameAndType 40 26), (0, u "COMPACT_STRINGS"), (1, .class_ 44), (1, u "java/lang/StringUTF16"), (0, u "compress"), (1, .methodref 42 48), (0, .nameAndType 49 50), (0, u "coderFromArrayLen"), (0, u "([BI)B"), (3, .methodref 55 56), (0, .class_ 57), (0, .nameAndType 58 59), (0, u "java/util/Arrays"), (0, u "copyOfRange"), (0, u "([BII)[B"), (47, .class_ 109), (1, u "java/lang/StringLatin1"), (32, u "()Z"), (34, .methodref 42 178), (0, .nameAndType 45 179), (0, u "([CII)[B"), (13, .class_ 195), (1, u "java/lang/System"), (16, .methodref 193 213), (0, .nameAndType 214 215), (0, u "arraycopy"), (0, u "(Ljava/lang/Object;ILjava/lang/Object;II)V"), (118, u "()I"), (0, .methodref 10 336), (0, .nameAndType 17 337), (0, u "()B"), (2, u "()[B"), (22, u "([BI)C"), (27, u "(II)V"), (35, u "(I)C"), (61, .methodref 10 490), (0, .nameAndType 5 491), (0, u "(Ljava/lang/AbstractStringBuilder;Ljava/lang/Void;)V"), (0, .methodref 10 493), (0, .nameAndType 494 142), (0, u "isLatin1"), (0, .methodref 107 496), (0, .nameAndType 497 363), (0, u "charAt"), (3, u "checkIndex"), (4, .nameAndType 507 334), (0, u "length"), (24, u "getBytes"), (8, .methodref 107 542), (0, .nameAndType 543 544), (0, u "equals"), (0, u "([B[B)Z"), (4, .methodref 550 506), (0, .class_ 551), (0, u "java/lang/AbstractStringBuilder"), (0, .methodref 550 553), (0, .nameAndType 554 340), (0, u "getValue"), (18, u "(Ljava/lang/Object;)Z"), (1, .class_ 576), (0, u "java/lang/CharSequence"), (22, u "CASE_INSENSITIVE_ORDER"), (0, u "Ljava/util/Comparator;"), (220, u "([BIB)V"), (188, u "([C)V"), (36, .methodref 550 493), (5, .fieldref 1054 1055), (0, .class_ 1056), (0, .nameAndType 1057 1058), (0, u "jdk/internal/util/Preconditions"), (0, u "SIOOBE_FORMATTER"), (0, u "Ljava/util/function/BiFunction;"), (0, .methodref 1054 1060), (0, .nameAndType 501 1061), (0, u "(IILjava/util/function/BiFunction;)I"), (39, u "serialPersistentFields"), (0, u "[Ljava/io/ObjectStreamField;"), (0, .class_ 1104), (0, u "java/lang/String$CaseInsensitiveComparator"), (1, .class_ 1107), (0, u "java/io/Serializable"), (0, .class_ 1109), (0, u "java/lang/Comparable"), (0, .class_ 1111), (0, u "java/lang/constant/Constable"), (0, .class_ 1113), (0, u "java/lang/constant/ConstantDesc"), (2, u "serialVersionUID"), (0, u "J"), (3, u "REPL"), (0, u "C"), (2, u "LATIN1"), (1, u "UTF16"), (105, u "(Ljava/lang/StringBuilder;)V")] 217

def k10m0 : Method := { name := "<init>", desc := "()V", sig := { parameters := [], returnType := none }, accessFlags := 1, code := none }
def k10c1 : Code := { maxStack := 5, maxLocals := 2, code := jdk_42_method_3_code, exceptionTable := #[], attributes := #[] }
def k10m1 : Method := { name := "<init>", desc := "([C)V", sig := { parameters := [(.array .char)], returnType := none }, accessFlags := 1, code := some k10c1 }
def k10c2 : Code := { maxStack := 3, maxLocals := 2, code := jdk_42_method_53_code, exceptionTable := #[], attributes := #[] }
def k10m2 : Method := { name := "<init>", desc := "(Ljava/lang/StringBuilder;)V", sig := { parameters := [(.object "java/lang/StringBuilder")], returnType := none }, accessFlags := 1, code := some k10c2 }
def k10c3 : Code := { maxStack := 2, maxLocals := 1, code := jdk_42_method_54_code, exceptionTable := #[], attributes := #[] }
def k10m3 : Method := { name := "length", desc := "()I", sig := { parameters := [], returnType := some .int }, accessFlags := 1, code := some k10c3 }
def k10c4 : Code := { maxStack := 2, maxLocals := 2, code := jdk_42_method_56_code, exceptionTable := #[], attributes := #[] }
def k10m4 : Method := { name := "charAt", desc := "(I)C", sig := { parameters := [.int], returnType := some .char }, accessFlags := 1, code := some k10c4 }
def k10c5 : Code := { maxStack := 2, maxLocals := 3, code := jdk_42_method_66_code, exceptionTable := #[], attributes := #[] }
def k10m5 : Method := { name := "equals", desc := "(Ljava/lang/Object;)Z", sig := { parameters := [(.object "java/lang/Object")], returnType := some .boolean }, accessFlags := 1, code := some k10c5 }
def k10c6 : Code := { maxStack := 5, maxLocals := 4, code := jdk_42_method_147_code, exceptionTable := #[], attributes := #[] }
def k10m6 : Method := { name := "getBytes", desc := "([BIB)V", sig := { parameters := [(.array .byte), .int, .byte], returnType := none }, accessFlags := 0, code := some k10c6 }
def k10c7 : Code := { maxStack := 4, maxLocals := 6, code := jdk_42_method_149_code, exceptionTable := #[], attributes := #[] }
def k10m7 : Method := { name := "<init>", desc := "([CIILjava/lang/Void;)V", sig := { parameters := [(.array .char), .int, .int, (.object "java/lang/Void")], returnType := none }, accessFlags := 2, code := some k10c7 }
def k10c8 : Code := { maxStack := 5, maxLocals := 5, code := jdk_42_method_150_code, exceptionTable := #[], attributes := #[] }
def k10m8 : Method := { name := "<init>", desc := "(Ljava/lang/AbstractStringBuilder;Ljava/lang/Void;)V", sig := { parameters := [(.object "java/lang/AbstractStringBuilder"), (.object "java/lang/Void")], returnType := none }, accessFlags := 0, code := some k10c8 }
def k10c9 : Code := { maxStack := 1, maxLocals := 1, code := jdk_42_method_152_code, exceptionTable := #[], attributes := #[] }
def k10m9 : Method := { name := "coder", desc := "()B", sig := { parameters := [], returnType := some .byte }, accessFlags := 0, code := some k10c9 }
def k10c10 : Code := { maxStack := 1, maxLocals := 1, code := jdk_42_method_154_code, exceptionTable := #[], attributes := #[] }
def k10m10 : Method := { name := "isLatin1", desc := "()Z", sig := { parameters := [], returnType := some .boolean }, accessFlags := 0, code := some k10c10 }
def k10c11 : Code := { maxStack := 3, maxLocals := 2, code := jdk_42_method_155_code, exceptionTable := #[], attributes := #[] }
def k10m11 : Method := { name := "checkIndex", desc := "(II)V", sig := { parameters := [.int, .int], returnType := none }, accessFlags := 8, code := some k10c11 }
/-- java/lang/String -/
def k10 : Class := { plain "java/lang/String" (some 0) with
  accessFlags := 49
  interfaces := #[5, 6, 7, 8, 9]
  cf := some (fileOf pool10 10 #[.nestMembers #[1103]] #[{ accessFlags := 1, nameIndex := 5, descriptorIndex := 6, attributes := #[] }, { accessFlags := 1, nameIndex := 5, descriptorIndex := 1010, attributes := #[] }, { accessFlags := 1, nameIndex := 5, descriptorIndex := 1233, attributes := #[] }, { accessFlags := 1, nameIndex := 507, descriptorIndex := 334, attributes := #[] }, { accessFlags := 1, nameIndex := 497, descriptorIndex := 427, attributes := #[] }, { accessFlags := 1, nameIndex := 543, descriptorIndex := 573, attributes := #[] }, { accessFlags := 0, nameIndex := 532, descriptorIndex := 821, attributes := #[] }, { accessFlags := 2, nameIndex := 5, descriptorIndex := 29, attributes := #[] }, { accessFlags := 0, nameIndex := 5, descriptorIndex := 491, attributes := #[] }, { accessFlags := 0, nameIndex := 17, descriptorIndex := 337, attributes := #[] }, { accessFlags := 0, nameIndex := 494, descriptorIndex := 142, attributes := #[] }, { accessFlags := 8, nameIndex := 501, descriptorIndex := 391, attributes := #[] }] 49 2 #[1106, 1108, 575, 1110, 1112] #[{ accessFlags := 18, nameIndex := 13, descriptorIndex := 14, attributes := #[] }, { accessFlags := 18, nameIndex := 17, descriptorIndex := 18, attributes := #[] }, { accessFlags := 2, nameIndex := 21, descriptorIndex := 22, attributes := #[] }, { accessFlags := 2, nameIndex := 25, descriptorIndex := 26, attributes := #[] }, { accessFlags := 26, nameIndex := 1116, descriptorIndex := 1117, attributes := #[] }, { accessFlags := 24, nameIndex := 40, descriptorIndex := 26, attributes := #[] }, { accessFlags := 26, nameIndex := 1101, descriptorIndex := 1102, attributes := #[] }, { accessFlags := 26, nameIndex := 1121, descriptorIndex := 1122, attributes := #[] }, { accessFlags := 25, nameIndex := 599, descriptorIndex := 600, attributes := #[] }, { accessFlags := 24, nameIndex := 1125, descriptorIndex := 18, attributes := #[] }, { accessFlags := 24, nameIndex := 1127, descriptorIndex := 18, attributes := #[] }])
  fields := #[{ name := "value", type := (.array .byte), accessFlags := 18, slot := 0, constantValue := 0 }, { name := "coder", type := .byte, accessFlags := 18, slot := 1, constantValue := 0 }, { name := "hash", type := .int, accessFlags := 2, slot := 2, constantValue := 0 }, { name := "hashIsZero", type := .boolean, accessFlags := 2, slot := 3, constantValue := 0 }, { name := "serialVersionUID", type := .long, accessFlags := 26, slot := 0, constantValue := 0 }, { name := "COMPACT_STRINGS", type := .boolean, accessFlags := 24, slot := 1, constantValue := 0 }, { name := "serialPersistentFields", type := (.array (.object "java/io/ObjectStreamField")), accessFlags := 26, slot := 2, constantValue := 0 }, { name := "REPL", type := .char, accessFlags := 26, slot := 3, constantValue := 0 }, { name := "CASE_INSENSITIVE_ORDER", type := (.object "java/util/Comparator"), accessFlags := 25, slot := 4, constantValue := 0 }, { name := "LATIN1", type := .byte, accessFlags := 24, slot := 5, constantValue := 0 }, { name := "UTF16", type := .byte, accessFlags := 24, slot := 6, constantValue := 0 }]
  methods := #[k10m0, k10m1, k10m2, k10m3, k10m4, k10m5, k10m6, k10m7, k10m8, k10m9, k10m10, k10m11]
  instanceTypes := #[(.array .byte), .byte, .int, .boolean]
  staticTypes := #[.long, .boolean, (.array (.object "java/io/ObjectStreamField")), .char, (.object "java/util/Comparator"), .byte, .byte]
  resolved := Array.replicate 1451 none
  statics := some 0 }

def pool11 : Array CpInfo := pool [(6, .class_ 8), (1, u "java/lang/Object"), (0, u "<init>"), (0, u "()V"), (1, .class_ 14), (1, u "java/lang/StringUTF16"), (31, u "$assertionsDisabled"), (0, u "Z"), (13, u "HI_BYTE_SHIFT"), (0, u "I"), (2, u "LO_BYTE_SHIFT"), (49, .methodref 12 116), (0, .nameAndType 117 118), (0, u "compress"), (0, u "([CI[BII)I"), (3, u "([CII)[B"), (138, u "coderFromArrayLen"), (0, u "([BI)B"), (106, .class_ 371), (1, u "java/lang/StringUTF16$LinesSpliterator"), (58, u "MAX_LENGTH"), (196, .class_ 628), (0, u "java/lang/StringUTF16$CodePointsSpliterator"), (0, .class_ 630), (0, u "java/lang/StringUTF16$CharsSpliterator")] 4

def k11m0 : Method := { name := "<init>", desc := "()V", sig := { parameters := [], returnType := none }, accessFlags := 0, code := none }
def k11c1 : Code := { maxStack := 2, maxLocals := 2, code := jdk_52_method_15_code, exceptionTable := #[], attributes := #[] }
def k11m1 : Method := { name := "coderFromArrayLen", desc := "([BI)B", sig := { parameters := [(.array .byte), .int], returnType := some .byte }, accessFlags := 8, code := some k11c1 }
def k11c2 : Code := { maxStack := 5, maxLocals := 6, code := jdk_52_method_16_code, exceptionTable := #[], attributes := #[] }
def k11m2 : Method := { name := "compress", desc := "([CII)[B", sig := { parameters := [(.array .char), .int, .int], returnType := some (.array .byte) }, accessFlags := 9, code := some k11c2 }
def k11c3 : Code := { maxStack := 3, maxLocals := 7, code := jdk_52_method_21_code, exceptionTable := #[], attributes := #[] }
def k11m3 : Method := { name := "compress", desc := "([CI[BII)I", sig := { parameters := [(.array .char), .int, (.array .byte), .int, .int], returnType := some .int }, accessFlags := 9, code := some k11c3 }
/-- java/lang/StringUTF16 -/
def k11 : Class := { plain "java/lang/StringUTF16" (some 0) with
  accessFlags := 48
  interfaces := #[]
  cf := some (fileOf pool11 12 #[.nestMembers #[627, 629, 369]] #[{ accessFlags := 0, nameIndex := 9, descriptorIndex := 10, attributes := #[] }, { accessFlags := 8, nameIndex := 261, descriptorIndex := 262, attributes := #[] }, { accessFlags := 9, nameIndex := 117, descriptorIndex := 122, attributes := #[] }, { accessFlags := 9, nameIndex := 117, descriptorIndex := 118, attributes := #[] }] 48 6 #[] #[{ accessFlags := 26, nameIndex := 61, descriptorIndex := 62, attributes := #[] }, { accessFlags := 26, nameIndex := 65, descriptorIndex := 62, attributes := #[] }, { accessFlags := 24, nameIndex := 430, descriptorIndex := 62, attributes := #[] }, { accessFlags := 4120, nameIndex := 46, descriptorIndex := 47, attributes := #[] }])
  fields := #[{ name := "HI_BYTE_SHIFT", type := .int, accessFlags := 26, slot := 0, constantValue := 0 }, { name := "LO_BYTE_SHIFT", type := .int, accessFlags := 26, slot := 1, constantValue := 0 }, { name := "MAX_LENGTH", type := .int, accessFlags := 24, slot := 2, constantValue := 0 }, { name := "$assertionsDisabled", type := .boolean, accessFlags := 4120, slot := 3, constantValue := 0 }]
  methods := #[k11m0, k11m1, k11m2, k11m3]
  instanceTypes := #[]
  staticTypes := #[.int, .int, .int, .boolean]
  resolved := Array.replicate 635 none
  statics := none }

def pool12 : Array CpInfo := pool [(1, .methodref 2 3), (0, .class_ 4), (0, .nameAndType 5 6), (0, u "java/lang/Record"), (0, u "<init>"), (0, u "()V"), (0, .interfaceMethodref 8 9), (0, .class_ 10), (0, .nameAndType 11 12), (0, u "java/util/List"), (0, u "copyOf"), (0, u "(Ljava/util/Collection;)Ljava/util/List;"), (0, .fieldref 14 15), (0, .class_ 16), (0, .nameAndType 17 18), (0, u "com/example/regalwerk/regalwerk/MarcRecord"), (0, u "leader"), (0, u "Ljava/lang/String;"), (0, .fieldref 14 20), (0, .nameAndType 21 22), (0, u "fields"), (0, u "Ljava/util/List;"), (0, .methodref 24 25), (0, .class_ 26), (0, .nameAndType 27 28), (0, u "java/lang/String"), (0, u "length"), (0, u "()I"), (2, .methodref 24 32), (0, .nameAndType 33 34), (0, u "charAt"), (0, u "(I)C"), (4, .interfaceMethodref 8 40), (0, .nameAndType 41 42), (0, u "iterator"), (0, u "()Ljava/util/Iterator;"), (0, .interfaceMethodref 44 45), (0, .class_ 46), (0, .nameAndType 47 48), (0, u "java/util/Iterator"), (0, u "hasNext"), (0, u "()Z"), (0, .interfaceMethodref 44 50), (0, .nameAndType 51 52), (0, u "next"), (0, u "()Ljava/lang/Object;"), (0, .class_ 54), (0, u "com/example/regalwerk/regalwerk/Field"), (0, .class_ 56), (0, u "com/example/regalwerk/regalwerk/ControlField"), (0, .methodref 55 58), (0, .nameAndType 59 60), (0, u "tag"), (0, u "()Ljava/lang/String;"), (0, .methodref 24 62), (0, .nameAndType 63 64), (0, u "equals"), (0, u "(Ljava/lang/Object;)Z"), (0, .methodref 55 66), (0, .nameAndType 67 60), (0, u "value"), (9, .string 78), (0, u "001"), (0, .methodref 14 80), (0, .nameAndType 81 82), (0, u "controlField"), (0, u "(Ljava/lang/String;)Ljava/lang/String;"), (0, .string 84), (0, u "(no 001)"), (13, u "HOLDINGS_TYPES"), (1, u "DELETED"), (0, u "C"), (1, u "(Ljava/lang/String;Ljava/util/List;)V"), (6, u "isDeleted"), (3, u "id")] 23

def k12c0 : Code := { maxStack := 2, maxLocals := 3, code := prog_28_method_1_code, exceptionTable := #[], attributes := #[] }
def k12m0 : Method := { name := "<init>", desc := "(Ljava/lang/String;Ljava/util/List;)V", sig := { parameters := [(.object "java/lang/String"), (.object "java/util/List")], returnType := none }, accessFlags := 0, code := some k12c0 }
def k12c1 : Code := { maxStack := 2, maxLocals := 1, code := prog_28_method_3_code, exceptionTable := #[], attributes := #[] }
def k12m1 : Method := { name := "isDeleted", desc := "()Z", sig := { parameters := [], returnType := some .boolean }, accessFlags := 0, code := some k12c1 }
def k12c2 : Code := { maxStack := 2, maxLocals := 5, code := prog_28_method_4_code, exceptionTable := #[], attributes := #[] }
def k12m2 : Method := { name := "controlField", desc := "(Ljava/lang/String;)Ljava/lang/String;", sig := { parameters := [(.object "java/lang/String")], returnType := some (.object "java/lang/String") }, accessFlags := 0, code := some k12c2 }
def k12c3 : Code := { maxStack := 2, maxLocals := 2, code := prog_28_method_6_code, exceptionTable := #[], attributes := #[] }
def k12m3 : Method := { name := "id", desc := "()Ljava/lang/String;", sig := { parameters := [], returnType := some (.object "java/lang/String") }, accessFlags := 0, code := some k12c3 }
/-- com/example/regalwerk/regalwerk/MarcRecord -/
def k12 : Class := { plain "com/example/regalwerk/regalwerk/MarcRecord" (some 2) with
  accessFlags := 48
  interfaces := #[]
  cf := some (fileOf pool12 14 #[] #[{ accessFlags := 0, nameIndex := 5, descriptorIndex := 103, attributes := #[] }, { accessFlags := 0, nameIndex := 110, descriptorIndex := 48, attributes := #[] }, { accessFlags := 0, nameIndex := 81, descriptorIndex := 82, attributes := #[] }, { accessFlags := 0, nameIndex := 114, descriptorIndex := 60, attributes := #[] }] 48 2 #[] #[{ accessFlags := 18, nameIndex := 17, descriptorIndex := 18, attributes := #[] }, { accessFlags := 18, nameIndex := 21, descriptorIndex := 22, attributes := #[] }, { accessFlags := 26, nameIndex := 98, descriptorIndex := 18, attributes := #[] }, { accessFlags := 24, nameIndex := 100, descriptorIndex := 101, attributes := #[] }])
  fields := #[{ name := "leader", type := (.object "java/lang/String"), accessFlags := 18, slot := 0, constantValue := 0 }, { name := "fields", type := (.object "java/util/List"), accessFlags := 18, slot := 1, constantValue := 0 }, { name := "HOLDINGS_TYPES", type := (.object "java/lang/String"), accessFlags := 26, slot := 0, constantValue := 0 }, { name := "DELETED", type := .char, accessFlags := 24, slot := 1, constantValue := 0 }]
  methods := #[k12m0, k12m1, k12m2, k12m3]
  instanceTypes := #[(.object "java/lang/String"), (.object "java/util/List")]
  staticTypes := #[(.object "java/lang/String"), .char]
  resolved := Array.replicate 138 none
  statics := none }

def pool13 : Array CpInfo := pool [(8, .class_ 10), (1, u "java/lang/Iterable"), (24, .class_ 36), (0, u "java/lang/Object")] 25

/-- java/lang/Iterable -/
def k13 : Class := { plain "java/lang/Iterable" (some 0) with
  accessFlags := 1537
  interfaces := #[]
  cf := some (fileOf pool13 8 #[] #[] 1537 35 #[] #[])
  fields := #[]
  methods := #[]
  instanceTypes := #[]
  staticTypes := #[]
  resolved := Array.replicate 62 none
  statics := none }

def pool14 : Array CpInfo := pool [(10, .class_ 12), (1, u "java/util/Collection"), (0, u "toArray"), (16, u "()Z"), (29, .class_ 61), (0, u "java/lang/Object"), (0, .class_ 63), (0, u "java/lang/Iterable"), (2, u "isEmpty"), (3, u "()[Ljava/lang/Object;")] 44

def k14m0 : Method := { name := "isEmpty", desc := "()Z", sig := { parameters := [], returnType := some .boolean }, accessFlags := 1025, code := none }
def k14m1 : Method := { name := "toArray", desc := "()[Ljava/lang/Object;", sig := { parameters := [], returnType := some (.array (.object "java/lang/Object")) }, accessFlags := 1025, code := none }
/-- java/util/Collection -/
def k14 : Class := { plain "java/util/Collection" (some 0) with
  accessFlags := 1537
  interfaces := #[13]
  cf := some (fileOf pool14 10 #[] #[{ accessFlags := 1025, nameIndex := 66, descriptorIndex := 30, attributes := #[] }, { accessFlags := 1025, nameIndex := 13, descriptorIndex := 70, attributes := #[] }] 1537 60 #[62] #[])
  fields := #[]
  methods := #[k14m0, k14m1]
  instanceTypes := #[]
  staticTypes := #[]
  resolved := Array.replicate 115 none
  statics := none }

def pool15 : Array CpInfo := pool [(1, .methodref 2 3), (0, .class_ 4), (0, .nameAndType 5 6), (0, u "java/lang/Object"), (0, u "<init>"), (0, u "()V"), (1, .class_ 10), (1, u "java/util/AbstractCollection"), (0, u "size"), (0, u "()I"), (64, .class_ 78), (0, u "java/util/Collection")] 81

def k15c0 : Code := { maxStack := 1, maxLocals := 1, code := jdk_22_method_1_code, exceptionTable := #[], attributes := #[] }
def k15m0 : Method := { name := "<init>", desc := "()V", sig := { parameters := [], returnType := none }, accessFlags := 4, code := some k15c0 }
def k15m1 : Method := { name := "size", desc := "()I", sig := { parameters := [], returnType := some .int }, accessFlags := 1025, code := none }
/-- java/util/AbstractCollection -/
def k15 : Class := { plain "java/util/AbstractCollection" (some 0) with
  accessFlags := 1057
  interfaces := #[14]
  cf := some (fileOf pool15 8 #[] #[{ accessFlags := 4, nameIndex := 5, descriptorIndex := 6, attributes := #[] }, { accessFlags := 1025, nameIndex := 11, descriptorIndex := 12, attributes := #[] }] 1057 2 #[77] #[])
  fields := #[]
  methods := #[k15m0, k15m1]
  instanceTypes := #[]
  staticTypes := #[]
  resolved := Array.replicate 160 none
  statics := none }

def pool16 : Array CpInfo := pool [(8, .class_ 10), (1, u "java/util/SequencedCollection"), (15, .class_ 27), (0, u "java/lang/Object"), (0, .class_ 29), (0, u "java/util/Collection")] 27

/-- java/util/SequencedCollection -/
def k16 : Class := { plain "java/util/SequencedCollection" (some 0) with
  accessFlags := 1537
  interfaces := #[14]
  cf := some (fileOf pool16 8 #[] #[] 1537 26 #[28] #[])
  fields := #[]
  methods := #[]
  instanceTypes := #[]
  staticTypes := #[]
  resolved := Array.replicate 57 none
  statics := none }

def pool17 : Array CpInfo := pool [(8, .class_ 10), (1, u "java/util/List"), (20, u "(Ljava/lang/Object;)V"), (16, u "<init>"), (26, u "get"), (0, u "(I)Ljava/lang/Object;"), (11, u "of"), (1, .fieldref 91 92), (0, .class_ 93), (0, .nameAndType 94 95), (0, u "java/util/ImmutableCollections"), (0, u "EMPTY_LIST"), (0, u "Ljava/util/ImmutableCollections$ListN;"), (0, .class_ 97), (0, u "java/util/ImmutableCollections$List12"), (0, .methodref 96 99), (0, .nameAndType 48 31), (3, .class_ 104), (0, u "java/lang/Object"), (3, u "([Ljava/lang/Object;)Ljava/util/List;"), (3, .methodref 91 113), (0, .nameAndType 114 115), (0, u "listCopy"), (0, u "(Ljava/util/Collection;)Ljava/util/List;"), (3, u "()Ljava/util/List;"), (0, .class_ 121), (0, u "java/util/SequencedCollection"), (1, u "iterator"), (0, u "()Ljava/util/Iterator;"), (109, u "copyOf")] 16

def k17m0 : Method := { name := "iterator", desc := "()Ljava/util/Iterator;", sig := { parameters := [], returnType := some (.object "java/util/Iterator") }, accessFlags := 1025, code := none }
def k17m1 : Method := { name := "get", desc := "(I)Ljava/lang/Object;", sig := { parameters := [.int], returnType := some (.object "java/lang/Object") }, accessFlags := 1025, code := none }
def k17c2 : Code := { maxStack := 1, maxLocals := 0, code := jdk_40_method_36_code, exceptionTable := #[], attributes := #[] }
def k17m2 : Method := { name := "of", desc := "()Ljava/util/List;", sig := { parameters := [], returnType := some (.object "java/util/List") }, accessFlags := 9, code := some k17c2 }
def k17c3 : Code := { maxStack := 5, maxLocals := 2, code := jdk_40_method_47_code, exceptionTable := #[], attributes := #[] }
def k17m3 : Method := { name := "of", desc := "([Ljava/lang/Object;)Ljava/util/List;", sig := { parameters := [(.array (.object "java/lang/Object"))], returnType := some (.object "java/util/List") }, accessFlags := 137, code := some k17c3 }
def k17c4 : Code := { maxStack := 1, maxLocals := 1, code := jdk_40_method_48_code, exceptionTable := #[], attributes := #[] }
def k17m4 : Method := { name := "copyOf", desc := "(Ljava/util/Collection;)Ljava/util/List;", sig := { parameters := [(.object "java/util/Collection")], returnType := some (.object "java/util/List") }, accessFlags := 9, code := some k17c4 }
/-- java/util/List -/
def k17 : Class := { plain "java/util/List" (some 0) with
  accessFlags := 1537
  interfaces := #[16]
  cf := some (fileOf pool17 8 #[] #[{ accessFlags := 1025, nameIndex := 123, descriptorIndex := 124, attributes := #[] }, { accessFlags := 1025, nameIndex := 75, descriptorIndex := 76, attributes := #[] }, { accessFlags := 9, nameIndex := 88, descriptorIndex := 119, attributes := #[] }, { accessFlags := 137, nameIndex := 88, descriptorIndex := 108, attributes := #[] }, { accessFlags := 9, nameIndex := 234, descriptorIndex := 115, attributes := #[] }] 1537 103 #[120] #[])
  fields := #[]
  methods := #[k17m0, k17m1, k17m2, k17m3, k17m4]
  instanceTypes := #[]
  staticTypes := #[]
  resolved := Array.replicate 251 none
  statics := none }

def pool18 : Array CpInfo := pool [(1, .methodref 2 3), (0, .class_ 4), (0, .nameAndType 5 6), (0, u "java/util/AbstractCollection"), (0, u "<init>"), (0, u "()V"), (0, .fieldref 8 9), (0, .class_ 10), (0, .nameAndType 11 12), (0, u "java/util/AbstractList"), (0, u "modCount"), (0, u "I"), (64, .class_ 78), (0, u "java/util/AbstractList$Itr"), (3, .class_ 83), (0, u "java/util/AbstractList$ListItr"), (9, .class_ 94), (0, u "java/util/AbstractList$RandomAccessSubList"), (3, .class_ 99), (0, u "java/util/AbstractList$SubList"), (33, .class_ 134), (0, u "java/util/List"), (73, .class_ 209), (0, u "java/util/AbstractList$SubList$1"), (0, .class_ 211), (0, u "java/util/AbstractList$RandomAccessSpliterator")] 6

def k18c0 : Code := { maxStack := 2, maxLocals := 1, code := jdk_39_method_1_code, exceptionTable := #[], attributes := #[] }
def k18m0 : Method := { name := "<init>", desc := "()V", sig := { parameters := [], returnType := none }, accessFlags := 4, code := some k18c0 }
/-- java/util/AbstractList -/
def k18 : Class := { plain "java/util/AbstractList" (some 15) with
  accessFlags := 1057
  interfaces := #[17]
  cf := some (fileOf pool18 8 #[.nestMembers #[93, 98, 208, 210, 82, 77]] #[{ accessFlags := 4, nameIndex := 5, descriptorIndex := 6, attributes := #[] }] 1057 2 #[133] #[{ accessFlags := 132, nameIndex := 11, descriptorIndex := 12, attributes := #[] }])
  fields := #[{ name := "modCount", type := .int, accessFlags := 132, slot := 0, constantValue := 0 }]
  methods := #[k18m0]
  instanceTypes := #[.int]
  staticTypes := #[]
  resolved := Array.replicate 218 none
  statics := none }

def pool19 : Array CpInfo := pool [(1, .class_ 2), (0, u "java/util/RandomAccess"), (0, .class_ 4), (0, u "java/lang/Object")] 2

/-- java/util/RandomAccess -/
def k19 : Class := { plain "java/util/RandomAccess" (some 0) with
  accessFlags := 1537
  interfaces := #[]
  cf := some (fileOf pool19 1 #[] #[] 1537 3 #[] #[])
  fields := #[]
  methods := #[]
  instanceTypes := #[]
  staticTypes := #[]
  resolved := Array.replicate 7 none
  statics := none }

def pool20 : Array CpInfo := pool [(1, .class_ 2), (0, u "java/lang/Cloneable"), (0, .class_ 4), (0, u "java/lang/Object")] 2

/-- java/lang/Cloneable -/
def k20 : Class := { plain "java/lang/Cloneable" (some 0) with
  accessFlags := 1537
  interfaces := #[]
  cf := some (fileOf pool20 1 #[] #[] 1537 3 #[] #[])
  fields := #[]
  methods := #[]
  instanceTypes := #[]
  staticTypes := #[]
  resolved := Array.replicate 7 none
  statics := none }

def pool21 : Array CpInfo := pool [(1, .methodref 2 3), (0, .class_ 4), (0, .nameAndType 5 6), (0, u "java/util/AbstractList"), (0, u "<init>"), (0, u "()V"), (0, .class_ 8), (0, u "java/lang/Object"), (0, .fieldref 10 11), (0, .class_ 12), (0, .nameAndType 13 14), (0, u "java/util/ArrayList"), (0, u "elementData"), (0, u "[Ljava/lang/Object;"), (2, u "EMPTY_ELEMENTDATA"), (21, .fieldref 10 40), (0, .nameAndType 41 14), (0, u "DEFAULTCAPACITY_EMPTY_ELEMENTDATA"), (4, u "toArray"), (0, u "()[Ljava/lang/Object;"), (0, .fieldref 10 49), (0, .nameAndType 50 51), (0, u "size"), (0, u "I"), (6, .class_ 60), (1, u "java/util/Arrays"), (0, u "copyOf"), (1, .fieldref 10 64), (0, .nameAndType 65 51), (0, u "modCount"), (0, .methodref 58 67), (0, .nameAndType 61 68), (0, u "([Ljava/lang/Object;I)[Ljava/lang/Object;"), (0, .methodref 10 70), (0, .nameAndType 71 72), (0, u "grow"), (0, u "(I)[Ljava/lang/Object;"), (6, .methodref 80 81), (0, .class_ 82), (0, .nameAndType 83 84), (0, u "java/lang/Math"), (0, u "max"), (0, u "(II)I"), (11, u "(Ljava/lang/Object;)Z"), (32, .methodref 10 130), (0, .nameAndType 71 47), (0, .methodref 10 132), (0, .nameAndType 133 134), (0, u "add"), (0, u "(Ljava/lang/Object;[Ljava/lang/Object;I)V"), (13, .class_ 149), (0, u "java/util/List"), (23, u "()Z"), (88, .class_ 263), (0, u "java/util/ArrayList$ListItr"), (3, .class_ 268), (0, u "java/util/ArrayList$Itr"), (7, .class_ 277), (0, u "java/util/ArrayList$SubList"), (12, .class_ 291), (0, u "java/util/ArrayList$ArrayListSpliterator"), (37, .class_ 330), (0, u "java/util/RandomAccess"), (0, .class_ 332), (0, u "java/lang/Cloneable"), (0, .class_ 334), (0, u "java/io/Serializable"), (0, u "serialVersionUID"), (0, u "J"), (3, u "DEFAULT_CAPACITY"), (22, u "isEmpty"), (136, .class_ 501), (0, u "java/util/ArrayList$SubList$2"), (0, .class_ 503), (0, u "java/util/ArrayList$SubList$1")] 5

def k21c0 : Code := { maxStack := 2, maxLocals := 1, code := jdk_38_method_2_code, exceptionTable := #[], attributes := #[] }
def k21m0 : Method := { name := "<init>", desc := "()V", sig := { parameters := [], returnType := none }, accessFlags := 1, code := some k21c0 }
def k21c1 : Code := { maxStack := 4, maxLocals := 4, code := jdk_38_method_6_code, exceptionTable := #[], attributes := #[] }
def k21m1 : Method := { name := "grow", desc := "(I)[Ljava/lang/Object;", sig := { parameters := [.int], returnType := some (.array (.object "java/lang/Object")) }, accessFlags := 2, code := some k21c1 }
def k21c2 : Code := { maxStack := 3, maxLocals := 1, code := jdk_38_method_7_code, exceptionTable := #[], attributes := #[] }
def k21m2 : Method := { name := "grow", desc := "()[Ljava/lang/Object;", sig := { parameters := [], returnType := some (.array (.object "java/lang/Object")) }, accessFlags := 2, code := some k21c2 }
def k21c3 : Code := { maxStack := 1, maxLocals := 1, code := jdk_38_method_9_code, exceptionTable := #[], attributes := #[] }
def k21m3 : Method := { name := "isEmpty", desc := "()Z", sig := { parameters := [], returnType := some .boolean }, accessFlags := 1, code := some k21c3 }
def k21c4 : Code := { maxStack := 2, maxLocals := 1, code := jdk_38_method_16_code, exceptionTable := #[], attributes := #[] }
def k21m4 : Method := { name := "toArray", desc := "()[Ljava/lang/Object;", sig := { parameters := [], returnType := some (.array (.object "java/lang/Object")) }, accessFlags := 1, code := some k21c4 }
def k21c5 : Code := { maxStack := 3, maxLocals := 4, code := jdk_38_method_24_code, exceptionTable := #[], attributes := #[] }
def k21m5 : Method := { name := "add", desc := "(Ljava/lang/Object;[Ljava/lang/Object;I)V", sig := { parameters := [(.object "java/lang/Object"), (.array (.object "java/lang/Object")), .int], returnType := none }, accessFlags := 2, code := some k21c5 }
def k21c6 : Code := { maxStack := 4, maxLocals := 2, code := jdk_38_method_25_code, exceptionTable := #[], attributes := #[] }
def k21m6 : Method := { name := "add", desc := "(Ljava/lang/Object;)Z", sig := { parameters := [(.object "java/lang/Object")], returnType := some .boolean }, accessFlags := 1, code := some k21c6 }
/-- java/util/ArrayList -/
def k21 : Class := { plain "java/util/ArrayList" (some 18) with
  accessFlags := 33
  interfaces := #[17, 19, 20, 5]
  cf := some (fileOf pool21 10 #[.nestMembers #[290, 276, 500, 502, 262, 267]] #[{ accessFlags := 1, nameIndex := 5, descriptorIndex := 6, attributes := #[] }, { accessFlags := 2, nameIndex := 71, descriptorIndex := 72, attributes := #[] }, { accessFlags := 2, nameIndex := 71, descriptorIndex := 47, attributes := #[] }, { accessFlags := 1, nameIndex := 363, descriptorIndex := 173, attributes := #[] }, { accessFlags := 1, nameIndex := 46, descriptorIndex := 47, attributes := #[] }, { accessFlags := 2, nameIndex := 133, descriptorIndex := 134, attributes := #[] }, { accessFlags := 1, nameIndex := 133, descriptorIndex := 96, attributes := #[] }] 33 2 #[148, 329, 331, 333] #[{ accessFlags := 26, nameIndex := 335, descriptorIndex := 336, attributes := #[] }, { accessFlags := 26, nameIndex := 340, descriptorIndex := 51, attributes := #[] }, { accessFlags := 26, nameIndex := 17, descriptorIndex := 14, attributes := #[] }, { accessFlags := 26, nameIndex := 41, descriptorIndex := 14, attributes := #[] }, { accessFlags := 128, nameIndex := 13, descriptorIndex := 14, attributes := #[] }, { accessFlags := 2, nameIndex := 50, descriptorIndex := 51, attributes := #[] }])
  fields := #[{ name := "serialVersionUID", type := .long, accessFlags := 26, slot := 0, constantValue := 0 }, { name := "DEFAULT_CAPACITY", type := .int, accessFlags := 26, slot := 1, constantValue := 0 }, { name := "EMPTY_ELEMENTDATA", type := (.array (.object "java/lang/Object")), accessFlags := 26, slot := 2, constantValue := 0 }, { name := "DEFAULTCAPACITY_EMPTY_ELEMENTDATA", type := (.array (.object "java/lang/Object")), accessFlags := 26, slot := 3, constantValue := 0 }, { name := "elementData", type := (.array (.object "java/lang/Object")), accessFlags := 128, slot := 1, constantValue := 0 }, { name := "size", type := .int, accessFlags := 2, slot := 2, constantValue := 0 }]
  methods := #[k21m0, k21m1, k21m2, k21m3, k21m4, k21m5, k21m6]
  instanceTypes := #[.int, (.array (.object "java/lang/Object")), .int]
  staticTypes := #[.long, .int, (.array (.object "java/lang/Object")), (.array (.object "java/lang/Object"))]
  resolved := Array.replicate 509 none
  statics := some 1 }

def pool22 : Array CpInfo := pool [(1, .class_ 2), (0, u "java/lang/Math"), (1, .class_ 6), (1, u "java/lang/Object"), (0, u "<init>"), (0, u "()V"), (89, .class_ 100), (1, u "java/lang/Math$RandomNumberGeneratorHolder"), (71, u "negativeZeroFloatBits"), (0, u "J"), (2, u "negativeZeroDoubleBits"), (21, u "max"), (2, u "min"), (43, u "$assertionsDisabled"), (0, u "Z"), (88, u "(II)I"), (2, u "twoToTheDoubleScaleDown"), (0, u "D"), (4, u "twoToTheDoubleScaleUp"), (9, u "E"), (3, u "PI"), (2, u "TAU"), (2, u "DEGREES_TO_RADIANS"), (0, u "RADIANS_TO_DEGREES")] 94

def k22m0 : Method := { name := "<init>", desc := "()V", sig := { parameters := [], returnType := none }, accessFlags := 2, code := none }
def k22c1 : Code := { maxStack := 2, maxLocals := 2, code := jdk_29_method_65_code, exceptionTable := #[], attributes := #[] }
def k22m1 : Method := { name := "max", desc := "(II)I", sig := { parameters := [.int, .int], returnType := some .int }, accessFlags := 9, code := some k22c1 }
def k22c2 : Code := { maxStack := 2, maxLocals := 2, code := jdk_29_method_69_code, exceptionTable := #[], attributes := #[] }
def k22m2 : Method := { name := "min", desc := "(II)I", sig := { parameters := [.int, .int], returnType := some .int }, accessFlags := 9, code := some k22c2 }
/-- java/lang/Math -/
def k22 : Class := { plain "java/lang/Math" (some 0) with
  accessFlags := 49
  interfaces := #[]
  cf := some (fileOf pool22 1 #[.nestMembers #[98]] #[{ accessFlags := 2, nameIndex := 7, descriptorIndex := 8, attributes := #[] }, { accessFlags := 9, nameIndex := 198, descriptorIndex := 335, attributes := #[] }, { accessFlags := 9, nameIndex := 201, descriptorIndex := 335, attributes := #[] }] 49 4 #[] #[{ accessFlags := 25, nameIndex := 354, descriptorIndex := 339, attributes := #[] }, { accessFlags := 25, nameIndex := 358, descriptorIndex := 339, attributes := #[] }, { accessFlags := 25, nameIndex := 361, descriptorIndex := 339, attributes := #[] }, { accessFlags := 26, nameIndex := 364, descriptorIndex := 339, attributes := #[] }, { accessFlags := 26, nameIndex := 365, descriptorIndex := 339, attributes := #[] }, { accessFlags := 26, nameIndex := 172, descriptorIndex := 173, attributes := #[] }, { accessFlags := 26, nameIndex := 176, descriptorIndex := 173, attributes := #[] }, { accessFlags := 8, nameIndex := 344, descriptorIndex := 339, attributes := #[] }, { accessFlags := 8, nameIndex := 338, descriptorIndex := 339, attributes := #[] }, { accessFlags := 4120, nameIndex := 245, descriptorIndex := 246, attributes := #[] }])
  fields := #[{ name := "E", type := .double, accessFlags := 25, slot := 0, constantValue := 0 }, { name := "PI", type := .double, accessFlags := 25, slot := 1, constantValue := 0 }, { name := "TAU", type := .double, accessFlags := 25, slot := 2, constantValue := 0 }, { name := "DEGREES_TO_RADIANS", type := .double, accessFlags := 26, slot := 3, constantValue := 0 }, { name := "RADIANS_TO_DEGREES", type := .double, accessFlags := 26, slot := 4, constantValue := 0 }, { name := "negativeZeroFloatBits", type := .long, accessFlags := 26, slot := 5, constantValue := 0 }, { name := "negativeZeroDoubleBits", type := .long, accessFlags := 26, slot := 6, constantValue := 0 }, { name := "twoToTheDoubleScaleUp", type := .double, accessFlags := 8, slot := 7, constantValue := 0 }, { name := "twoToTheDoubleScaleDown", type := .double, accessFlags := 8, slot := 8, constantValue := 0 }, { name := "$assertionsDisabled", type := .boolean, accessFlags := 4120, slot := 9, constantValue := 0 }]
  methods := #[k22m0, k22m1, k22m2]
  instanceTypes := #[]
  staticTypes := #[.double, .double, .double, .double, .double, .long, .long, .double, .double, .boolean]
  resolved := Array.replicate 460 none
  statics := none }

def pool23 : Array CpInfo := pool [(2, .class_ 4), (1, u "java/lang/Object"), (0, u "<init>"), (0, u "()V"), (3, .class_ 11), (0, u "java/util/ImmutableCollections$List12"), (0, .class_ 13), (0, u "java/util/ImmutableCollections$ListN"), (3, u "Z"), (0, .class_ 19), (0, u "java/util/List"), (0, .interfaceMethodref 21 22), (0, .class_ 23), (0, .nameAndType 24 25), (0, u "java/util/Collection"), (0, u "isEmpty"), (0, u "()Z"), (0, .interfaceMethodref 18 27), (0, .nameAndType 28 29), (0, u "of"), (0, u "()Ljava/util/List;"), (0, .interfaceMethodref 21 31), (0, .nameAndType 32 33), (0, u "toArray"), (0, u "()[Ljava/lang/Object;"), (0, .interfaceMethodref 18 35), (0, .nameAndType 28 36), (0, u "([Ljava/lang/Object;)Ljava/util/List;"), (10, .class_ 49), (1, u "java/util/ImmutableCollections"), (0, u "$assertionsDisabled"), (5, u "[Ljava/lang/Object;"), (5, u "EMPTY_LIST"), (0, u "Ljava/util/ImmutableCollections$ListN;"), (8, u "EMPTY_LIST_NULLS"), (22, u "SALT32L"), (0, u "J"), (2, u "REVERSE"), (6, u "archivedObjects"), (2, u "EMPTY"), (0, u "Ljava/lang/Object;"), (0, .class_ 112), (0, u "java/util/ImmutableCollections$SetN"), (5, u "EMPTY_SET"), (0, u "Ljava/util/ImmutableCollections$SetN;"), (0, .class_ 121), (0, u "java/util/ImmutableCollections$MapN"), (3, u "EMPTY_MAP"), (0, u "Ljava/util/ImmutableCollections$MapN;"), (4, u "EXPAND_FACTOR"), (0, u "I"), (9, u "listCopy"), (0, u "(Ljava/util/Collection;)Ljava/util/List;"), (25, .class_ 170), (0, u "java/util/ImmutableCollections$MapN$MapNIterator"), (0, .class_ 172), (0, u "java/util/ImmutableCollections$MapN$1"), (0, .class_ 174), (0, u "java/util/ImmutableCollections$Map1"), (0, .class_ 176), (0, u "java/util/ImmutableCollections$AbstractImmutableMap"), (0, .class_ 178), (0, u "java/util/ImmutableCollections$SetN$SetNIterator"), (0, .class_ 180), (0, u "java/util/ImmutableCollections$Set12"), (0, .class_ 182), (0, u "java/util/ImmutableCollections$Set12$1"), (0, .class_ 184), (0, u "java/util/ImmutableCollections$AbstractImmutableSet"), (0, .class_ 186), (0, u "java/util/ImmutableCollections$SubList"), (0, .class_ 188), (0, u "java/util/ImmutableCollections$ListItr"), (0, .class_ 190), (0, u "java/util/ImmutableCollections$AbstractImmutableList"), (0, .class_ 192), (0, u "java/util/ImmutableCollections$AbstractImmutableCollection"), (0, .class_ 194), (0, u "java/util/ImmutableCollections$Access"), (0, .class_ 196), (0, u "java/util/ImmutableCollections$Access$1")] 16

def k23m0 : Method := { name := "<init>", desc := "()V", sig := { parameters := [], returnType := none }, accessFlags := 2, code := none }
def k23c1 : Code := { maxStack := 1, maxLocals := 2, code := jdk_56_method_3_code, exceptionTable := #[], attributes := #[] }
def k23m1 : Method := { name := "listCopy", desc := "(Ljava/util/Collection;)Ljava/util/List;", sig := { parameters := [(.object "java/util/Collection")], returnType := some (.object "java/util/List") }, accessFlags := 8, code := some k23c1 }
/-- java/util/ImmutableCollections -/
def k23 : Class := { plain "java/util/ImmutableCollections" (some 0) with
  accessFlags := 32
  interfaces := #[]
  cf := some (fileOf pool23 47 #[.nestMembers #[120, 169, 171, 173, 175, 111, 177, 179, 181, 183, 12, 10, 185, 187, 189, 191, 193, 195]] #[{ accessFlags := 2, nameIndex := 5, descriptorIndex := 6, attributes := #[] }, { accessFlags := 8, nameIndex := 142, descriptorIndex := 143, attributes := #[] }] 32 2 #[] #[{ accessFlags := 26, nameIndex := 95, descriptorIndex := 96, attributes := #[] }, { accessFlags := 26, nameIndex := 99, descriptorIndex := 17, attributes := #[] }, { accessFlags := 10, nameIndex := 106, descriptorIndex := 56, attributes := #[] }, { accessFlags := 26, nameIndex := 109, descriptorIndex := 110, attributes := #[] }, { accessFlags := 24, nameIndex := 62, descriptorIndex := 63, attributes := #[] }, { accessFlags := 24, nameIndex := 72, descriptorIndex := 63, attributes := #[] }, { accessFlags := 24, nameIndex := 118, descriptorIndex := 119, attributes := #[] }, { accessFlags := 24, nameIndex := 125, descriptorIndex := 126, attributes := #[] }, { accessFlags := 24, nameIndex := 131, descriptorIndex := 132, attributes := #[] }, { accessFlags := 4120, nameIndex := 50, descriptorIndex := 17, attributes := #[] }])
  fields := #[{ name := "SALT32L", type := .long, accessFlags := 26, slot := 0, constantValue := 0 }, { name := "REVERSE", type := .boolean, accessFlags := 26, slot := 1, constantValue := 0 }, { name := "archivedObjects", type := (.array (.object "java/lang/Object")), accessFlags := 10, slot := 2, constantValue := 0 }, { name := "EMPTY", type := (.object "java/lang/Object"), accessFlags := 26, slot := 3, constantValue := 0 }, { name := "EMPTY_LIST", type := (.object "java/util/ImmutableCollections$ListN"), accessFlags := 24, slot := 4, constantValue := 0 }, { name := "EMPTY_LIST_NULLS", type := (.object "java/util/ImmutableCollections$ListN"), accessFlags := 24, slot := 5, constantValue := 0 }, { name := "EMPTY_SET", type := (.object "java/util/ImmutableCollections$SetN"), accessFlags := 24, slot := 6, constantValue := 0 }, { name := "EMPTY_MAP", type := (.object "java/util/ImmutableCollections$MapN"), accessFlags := 24, slot := 7, constantValue := 0 }, { name := "EXPAND_FACTOR", type := .int, accessFlags := 24, slot := 8, constantValue := 0 }, { name := "$assertionsDisabled", type := .boolean, accessFlags := 4120, slot := 9, constantValue := 0 }]
  methods := #[k23m0, k23m1]
  instanceTypes := #[]
  staticTypes := #[.long, .boolean, (.array (.object "java/lang/Object")), (.object "java/lang/Object"), (.object "java/util/ImmutableCollections$ListN"), (.object "java/util/ImmutableCollections$ListN"), (.object "java/util/ImmutableCollections$SetN"), (.object "java/util/ImmutableCollections$MapN"), .int, .boolean]
  resolved := Array.replicate 213 none
  statics := some 2 }

def pool24 : Array CpInfo := pool [(1, .methodref 2 3), (0, .class_ 4), (0, .nameAndType 5 6), (0, u "java/util/AbstractCollection"), (0, u "<init>"), (0, u "()V"), (1, .class_ 10), (1, u "java/util/ImmutableCollections"), (2, .class_ 14), (0, u "java/util/ImmutableCollections$AbstractImmutableCollection")] 41

def k24c0 : Code := { maxStack := 1, maxLocals := 1, code := jdk_47_method_1_code, exceptionTable := #[], attributes := #[] }
def k24m0 : Method := { name := "<init>", desc := "()V", sig := { parameters := [], returnType := none }, accessFlags := 0, code := some k24c0 }
/-- java/util/ImmutableCollections$AbstractImmutableCollection -/
def k24 : Class := { plain "java/util/ImmutableCollections$AbstractImmutableCollection" (some 15) with
  accessFlags := 1056
  interfaces := #[]
  cf := some (fileOf pool24 13 #[.nestHost 8] #[{ accessFlags := 0, nameIndex := 5, descriptorIndex := 6, attributes := #[] }] 1056 2 #[] #[])
  fields := #[]
  methods := #[k24m0]
  instanceTypes := #[]
  staticTypes := #[]
  resolved := Array.replicate 56 none
  statics := none }

def pool25 : Array CpInfo := pool [(1, .methodref 2 3), (0, .class_ 4), (0, .nameAndType 5 6), (0, u "java/util/ImmutableCollections$AbstractImmutableCollection"), (0, u "<init>"), (0, u "()V"), (1, .class_ 10), (1, u "java/util/ImmutableCollections"), (2, .methodref 14 15), (0, .class_ 16), (0, .nameAndType 17 18), (0, u "java/util/ImmutableCollections$AbstractImmutableList"), (0, u "size"), (0, u "()I"), (42, .class_ 62), (0, u "java/util/ImmutableCollections$ListItr"), (0, .methodref 61 64), (0, .nameAndType 5 65), (0, u "(Ljava/util/List;I)V"), (11, .class_ 78), (0, u "java/util/List"), (2, u "iterator"), (0, u "()Ljava/util/Iterator;"), (41, .class_ 125), (0, u "java/util/RandomAccess")] 70

def k25c0 : Code := { maxStack := 1, maxLocals := 1, code := jdk_46_method_1_code, exceptionTable := #[], attributes := #[] }
def k25m0 : Method := { name := "<init>", desc := "()V", sig := { parameters := [], returnType := none }, accessFlags := 0, code := some k25c0 }
def k25c1 : Code := { maxStack := 4, maxLocals := 1, code := jdk_46_method_10_code, exceptionTable := #[], attributes := #[] }
def k25m1 : Method := { name := "iterator", desc := "()Ljava/util/Iterator;", sig := { parameters := [], returnType := some (.object "java/util/Iterator") }, accessFlags := 1, code := some k25c1 }
/-- java/util/ImmutableCollections$AbstractImmutableList -/
def k25 : Class := { plain "java/util/ImmutableCollections$AbstractImmutableList" (some 24) with
  accessFlags := 1056
  interfaces := #[17, 19]
  cf := some (fileOf pool25 14 #[.nestHost 8] #[{ accessFlags := 0, nameIndex := 5, descriptorIndex := 6, attributes := #[] }, { accessFlags := 1, nameIndex := 81, descriptorIndex := 82, attributes := #[] }] 1056 2 #[77, 124] #[])
  fields := #[]
  methods := #[k25m0, k25m1]
  instanceTypes := #[]
  staticTypes := #[]
  resolved := Array.replicate 196 none
  statics := none }

def pool26 : Array CpInfo := pool [(1, .methodref 2 3), (0, .class_ 4), (0, .nameAndType 5 6), (0, u "java/util/ImmutableCollections$AbstractImmutableList"), (0, u "<init>"), (0, u "()V"), (0, .methodref 8 9), (0, .class_ 10), (0, .nameAndType 11 12), (0, u "java/util/Objects"), (0, u "requireNonNull"), (0, u "(Ljava/lang/Object;)Ljava/lang/Object;"), (0, .fieldref 14 15), (0, .class_ 16), (0, .nameAndType 17 18), (0, u "java/util/ImmutableCollections$List12"), (0, u "e0"), (0, u "Ljava/lang/Object;"), (0, .fieldref 20 21), (0, .class_ 22), (0, .nameAndType 23 18), (0, u "java/util/ImmutableCollections"), (0, u "EMPTY"), (0, .fieldref 14 25), (0, .nameAndType 26 18), (0, u "e1"), (24, u "size"), (0, u "()I"), (17, .class_ 71), (0, u "java/io/Serializable"), (4, u "(Ljava/lang/Object;)V"), (13, u "get"), (0, u "(I)Ljava/lang/Object;")] 33

def k26c0 : Code := { maxStack := 2, maxLocals := 2, code := jdk_44_method_1_code, exceptionTable := #[], attributes := #[] }
def k26m0 : Method := { name := "<init>", desc := "(Ljava/lang/Object;)V", sig := { parameters := [(.object "java/lang/Object")], returnType := none }, accessFlags := 0, code := some k26c0 }
def k26c1 : Code := { maxStack := 2, maxLocals := 1, code := jdk_44_method_3_code, exceptionTable := #[], attributes := #[] }
def k26m1 : Method := { name := "size", desc := "()I", sig := { parameters := [], returnType := some .int }, accessFlags := 1, code := some k26c1 }
def k26c2 : Code := { maxStack := 2, maxLocals := 2, code := jdk_44_method_5_code, exceptionTable := #[], attributes := #[] }
def k26m2 : Method := { name := "get", desc := "(I)Ljava/lang/Object;", sig := { parameters := [.int], returnType := some (.object "java/lang/Object") }, accessFlags := 1, code := some k26c2 }
/-- java/util/ImmutableCollections$List12 -/
def k26 : Class := { plain "java/util/ImmutableCollections$List12" (some 25) with
  accessFlags := 48
  interfaces := #[5]
  cf := some (fileOf pool26 14 #[.nestHost 20] #[{ accessFlags := 0, nameIndex := 5, descriptorIndex := 76, attributes := #[] }, { accessFlags := 1, nameIndex := 51, descriptorIndex := 52, attributes := #[] }, { accessFlags := 1, nameIndex := 90, descriptorIndex := 91, attributes := #[] }] 48 2 #[70] #[{ accessFlags := 18, nameIndex := 17, descriptorIndex := 18, attributes := #[] }, { accessFlags := 18, nameIndex := 26, descriptorIndex := 18, attributes := #[] }])
  fields := #[{ name := "e0", type := (.object "java/lang/Object"), accessFlags := 18, slot := 0, constantValue := 0 }, { name := "e1", type := (.object "java/lang/Object"), accessFlags := 18, slot := 1, constantValue := 0 }]
  methods := #[k26m0, k26m1, k26m2]
  instanceTypes := #[(.object "java/lang/Object"), (.object "java/lang/Object")]
  staticTypes := #[]
  resolved := Array.replicate 125 none
  statics := none }

def pool27 : Array CpInfo := pool [(2, .class_ 4), (1, u "java/util/ImmutableCollections$AbstractImmutableList"), (2, .fieldref 8 9), (0, .class_ 10), (0, .nameAndType 11 12), (0, u "java/util/ImmutableCollections$ListN"), (0, u "elements"), (0, u "[Ljava/lang/Object;"), (2, u "allowNulls"), (0, u "Z"), (42, .class_ 60), (0, u "java/io/Serializable"), (16, u "size"), (0, u "()I"), (35, .class_ 115), (0, u "java/util/ImmutableCollections")] 3

def k27c0 : Code := { maxStack := 1, maxLocals := 1, code := jdk_45_method_3_code, exceptionTable := #[], attributes := #[] }
def k27m0 : Method := { name := "size", desc := "()I", sig := { parameters := [], returnType := some .int }, accessFlags := 1, code := some k27c0 }
/-- java/util/ImmutableCollections$ListN -/
def k27 : Class := { plain "java/util/ImmutableCollections$ListN" (some 25) with
  accessFlags := 48
  interfaces := #[5]
  cf := some (fileOf pool27 8 #[.nestHost 114] #[{ accessFlags := 1, nameIndex := 77, descriptorIndex := 78, attributes := #[] }] 48 2 #[59] #[{ accessFlags := 18, nameIndex := 11, descriptorIndex := 12, attributes := #[] }, { accessFlags := 18, nameIndex := 15, descriptorIndex := 16, attributes := #[] }])
  fields := #[{ name := "elements", type := (.array (.object "java/lang/Object")), accessFlags := 18, slot := 0, constantValue := 0 }, { name := "allowNulls", type := .boolean, accessFlags := 18, slot := 1, constantValue := 0 }]
  methods := #[k27m0]
  instanceTypes := #[(.array (.object "java/lang/Object")), .boolean]
  staticTypes := #[]
  resolved := Array.replicate 119 none
  statics := none }

def pool28 : Array CpInfo := pool [(2, .class_ 4), (1, u "java/lang/Object"), (0, u "<init>"), (0, u "()V"), (7, .class_ 16), (1, u "java/util/Arrays"), (57, .class_ 76), (1, u "java/util/Arrays$NaturalOrder"), (9, .methodref 2 87), (0, .nameAndType 88 89), (0, u "getClass"), (0, u "()Ljava/lang/Class;"), (20, .class_ 111), (0, u "[Ljava/lang/Object;"), (1, .class_ 115), (1, u "java/util/Arrays$LegacyMergeSort"), (1, u "Z"), (21, u "copyOfRange"), (10, .methodref 151 152), (0, .class_ 153), (0, .nameAndType 154 155), (0, u "java/lang/System"), (0, u "arraycopy"), (0, u "(Ljava/lang/Object;ILjava/lang/Object;II)V"), (144, .methodref 14 301), (0, .nameAndType 302 303), (0, u "copyOf"), (0, u "([Ljava/lang/Object;ILjava/lang/Class;)[Ljava/lang/Object;"), (0, .methodref 305 306), (0, .class_ 307), (0, .nameAndType 308 309), (0, u "java/lang/Math"), (0, u "min"), (0, u "(II)I"), (29, .methodref 14 340), (0, .nameAndType 341 342), (0, u "copyOfRangeByte"), (0, u "([BII)[B"), (0, .methodref 14 344), (0, .nameAndType 345 346), (0, u "checkLength"), (0, u "(II)V"), (28, .class_ 376), (0, u "java/util/Arrays$ArrayList"), (68, u "$assertionsDisabled"), (269, u "MIN_ARRAY_SORT_GRAN"), (0, u "I"), (2, u "INSERTIONSORT_THRESHOLD"), (140, u "([Ljava/lang/Object;I)[Ljava/lang/Object;"), (8, u "([BI)[B"), (105, .class_ 976), (0, u "java/util/Arrays$ArrayItr")] 52

def k28m0 : Method := { name := "<init>", desc := "()V", sig := { parameters := [], returnType := none }, accessFlags := 2, code := none }
def k28c1 : Code := { maxStack := 3, maxLocals := 2, code := jdk_65_method_119_code, exceptionTable := #[], attributes := #[] }
def k28m1 : Method := { name := "copyOf", desc := "([Ljava/lang/Object;I)[Ljava/lang/Object;", sig := { parameters := [(.array (.object "java/lang/Object")), .int], returnType := some (.array (.object "java/lang/Object")) }, accessFlags := 9, code := some k28c1 }
def k28c2 : Code := { maxStack := 6, maxLocals := 4, code := jdk_65_method_120_code, exceptionTable := #[], attributes := #[] }
def k28m2 : Method := { name := "copyOf", desc := "([Ljava/lang/Object;ILjava/lang/Class;)[Ljava/lang/Object;", sig := { parameters := [(.array (.object "java/lang/Object")), .int, (.object "java/lang/Class")], returnType := some (.array (.object "java/lang/Object")) }, accessFlags := 9, code := some k28c2 }
def k28c3 : Code := { maxStack := 6, maxLocals := 3, code := jdk_65_method_121_code, exceptionTable := #[], attributes := #[] }
def k28m3 : Method := { name := "copyOf", desc := "([BI)[B", sig := { parameters := [(.array .byte), .int], returnType := some (.array .byte) }, accessFlags := 9, code := some k28c3 }
def k28c4 : Code := { maxStack := 4, maxLocals := 2, code := jdk_65_method_131_code, exceptionTable := #[], attributes := #[] }
def k28m4 : Method := { name := "checkLength", desc := "(II)V", sig := { parameters := [.int, .int], returnType := none }, accessFlags := 10, code := some k28c4 }
def k28c5 : Code := { maxStack := 3, maxLocals := 3, code := jdk_65_method_132_code, exceptionTable := #[], attributes := #[] }
def k28m5 : Method := { name := "copyOfRange", desc := "([BII)[B", sig := { parameters := [(.array .byte), .int, .int], returnType := some (.array .byte) }, accessFlags := 9, code := some k28c5 }
def k28c6 : Code := { maxStack := 6, maxLocals := 5, code := jdk_65_method_133_code, exceptionTable := #[], attributes := #[] }
def k28m6 : Method := { name := "copyOfRangeByte", desc := "([BII)[B", sig := { parameters := [(.array .byte), .int, .int], returnType := some (.array .byte) }, accessFlags := 10, code := some k28c6 }
/-- java/util/Arrays -/
def k28 : Class := { plain "java/util/Arrays" (some 0) with
  accessFlags := 49
  interfaces := #[]
  cf := some (fileOf pool28 14 #[.nestMembers #[975, 375, 113, 74]] #[{ accessFlags := 2, nameIndex := 5, descriptorIndex := 6, attributes := #[] }, { accessFlags := 9, nameIndex := 302, descriptorIndex := 860, attributes := #[] }, { accessFlags := 9, nameIndex := 302, descriptorIndex := 303, attributes := #[] }, { accessFlags := 9, nameIndex := 302, descriptorIndex := 869, attributes := #[] }, { accessFlags := 10, nameIndex := 345, descriptorIndex := 346, attributes := #[] }, { accessFlags := 9, nameIndex := 139, descriptorIndex := 342, attributes := #[] }, { accessFlags := 10, nameIndex := 341, descriptorIndex := 342, attributes := #[] }] 49 2 #[] #[{ accessFlags := 26, nameIndex := 715, descriptorIndex := 716, attributes := #[] }, { accessFlags := 26, nameIndex := 719, descriptorIndex := 716, attributes := #[] }, { accessFlags := 4120, nameIndex := 445, descriptorIndex := 117, attributes := #[] }])
  fields := #[{ name := "MIN_ARRAY_SORT_GRAN", type := .int, accessFlags := 26, slot := 0, constantValue := 0 }, { name := "INSERTIONSORT_THRESHOLD", type := .int, accessFlags := 26, slot := 1, constantValue := 0 }, { name := "$assertionsDisabled", type := .boolean, accessFlags := 4120, slot := 2, constantValue := 0 }]
  methods := #[k28m0, k28m1, k28m2, k28m3, k28m4, k28m5, k28m6]
  instanceTypes := #[]
  staticTypes := #[.int, .int, .boolean]
  resolved := Array.replicate 1029 none
  statics := none }

def pool29 : Array CpInfo := pool [(2, .class_ 4), (1, u "java/lang/Object"), (0, u "<init>"), (0, u "()V"), (1, .class_ 10), (1, u "java/lang/System"), (0, u "allowSecurityManager"), (0, u "I"), (16, u "cons"), (0, u "Ljava/io/Console;"), (77, .class_ 110), (1, u "java/lang/System$CallersHolder"), (43, u "initialErrStream"), (0, u "Ljava/io/PrintStream;"), (19, u "security"), (0, u "Ljava/lang/SecurityManager;"), (31, .class_ 209), (0, u "java/lang/System$1"), (7, u "props"), (0, u "Ljava/util/Properties;"), (2, u "lineSeparator"), (0, u "Ljava/lang/String;"), (96, .class_ 321), (1, u "java/lang/System$LoggerFinder"), (5, .class_ 328), (0, u "java/lang/System$Logger"), (67, u "err"), (2, u "out"), (91, u "notSupportedJnuEncoding"), (15, u "in"), (17, u "initialIn"), (0, u "Ljava/io/InputStream;"), (35, u "bootLayer"), (0, u "Ljava/lang/ModuleLayer;"), (99, .class_ 664), (0, u "java/lang/System$2"), (9, u "NEVER"), (2, u "MAYBE"), (49, u "arraycopy"), (0, u "(Ljava/lang/Object;ILjava/lang/Object;II)V"), (72, .class_ 802), (0, u "java/lang/System$Logger$Level")] 31

def k29m0 : Method := { name := "<init>", desc := "()V", sig := { parameters := [], returnType := none }, accessFlags := 2, code := none }
def k29m1 : Method := { name := "arraycopy", desc := "(Ljava/lang/Object;ILjava/lang/Object;II)V", sig := { parameters := [(.object "java/lang/Object"), .int, (.object "java/lang/Object"), .int, .int], returnType := none }, accessFlags := 265, code := none }
/-- java/lang/System -/
def k29 : Class := { plain "java/lang/System" (some 0) with
  accessFlags := 49
  interfaces := #[]
  cf := some (fileOf pool29 8 #[.nestMembers #[319, 327, 801, 108, 663, 208]] #[{ accessFlags := 2, nameIndex := 5, descriptorIndex := 6, attributes := #[] }, { accessFlags := 265, nameIndex := 727, descriptorIndex := 728, attributes := #[] }] 49 2 #[] #[{ accessFlags := 25, nameIndex := 507, descriptorIndex := 526, attributes := #[] }, { accessFlags := 25, nameIndex := 399, descriptorIndex := 155, attributes := #[] }, { accessFlags := 25, nameIndex := 396, descriptorIndex := 155, attributes := #[] }, { accessFlags := 10, nameIndex := 525, descriptorIndex := 526, attributes := #[] }, { accessFlags := 26, nameIndex := 674, descriptorIndex := 12, attributes := #[] }, { accessFlags := 26, nameIndex := 677, descriptorIndex := 12, attributes := #[] }, { accessFlags := 10, nameIndex := 11, descriptorIndex := 12, attributes := #[] }, { accessFlags := 74, nameIndex := 175, descriptorIndex := 176, attributes := #[] }, { accessFlags := 10, nameIndex := 491, descriptorIndex := 222, attributes := #[] }, { accessFlags := 74, nameIndex := 29, descriptorIndex := 30, attributes := #[] }, { accessFlags := 74, nameIndex := 154, descriptorIndex := 155, attributes := #[] }, { accessFlags := 10, nameIndex := 217, descriptorIndex := 218, attributes := #[] }, { accessFlags := 10, nameIndex := 221, descriptorIndex := 222, attributes := #[] }, { accessFlags := 8, nameIndex := 562, descriptorIndex := 563, attributes := #[] }])
  fields := #[{ name := "in", type := (.object "java/io/InputStream"), accessFlags := 25, slot := 0, constantValue := 0 }, { name := "out", type := (.object "java/io/PrintStream"), accessFlags := 25, slot := 1, constantValue := 0 }, { name := "err", type := (.object "java/io/PrintStream"), accessFlags := 25, slot := 2, constantValue := 0 }, { name := "initialIn", type := (.object "java/io/InputStream"), accessFlags := 10, slot := 3, constantValue := 0 }, { name := "NEVER", type := .int, accessFlags := 26, slot := 4, constantValue := 0 }, { name := "MAYBE", type := .int, accessFlags := 26, slot := 5, constantValue := 0 }, { name := "allowSecurityManager", type := .int, accessFlags := 10, slot := 6, constantValue := 0 }, { name := "security", type := (.object "java/lang/SecurityManager"), accessFlags := 74, slot := 7, constantValue := 0 }, { name := "notSupportedJnuEncoding", type := (.object "java/lang/String"), accessFlags := 10, slot := 8, constantValue := 0 }, { name := "cons", type := (.object "java/io/Console"), accessFlags := 74, slot := 9, constantValue := 0 }, { name := "initialErrStream", type := (.object "java/io/PrintStream"), accessFlags := 74, slot := 10, constantValue := 0 }, { name := "props", type := (.object "java/util/Properties"), accessFlags := 10, slot := 11, constantValue := 0 }, { name := "lineSeparator", type := (.object "java/lang/String"), accessFlags := 10, slot := 12, constantValue := 0 }, { name := "bootLayer", type := (.object "java/lang/ModuleLayer"), accessFlags := 8, slot := 13, constantValue := 0 }]
  methods := #[k29m0, k29m1]
  instanceTypes := #[]
  staticTypes := #[(.object "java/io/InputStream"), (.object "java/io/PrintStream"), (.object "java/io/PrintStream"), (.object "java/io/InputStream"), .int, .int, .int, (.object "java/lang/SecurityManager"), (.object "java/lang/String"), (.object "java/io/Console"), (.object "java/io/PrintStream"), (.object "java/util/Properties"), (.object "java/lang/String"), (.object "java/lang/ModuleLayer")]
  resolved := Array.replicate 834 none
  statics := none }

def pool30 : Array CpInfo := pool [(2, .class_ 4), (1, u "java/lang/Object"), (0, u "<init>"), (0, u "()V"), (35, .class_ 44), (1, u "java/util/Objects"), (0, u "requireNonNull"), (0, u "(Ljava/lang/Object;)Ljava/lang/Object;")] 137

def k30m0 : Method := { name := "<init>", desc := "()V", sig := { parameters := [], returnType := none }, accessFlags := 2, code := none }
def k30c1 : Code := { maxStack := 2, maxLocals := 1, code := jdk_31_method_10_code, exceptionTable := #[], attributes := #[] }
def k30m1 : Method := { name := "requireNonNull", desc := "(Ljava/lang/Object;)Ljava/lang/Object;", sig := { parameters := [(.object "java/lang/Object")], returnType := some (.object "java/lang/Object") }, accessFlags := 9, code := some k30c1 }
/-- java/util/Objects -/
def k30 : Class := { plain "java/util/Objects" (some 0) with
  accessFlags := 49
  interfaces := #[]
  cf := some (fileOf pool30 42 #[] #[{ accessFlags := 2, nameIndex := 5, descriptorIndex := 6, attributes := #[] }, { accessFlags := 9, nameIndex := 45, descriptorIndex := 46, attributes := #[] }] 49 2 #[] #[])
  fields := #[]
  methods := #[k30m0, k30m1]
  instanceTypes := #[]
  staticTypes := #[]
  resolved := Array.replicate 184 none
  statics := none }

def pool31 : Array CpInfo := pool [(1, .class_ 2), (0, u "com/example/regalwerk/regalwerk/MarcRecord"), (0, .methodref 4 5), (0, .class_ 6), (0, .nameAndType 7 8), (0, u "java/lang/Object"), (0, u "<init>"), (0, u "()V"), (0, .string 10), (0, u "001"), (0, .methodref 1 12), (0, .nameAndType 13 14), (0, u "controlField"), (0, u "(Ljava/lang/String;)Ljava/lang/String;"), (0, .fieldref 16 17), (0, .class_ 18), (0, .nameAndType 19 20), (0, u "com/example/regalwerk/regalwerk/HoldingsLinker"), (0, u "titleId"), (0, u "Ljava/lang/String;"), (0, .methodref 1 22), (0, .nameAndType 23 24), (0, u "isDeleted"), (0, u "()Z"), (0, .methodref 1 26), (0, .nameAndType 27 28), (0, u "id"), (0, u "()Ljava/lang/String;"), (0, .fieldref 16 30), (0, .nameAndType 31 20), (0, u "deletedTitle"), (0, .fieldref 16 33), (0, .nameAndType 34 35), (0, u "titleCollection"), (0, u "Lcom/example/regalwerk/regalwerk/SruCollection;"), (0, .fieldref 16 37), (0, .nameAndType 38 39), (0, u "open"), (0, u "Z"), (8, .string 49), (0, u "leader position 05 \"d\" marks it deleted"), (0, .class_ 51), (0, u "java/lang/StringBuilder"), (0, .methodref 50 5), (0, .string 54), (0, u "leader position 05 \"d\" marks its title "), (0, .methodref 50 56), (0, .nameAndType 57 58), (0, u "append"), (0, u "(Ljava/lang/String;)Ljava/lang/StringBuilder;"), (0, .string 60), (0, u " deleted"), (0, .methodref 50 62), (0, .nameAndType 63 28), (0, u "toString"), (8, u "DELETION_MARK"), (5, u "title"), (0, u "(Lcom/example/regalwerk/regalwerk/MarcRecord;Lcom/example/regalwerk/regalwerk/SruCollection;)V"), (5, u "deletion"), (0, u "(Lcom/example/regalwerk/regalwerk/MarcRecord;Z)Ljava/lang/String;")] 4

def k31c0 : Code := { maxStack := 1, maxLocals := 1, code := prog_13_method_1_code, exceptionTable := #[], attributes := #[] }
def k31m0 : Method := { name := "<init>", desc := "()V", sig := { parameters := [], returnType := none }, accessFlags := 0, code := some k31c0 }
def k31c1 : Code := { maxStack := 3, maxLocals := 3, code := prog_13_method_2_code, exceptionTable := #[], attributes := #[] }
def k31m1 : Method := { name := "title", desc := "(Lcom/example/regalwerk/regalwerk/MarcRecord;Lcom/example/regalwerk/regalwerk/SruCollection;)V", sig := { parameters := [(.object "com/example/regalwerk/regalwerk/MarcRecord"), (.object "com/example/regalwerk/regalwerk/SruCollection")], returnType := none }, accessFlags := 0, code := some k31c1 }
def k31c2 : Code := { maxStack := 2, maxLocals := 4, code := prog_13_method_4_code, exceptionTable := #[], attributes := #[] }
def k31m2 : Method := { name := "deletion", desc := "(Lcom/example/regalwerk/regalwerk/MarcRecord;Z)Ljava/lang/String;", sig := { parameters := [(.object "com/example/regalwerk/regalwerk/MarcRecord"), .boolean], returnType := some (.object "java/lang/String") }, accessFlags := 0, code := some k31c2 }
/-- com/example/regalwerk/regalwerk/HoldingsLinker -/
def k31 : Class := { plain "com/example/regalwerk/regalwerk/HoldingsLinker" (some 0) with
  accessFlags := 48
  interfaces := #[]
  cf := some (fileOf pool31 16 #[] #[{ accessFlags := 0, nameIndex := 7, descriptorIndex := 8, attributes := #[] }, { accessFlags := 0, nameIndex := 78, descriptorIndex := 79, attributes := #[] }, { accessFlags := 0, nameIndex := 85, descriptorIndex := 86, attributes := #[] }] 48 4 #[] #[{ accessFlags := 26, nameIndex := 72, descriptorIndex := 20, attributes := #[] }, { accessFlags := 2, nameIndex := 19, descriptorIndex := 20, attributes := #[] }, { accessFlags := 2, nameIndex := 31, descriptorIndex := 20, attributes := #[] }, { accessFlags := 2, nameIndex := 34, descriptorIndex := 35, attributes := #[] }, { accessFlags := 2, nameIndex := 38, descriptorIndex := 39, attributes := #[] }])
  fields := #[{ name := "DELETION_MARK", type := (.object "java/lang/String"), accessFlags := 26, slot := 0, constantValue := 0 }, { name := "titleId", type := (.object "java/lang/String"), accessFlags := 2, slot := 0, constantValue := 0 }, { name := "deletedTitle", type := (.object "java/lang/String"), accessFlags := 2, slot := 1, constantValue := 0 }, { name := "titleCollection", type := (.object "com/example/regalwerk/regalwerk/SruCollection"), accessFlags := 2, slot := 2, constantValue := 0 }, { name := "open", type := .boolean, accessFlags := 2, slot := 3, constantValue := 0 }]
  methods := #[k31m0, k31m1, k31m2]
  instanceTypes := #[(.object "java/lang/String"), (.object "java/lang/String"), (.object "com/example/regalwerk/regalwerk/SruCollection"), .boolean]
  staticTypes := #[(.object "java/lang/String")]
  resolved := Array.replicate 91 none
  statics := none }

def pool32 : Array CpInfo := pool [(16, .class_ 18), (1, u "java/util/Iterator"), (0, u "hasNext"), (0, u "()Z"), (2, u "next"), (0, u "()Ljava/lang/Object;"), (6, .class_ 32), (0, u "java/lang/Object")] 20

def k32m0 : Method := { name := "hasNext", desc := "()Z", sig := { parameters := [], returnType := some .boolean }, accessFlags := 1025, code := none }
def k32m1 : Method := { name := "next", desc := "()Ljava/lang/Object;", sig := { parameters := [], returnType := some (.object "java/lang/Object") }, accessFlags := 1025, code := none }
/-- java/util/Iterator -/
def k32 : Class := { plain "java/util/Iterator" (some 0) with
  accessFlags := 1537
  interfaces := #[]
  cf := some (fileOf pool32 16 #[] #[{ accessFlags := 1025, nameIndex := 19, descriptorIndex := 20, attributes := #[] }, { accessFlags := 1025, nameIndex := 23, descriptorIndex := 24, attributes := #[] }] 1537 31 #[] #[])
  fields := #[]
  methods := #[k32m0, k32m1]
  instanceTypes := #[]
  staticTypes := #[]
  resolved := Array.replicate 53 none
  statics := none }

def pool33 : Array CpInfo := pool [(1, .class_ 2), (0, u "java/util/ListIterator"), (0, .class_ 4), (0, u "java/lang/Object"), (0, .class_ 6), (0, u "java/util/Iterator")] 20

/-- java/util/ListIterator -/
def k33 : Class := { plain "java/util/ListIterator" (some 0) with
  accessFlags := 1537
  interfaces := #[32]
  cf := some (fileOf pool33 1 #[] #[] 1537 3 #[5] #[])
  fields := #[]
  methods := #[]
  instanceTypes := #[]
  staticTypes := #[]
  resolved := Array.replicate 27 none
  statics := none }

def pool34 : Array CpInfo := pool [(1, .methodref 2 3), (0, .class_ 4), (0, .nameAndType 5 6), (0, u "java/lang/Object"), (0, u "<init>"), (0, u "()V"), (0, .fieldref 8 9), (0, .class_ 10), (0, .nameAndType 11 12), (0, u "java/util/ImmutableCollections$ListItr"), (0, u "list"), (0, u "Ljava/util/List;"), (0, .fieldref 8 14), (0, .nameAndType 15 16), (0, u "size"), (0, u "I"), (0, .fieldref 8 18), (0, .nameAndType 19 16), (0, u "cursor"), (0, .fieldref 8 21), (0, .nameAndType 22 23), (0, u "isListIterator"), (0, u "Z"), (0, .interfaceMethodref 25 26), (0, .class_ 27), (0, .nameAndType 28 29), (0, u "java/util/List"), (0, u "get"), (0, u "(I)Ljava/lang/Object;"), (6, .class_ 38), (1, u "java/util/ImmutableCollections"), (2, .class_ 42), (0, u "java/util/ListIterator"), (4, u "(Ljava/util/List;I)V"), (11, u "hasNext"), (0, u "()Z"), (1, u "next"), (0, u "()Ljava/lang/Object;")] 22

def k34c0 : Code := { maxStack := 2, maxLocals := 3, code := jdk_53_method_1_code, exceptionTable := #[], attributes := #[] }
def k34m0 : Method := { name := "<init>", desc := "(Ljava/util/List;I)V", sig := { parameters := [(.object "java/util/List"), .int], returnType := none }, accessFlags := 0, code := some k34c0 }
def k34c1 : Code := { maxStack := 2, maxLocals := 1, code := jdk_53_method_3_code, exceptionTable := #[], attributes := #[] }
def k34m1 : Method := { name := "hasNext", desc := "()Z", sig := { parameters := [], returnType := some .boolean }, accessFlags := 1, code := some k34c1 }
def k34c2 : Code := { maxStack := 3, maxLocals := 3, code := jdk_53_method_4_code, exceptionTable := #[{ startPc := 0, endPc := 24, handlerPc := 25, catchType := 30 }], attributes := #[] }
def k34m2 : Method := { name := "next", desc := "()Ljava/lang/Object;", sig := { parameters := [], returnType := some (.object "java/lang/Object") }, accessFlags := 1, code := some k34c2 }
/-- java/util/ImmutableCollections$ListItr -/
def k34 : Class := { plain "java/util/ImmutableCollections$ListItr" (some 0) with
  accessFlags := 48
  interfaces := #[33]
  cf := some (fileOf pool34 8 #[.nestHost 36] #[{ accessFlags := 0, nameIndex := 5, descriptorIndex := 47, attributes := #[] }, { accessFlags := 1, nameIndex := 59, descriptorIndex := 60, attributes := #[] }, { accessFlags := 1, nameIndex := 62, descriptorIndex := 63, attributes := #[] }] 48 2 #[41] #[{ accessFlags := 18, nameIndex := 11, descriptorIndex := 12, attributes := #[] }, { accessFlags := 18, nameIndex := 15, descriptorIndex := 16, attributes := #[] }, { accessFlags := 18, nameIndex := 22, descriptorIndex := 23, attributes := #[] }, { accessFlags := 2, nameIndex := 19, descriptorIndex := 16, attributes := #[] }])
  fields := #[{ name := "list", type := (.object "java/util/List"), accessFlags := 18, slot := 0, constantValue := 0 }, { name := "size", type := .int, accessFlags := 18, slot := 1, constantValue := 0 }, { name := "isListIterator", type := .boolean, accessFlags := 18, slot := 2, constantValue := 0 }, { name := "cursor", type := .int, accessFlags := 2, slot := 3, constantValue := 0 }]
  methods := #[k34m0, k34m1, k34m2]
  instanceTypes := #[(.object "java/util/List"), .int, .boolean, .int]
  staticTypes := #[]
  resolved := Array.replicate 86 none
  statics := none }

def pool35 : Array CpInfo := pool [(1, .class_ 2), (0, u "java/lang/String"), (1, .class_ 6), (1, u "java/lang/Object"), (0, u "<init>"), (0, u "()V"), (0, .methodref 1 10), (0, .nameAndType 11 12), (0, u "checkIndex"), (0, u "(II)V"), (1, .class_ 16), (1, u "java/lang/StringLatin1"), (36, u "([BI)C"), (67, u "$assertionsDisabled"), (0, u "Z"), (98, .class_ 223), (1, u "java/lang/StringLatin1$LinesSpliterator"), (28, u "charAt"), (28, u "equals"), (0, u "([B[B)Z"), (107, .class_ 391), (0, u "java/lang/StringLatin1$CharsSpliterator")] 3

def k35m0 : Method := { name := "<init>", desc := "()V", sig := { parameters := [], returnType := none }, accessFlags := 0, code := none }
def k35c1 : Code := { maxStack := 2, maxLocals := 2, code := jdk_43_method_2_code, exceptionTable := #[], attributes := #[] }
def k35m1 : Method := { name := "charAt", desc := "([BI)C", sig := { parameters := [(.array .byte), .int], returnType := some .char }, accessFlags := 9, code := some k35c1 }
def k35c2 : Code := { maxStack := 3, maxLocals := 3, code := jdk_43_method_13_code, exceptionTable := #[], attributes := #[] }
def k35m2 : Method := { name := "equals", desc := "([B[B)Z", sig := { parameters := [(.array .byte), (.array .byte)], returnType := some .boolean }, accessFlags := 9, code := some k35c2 }
/-- java/lang/StringLatin1 -/
def k35 : Class := { plain "java/lang/StringLatin1" (some 0) with
  accessFlags := 48
  interfaces := #[]
  cf := some (fileOf pool35 14 #[.nestMembers #[390, 221]] #[{ accessFlags := 0, nameIndex := 7, descriptorIndex := 8, attributes := #[] }, { accessFlags := 9, nameIndex := 252, descriptorIndex := 53, attributes := #[] }, { accessFlags := 9, nameIndex := 281, descriptorIndex := 282, attributes := #[] }] 48 4 #[] #[{ accessFlags := 4120, nameIndex := 121, descriptorIndex := 122, attributes := #[] }])
  fields := #[{ name := "$assertionsDisabled", type := .boolean, accessFlags := 4120, slot := 0, constantValue := 0 }]
  methods := #[k35m0, k35m1, k35m2]
  instanceTypes := #[]
  staticTypes := #[.boolean]
  resolved := Array.replicate 395 none
  statics := none }

def pool36 : Array CpInfo := pool [(2, .class_ 4), (1, u "java/lang/Object"), (0, u "<init>"), (0, u "()V"), (17, .class_ 26), (1, u "jdk/internal/util/Preconditions"), (6, u "checkIndex"), (21, .class_ 56), (0, u "jdk/internal/util/Preconditions$4"), (57, .class_ 115), (0, u "jdk/internal/util/Preconditions$1"), (7, u "SIOOBE_FORMATTER"), (0, u "Ljava/util/function/BiFunction;"), (0, .class_ 126), (0, u "jdk/internal/util/Preconditions$2"), (3, u "AIOOBE_FORMATTER"), (0, .class_ 132), (0, u "jdk/internal/util/Preconditions$3"), (3, u "IOOBE_FORMATTER"), (41, u "(IILjava/util/function/BiFunction;)I")] 15

def k36m0 : Method := { name := "<init>", desc := "()V", sig := { parameters := [], returnType := none }, accessFlags := 1, code := none }
def k36c1 : Code := { maxStack := 3, maxLocals := 3, code := jdk_41_method_11_code, exceptionTable := #[], attributes := #[] }
def k36m1 : Method := { name := "checkIndex", desc := "(IILjava/util/function/BiFunction;)I", sig := { parameters := [.int, .int, (.object "java/util/function/BiFunction")], returnType := some .int }, accessFlags := 9, code := some k36c1 }
/-- jdk/internal/util/Preconditions -/
def k36 : Class := { plain "jdk/internal/util/Preconditions" (some 0) with
  accessFlags := 33
  interfaces := #[]
  cf := some (fileOf pool36 24 #[.nestMembers #[55, 131, 125, 114]] #[{ accessFlags := 1, nameIndex := 5, descriptorIndex := 6, attributes := #[] }, { accessFlags := 9, nameIndex := 33, descriptorIndex := 178, attributes := #[] }] 33 2 #[] #[{ accessFlags := 25, nameIndex := 123, descriptorIndex := 124, attributes := #[] }, { accessFlags := 25, nameIndex := 130, descriptorIndex := 124, attributes := #[] }, { accessFlags := 25, nameIndex := 136, descriptorIndex := 124, attributes := #[] }])
  fields := #[{ name := "SIOOBE_FORMATTER", type := (.object "java/util/function/BiFunction"), accessFlags := 25, slot := 0, constantValue := 0 }, { name := "AIOOBE_FORMATTER", type := (.object "java/util/function/BiFunction"), accessFlags := 25, slot := 1, constantValue := 0 }, { name := "IOOBE_FORMATTER", type := (.object "java/util/function/BiFunction"), accessFlags := 25, slot := 2, constantValue := 0 }]
  methods := #[k36m0, k36m1]
  instanceTypes := #[]
  staticTypes := #[(.object "java/util/function/BiFunction"), (.object "java/util/function/BiFunction"), (.object "java/util/function/BiFunction")]
  resolved := Array.replicate 194 none
  statics := some 3 }

def pool37 : Array CpInfo := pool [(1, .class_ 2), (0, u "java/lang/Appendable"), (0, .class_ 4), (0, u "java/lang/Object")] 9

/-- java/lang/Appendable -/
def k37 : Class := { plain "java/lang/Appendable" (some 0) with
  accessFlags := 1537
  interfaces := #[]
  cf := some (fileOf pool37 1 #[] #[] 1537 3 #[] #[])
  fields := #[]
  methods := #[]
  instanceTypes := #[]
  staticTypes := #[]
  resolved := Array.replicate 14 none
  statics := none }

def pool38 : Array CpInfo := pool [(1, .class_ 2), (0, u "java/lang/String"), (0, .methodref 4 5), (0, .class_ 6), (0, .nameAndType 7 8), (0, u "java/lang/Object"), (0, u "<init>"), (0, u "()V"), (1, .class_ 12), (1, u "java/lang/AbstractStringBuilder"), (0, u "EMPTYVALUE"), (0, u "[B"), (0, .fieldref 10 16), (0, .nameAndType 17 14), (0, u "value"), (0, .fieldref 1 19), (0, .nameAndType 20 21), (0, u "COMPACT_STRINGS"), (0, u "Z"), (0, .fieldref 10 23), (0, .nameAndType 24 25), (0, u "coder"), (0, u "B"), (6, .methodref 1 33), (0, .nameAndType 34 35), (0, u "length"), (0, u "()I"), (3, .integer 2147483647), (0, .methodref 1 41), (0, .nameAndType 24 42), (0, u "()B"), (2, u "append"), (0, u "(Ljava/lang/String;)Ljava/lang/AbstractStringBuilder;"), (1, .class_ 49), (0, u "java/lang/CharSequence"), (19, u "(Ljava/lang/String;)V"), (5, u "maybeLatin1"), (3, .fieldref 10 80), (0, .nameAndType 81 82), (0, u "count"), (0, u "I"), (2, u "isLatin1"), (0, u "()Z"), (13, .methodref 10 101), (0, .nameAndType 102 103), (0, u "ensureCapacityInternal"), (0, u "(I)V"), (0, .methodref 10 105), (0, .nameAndType 106 107), (0, u "newCapacity"), (0, u "(I)I"), (0, .methodref 109 110), (0, .class_ 111), (0, .nameAndType 112 113), (0, u "java/util/Arrays"), (0, u "copyOf"), (0, u "([BI)[B"), (0, .methodref 115 116), (0, .class_ 117), (0, .nameAndType 118 119), (0, u "jdk/internal/util/ArraysSupport"), (0, u "newLength"), (0, u "(III)I"), (88, .methodref 10 209), (0, .nameAndType 210 211), (0, u "putStringAt"), (0, u "(ILjava/lang/String;)V"), (5, u "inflateIfNeededFor"), (2, .nameAndType 221 222), (0, u "getBytes"), (0, u "([BIB)V"), (174, .methodref 10 398), (0, .nameAndType 217 69), (0, .methodref 1 220), (3, u "()[B"), (40, .class_ 445), (0, u "java/lang/Appendable"), (106, u "getValue")] 56

def k38m0 : Method := { name := "<init>", desc := "()V", sig := { parameters := [], returnType := none }, accessFlags := 0, code := none }
def k38c1 : Code := { maxStack := 2, maxLocals := 2, code := jdk_68_method_2_code, exceptionTable := #[], attributes := #[] }
def k38m1 : Method := { name := "<init>", desc := "(I)V", sig := { parameters := [.int], returnType := none }, accessFlags := 0, code := some k38c1 }
def k38c2 : Code := { maxStack := 1, maxLocals := 1, code := jdk_68_method_6_code, exceptionTable := #[], attributes := #[] }
def k38m2 : Method := { name := "length", desc := "()I", sig := { parameters := [], returnType := some .int }, accessFlags := 1, code := some k38c2 }
def k38c3 : Code := { maxStack := 4, maxLocals := 3, code := jdk_68_method_9_code, exceptionTable := #[], attributes := #[] }
def k38m3 : Method := { name := "ensureCapacityInternal", desc := "(I)V", sig := { parameters := [.int], returnType := none }, accessFlags := 2, code := some k38c3 }
def k38c4 : Code := { maxStack := 5, maxLocals := 6, code := jdk_68_method_10_code, exceptionTable := #[], attributes := #[] }
def k38m4 : Method := { name := "newCapacity", desc := "(I)I", sig := { parameters := [.int], returnType := some .int }, accessFlags := 2, code := some k38c4 }
def k38c5 : Code := { maxStack := 3, maxLocals := 3, code := jdk_68_method_22_code, exceptionTable := #[], attributes := #[] }
def k38m5 : Method := { name := "append", desc := "(Ljava/lang/String;)Ljava/lang/AbstractStringBuilder;", sig := { parameters := [(.object "java/lang/String")], returnType := some (.object "java/lang/AbstractStringBuilder") }, accessFlags := 1, code := some k38c5 }
def k38c6 : Code := { maxStack := 1, maxLocals := 1, code := jdk_68_method_64_code, exceptionTable := #[], attributes := #[] }
def k38m6 : Method := { name := "getValue", desc := "()[B", sig := { parameters := [], returnType := some (.array .byte) }, accessFlags := 16, code := some k38c6 }
def k38c7 : Code := { maxStack := 1, maxLocals := 1, code := jdk_68_method_68_code, exceptionTable := #[], attributes := #[] }
def k38m7 : Method := { name := "isLatin1", desc := "()Z", sig := { parameters := [], returnType := some .boolean }, accessFlags := 16, code := some k38c7 }
def k38c8 : Code := { maxStack := 2, maxLocals := 2, code := jdk_68_method_71_code, exceptionTable := #[], attributes := #[] }
def k38m8 : Method := { name := "inflateIfNeededFor", desc := "(Ljava/lang/String;)V", sig := { parameters := [(.object "java/lang/String")], returnType := none }, accessFlags := 2, code := some k38c8 }
def k38c9 : Code := { maxStack := 4, maxLocals := 3, code := jdk_68_method_73_code, exceptionTable := #[], attributes := #[] }
def k38m9 : Method := { name := "putStringAt", desc := "(ILjava/lang/String;)V", sig := { parameters := [.int, (.object "java/lang/String")], returnType := none }, accessFlags := 2, code := some k38c9 }
/-- java/lang/AbstractStringBuilder -/
def k38 : Class := { plain "java/lang/AbstractStringBuilder" (some 0) with
  accessFlags := 1056
  interfaces := #[37, 7]
  cf := some (fileOf pool38 10 #[] #[{ accessFlags := 0, nameIndex := 7, descriptorIndex := 8, attributes := #[] }, { accessFlags := 0, nameIndex := 7, descriptorIndex := 103, attributes := #[] }, { accessFlags := 1, nameIndex := 34, descriptorIndex := 35, attributes := #[] }, { accessFlags := 2, nameIndex := 102, descriptorIndex := 103, attributes := #[] }, { accessFlags := 2, nameIndex := 106, descriptorIndex := 107, attributes := #[] }, { accessFlags := 1, nameIndex := 45, descriptorIndex := 46, attributes := #[] }, { accessFlags := 16, nameIndex := 552, descriptorIndex := 403, attributes := #[] }, { accessFlags := 16, nameIndex := 85, descriptorIndex := 86, attributes := #[] }, { accessFlags := 2, nameIndex := 217, descriptorIndex := 69, attributes := #[] }, { accessFlags := 2, nameIndex := 210, descriptorIndex := 211, attributes := #[] }] 1056 4 #[444, 48] #[{ accessFlags := 0, nameIndex := 17, descriptorIndex := 14, attributes := #[] }, { accessFlags := 0, nameIndex := 24, descriptorIndex := 25, attributes := #[] }, { accessFlags := 0, nameIndex := 75, descriptorIndex := 21, attributes := #[] }, { accessFlags := 0, nameIndex := 81, descriptorIndex := 82, attributes := #[] }, { accessFlags := 26, nameIndex := 13, descriptorIndex := 14, attributes := #[] }])
  fields := #[{ name := "value", type := (.array .byte), accessFlags := 0, slot := 0, constantValue := 0 }, { name := "coder", type := .byte, accessFlags := 0, slot := 1, constantValue := 0 }, { name := "maybeLatin1", type := .boolean, accessFlags := 0, slot := 2, constantValue := 0 }, { name := "count", type := .int, accessFlags := 0, slot := 3, constantValue := 0 }, { name := "EMPTYVALUE", type := (.array .byte), accessFlags := 26, slot := 0, constantValue := 0 }]
  methods := #[k38m0, k38m1, k38m2, k38m3, k38m4, k38m5, k38m6, k38m7, k38m8, k38m9]
  instanceTypes := #[(.array .byte), .byte, .boolean, .int]
  staticTypes := #[(.array .byte)]
  resolved := Array.replicate 609 none
  statics := none }

def pool39 : Array CpInfo := pool [(1, .methodref 2 3), (0, .class_ 4), (0, .nameAndType 5 6), (0, u "java/lang/AbstractStringBuilder"), (0, u "<init>"), (0, u "(I)V"), (11, .class_ 20), (1, u "java/lang/String"), (3, .class_ 26), (1, u "java/lang/StringBuilder"), (0, u "append"), (0, u "(Ljava/lang/String;)Ljava/lang/StringBuilder;"), (0, .methodref 2 30), (0, .nameAndType 27 31), (0, u "(Ljava/lang/String;)Ljava/lang/AbstractStringBuilder;"), (105, .methodref 18 138), (0, .nameAndType 5 139), (0, u "(Ljava/lang/StringBuilder;)V"), (5, u "()V"), (10, u "()I"), (186, .methodref 2 344), (0, .nameAndType 345 156), (0, u "length"), (3, .class_ 350), (0, u "java/lang/Appendable"), (0, .class_ 352), (0, u "java/io/Serializable"), (0, .class_ 354), (0, u "java/lang/Comparable"), (0, .class_ 356), (0, u "java/lang/CharSequence"), (0, u "serialVersionUID"), (0, u "J"), (40, u "toString"), (0, u "()Ljava/lang/String;")] 21

def k39c0 : Code := { maxStack := 2, maxLocals := 1, code := jdk_67_method_1_code, exceptionTable := #[], attributes := #[] }
def k39m0 : Method := { name := "<init>", desc := "()V", sig := { parameters := [], returnType := none }, accessFlags := 1, code := some k39c0 }
def k39c1 : Code := { maxStack := 2, maxLocals := 2, code := jdk_67_method_7_code, exceptionTable := #[], attributes := #[] }
def k39m1 : Method := { name := "append", desc := "(Ljava/lang/String;)Ljava/lang/StringBuilder;", sig := { parameters := [(.object "java/lang/String")], returnType := some (.object "java/lang/StringBuilder") }, accessFlags := 1, code := some k39c1 }
def k39c2 : Code := { maxStack := 3, maxLocals := 1, code := jdk_67_method_42_code, exceptionTable := #[], attributes := #[] }
def k39m2 : Method := { name := "toString", desc := "()Ljava/lang/String;", sig := { parameters := [], returnType := some (.object "java/lang/String") }, accessFlags := 1, code := some k39c2 }
def k39c3 : Code := { maxStack := 1, maxLocals := 1, code := jdk_67_method_93_code, exceptionTable := #[], attributes := #[] }
def k39m3 : Method := { name := "length", desc := "()I", sig := { parameters := [], returnType := some .int }, accessFlags := 4161, code := some k39c3 }
/-- java/lang/StringBuilder -/
def k39 : Class := { plain "java/lang/StringBuilder" (some 38) with
  accessFlags := 49
  interfaces := #[37, 5, 6, 7]
  cf := some (fileOf pool39 24 #[] #[{ accessFlags := 1, nameIndex := 5, descriptorIndex := 145, attributes := #[] }, { accessFlags := 1, nameIndex := 27, descriptorIndex := 28, attributes := #[] }, { accessFlags := 1, nameIndex := 399, descriptorIndex := 400, attributes := #[] }, { accessFlags := 4161, nameIndex := 345, descriptorIndex := 156, attributes := #[] }] 49 2 #[349, 351, 353, 355] #[{ accessFlags := 24, nameIndex := 357, descriptorIndex := 358, attributes := #[] }])
  fields := #[{ name := "serialVersionUID", type := .long, accessFlags := 24, slot := 0, constantValue := 0 }]
  methods := #[k39m0, k39m1, k39m2, k39m3]
  instanceTypes := #[(.array .byte), .byte, .boolean, .int]
  staticTypes := #[.long]
  resolved := Array.replicate 422 none
  statics := none }

def pool40 : Array CpInfo := pool [(9, u "<init>"), (6, .class_ 18), (1, u "java/lang/Object"), (0, u "()V"), (1, .class_ 23), (1, u "jdk/internal/util/ArraysSupport"), (0, u "LOG2_ARRAY_LONG_INDEX_SCALE"), (0, u "I"), (2, u "U"), (0, u "Ljdk/internal/misc/Unsafe;"), (8, u "BIG_ENDIAN"), (0, u "Z"), (8, u "LOG2_BYTE_BIT_SIZE"), (4, u "LOG2_ARRAY_INT_INDEX_SCALE"), (54, u "JLA"), (0, u "Ljdk/internal/access/JavaLangAccess;"), (11, u "LOG2_ARRAY_BOOLEAN_INDEX_SCALE"), (9, u "LOG2_ARRAY_BYTE_INDEX_SCALE"), (5, u "LOG2_ARRAY_CHAR_INDEX_SCALE"), (5, u "LOG2_ARRAY_SHORT_INDEX_SCALE"), (18, u "LOG2_ARRAY_FLOAT_INDEX_SCALE"), (24, u "LOG2_ARRAY_DOUBLE_INDEX_SCALE"), (6, .methodref 195 196), (0, .class_ 197), (0, .nameAndType 198 199), (0, u "java/lang/Math"), (0, u "max"), (0, u "(II)I"), (0, .integer 2147483639), (76, u "T_BOOLEAN"), (2, u "T_CHAR"), (1, u "T_FLOAT"), (1, u "T_DOUBLE"), (1, u "T_BYTE"), (1, u "T_SHORT"), (1, u "T_INT"), (1, u "T_LONG"), (1, u "SOFT_MAX_ARRAY_LENGTH"), (56, u "newLength"), (0, u "(III)I")] 25

def k40m0 : Method := { name := "<init>", desc := "()V", sig := { parameters := [], returnType := none }, accessFlags := 2, code := none }
def k40c1 : Code := { maxStack := 3, maxLocals := 4, code := jdk_48_method_27_code, exceptionTable := #[], attributes := #[] }
def k40m1 : Method := { name := "newLength", desc := "(III)I", sig := { parameters := [.int, .int, .int], returnType := some .int }, accessFlags := 9, code := some k40c1 }
/-- jdk/internal/util/ArraysSupport -/
def k40 : Class := { plain "jdk/internal/util/ArraysSupport" (some 0) with
  accessFlags := 33
  interfaces := #[]
  cf := some (fileOf pool40 21 #[] #[{ accessFlags := 2, nameIndex := 9, descriptorIndex := 19, attributes := #[] }, { accessFlags := 9, nameIndex := 351, descriptorIndex := 352, attributes := #[] }] 33 16 #[] #[{ accessFlags := 24, nameIndex := 28, descriptorIndex := 29, attributes := #[] }, { accessFlags := 26, nameIndex := 38, descriptorIndex := 39, attributes := #[] }, { accessFlags := 25, nameIndex := 121, descriptorIndex := 25, attributes := #[] }, { accessFlags := 25, nameIndex := 131, descriptorIndex := 25, attributes := #[] }, { accessFlags := 25, nameIndex := 137, descriptorIndex := 25, attributes := #[] }, { accessFlags := 25, nameIndex := 143, descriptorIndex := 25, attributes := #[] }, { accessFlags := 25, nameIndex := 53, descriptorIndex := 25, attributes := #[] }, { accessFlags := 25, nameIndex := 24, descriptorIndex := 25, attributes := #[] }, { accessFlags := 25, nameIndex := 162, descriptorIndex := 25, attributes := #[] }, { accessFlags := 25, nameIndex := 187, descriptorIndex := 25, attributes := #[] }, { accessFlags := 26, nameIndex := 48, descriptorIndex := 25, attributes := #[] }, { accessFlags := 25, nameIndex := 277, descriptorIndex := 25, attributes := #[] }, { accessFlags := 25, nameIndex := 280, descriptorIndex := 25, attributes := #[] }, { accessFlags := 25, nameIndex := 282, descriptorIndex := 25, attributes := #[] }, { accessFlags := 25, nameIndex := 284, descriptorIndex := 25, attributes := #[] }, { accessFlags := 25, nameIndex := 286, descriptorIndex := 25, attributes := #[] }, { accessFlags := 25, nameIndex := 288, descriptorIndex := 25, attributes := #[] }, { accessFlags := 25, nameIndex := 290, descriptorIndex := 25, attributes := #[] }, { accessFlags := 25, nameIndex := 292, descriptorIndex := 25, attributes := #[] }, { accessFlags := 26, nameIndex := 108, descriptorIndex := 109, attributes := #[] }, { accessFlags := 25, nameIndex := 294, descriptorIndex := 25, attributes := #[] }])
  fields := #[{ name := "U", type := (.object "jdk/internal/misc/Unsafe"), accessFlags := 24, slot := 0, constantValue := 0 }, { name := "BIG_ENDIAN", type := .boolean, accessFlags := 26, slot := 1, constantValue := 0 }, { name := "LOG2_ARRAY_BOOLEAN_INDEX_SCALE", type := .int, accessFlags := 25, slot := 2, constantValue := 0 }, { name := "LOG2_ARRAY_BYTE_INDEX_SCALE", type := .int, accessFlags := 25, slot := 3, constantValue := 0 }, { name := "LOG2_ARRAY_CHAR_INDEX_SCALE", type := .int, accessFlags := 25, slot := 4, constantValue := 0 }, { name := "LOG2_ARRAY_SHORT_INDEX_SCALE", type := .int, accessFlags := 25, slot := 5, constantValue := 0 }, { name := "LOG2_ARRAY_INT_INDEX_SCALE", type := .int, accessFlags := 25, slot := 6, constantValue := 0 }, { name := "LOG2_ARRAY_LONG_INDEX_SCALE", type := .int, accessFlags := 25, slot := 7, constantValue := 0 }, { name := "LOG2_ARRAY_FLOAT_INDEX_SCALE", type := .int, accessFlags := 25, slot := 8, constantValue := 0 }, { name := "LOG2_ARRAY_DOUBLE_INDEX_SCALE", type := .int, accessFlags := 25, slot := 9, constantValue := 0 }, { name := "LOG2_BYTE_BIT_SIZE", type := .int, accessFlags := 26, slot := 10, constantValue := 0 }, { name := "T_BOOLEAN", type := .int, accessFlags := 25, slot := 11, constantValue := 0 }, { name := "T_CHAR", type := .int, accessFlags := 25, slot := 12, constantValue := 0 }, { name := "T_FLOAT", type := .int, accessFlags := 25, slot := 13, constantValue := 0 }, { name := "T_DOUBLE", type := .int, accessFlags := 25, slot := 14, constantValue := 0 }, { name := "T_BYTE", type := .int, accessFlags := 25, slot := 15, constantValue := 0 }, { name := "T_SHORT", type := .int, accessFlags := 25, slot := 16, constantValue := 0 }, { name := "T_INT", type := .int, accessFlags := 25, slot := 17, constantValue := 0 }, { name := "T_LONG", type := .int, accessFlags := 25, slot := 18, constantValue := 0 }, { name := "JLA", type := (.object "jdk/internal/access/JavaLangAccess"), accessFlags := 26, slot := 19, constantValue := 0 }, { name := "SOFT_MAX_ARRAY_LENGTH", type := .int, accessFlags := 25, slot := 20, constantValue := 0 }]
  methods := #[k40m0, k40m1]
  instanceTypes := #[]
  staticTypes := #[(.object "jdk/internal/misc/Unsafe"), .boolean, .int, .int, .int, .int, .int, .int, .int, .int, .int, .int, .int, .int, .int, .int, .int, .int, .int, (.object "jdk/internal/access/JavaLangAccess"), .int]
  resolved := Array.replicate 378 none
  statics := none }

def pool41 : Array CpInfo := pool [(1, u "java/lang/Class"), (0, .class_ 1), (0, u "java/lang/Object"), (0, .class_ 3)] 0

/-- java/lang/Class -/
def k41 : Class := { plain "java/lang/Class" (some 0) with
  accessFlags := 49
  interfaces := #[]
  cf := some (fileOf pool41 2 #[] #[] 49 4 #[] #[])
  fields := #[]
  methods := #[]
  instanceTypes := #[]
  staticTypes := #[]
  resolved := Array.replicate 5 none
  statics := none }

/-- the primitive byte -/
def k42 : Class := { plain "byte" none with kind := .primitive 'B', accessFlags := 0x411 }
/-- [B -/
def k43 : Class := { plain "[B" (some 0) with kind := .array 42 .byte, interfaces := #[20, 5], accessFlags := 1041 }

/-- the primitive char -/
def k44 : Class := { plain "char" none with kind := .primitive 'C', accessFlags := 0x411 }
/-- [C -/
def k45 : Class := { plain "[C" (some 0) with kind := .array 44 .char, interfaces := #[20, 5], accessFlags := 1041 }

/-- the primitive int -/
def k46 : Class := { plain "int" none with kind := .primitive 'I', accessFlags := 0x411 }
/-- [I -/
def k47 : Class := { plain "[I" (some 0) with kind := .array 46 .int, interfaces := #[20, 5], accessFlags := 1041 }

/-- [Ljava/lang/Object; -/
def k48 : Class := { plain "[Ljava/lang/Object;" (some 0) with kind := .array 0 (.object "java/lang/Object"), interfaces := #[20, 5], accessFlags := 1041, mirror := some 4 }

def heap : Heap := #[{ cls := 10, slots := #[.long 0, .int 1, .null, .int 0, .null, .int 0, .int 0], vm := .statics 10 },
  { cls := 21, slots := #[.long 0, .int 0, .ref 5, .ref 6], vm := .statics 21 },
  { cls := 23, slots := #[.long 0, .int 0, .null, .ref 7, .ref 8, .null, .null, .null, .int 0, .int 1], vm := .statics 23 },
  { cls := 36, slots := #[.null, .null, .null], vm := .statics 36 },
  { cls := 41, slots := #[], vm := .mirror 48 },
  { cls := 48, slots := #[], vm := .none },
  { cls := 48, slots := #[], vm := .none },
  { cls := 0, slots := #[], vm := .none },
  { cls := 27, slots := #[.ref 9, .int 0], vm := .none },
  { cls := 48, slots := #[], vm := .none }]
def classes : Array Class := #[k0, k1, k2, k3, k4, k5, k6, k7, k8, k9, k10, k11, k12, k13, k14, k15, k16, k17, k18, k19, k20, k21, k22, k23, k24, k25, k26, k27, k28, k29, k30, k31, k32, k33, k34, k35, k36, k37, k38, k39, k40, k41, k42, k43, k44, k45, k46, k47, k48]
def interned : List (Array UInt16 × Addr) := []
def slotsUsed : Nat := 26
def theMethod : MethodId := ⟨1, 4⟩
def args0 : Array Value := #[.int 5, .int 7, .int 3, .int 1]
def aboutOver (below : List Frame) : State where
  vm := { classes := classes, interned := interned.toArray }
  heap := heap
  slotsUsed := slotsUsed
  threads := #[{ frames := .invoking theMethod args0 :: below }]
def below0 : List Frame := [.native { method := ⟨0, 0⟩, args := #[] }]
def about1 : State := aboutOver below0
def p0 : Program := .bare "" "" ""
def e0 : Env := launch0.env 0 0 0
theorem w_frames : about1.frames = Frame.invoking theMethod args0 :: below0 := rfl
set_option maxRecDepth 65536 in
theorem w_args : argsFit about1.vm theMethod args0 = true := by decide +kernel
set_option maxRecDepth 65536 in
theorem w_heap : heapFits about1 = true := by decide +kernel
set_option maxRecDepth 65536 in
theorem w_runnable : about1.curStatus? = some .runnable := by decide +kernel
set_option maxRecDepth 65536 in
theorem w_alone : about1.alone = true := by decide +kernel
set_option maxRecDepth 65536 in
theorem w_named : about1.methodNamed? x = some theMethod := by decide +kernel
set_option maxRecDepth 65536 in
theorem w_hears : about1.hears theMethod below0 = true := by decide +kernel
set_option maxRecDepth 65536 in
theorem w_ripe : about1.ripe theMethod args0 below0 = true := by decide +kernel
theorem w_running : about1.status = .running := rfl
set_option maxRecDepth 65536 in
theorem w_room : about1.hasRoom e0.platform room_1 = true :=
  launch0.hasRoom_least _ room_1 (by decide +kernel) (by decide +kernel) (by decide +kernel) (by decide +kernel) (by decide +kernel) (by decide +kernel)
theorem allAtoms_all (ts : List Jvm.Cond) (a : Array Jvm.Value) (st : Jvm.State) : (allAtoms ts).before a st = ts.all (fun c => c.before a st) := by
  induction ts with
  | nil => rfl
  | cons c t ih =>
    show (Jvm.Cond.and c (allAtoms t)).before a st = _
    rw [Jvm.Cond.before_and, ih, List.all_cons]
def words1 : List Jvm.Cond := Jvm.Cond.code x code maxLocals ret :: tables_1
/-- a 'code' word, met by the world's own term for the bytes: nothing is compared byte by byte -/
theorem code_word {y : MethodName} {bytes : ByteArray} {mx : Nat} {rt : Option FieldType} {a : Array Value} {s : State} {m : MethodId} {meth : Method} {c : Code} (h1 : s.methodNamed? y = some m) (h2 : s.vm.method? m = some meth) (h3 : meth.code = some c) (h4 : c.code = bytes)
    (h5 : (c.maxLocals == mx && c.exceptionTable.isEmpty && decide (c.maxStack ≤ mostOperands) && decide (meth.sig.returnType = rt) && !meth.locks && decide (parseMethodDescriptor y.desc = some meth.sig)) = true) : (Jvm.Cond.code y bytes mx rt).before a s = true := by
  simp only [Bool.and_eq_true, beq_iff_eq, Bool.not_eq_true', decide_eq_true_eq] at h5
  obtain ⟨⟨⟨⟨⟨g1, g2⟩, g3⟩, g4⟩, g5⟩, g6⟩ := h5
  simp [Cond.before, Cond.holds, Cond.value, h1, h2, h3, h4, g1, g2, g3, g4, g5, g6]
def isCode : Jvm.Cond → Bool
  | .code _ _ _ _ => true
  | _ => false
theorem all_split {L : List Jvm.Cond} {P : Jvm.Cond → Bool} (h1 : L.all (fun c => isCode c || P c) = true) (h2 : ∀ c ∈ L.filter isCode, P c = true) : L.all P = true := by
  refine List.all_eq_true.mpr fun c hc => ?_
  have h := List.all_eq_true.mp h1 c hc
  rcases Bool.eq_false_or_eq_true (isCode c) with hi | hi
  · exact h2 c (List.mem_filter.mpr ⟨hc, hi⟩)
  · simpa [hi] using h
set_option maxRecDepth 65536 in
theorem w_c0 : (Jvm.Cond.code x code maxLocals ret).before args0 about1 = true := code_word (m := ⟨1, 4⟩) (meth := k1m4) (c := k1c4) (by decide +kernel) rfl rfl rfl (by decide +kernel)
set_option maxRecDepth 65536 in
theorem w_c1 : (Jvm.Cond.code ({ cls := "java/lang/String", name := "<init>", desc := "([C)V" } : Jvm.MethodName) jdk_42_method_3_code (2 : Nat) (Option.none : Option Jvm.ClassFile.FieldType)).before args0 about1 = true := code_word (m := ⟨10, 1⟩) (meth := k10m1) (c := k10c1) (by decide +kernel) rfl rfl rfl (by decide +kernel)
set_option maxRecDepth 65536 in
theorem w_c2 : (Jvm.Cond.code ({ cls := "java/lang/String", name := "<init>", desc := "([CIILjava/lang/Void;)V" } : Jvm.MethodName) jdk_42_method_149_code (6 : Nat) (Option.none : Option Jvm.ClassFile.FieldType)).before args0 about1 = true := code_word (m := ⟨10, 7⟩) (meth := k10m7) (c := k10c7) (by decide +kernel) rfl rfl rfl (by decide +kernel)
set_option maxRecDepth 65536 in
theorem w_c3 : (Jvm.Cond.code ({ cls := "java/lang/Object", name := "<init>", desc := "()V" } : Jvm.MethodName) object_method_1_code (1 : Nat) (Option.none : Option Jvm.ClassFile.FieldType)).before args0 about1 = true := code_word (m := ⟨0, 0⟩) (meth := k0m0) (c := k0c0) (by decide +kernel) rfl rfl rfl (by decide +kernel)
set_option maxRecDepth 65536 in
theorem w_c4 : (Jvm.Cond.code ({ cls := "java/lang/StringUTF16", name := "compress", desc := "([CII)[B" } : Jvm.MethodName) jdk_52_method_16_code (6 : Nat) (Option.some (Jvm.ClassFile.FieldType.array Jvm.ClassFile.FieldType.byte))).before args0 about1 = true := code_word (m := ⟨11, 2⟩) (meth := k11m2) (c := k11c2) (by decide +kernel) rfl rfl rfl (by decide +kernel)
set_option maxRecDepth 65536 in
theorem w_c5 : (Jvm.Cond.code ({ cls := "java/lang/StringUTF16", name := "compress", desc := "([CI[BII)I" } : Jvm.MethodName) jdk_52_method_21_code (7 : Nat) (Option.some Jvm.ClassFile.FieldType.int)).before args0 about1 = true := code_word (m := ⟨11, 3⟩) (meth := k11m3) (c := k11c3) (by decide +kernel) rfl rfl rfl (by decide +kernel)
set_option maxRecDepth 65536 in
theorem w_c6 : (Jvm.Cond.code ({ cls := "java/lang/StringUTF16", name := "coderFromArrayLen", desc := "([BI)B" } : Jvm.MethodName) jdk_52_method_15_code (2 : Nat) (Option.some Jvm.ClassFile.FieldType.byte)).before args0 about1 = true := code_word (m := ⟨11, 1⟩) (meth := k11m1) (c := k11c1) (by decide +kernel) rfl rfl rfl (by decide +kernel)
set_option maxRecDepth 65536 in
theorem w_c7 : (Jvm.Cond.code ({ cls := "com/example/regalwerk/regalwerk/ControlField", name := "<init>", desc := "(Ljava/lang/String;Ljava/lang/String;)V" } : Jvm.MethodName) prog_3_method_1_code (3 : Nat) (Option.none : Option Jvm.ClassFile.FieldType)).before args0 about1 = true := code_word (m := ⟨4, 0⟩) (meth := k4m0) (c := k4c0) (by decide +kernel) rfl rfl rfl (by decide +kernel)
set_option maxRecDepth 65536 in
theorem w_c8 : (Jvm.Cond.code ({ cls := "java/lang/Record", name := "<init>", desc := "()V" } : Jvm.MethodName) jdk_30_method_1_code (1 : Nat) (Option.none : Option Jvm.ClassFile.FieldType)).before args0 about1 = true := code_word (m := ⟨2, 0⟩) (meth := k2m0) (c := k2c0) (by decide +kernel) rfl rfl rfl (by decide +kernel)
set_option maxRecDepth 65536 in
theorem w_c9 : (Jvm.Cond.code ({ cls := "com/example/regalwerk/regalwerk/HoldingsLinkerDeletionPinLaw", name := "leader", desc := "(ZC)Ljava/lang/String;" } : Jvm.MethodName) method_2_code (2 : Nat) (Option.some (Jvm.ClassFile.FieldType.object "java/lang/String"))).before args0 about1 = true := code_word (m := ⟨1, 1⟩) (meth := k1m1) (c := k1c1) (by decide +kernel) rfl rfl rfl (by decide +kernel)
set_option maxRecDepth 65536 in
theorem w_c10 : (Jvm.Cond.code ({ cls := "com/example/regalwerk/regalwerk/HoldingsLinkerDeletionPinLaw", name := "fields", desc := "(ZLjava/lang/Object;)Ljava/util/ArrayList;" } : Jvm.MethodName) method_3_code (3 : Nat) (Option.some (Jvm.ClassFile.FieldType.object "java/util/ArrayList"))).before args0 about1 = true := code_word (m := ⟨1, 2⟩) (meth := k1m2) (c := k1c2) (by decide +kernel) rfl rfl rfl (by decide +kernel)
set_option maxRecDepth 65536 in
theorem w_c11 : (Jvm.Cond.code ({ cls := "java/util/ArrayList", name := "<init>", desc := "()V" } : Jvm.MethodName) jdk_38_method_2_code (1 : Nat) (Option.none : Option Jvm.ClassFile.FieldType)).before args0 about1 = true := code_word (m := ⟨21, 0⟩) (meth := k21m0) (c := k21c0) (by decide +kernel) rfl rfl rfl (by decide +kernel)
set_option maxRecDepth 65536 in
theorem w_c12 : (Jvm.Cond.code ({ cls := "java/util/AbstractList", name := "<init>", desc := "()V" } : Jvm.MethodName) jdk_39_method_1_code (1 : Nat) (Option.none : Option Jvm.ClassFile.FieldType)).before args0 about1 = true := code_word (m := ⟨18, 0⟩) (meth := k18m0) (c := k18c0) (by decide +kernel) rfl rfl rfl (by decide +kernel)
set_option maxRecDepth 65536 in
theorem w_c13 : (Jvm.Cond.code ({ cls := "java/util/AbstractCollection", name := "<init>", desc := "()V" } : Jvm.MethodName) jdk_22_method_1_code (1 : Nat) (Option.none : Option Jvm.ClassFile.FieldType)).before args0 about1 = true := code_word (m := ⟨15, 0⟩) (meth := k15m0) (c := k15c0) (by decide +kernel) rfl rfl rfl (by decide +kernel)
set_option maxRecDepth 65536 in
theorem w_c14 : (Jvm.Cond.code ({ cls := "java/util/ArrayList", name := "add", desc := "(Ljava/lang/Object;)Z" } : Jvm.MethodName) jdk_38_method_25_code (2 : Nat) (Option.some Jvm.ClassFile.FieldType.boolean)).before args0 about1 = true := code_word (m := ⟨21, 6⟩) (meth := k21m6) (c := k21c6) (by decide +kernel) rfl rfl rfl (by decide +kernel)
set_option maxRecDepth 65536 in
theorem w_c15 : (Jvm.Cond.code ({ cls := "java/util/ArrayList", name := "add", desc := "(Ljava/lang/Object;[Ljava/lang/Object;I)V" } : Jvm.MethodName) jdk_38_method_24_code (4 : Nat) (Option.none : Option Jvm.ClassFile.FieldType)).before args0 about1 = true := code_word (m := ⟨21, 5⟩) (meth := k21m5) (c := k21c5) (by decide +kernel) rfl rfl rfl (by decide +kernel)
set_option maxRecDepth 65536 in
theorem w_c16 : (Jvm.Cond.code ({ cls := "java/util/ArrayList", name := "grow", desc := "()[Ljava/lang/Object;" } : Jvm.MethodName) jdk_38_method_7_code (1 : Nat) (Option.some (Jvm.ClassFile.FieldType.array (Jvm.ClassFile.FieldType.object "java/lang/Object")))).before args0 about1 = true := code_word (m := ⟨21, 2⟩) (meth := k21m2) (c := k21c2) (by decide +kernel) rfl rfl rfl (by decide +kernel)
set_option maxRecDepth 65536 in
theorem w_c17 : (Jvm.Cond.code ({ cls := "java/util/ArrayList", name := "grow", desc := "(I)[Ljava/lang/Object;" } : Jvm.MethodName) jdk_38_method_6_code (4 : Nat) (Option.some (Jvm.ClassFile.FieldType.array (Jvm.ClassFile.FieldType.object "java/lang/Object")))).before args0 about1 = true := code_word (m := ⟨21, 1⟩) (meth := k21m1) (c := k21c1) (by decide +kernel) rfl rfl rfl (by decide +kernel)
set_option maxRecDepth 65536 in
theorem w_c18 : (Jvm.Cond.code ({ cls := "java/lang/Math", name := "max", desc := "(II)I" } : Jvm.MethodName) jdk_29_method_65_code (2 : Nat) (Option.some Jvm.ClassFile.FieldType.int)).before args0 about1 = true := code_word (m := ⟨22, 1⟩) (meth := k22m1) (c := k22c1) (by decide +kernel) rfl rfl rfl (by decide +kernel)
set_option maxRecDepth 65536 in
theorem w_c19 : (Jvm.Cond.code ({ cls := "com/example/regalwerk/regalwerk/MarcRecord", name := "<init>", desc := "(Ljava/lang/String;Ljava/util/List;)V" } : Jvm.MethodName) prog_28_method_1_code (3 : Nat) (Option.none : Option Jvm.ClassFile.FieldType)).before args0 about1 = true := code_word (m := ⟨12, 0⟩) (meth := k12m0) (c := k12c0) (by decide +kernel) rfl rfl rfl (by decide +kernel)
set_option maxRecDepth 65536 in
theorem w_c20 : (Jvm.Cond.code ({ cls := "java/util/List", name := "copyOf", desc := "(Ljava/util/Collection;)Ljava/util/List;" } : Jvm.MethodName) jdk_40_method_48_code (1 : Nat) (Option.some (Jvm.ClassFile.FieldType.object "java/util/List"))).before args0 about1 = true := code_word (m := ⟨17, 4⟩) (meth := k17m4) (c := k17c4) (by decide +kernel) rfl rfl rfl (by decide +kernel)
set_option maxRecDepth 65536 in
theorem w_c21 : (Jvm.Cond.code ({ cls := "java/util/ImmutableCollections", name := "listCopy", desc := "(Ljava/util/Collection;)Ljava/util/List;" } : Jvm.MethodName) jdk_56_method_3_code (2 : Nat) (Option.some (Jvm.ClassFile.FieldType.object "java/util/List"))).before args0 about1 = true := code_word (m := ⟨23, 1⟩) (meth := k23m1) (c := k23c1) (by decide +kernel) rfl rfl rfl (by decide +kernel)
set_option maxRecDepth 65536 in
theorem w_c22 : (Jvm.Cond.code ({ cls := "java/util/ArrayList", name := "isEmpty", desc := "()Z" } : Jvm.MethodName) jdk_38_method_9_code (1 : Nat) (Option.some Jvm.ClassFile.FieldType.boolean)).before args0 about1 = true := code_word (m := ⟨21, 3⟩) (meth := k21m3) (c := k21c3) (by decide +kernel) rfl rfl rfl (by decide +kernel)
set_option maxRecDepth 65536 in
theorem w_c23 : (Jvm.Cond.code ({ cls := "java/util/ArrayList", name := "toArray", desc := "()[Ljava/lang/Object;" } : Jvm.MethodName) jdk_38_method_16_code (1 : Nat) (Option.some (Jvm.ClassFile.FieldType.array (Jvm.ClassFile.FieldType.object "java/lang/Object")))).before args0 about1 = true := code_word (m := ⟨21, 4⟩) (meth := k21m4) (c := k21c4) (by decide +kernel) rfl rfl rfl (by decide +kernel)
set_option maxRecDepth 65536 in
theorem w_c24 : (Jvm.Cond.code ({ cls := "java/util/Arrays", name := "copyOf", desc := "([Ljava/lang/Object;I)[Ljava/lang/Object;" } : Jvm.MethodName) jdk_65_method_119_code (2 : Nat) (Option.some (Jvm.ClassFile.FieldType.array (Jvm.ClassFile.FieldType.object "java/lang/Object")))).before args0 about1 = true := code_word (m := ⟨28, 1⟩) (meth := k28m1) (c := k28c1) (by decide +kernel) rfl rfl rfl (by decide +kernel)
set_option maxRecDepth 65536 in
theorem w_c25 : (Jvm.Cond.code ({ cls := "java/util/Arrays", name := "copyOf", desc := "([Ljava/lang/Object;ILjava/lang/Class;)[Ljava/lang/Object;" } : Jvm.MethodName) jdk_65_method_120_code (4 : Nat) (Option.some (Jvm.ClassFile.FieldType.array (Jvm.ClassFile.FieldType.object "java/lang/Object")))).before args0 about1 = true := code_word (m := ⟨28, 2⟩) (meth := k28m2) (c := k28c2) (by decide +kernel) rfl rfl rfl (by decide +kernel)
set_option maxRecDepth 65536 in
theorem w_c26 : (Jvm.Cond.code ({ cls := "java/lang/Math", name := "min", desc := "(II)I" } : Jvm.MethodName) jdk_29_method_69_code (2 : Nat) (Option.some Jvm.ClassFile.FieldType.int)).before args0 about1 = true := code_word (m := ⟨22, 2⟩) (meth := k22m2) (c := k22c2) (by decide +kernel) rfl rfl rfl (by decide +kernel)
set_option maxRecDepth 65536 in
theorem w_c27 : (Jvm.Cond.code ({ cls := "java/util/List", name := "of", desc := "([Ljava/lang/Object;)Ljava/util/List;" } : Jvm.MethodName) jdk_40_method_47_code (2 : Nat) (Option.some (Jvm.ClassFile.FieldType.object "java/util/List"))).before args0 about1 = true := code_word (m := ⟨17, 3⟩) (meth := k17m3) (c := k17c3) (by decide +kernel) rfl rfl rfl (by decide +kernel)
set_option maxRecDepth 65536 in
theorem w_c28 : (Jvm.Cond.code ({ cls := "java/util/ImmutableCollections$List12", name := "<init>", desc := "(Ljava/lang/Object;)V" } : Jvm.MethodName) jdk_44_method_1_code (2 : Nat) (Option.none : Option Jvm.ClassFile.FieldType)).before args0 about1 = true := code_word (m := ⟨26, 0⟩) (meth := k26m0) (c := k26c0) (by decide +kernel) rfl rfl rfl (by decide +kernel)
set_option maxRecDepth 65536 in
theorem w_c29 : (Jvm.Cond.code ({ cls := "java/util/ImmutableCollections$AbstractImmutableList", name := "<init>", desc := "()V" } : Jvm.MethodName) jdk_46_method_1_code (1 : Nat) (Option.none : Option Jvm.ClassFile.FieldType)).before args0 about1 = true := code_word (m := ⟨25, 0⟩) (meth := k25m0) (c := k25c0) (by decide +kernel) rfl rfl rfl (by decide +kernel)
set_option maxRecDepth 65536 in
theorem w_c30 : (Jvm.Cond.code ({ cls := "java/util/ImmutableCollections$AbstractImmutableCollection", name := "<init>", desc := "()V" } : Jvm.MethodName) jdk_47_method_1_code (1 : Nat) (Option.none : Option Jvm.ClassFile.FieldType)).before args0 about1 = true := code_word (m := ⟨24, 0⟩) (meth := k24m0) (c := k24c0) (by decide +kernel) rfl rfl rfl (by decide +kernel)
set_option maxRecDepth 65536 in
theorem w_c31 : (Jvm.Cond.code ({ cls := "java/util/Objects", name := "requireNonNull", desc := "(Ljava/lang/Object;)Ljava/lang/Object;" } : Jvm.MethodName) jdk_31_method_10_code (1 : Nat) (Option.some (Jvm.ClassFile.FieldType.object "java/lang/Object"))).before args0 about1 = true := code_word (m := ⟨30, 1⟩) (meth := k30m1) (c := k30c1) (by decide +kernel) rfl rfl rfl (by decide +kernel)
set_option maxRecDepth 65536 in
theorem w_c32 : (Jvm.Cond.code ({ cls := "java/util/List", name := "of", desc := "()Ljava/util/List;" } : Jvm.MethodName) jdk_40_method_36_code (0 : Nat) (Option.some (Jvm.ClassFile.FieldType.object "java/util/List"))).before args0 about1 = true := code_word (m := ⟨17, 2⟩) (meth := k17m2) (c := k17c2) (by decide +kernel) rfl rfl rfl (by decide +kernel)
set_option maxRecDepth 65536 in
theorem w_c33 : (Jvm.Cond.code ({ cls := "com/example/regalwerk/regalwerk/HoldingsLinker", name := "<init>", desc := "()V" } : Jvm.MethodName) prog_13_method_1_code (1 : Nat) (Option.none : Option Jvm.ClassFile.FieldType)).before args0 about1 = true := code_word (m := ⟨31, 0⟩) (meth := k31m0) (c := k31c0) (by decide +kernel) rfl rfl rfl (by decide +kernel)
set_option maxRecDepth 65536 in
theorem w_c34 : (Jvm.Cond.code ({ cls := "com/example/regalwerk/regalwerk/HoldingsLinker", name := "title", desc := "(Lcom/example/regalwerk/regalwerk/MarcRecord;Lcom/example/regalwerk/regalwerk/SruCollection;)V" } : Jvm.MethodName) prog_13_method_2_code (3 : Nat) (Option.none : Option Jvm.ClassFile.FieldType)).before args0 about1 = true := code_word (m := ⟨31, 1⟩) (meth := k31m1) (c := k31c1) (by decide +kernel) rfl rfl rfl (by decide +kernel)
set_option maxRecDepth 65536 in
theorem w_c35 : (Jvm.Cond.code ({ cls := "com/example/regalwerk/regalwerk/MarcRecord", name := "controlField", desc := "(Ljava/lang/String;)Ljava/lang/String;" } : Jvm.MethodName) prog_28_method_4_code (5 : Nat) (Option.some (Jvm.ClassFile.FieldType.object "java/lang/String"))).before args0 about1 = true := code_word (m := ⟨12, 2⟩) (meth := k12m2) (c := k12c2) (by decide +kernel) rfl rfl rfl (by decide +kernel)
set_option maxRecDepth 65536 in
theorem w_c36 : (Jvm.Cond.code ({ cls := "java/util/ImmutableCollections$AbstractImmutableList", name := "iterator", desc := "()Ljava/util/Iterator;" } : Jvm.MethodName) jdk_46_method_10_code (1 : Nat) (Option.some (Jvm.ClassFile.FieldType.object "java/util/Iterator"))).before args0 about1 = true := code_word (m := ⟨25, 1⟩) (meth := k25m1) (c := k25c1) (by decide +kernel) rfl rfl rfl (by decide +kernel)
set_option maxRecDepth 65536 in
theorem w_c37 : (Jvm.Cond.code ({ cls := "java/util/ImmutableCollections$List12", name := "size", desc := "()I" } : Jvm.MethodName) jdk_44_method_3_code (1 : Nat) (Option.some Jvm.ClassFile.FieldType.int)).before args0 about1 = true := code_word (m := ⟨26, 1⟩) (meth := k26m1) (c := k26c1) (by decide +kernel) rfl rfl rfl (by decide +kernel)
set_option maxRecDepth 65536 in
theorem w_c38 : (Jvm.Cond.code ({ cls := "java/util/ImmutableCollections$ListItr", name := "<init>", desc := "(Ljava/util/List;I)V" } : Jvm.MethodName) jdk_53_method_1_code (3 : Nat) (Option.none : Option Jvm.ClassFile.FieldType)).before args0 about1 = true := code_word (m := ⟨34, 0⟩) (meth := k34m0) (c := k34c0) (by decide +kernel) rfl rfl rfl (by decide +kernel)
set_option maxRecDepth 65536 in
theorem w_c39 : (Jvm.Cond.code ({ cls := "java/util/ImmutableCollections$ListItr", name := "hasNext", desc := "()Z" } : Jvm.MethodName) jdk_53_method_3_code (1 : Nat) (Option.some Jvm.ClassFile.FieldType.boolean)).before args0 about1 = true := code_word (m := ⟨34, 1⟩) (meth := k34m1) (c := k34c1) (by decide +kernel) rfl rfl rfl (by decide +kernel)
set_option maxRecDepth 65536 in
theorem w_c40 : (Jvm.Cond.code ({ cls := "java/util/ImmutableCollections$List12", name := "get", desc := "(I)Ljava/lang/Object;" } : Jvm.MethodName) jdk_44_method_5_code (2 : Nat) (Option.some (Jvm.ClassFile.FieldType.object "java/lang/Object"))).before args0 about1 = true := code_word (m := ⟨26, 2⟩) (meth := k26m2) (c := k26c2) (by decide +kernel) rfl rfl rfl (by decide +kernel)
set_option maxRecDepth 65536 in
theorem w_c41 : (Jvm.Cond.code ({ cls := "com/example/regalwerk/regalwerk/ControlField", name := "tag", desc := "()Ljava/lang/String;" } : Jvm.MethodName) prog_3_method_5_code (1 : Nat) (Option.some (Jvm.ClassFile.FieldType.object "java/lang/String"))).before args0 about1 = true := code_word (m := ⟨4, 1⟩) (meth := k4m1) (c := k4c1) (by decide +kernel) rfl rfl rfl (by decide +kernel)
set_option maxRecDepth 65536 in
theorem w_c42 : (Jvm.Cond.code ({ cls := "java/lang/String", name := "equals", desc := "(Ljava/lang/Object;)Z" } : Jvm.MethodName) jdk_42_method_66_code (3 : Nat) (Option.some Jvm.ClassFile.FieldType.boolean)).before args0 about1 = true := code_word (m := ⟨10, 5⟩) (meth := k10m5) (c := k10c5) (by decide +kernel) rfl rfl rfl (by decide +kernel)
set_option maxRecDepth 65536 in
theorem w_c43 : (Jvm.Cond.code ({ cls := "com/example/regalwerk/regalwerk/ControlField", name := "value", desc := "()Ljava/lang/String;" } : Jvm.MethodName) prog_3_method_6_code (1 : Nat) (Option.some (Jvm.ClassFile.FieldType.object "java/lang/String"))).before args0 about1 = true := code_word (m := ⟨4, 2⟩) (meth := k4m2) (c := k4c2) (by decide +kernel) rfl rfl rfl (by decide +kernel)
set_option maxRecDepth 65536 in
theorem w_c44 : (Jvm.Cond.code ({ cls := "com/example/regalwerk/regalwerk/MarcRecord", name := "isDeleted", desc := "()Z" } : Jvm.MethodName) prog_28_method_3_code (1 : Nat) (Option.some Jvm.ClassFile.FieldType.boolean)).before args0 about1 = true := code_word (m := ⟨12, 1⟩) (meth := k12m1) (c := k12c1) (by decide +kernel) rfl rfl rfl (by decide +kernel)
set_option maxRecDepth 65536 in
theorem w_c45 : (Jvm.Cond.code ({ cls := "java/lang/String", name := "length", desc := "()I" } : Jvm.MethodName) jdk_42_method_54_code (1 : Nat) (Option.some Jvm.ClassFile.FieldType.int)).before args0 about1 = true := code_word (m := ⟨10, 3⟩) (meth := k10m3) (c := k10c3) (by decide +kernel) rfl rfl rfl (by decide +kernel)
set_option maxRecDepth 65536 in
theorem w_c46 : (Jvm.Cond.code ({ cls := "java/lang/String", name := "coder", desc := "()B" } : Jvm.MethodName) jdk_42_method_152_code (1 : Nat) (Option.some Jvm.ClassFile.FieldType.byte)).before args0 about1 = true := code_word (m := ⟨10, 9⟩) (meth := k10m9) (c := k10c9) (by decide +kernel) rfl rfl rfl (by decide +kernel)
set_option maxRecDepth 65536 in
theorem w_c47 : (Jvm.Cond.code ({ cls := "java/lang/String", name := "charAt", desc := "(I)C" } : Jvm.MethodName) jdk_42_method_56_code (2 : Nat) (Option.some Jvm.ClassFile.FieldType.char)).before args0 about1 = true := code_word (m := ⟨10, 4⟩) (meth := k10m4) (c := k10c4) (by decide +kernel) rfl rfl rfl (by decide +kernel)
set_option maxRecDepth 65536 in
theorem w_c48 : (Jvm.Cond.code ({ cls := "java/lang/String", name := "isLatin1", desc := "()Z" } : Jvm.MethodName) jdk_42_method_154_code (1 : Nat) (Option.some Jvm.ClassFile.FieldType.boolean)).before args0 about1 = true := code_word (m := ⟨10, 10⟩) (meth := k10m10) (c := k10c10) (by decide +kernel) rfl rfl rfl (by decide +kernel)
set_option maxRecDepth 65536 in
theorem w_c49 : (Jvm.Cond.code ({ cls := "java/lang/StringLatin1", name := "charAt", desc := "([BI)C" } : Jvm.MethodName) jdk_43_method_2_code (2 : Nat) (Option.some Jvm.ClassFile.FieldType.char)).before args0 about1 = true := code_word (m := ⟨35, 1⟩) (meth := k35m1) (c := k35c1) (by decide +kernel) rfl rfl rfl (by decide +kernel)
set_option maxRecDepth 65536 in
theorem w_c50 : (Jvm.Cond.code ({ cls := "java/lang/String", name := "checkIndex", desc := "(II)V" } : Jvm.MethodName) jdk_42_method_155_code (2 : Nat) (Option.none : Option Jvm.ClassFile.FieldType)).before args0 about1 = true := code_word (m := ⟨10, 11⟩) (meth := k10m11) (c := k10c11) (by decide +kernel) rfl rfl rfl (by decide +kernel)
set_option maxRecDepth 65536 in
theorem w_c51 : (Jvm.Cond.code ({ cls := "jdk/internal/util/Preconditions", name := "checkIndex", desc := "(IILjava/util/function/BiFunction;)I" } : Jvm.MethodName) jdk_41_method_11_code (3 : Nat) (Option.some Jvm.ClassFile.FieldType.int)).before args0 about1 = true := code_word (m := ⟨36, 1⟩) (meth := k36m1) (c := k36c1) (by decide +kernel) rfl rfl rfl (by decide +kernel)
set_option maxRecDepth 65536 in
theorem w_c52 : (Jvm.Cond.code ({ cls := "com/example/regalwerk/regalwerk/MarcRecord", name := "id", desc := "()Ljava/lang/String;" } : Jvm.MethodName) prog_28_method_6_code (2 : Nat) (Option.some (Jvm.ClassFile.FieldType.object "java/lang/String"))).before args0 about1 = true := code_word (m := ⟨12, 3⟩) (meth := k12m3) (c := k12c3) (by decide +kernel) rfl rfl rfl (by decide +kernel)
set_option maxRecDepth 65536 in
theorem w_c53 : (Jvm.Cond.code ({ cls := "com/example/regalwerk/regalwerk/HoldingsLinker", name := "deletion", desc := "(Lcom/example/regalwerk/regalwerk/MarcRecord;Z)Ljava/lang/String;" } : Jvm.MethodName) prog_13_method_4_code (4 : Nat) (Option.some (Jvm.ClassFile.FieldType.object "java/lang/String"))).before args0 about1 = true := code_word (m := ⟨31, 2⟩) (meth := k31m2) (c := k31c2) (by decide +kernel) rfl rfl rfl (by decide +kernel)
set_option maxRecDepth 65536 in
theorem w_c54 : (Jvm.Cond.code ({ cls := "java/util/ImmutableCollections$ListN", name := "size", desc := "()I" } : Jvm.MethodName) jdk_45_method_3_code (1 : Nat) (Option.some Jvm.ClassFile.FieldType.int)).before args0 about1 = true := code_word (m := ⟨27, 0⟩) (meth := k27m0) (c := k27c0) (by decide +kernel) rfl rfl rfl (by decide +kernel)
set_option maxRecDepth 65536 in
theorem w_c55 : (Jvm.Cond.code ({ cls := "java/lang/StringBuilder", name := "<init>", desc := "()V" } : Jvm.MethodName) jdk_67_method_1_code (1 : Nat) (Option.none : Option Jvm.ClassFile.FieldType)).before args0 about1 = true := code_word (m := ⟨39, 0⟩) (meth := k39m0) (c := k39c0) (by decide +kernel) rfl rfl rfl (by decide +kernel)
set_option maxRecDepth 65536 in
theorem w_c56 : (Jvm.Cond.code ({ cls := "java/lang/AbstractStringBuilder", name := "<init>", desc := "(I)V" } : Jvm.MethodName) jdk_68_method_2_code (2 : Nat) (Option.none : Option Jvm.ClassFile.FieldType)).before args0 about1 = true := code_word (m := ⟨38, 1⟩) (meth := k38m1) (c := k38c1) (by decide +kernel) rfl rfl rfl (by decide +kernel)
set_option maxRecDepth 65536 in
theorem w_c57 : (Jvm.Cond.code ({ cls := "java/lang/StringBuilder", name := "append", desc := "(Ljava/lang/String;)Ljava/lang/StringBuilder;" } : Jvm.MethodName) jdk_67_method_7_code (2 : Nat) (Option.some (Jvm.ClassFile.FieldType.object "java/lang/StringBuilder"))).before args0 about1 = true := code_word (m := ⟨39, 1⟩) (meth := k39m1) (c := k39c1) (by decide +kernel) rfl rfl rfl (by decide +kernel)
set_option maxRecDepth 65536 in
theorem w_c58 : (Jvm.Cond.code ({ cls := "java/lang/AbstractStringBuilder", name := "append", desc := "(Ljava/lang/String;)Ljava/lang/AbstractStringBuilder;" } : Jvm.MethodName) jdk_68_method_22_code (3 : Nat) (Option.some (Jvm.ClassFile.FieldType.object "java/lang/AbstractStringBuilder"))).before args0 about1 = true := code_word (m := ⟨38, 5⟩) (meth := k38m5) (c := k38c5) (by decide +kernel) rfl rfl rfl (by decide +kernel)
set_option maxRecDepth 65536 in
theorem w_c59 : (Jvm.Cond.code ({ cls := "java/lang/AbstractStringBuilder", name := "ensureCapacityInternal", desc := "(I)V" } : Jvm.MethodName) jdk_68_method_9_code (3 : Nat) (Option.none : Option Jvm.ClassFile.FieldType)).before args0 about1 = true := code_word (m := ⟨38, 3⟩) (meth := k38m3) (c := k38c3) (by decide +kernel) rfl rfl rfl (by decide +kernel)
set_option maxRecDepth 65536 in
theorem w_c60 : (Jvm.Cond.code ({ cls := "java/lang/AbstractStringBuilder", name := "newCapacity", desc := "(I)I" } : Jvm.MethodName) jdk_68_method_10_code (6 : Nat) (Option.some Jvm.ClassFile.FieldType.int)).before args0 about1 = true := code_word (m := ⟨38, 4⟩) (meth := k38m4) (c := k38c4) (by decide +kernel) rfl rfl rfl (by decide +kernel)
set_option maxRecDepth 65536 in
theorem w_c61 : (Jvm.Cond.code ({ cls := "jdk/internal/util/ArraysSupport", name := "newLength", desc := "(III)I" } : Jvm.MethodName) jdk_48_method_27_code (4 : Nat) (Option.some Jvm.ClassFile.FieldType.int)).before args0 about1 = true := code_word (m := ⟨40, 1⟩) (meth := k40m1) (c := k40c1) (by decide +kernel) rfl rfl rfl (by decide +kernel)
set_option maxRecDepth 65536 in
theorem w_c62 : (Jvm.Cond.code ({ cls := "java/util/Arrays", name := "copyOf", desc := "([BI)[B" } : Jvm.MethodName) jdk_65_method_121_code (3 : Nat) (Option.some (Jvm.ClassFile.FieldType.array Jvm.ClassFile.FieldType.byte))).before args0 about1 = true := code_word (m := ⟨28, 3⟩) (meth := k28m3) (c := k28c3) (by decide +kernel) rfl rfl rfl (by decide +kernel)
set_option maxRecDepth 65536 in
theorem w_c63 : (Jvm.Cond.code ({ cls := "java/lang/AbstractStringBuilder", name := "putStringAt", desc := "(ILjava/lang/String;)V" } : Jvm.MethodName) jdk_68_method_73_code (3 : Nat) (Option.none : Option Jvm.ClassFile.FieldType)).before args0 about1 = true := code_word (m := ⟨38, 9⟩) (meth := k38m9) (c := k38c9) (by decide +kernel) rfl rfl rfl (by decide +kernel)
set_option maxRecDepth 65536 in
theorem w_c64 : (Jvm.Cond.code ({ cls := "java/lang/AbstractStringBuilder", name := "inflateIfNeededFor", desc := "(Ljava/lang/String;)V" } : Jvm.MethodName) jdk_68_method_71_code (2 : Nat) (Option.none : Option Jvm.ClassFile.FieldType)).before args0 about1 = true := code_word (m := ⟨38, 8⟩) (meth := k38m8) (c := k38c8) (by decide +kernel) rfl rfl rfl (by decide +kernel)
set_option maxRecDepth 65536 in
theorem w_c65 : (Jvm.Cond.code ({ cls := "java/lang/String", name := "getBytes", desc := "([BIB)V" } : Jvm.MethodName) jdk_42_method_147_code (4 : Nat) (Option.none : Option Jvm.ClassFile.FieldType)).before args0 about1 = true := code_word (m := ⟨10, 6⟩) (meth := k10m6) (c := k10c6) (by decide +kernel) rfl rfl rfl (by decide +kernel)
set_option maxRecDepth 65536 in
theorem w_c66 : (Jvm.Cond.code ({ cls := "java/lang/StringBuilder", name := "toString", desc := "()Ljava/lang/String;" } : Jvm.MethodName) jdk_67_method_42_code (1 : Nat) (Option.some (Jvm.ClassFile.FieldType.object "java/lang/String"))).before args0 about1 = true := code_word (m := ⟨39, 2⟩) (meth := k39m2) (c := k39c2) (by decide +kernel) rfl rfl rfl (by decide +kernel)
set_option maxRecDepth 65536 in
theorem w_c67 : (Jvm.Cond.code ({ cls := "java/lang/String", name := "<init>", desc := "(Ljava/lang/StringBuilder;)V" } : Jvm.MethodName) jdk_42_method_53_code (2 : Nat) (Option.none : Option Jvm.ClassFile.FieldType)).before args0 about1 = true := code_word (m := ⟨10, 2⟩) (meth := k10m2) (c := k10c2) (by decide +kernel) rfl rfl rfl (by decide +kernel)
set_option maxRecDepth 65536 in
theorem w_c68 : (Jvm.Cond.code ({ cls := "java/lang/String", name := "<init>", desc := "(Ljava/lang/AbstractStringBuilder;Ljava/lang/Void;)V" } : Jvm.MethodName) jdk_42_method_150_code (5 : Nat) (Option.none : Option Jvm.ClassFile.FieldType)).before args0 about1 = true := code_word (m := ⟨10, 8⟩) (meth := k10m8) (c := k10c8) (by decide +kernel) rfl rfl rfl (by decide +kernel)
set_option maxRecDepth 65536 in
theorem w_c69 : (Jvm.Cond.code ({ cls := "java/lang/AbstractStringBuilder", name := "getValue", desc := "()[B" } : Jvm.MethodName) jdk_68_method_64_code (1 : Nat) (Option.some (Jvm.ClassFile.FieldType.array Jvm.ClassFile.FieldType.byte))).before args0 about1 = true := code_word (m := ⟨38, 6⟩) (meth := k38m6) (c := k38c6) (by decide +kernel) rfl rfl rfl (by decide +kernel)
set_option maxRecDepth 65536 in
theorem w_c70 : (Jvm.Cond.code ({ cls := "java/lang/StringBuilder", name := "length", desc := "()I" } : Jvm.MethodName) jdk_67_method_93_code (1 : Nat) (Option.some Jvm.ClassFile.FieldType.int)).before args0 about1 = true := code_word (m := ⟨39, 3⟩) (meth := k39m3) (c := k39c3) (by decide +kernel) rfl rfl rfl (by decide +kernel)
set_option maxRecDepth 65536 in
theorem w_c71 : (Jvm.Cond.code ({ cls := "java/lang/AbstractStringBuilder", name := "length", desc := "()I" } : Jvm.MethodName) jdk_68_method_6_code (1 : Nat) (Option.some Jvm.ClassFile.FieldType.int)).before args0 about1 = true := code_word (m := ⟨38, 2⟩) (meth := k38m2) (c := k38c2) (by decide +kernel) rfl rfl rfl (by decide +kernel)
set_option maxRecDepth 65536 in
theorem w_c72 : (Jvm.Cond.code ({ cls := "java/lang/AbstractStringBuilder", name := "isLatin1", desc := "()Z" } : Jvm.MethodName) jdk_68_method_68_code (1 : Nat) (Option.some Jvm.ClassFile.FieldType.boolean)).before args0 about1 = true := code_word (m := ⟨38, 7⟩) (meth := k38m7) (c := k38c7) (by decide +kernel) rfl rfl rfl (by decide +kernel)
set_option maxRecDepth 65536 in
theorem w_c73 : (Jvm.Cond.code ({ cls := "java/util/Arrays", name := "copyOfRange", desc := "([BII)[B" } : Jvm.MethodName) jdk_65_method_132_code (3 : Nat) (Option.some (Jvm.ClassFile.FieldType.array Jvm.ClassFile.FieldType.byte))).before args0 about1 = true := code_word (m := ⟨28, 5⟩) (meth := k28m5) (c := k28c5) (by decide +kernel) rfl rfl rfl (by decide +kernel)
set_option maxRecDepth 65536 in
theorem w_c74 : (Jvm.Cond.code ({ cls := "java/util/Arrays", name := "copyOfRangeByte", desc := "([BII)[B" } : Jvm.MethodName) jdk_65_method_133_code (5 : Nat) (Option.some (Jvm.ClassFile.FieldType.array Jvm.ClassFile.FieldType.byte))).before args0 about1 = true := code_word (m := ⟨28, 6⟩) (meth := k28m6) (c := k28c6) (by decide +kernel) rfl rfl rfl (by decide +kernel)
set_option maxRecDepth 65536 in
theorem w_c75 : (Jvm.Cond.code ({ cls := "java/util/Arrays", name := "checkLength", desc := "(II)V" } : Jvm.MethodName) jdk_65_method_131_code (2 : Nat) (Option.none : Option Jvm.ClassFile.FieldType)).before args0 about1 = true := code_word (m := ⟨28, 4⟩) (meth := k28m4) (c := k28c4) (by decide +kernel) rfl rfl rfl (by decide +kernel)
set_option maxRecDepth 65536 in
theorem w_c76 : (Jvm.Cond.code ({ cls := "java/lang/StringLatin1", name := "equals", desc := "([B[B)Z" } : Jvm.MethodName) jdk_43_method_13_code (3 : Nat) (Option.some Jvm.ClassFile.FieldType.boolean)).before args0 about1 = true := code_word (m := ⟨35, 2⟩) (meth := k35m2) (c := k35c2) (by decide +kernel) rfl rfl rfl (by decide +kernel)
set_option maxRecDepth 65536 in
theorem w_c77 : (Jvm.Cond.code ({ cls := "com/example/regalwerk/regalwerk/HoldingsLinkerDeletionPinLaw", name := "titleClause", desc := "(CC)Ljava/lang/String;" } : Jvm.MethodName) method_4_code (2 : Nat) (Option.some (Jvm.ClassFile.FieldType.object "java/lang/String"))).before args0 about1 = true := code_word (m := ⟨1, 3⟩) (meth := k1m3) (c := k1c3) (by decide +kernel) rfl rfl rfl (by decide +kernel)
def codes1 : List Jvm.Cond := [Jvm.Cond.code x code maxLocals ret, Jvm.Cond.code ({ cls := "java/lang/String", name := "<init>", desc := "([C)V" } : Jvm.MethodName) jdk_42_method_3_code (2 : Nat) (Option.none : Option Jvm.ClassFile.FieldType), Jvm.Cond.code ({ cls := "java/lang/String", name := "<init>", desc := "([CIILjava/lang/Void;)V" } : Jvm.MethodName) jdk_42_method_149_code (6 : Nat) (Option.none : Option Jvm.ClassFile.FieldType), Jvm.Cond.code ({ cls := "java/lang/Object", name := "<init>", desc := "()V" } : Jvm.MethodName) object_method_1_code (1 : Nat) (Option.none : Option Jvm.ClassFile.FieldType), Jvm.Cond.code ({ cls := "java/lang/StringUTF16", name := "compress", desc := "([CII)[B" } : Jvm.MethodName) jdk_52_method_16_code (6 : Nat) (Option.some (Jvm.ClassFile.FieldType.array Jvm.ClassFile.FieldType.byte)), Jvm.Cond.code ({ cls := "java/lang/StringUTF16", name := "compress", desc := "([CI[BII)I" } : Jvm.MethodName) jdk_52_method_21_code (7 : Nat) (Option.some Jvm.ClassFile.FieldType.int), Jvm.Cond.code ({ cls := "java/lang/StringUTF16", name := "coderFromArrayLen", desc := "([BI)B" } : Jvm.MethodName) jdk_52_method_15_code (2 : Nat) (Option.some Jvm.ClassFile.FieldType.byte), Jvm.Cond.code ({ cls := "com/example/regalwerk/regalwerk/ControlField", name := "<init>", desc := "(Ljava/lang/String;Ljava/lang/String;)V" } : Jvm.MethodName) prog_3_method_1_code (3 : Nat) (Option.none : Option Jvm.ClassFile.FieldType), Jvm.Cond.code ({ cls := "java/lang/Record", name := "<init>", desc := "()V" } : Jvm.MethodName) jdk_30_method_1_code (1 : Nat) (Option.none : Option Jvm.ClassFile.FieldType), Jvm.Cond.code ({ cls := "com/example/regalwerk/regalwerk/HoldingsLinkerDeletionPinLaw", name := "leader", desc := "(ZC)Ljava/lang/String;" } : Jvm.MethodName) method_2_code (2 : Nat) (Option.some (Jvm.ClassFile.FieldType.object "java/lang/String")), Jvm.Cond.code ({ cls := "com/example/regalwerk/regalwerk/HoldingsLinkerDeletionPinLaw", name := "fields", desc := "(ZLjava/lang/Object;)Ljava/util/ArrayList;" } : Jvm.MethodName) method_3_code (3 : Nat) (Option.some (Jvm.ClassFile.FieldType.object "java/util/ArrayList")), Jvm.Cond.code ({ cls := "java/util/ArrayList", name := "<init>", desc := "()V" } : Jvm.MethodName) jdk_38_method_2_code (1 : Nat) (Option.none : Option Jvm.ClassFile.FieldType), Jvm.Cond.code ({ cls := "java/util/AbstractList", name := "<init>", desc := "()V" } : Jvm.MethodName) jdk_39_method_1_code (1 : Nat) (Option.none : Option Jvm.ClassFile.FieldType), Jvm.Cond.code ({ cls := "java/util/AbstractCollection", name := "<init>", desc := "()V" } : Jvm.MethodName) jdk_22_method_1_code (1 : Nat) (Option.none : Option Jvm.ClassFile.FieldType), Jvm.Cond.code ({ cls := "java/util/ArrayList", name := "add", desc := "(Ljava/lang/Object;)Z" } : Jvm.MethodName) jdk_38_method_25_code (2 : Nat) (Option.some Jvm.ClassFile.FieldType.boolean), Jvm.Cond.code ({ cls := "java/util/ArrayList", name := "add", desc := "(Ljava/lang/Object;[Ljava/lang/Object;I)V" } : Jvm.MethodName) jdk_38_method_24_code (4 : Nat) (Option.none : Option Jvm.ClassFile.FieldType), Jvm.Cond.code ({ cls := "java/util/ArrayList", name := "grow", desc := "()[Ljava/lang/Object;" } : Jvm.MethodName) jdk_38_method_7_code (1 : Nat) (Option.some (Jvm.ClassFile.FieldType.array (Jvm.ClassFile.FieldType.object "java/lang/Object"))), Jvm.Cond.code ({ cls := "java/util/ArrayList", name := "grow", desc := "(I)[Ljava/lang/Object;" } : Jvm.MethodName) jdk_38_method_6_code (4 : Nat) (Option.some (Jvm.ClassFile.FieldType.array (Jvm.ClassFile.FieldType.object "java/lang/Object"))), Jvm.Cond.code ({ cls := "java/lang/Math", name := "max", desc := "(II)I" } : Jvm.MethodName) jdk_29_method_65_code (2 : Nat) (Option.some Jvm.ClassFile.FieldType.int), Jvm.Cond.code ({ cls := "com/example/regalwerk/regalwerk/MarcRecord", name := "<init>", desc := "(Ljava/lang/String;Ljava/util/List;)V" } : Jvm.MethodName) prog_28_method_1_code (3 : Nat) (Option.none : Option Jvm.ClassFile.FieldType), Jvm.Cond.code ({ cls := "java/util/List", name := "copyOf", desc := "(Ljava/util/Collection;)Ljava/util/List;" } : Jvm.MethodName) jdk_40_method_48_code (1 : Nat) (Option.some (Jvm.ClassFile.FieldType.object "java/util/List")), Jvm.Cond.code ({ cls := "java/util/ImmutableCollections", name := "listCopy", desc := "(Ljava/util/Collection;)Ljava/util/List;" } : Jvm.MethodName) jdk_56_method_3_code (2 : Nat) (Option.some (Jvm.ClassFile.FieldType.object "java/util/List")), Jvm.Cond.code ({ cls := "java/util/ArrayList", name := "isEmpty", desc := "()Z" } : Jvm.MethodName) jdk_38_method_9_code (1 : Nat) (Option.some Jvm.ClassFile.FieldType.boolean), Jvm.Cond.code ({ cls := "java/util/ArrayList", name := "toArray", desc := "()[Ljava/lang/Object;" } : Jvm.MethodName) jdk_38_method_16_code (1 : Nat) (Option.some (Jvm.ClassFile.FieldType.array (Jvm.ClassFile.FieldType.object "java/lang/Object"))), Jvm.Cond.code ({ cls := "java/util/Arrays", name := "copyOf", desc := "([Ljava/lang/Object;I)[Ljava/lang/Object;" } : Jvm.MethodName) jdk_65_method_119_code (2 : Nat) (Option.some (Jvm.ClassFile.FieldType.array (Jvm.ClassFile.FieldType.object "java/lang/Object"))), Jvm.Cond.code ({ cls := "java/util/Arrays", name := "copyOf", desc := "([Ljava/lang/Object;ILjava/lang/Class;)[Ljava/lang/Object;" } : Jvm.MethodName) jdk_65_method_120_code (4 : Nat) (Option.some (Jvm.ClassFile.FieldType.array (Jvm.ClassFile.FieldType.object "java/lang/Object"))), Jvm.Cond.code ({ cls := "java/lang/Math", name := "min", desc := "(II)I" } : Jvm.MethodName) jdk_29_method_69_code (2 : Nat) (Option.some Jvm.ClassFile.FieldType.int), Jvm.Cond.code ({ cls := "java/util/List", name := "of", desc := "([Ljava/lang/Object;)Ljava/util/List;" } : Jvm.MethodName) jdk_40_method_47_code (2 : Nat) (Option.some (Jvm.ClassFile.FieldType.object "java/util/List")), Jvm.Cond.code ({ cls := "java/util/ImmutableCollections$List12", name := "<init>", desc := "(Ljava/lang/Object;)V" } : Jvm.MethodName) jdk_44_method_1_code (2 : Nat) (Option.none : Option Jvm.ClassFile.FieldType), Jvm.Cond.code ({ cls := "java/util/ImmutableCollections$AbstractImmutableList", name := "<init>", desc := "()V" } : Jvm.MethodName) jdk_46_method_1_code (1 : Nat) (Option.none : Option Jvm.ClassFile.FieldType), Jvm.Cond.code ({ cls := "java/util/ImmutableCollections$AbstractImmutableCollection", name := "<init>", desc := "()V" } : Jvm.MethodName) jdk_47_method_1_code (1 : Nat) (Option.none : Option Jvm.ClassFile.FieldType), Jvm.Cond.code ({ cls := "java/util/Objects", name := "requireNonNull", desc := "(Ljava/lang/Object;)Ljava/lang/Object;" } : Jvm.MethodName) jdk_31_method_10_code (1 : Nat) (Option.some (Jvm.ClassFile.FieldType.object "java/lang/Object")), Jvm.Cond.code ({ cls := "java/util/List", name := "of", desc := "()Ljava/util/List;" } : Jvm.MethodName) jdk_40_method_36_code (0 : Nat) (Option.some (Jvm.ClassFile.FieldType.object "java/util/List")), Jvm.Cond.code ({ cls := "com/example/regalwerk/regalwerk/HoldingsLinker", name := "<init>", desc := "()V" } : Jvm.MethodName) prog_13_method_1_code (1 : Nat) (Option.none : Option Jvm.ClassFile.FieldType), Jvm.Cond.code ({ cls := "com/example/regalwerk/regalwerk/HoldingsLinker", name := "title", desc := "(Lcom/example/regalwerk/regalwerk/MarcRecord;Lcom/example/regalwerk/regalwerk/SruCollection;)V" } : Jvm.MethodName) prog_13_method_2_code (3 : Nat) (Option.none : Option Jvm.ClassFile.FieldType), Jvm.Cond.code ({ cls := "com/example/regalwerk/regalwerk/MarcRecord", name := "controlField", desc := "(Ljava/lang/String;)Ljava/lang/String;" } : Jvm.MethodName) prog_28_method_4_code (5 : Nat) (Option.some (Jvm.ClassFile.FieldType.object "java/lang/String")), Jvm.Cond.code ({ cls := "java/util/ImmutableCollections$AbstractImmutableList", name := "iterator", desc := "()Ljava/util/Iterator;" } : Jvm.MethodName) jdk_46_method_10_code (1 : Nat) (Option.some (Jvm.ClassFile.FieldType.object "java/util/Iterator")), Jvm.Cond.code ({ cls := "java/util/ImmutableCollections$List12", name := "size", desc := "()I" } : Jvm.MethodName) jdk_44_method_3_code (1 : Nat) (Option.some Jvm.ClassFile.FieldType.int), Jvm.Cond.code ({ cls := "java/util/ImmutableCollections$ListItr", name := "<init>", desc := "(Ljava/util/List;I)V" } : Jvm.MethodName) jdk_53_method_1_code (3 : Nat) (Option.none : Option Jvm.ClassFile.FieldType), Jvm.Cond.code ({ cls := "java/util/ImmutableCollections$ListItr", name := "hasNext", desc := "()Z" } : Jvm.MethodName) jdk_53_method_3_code (1 : Nat) (Option.some Jvm.ClassFile.FieldType.boolean), Jvm.Cond.code ({ cls := "java/util/ImmutableCollections$List12", name := "get", desc := "(I)Ljava/lang/Object;" } : Jvm.MethodName) jdk_44_method_5_code (2 : Nat) (Option.some (Jvm.ClassFile.FieldType.object "java/lang/Object")), Jvm.Cond.code ({ cls := "com/example/regalwerk/regalwerk/ControlField", name := "tag", desc := "()Ljava/lang/String;" } : Jvm.MethodName) prog_3_method_5_code (1 : Nat) (Option.some (Jvm.ClassFile.FieldType.object "java/lang/String")), Jvm.Cond.code ({ cls := "java/lang/String", name := "equals", desc := "(Ljava/lang/Object;)Z" } : Jvm.MethodName) jdk_42_method_66_code (3 : Nat) (Option.some Jvm.ClassFile.FieldType.boolean), Jvm.Cond.code ({ cls := "com/example/regalwerk/regalwerk/ControlField", name := "value", desc := "()Ljava/lang/String;" } : Jvm.MethodName) prog_3_method_6_code (1 : Nat) (Option.some (Jvm.ClassFile.FieldType.object "java/lang/String")), Jvm.Cond.code ({ cls := "com/example/regalwerk/regalwerk/MarcRecord", name := "isDeleted", desc := "()Z" } : Jvm.MethodName) prog_28_method_3_code (1 : Nat) (Option.some Jvm.ClassFile.FieldType.boolean), Jvm.Cond.code ({ cls := "java/lang/String", name := "length", desc := "()I" } : Jvm.MethodName) jdk_42_method_54_code (1 : Nat) (Option.some Jvm.ClassFile.FieldType.int), Jvm.Cond.code ({ cls := "java/lang/String", name := "coder", desc := "()B" } : Jvm.MethodName) jdk_42_method_152_code (1 : Nat) (Option.some Jvm.ClassFile.FieldType.byte), Jvm.Cond.code ({ cls := "java/lang/String", name := "charAt", desc := "(I)C" } : Jvm.MethodName) jdk_42_method_56_code (2 : Nat) (Option.some Jvm.ClassFile.FieldType.char), Jvm.Cond.code ({ cls := "java/lang/String", name := "isLatin1", desc := "()Z" } : Jvm.MethodName) jdk_42_method_154_code (1 : Nat) (Option.some Jvm.ClassFile.FieldType.boolean), Jvm.Cond.code ({ cls := "java/lang/StringLatin1", name := "charAt", desc := "([BI)C" } : Jvm.MethodName) jdk_43_method_2_code (2 : Nat) (Option.some Jvm.ClassFile.FieldType.char), Jvm.Cond.code ({ cls := "java/lang/String", name := "checkIndex", desc := "(II)V" } : Jvm.MethodName) jdk_42_method_155_code (2 : Nat) (Option.none : Option Jvm.ClassFile.FieldType), Jvm.Cond.code ({ cls := "jdk/internal/util/Preconditions", name := "checkIndex", desc := "(IILjava/util/function/BiFunction;)I" } : Jvm.MethodName) jdk_41_method_11_code (3 : Nat) (Option.some Jvm.ClassFile.FieldType.int), Jvm.Cond.code ({ cls := "com/example/regalwerk/regalwerk/MarcRecord", name := "id", desc := "()Ljava/lang/String;" } : Jvm.MethodName) prog_28_method_6_code (2 : Nat) (Option.some (Jvm.ClassFile.FieldType.object "java/lang/String")), Jvm.Cond.code ({ cls := "com/example/regalwerk/regalwerk/HoldingsLinker", name := "deletion", desc := "(Lcom/example/regalwerk/regalwerk/MarcRecord;Z)Ljava/lang/String;" } : Jvm.MethodName) prog_13_method_4_code (4 : Nat) (Option.some (Jvm.ClassFile.FieldType.object "java/lang/String")), Jvm.Cond.code ({ cls := "java/util/ImmutableCollections$ListN", name := "size", desc := "()I" } : Jvm.MethodName) jdk_45_method_3_code (1 : Nat) (Option.some Jvm.ClassFile.FieldType.int), Jvm.Cond.code ({ cls := "java/lang/StringBuilder", name := "<init>", desc := "()V" } : Jvm.MethodName) jdk_67_method_1_code (1 : Nat) (Option.none : Option Jvm.ClassFile.FieldType), Jvm.Cond.code ({ cls := "java/lang/AbstractStringBuilder", name := "<init>", desc := "(I)V" } : Jvm.MethodName) jdk_68_method_2_code (2 : Nat) (Option.none : Option Jvm.ClassFile.FieldType), Jvm.Cond.code ({ cls := "java/lang/StringBuilder", name := "append", desc := "(Ljava/lang/String;)Ljava/lang/StringBuilder;" } : Jvm.MethodName) jdk_67_method_7_code (2 : Nat) (Option.some (Jvm.ClassFile.FieldType.object "java/lang/StringBuilder")), Jvm.Cond.code ({ cls := "java/lang/AbstractStringBuilder", name := "append", desc := "(Ljava/lang/String;)Ljava/lang/AbstractStringBuilder;" } : Jvm.MethodName) jdk_68_method_22_code (3 : Nat) (Option.some (Jvm.ClassFile.FieldType.object "java/lang/AbstractStringBuilder")), Jvm.Cond.code ({ cls := "java/lang/AbstractStringBuilder", name := "ensureCapacityInternal", desc := "(I)V" } : Jvm.MethodName) jdk_68_method_9_code (3 : Nat) (Option.none : Option Jvm.ClassFile.FieldType), Jvm.Cond.code ({ cls := "java/lang/AbstractStringBuilder", name := "newCapacity", desc := "(I)I" } : Jvm.MethodName) jdk_68_method_10_code (6 : Nat) (Option.some Jvm.ClassFile.FieldType.int), Jvm.Cond.code ({ cls := "jdk/internal/util/ArraysSupport", name := "newLength", desc := "(III)I" } : Jvm.MethodName) jdk_48_method_27_code (4 : Nat) (Option.some Jvm.ClassFile.FieldType.int), Jvm.Cond.code ({ cls := "java/util/Arrays", name := "copyOf", desc := "([BI)[B" } : Jvm.MethodName) jdk_65_method_121_code (3 : Nat) (Option.some (Jvm.ClassFile.FieldType.array Jvm.ClassFile.FieldType.byte)), Jvm.Cond.code ({ cls := "java/lang/AbstractStringBuilder", name := "putStringAt", desc := "(ILjava/lang/String;)V" } : Jvm.MethodName) jdk_68_method_73_code (3 : Nat) (Option.none : Option Jvm.ClassFile.FieldType), Jvm.Cond.code ({ cls := "java/lang/AbstractStringBuilder", name := "inflateIfNeededFor", desc := "(Ljava/lang/String;)V" } : Jvm.MethodName) jdk_68_method_71_code (2 : Nat) (Option.none : Option Jvm.ClassFile.FieldType), Jvm.Cond.code ({ cls := "java/lang/String", name := "getBytes", desc := "([BIB)V" } : Jvm.MethodName) jdk_42_method_147_code (4 : Nat) (Option.none : Option Jvm.ClassFile.FieldType), Jvm.Cond.code ({ cls := "java/lang/StringBuilder", name := "toString", desc := "()Ljava/lang/String;" } : Jvm.MethodName) jdk_67_method_42_code (1 : Nat) (Option.some (Jvm.ClassFile.FieldType.object "java/lang/String")), Jvm.Cond.code ({ cls := "java/lang/String", name := "<init>", desc := "(Ljava/lang/StringBuilder;)V" } : Jvm.MethodName) jdk_42_method_53_code (2 : Nat) (Option.none : Option Jvm.ClassFile.FieldType), Jvm.Cond.code ({ cls := "java/lang/String", name := "<init>", desc := "(Ljava/lang/AbstractStringBuilder;Ljava/lang/Void;)V" } : Jvm.MethodName) jdk_42_method_150_code (5 : Nat) (Option.none : Option Jvm.ClassFile.FieldType), Jvm.Cond.code ({ cls := "java/lang/AbstractStringBuilder", name := "getValue", desc := "()[B" } : Jvm.MethodName) jdk_68_method_64_code (1 : Nat) (Option.some (Jvm.ClassFile.FieldType.array Jvm.ClassFile.FieldType.byte)), Jvm.Cond.code ({ cls := "java/lang/StringBuilder", name := "length", desc := "()I" } : Jvm.MethodName) jdk_67_method_93_code (1 : Nat) (Option.some Jvm.ClassFile.FieldType.int), Jvm.Cond.code ({ cls := "java/lang/AbstractStringBuilder", name := "length", desc := "()I" } : Jvm.MethodName) jdk_68_method_6_code (1 : Nat) (Option.some Jvm.ClassFile.FieldType.int), Jvm.Cond.code ({ cls := "java/lang/AbstractStringBuilder", name := "isLatin1", desc := "()Z" } : Jvm.MethodName) jdk_68_method_68_code (1 : Nat) (Option.some Jvm.ClassFile.FieldType.boolean), Jvm.Cond.code ({ cls := "java/util/Arrays", name := "copyOfRange", desc := "([BII)[B" } : Jvm.MethodName) jdk_65_method_132_code (3 : Nat) (Option.some (Jvm.ClassFile.FieldType.array Jvm.ClassFile.FieldType.byte)), Jvm.Cond.code ({ cls := "java/util/Arrays", name := "copyOfRangeByte", desc := "([BII)[B" } : Jvm.MethodName) jdk_65_method_133_code (5 : Nat) (Option.some (Jvm.ClassFile.FieldType.array Jvm.ClassFile.FieldType.byte)), Jvm.Cond.code ({ cls := "java/util/Arrays", name := "checkLength", desc := "(II)V" } : Jvm.MethodName) jdk_65_method_131_code (2 : Nat) (Option.none : Option Jvm.ClassFile.FieldType), Jvm.Cond.code ({ cls := "java/lang/StringLatin1", name := "equals", desc := "([B[B)Z" } : Jvm.MethodName) jdk_43_method_13_code (3 : Nat) (Option.some Jvm.ClassFile.FieldType.boolean), Jvm.Cond.code ({ cls := "com/example/regalwerk/regalwerk/HoldingsLinkerDeletionPinLaw", name := "titleClause", desc := "(CC)Ljava/lang/String;" } : Jvm.MethodName) method_4_code (2 : Nat) (Option.some (Jvm.ClassFile.FieldType.object "java/lang/String"))]
set_option maxRecDepth 65536 in
theorem codes_eq : words1.filter isCode = codes1 := rfl
theorem w_codes : ∀ c ∈ words1.filter isCode, c.before args0 about1 = true := by
  rw [codes_eq]
  intro c hc
  simp only [codes1, List.mem_cons, List.not_mem_nil, or_false] at hc
  rcases hc with rfl | rfl | rfl | rfl | rfl | rfl | rfl | rfl | rfl | rfl | rfl | rfl | rfl | rfl | rfl | rfl | rfl | rfl | rfl | rfl | rfl | rfl | rfl | rfl | rfl | rfl | rfl | rfl | rfl | rfl | rfl | rfl | rfl | rfl | rfl | rfl | rfl | rfl | rfl | rfl | rfl | rfl | rfl | rfl | rfl | rfl | rfl | rfl | rfl | rfl | rfl | rfl | rfl | rfl | rfl | rfl | rfl | rfl | rfl | rfl | rfl | rfl | rfl | rfl | rfl | rfl | rfl | rfl | rfl | rfl | rfl | rfl | rfl | rfl | rfl | rfl | rfl | rfl
  · exact w_c0
  · exact w_c1
  · exact w_c2
  · exact w_c3
  · exact w_c4
  · exact w_c5
  · exact w_c6
  · exact w_c7
  · exact w_c8
  · exact w_c9
  · exact w_c10
  · exact w_c11
  · exact w_c12
  · exact w_c13
  · exact w_c14
  · exact w_c15
  · exact w_c16
  · exact w_c17
  · exact w_c18
  · exact w_c19
  · exact w_c20
  · exact w_c21
  · exact w_c22
  · exact w_c23
  · exact w_c24
  · exact w_c25
  · exact w_c26
  · exact w_c27
  · exact w_c28
  · exact w_c29
  · exact w_c30
  · exact w_c31
  · exact w_c32
  · exact w_c33
  · exact w_c34
  · exact w_c35
  · exact w_c36
  · exact w_c37
  · exact w_c38
  · exact w_c39
  · exact w_c40
  · exact w_c41
  · exact w_c42
  · exact w_c43
  · exact w_c44
  · exact w_c45
  · exact w_c46
  · exact w_c47
  · exact w_c48
  · exact w_c49
  · exact w_c50
  · exact w_c51
  · exact w_c52
  · exact w_c53
  · exact w_c54
  · exact w_c55
  · exact w_c56
  · exact w_c57
  · exact w_c58
  · exact w_c59
  · exact w_c60
  · exact w_c61
  · exact w_c62
  · exact w_c63
  · exact w_c64
  · exact w_c65
  · exact w_c66
  · exact w_c67
  · exact w_c68
  · exact w_c69
  · exact w_c70
  · exact w_c71
  · exact w_c72
  · exact w_c73
  · exact w_c74
  · exact w_c75
  · exact w_c76
  · exact w_c77
set_option maxRecDepth 65536 in
theorem w_t1 : (words1.take 24).all (fun c => isCode c || c.before args0 about1) = true := by decide +kernel
set_option maxRecDepth 65536 in
theorem w_t2 : ((words1.drop 24).take 24).all (fun c => isCode c || c.before args0 about1) = true := by decide +kernel
set_option maxRecDepth 65536 in
theorem w_t3 : (((words1.drop 24).drop 24).take 24).all (fun c => isCode c || c.before args0 about1) = true := by decide +kernel
set_option maxRecDepth 65536 in
theorem w_t4 : ((((words1.drop 24).drop 24).drop 24).take 24).all (fun c => isCode c || c.before args0 about1) = true := by decide +kernel
set_option maxRecDepth 65536 in
theorem w_t5 : (((((words1.drop 24).drop 24).drop 24).drop 24).take 24).all (fun c => isCode c || c.before args0 about1) = true := by decide +kernel
set_option maxRecDepth 65536 in
theorem w_t6 : ((((((words1.drop 24).drop 24).drop 24).drop 24).drop 24).take 24).all (fun c => isCode c || c.before args0 about1) = true := by decide +kernel
set_option maxRecDepth 65536 in
theorem w_t7 : (((((((words1.drop 24).drop 24).drop 24).drop 24).drop 24).drop 24).take 24).all (fun c => isCode c || c.before args0 about1) = true := by decide +kernel
set_option maxRecDepth 65536 in
theorem w_t8 : ((((((((words1.drop 24).drop 24).drop 24).drop 24).drop 24).drop 24).drop 24).take 24).all (fun c => isCode c || c.before args0 about1) = true := by decide +kernel
set_option maxRecDepth 65536 in
theorem w_t9 : (((((((((words1.drop 24).drop 24).drop 24).drop 24).drop 24).drop 24).drop 24).drop 24).take 24).all (fun c => isCode c || c.before args0 about1) = true := by decide +kernel
set_option maxRecDepth 65536 in
theorem w_t10 : ((((((((((words1.drop 24).drop 24).drop 24).drop 24).drop 24).drop 24).drop 24).drop 24).drop 24).take 24).all (fun c => isCode c || c.before args0 about1) = true := by decide +kernel
set_option maxRecDepth 65536 in
theorem w_t11 : (((((((((((words1.drop 24).drop 24).drop 24).drop 24).drop 24).drop 24).drop 24).drop 24).drop 24).drop 24).take 24).all (fun c => isCode c || c.before args0 about1) = true := by decide +kernel
set_option maxRecDepth 65536 in
theorem w_t12 : ((((((((((((words1.drop 24).drop 24).drop 24).drop 24).drop 24).drop 24).drop 24).drop 24).drop 24).drop 24).drop 24).take 24).all (fun c => isCode c || c.before args0 about1) = true := by decide +kernel
set_option maxRecDepth 65536 in
theorem w_t13 : (((((((((((((words1.drop 24).drop 24).drop 24).drop 24).drop 24).drop 24).drop 24).drop 24).drop 24).drop 24).drop 24).drop 24).take 24).all (fun c => isCode c || c.before args0 about1) = true := by decide +kernel
set_option maxRecDepth 65536 in
theorem w_t14 : ((((((((((((((words1.drop 24).drop 24).drop 24).drop 24).drop 24).drop 24).drop 24).drop 24).drop 24).drop 24).drop 24).drop 24).drop 24).take 24).all (fun c => isCode c || c.before args0 about1) = true := by decide +kernel
set_option maxRecDepth 65536 in
theorem w_t15 : (((((((((((((((words1.drop 24).drop 24).drop 24).drop 24).drop 24).drop 24).drop 24).drop 24).drop 24).drop 24).drop 24).drop 24).drop 24).drop 24).take 24).all (fun c => isCode c || c.before args0 about1) = true := by decide +kernel
set_option maxRecDepth 65536 in
theorem w_t16 : ((((((((((((((((words1.drop 24).drop 24).drop 24).drop 24).drop 24).drop 24).drop 24).drop 24).drop 24).drop 24).drop 24).drop 24).drop 24).drop 24).drop 24).take 24).all (fun c => isCode c || c.before args0 about1) = true := by decide +kernel
set_option maxRecDepth 65536 in
theorem w_t17 : (((((((((((((((((words1.drop 24).drop 24).drop 24).drop 24).drop 24).drop 24).drop 24).drop 24).drop 24).drop 24).drop 24).drop 24).drop 24).drop 24).drop 24).drop 24).take 24).all (fun c => isCode c || c.before args0 about1) = true := by decide +kernel
set_option maxRecDepth 65536 in
theorem w_t18 : ((((((((((((((((((words1.drop 24).drop 24).drop 24).drop 24).drop 24).drop 24).drop 24).drop 24).drop 24).drop 24).drop 24).drop 24).drop 24).drop 24).drop 24).drop 24).drop 24).take 24).all (fun c => isCode c || c.before args0 about1) = true := by decide +kernel
set_option maxRecDepth 65536 in
theorem w_t19 : (((((((((((((((((((words1.drop 24).drop 24).drop 24).drop 24).drop 24).drop 24).drop 24).drop 24).drop 24).drop 24).drop 24).drop 24).drop 24).drop 24).drop 24).drop 24).drop 24).drop 24).take 24).all (fun c => isCode c || c.before args0 about1) = true := by decide +kernel
set_option maxRecDepth 65536 in
theorem w_t20 : ((((((((((((((((((((words1.drop 24).drop 24).drop 24).drop 24).drop 24).drop 24).drop 24).drop 24).drop 24).drop 24).drop 24).drop 24).drop 24).drop 24).drop 24).drop 24).drop 24).drop 24).drop 24).take 24).all (fun c => isCode c || c.before args0 about1) = true := by decide +kernel
set_option maxRecDepth 65536 in
theorem w_t21 : ((((((((((((((((((((words1.drop 24).drop 24).drop 24).drop 24).drop 24).drop 24).drop 24).drop 24).drop 24).drop 24).drop 24).drop 24).drop 24).drop 24).drop 24).drop 24).drop 24).drop 24).drop 24).drop 24).all (fun c => isCode c || c.before args0 about1) = true := by decide +kernel
theorem w_tables : (allAtoms (Jvm.Cond.code x code maxLocals ret :: tables_1)).before args0 about1 = true := by
  rw [allAtoms_all]
  show words1.all (fun c => c.before args0 about1) = true
  refine all_split ?_ w_codes
  rw [← List.take_append_drop 24 words1, List.all_append, w_t1, ← List.take_append_drop 24 (words1.drop 24), List.all_append, w_t2, ← List.take_append_drop 24 ((words1.drop 24).drop 24), List.all_append, w_t3, ← List.take_append_drop 24 (((words1.drop 24).drop 24).drop 24), List.all_append, w_t4, ← List.take_append_drop 24 ((((words1.drop 24).drop 24).drop 24).drop 24), List.all_append, w_t5, ← List.take_append_drop 24 (((((words1.drop 24).drop 24).drop 24).drop 24).drop 24), List.all_append, w_t6, ← List.take_append_drop 24 ((((((words1.drop 24).drop 24).drop 24).drop 24).drop 24).drop 24), List.all_append, w_t7, ← List.take_append_drop 24 (((((((words1.drop 24).drop 24).drop 24).drop 24).drop 24).drop 24).drop 24), List.all_append, w_t8, ← List.take_append_drop 24 ((((((((words1.drop 24).drop 24).drop 24).drop 24).drop 24).drop 24).drop 24).drop 24), List.all_append, w_t9, ← List.take_append_drop 24 (((((((((words1.drop 24).drop 24).drop 24).drop 24).drop 24).drop 24).drop 24).drop 24).drop 24), List.all_append, w_t10, ← List.take_append_drop 24 ((((((((((words1.drop 24).drop 24).drop 24).drop 24).drop 24).drop 24).drop 24).drop 24).drop 24).drop 24), List.all_append, w_t11, ← List.take_append_drop 24 (((((((((((words1.drop 24).drop 24).drop 24).drop 24).drop 24).drop 24).drop 24).drop 24).drop 24).drop 24).drop 24), List.all_append, w_t12, ← List.take_append_drop 24 ((((((((((((words1.drop 24).drop 24).drop 24).drop 24).drop 24).drop 24).drop 24).drop 24).drop 24).drop 24).drop 24).drop 24), List.all_append, w_t13, ← List.take_append_drop 24 (((((((((((((words1.drop 24).drop 24).drop 24).drop 24).drop 24).drop 24).drop 24).drop 24).drop 24).drop 24).drop 24).drop 24).drop 24), List.all_append, w_t14, ← List.take_append_drop 24 ((((((((((((((words1.drop 24).drop 24).drop 24).drop 24).drop 24).drop 24).drop 24).drop 24).drop 24).drop 24).drop 24).drop 24).drop 24).drop 24), List.all_append, w_t15, ← List.take_append_drop 24 (((((((((((((((words1.drop 24).drop 24).drop 24).drop 24).drop 24).drop 24).drop 24).drop 24).drop 24).drop 24).drop 24).drop 24).drop 24).drop 24).drop 24), List.all_append, w_t16, ← List.take_append_drop 24 ((((((((((((((((words1.drop 24).drop 24).drop 24).drop 24).drop 24).drop 24).drop 24).drop 24).drop 24).drop 24).drop 24).drop 24).drop 24).drop 24).drop 24).drop 24), List.all_append, w_t17, ← List.take_append_drop 24 (((((((((((((((((words1.drop 24).drop 24).drop 24).drop 24).drop 24).drop 24).drop 24).drop 24).drop 24).drop 24).drop 24).drop 24).drop 24).drop 24).drop 24).drop 24).drop 24), List.all_append, w_t18, ← List.take_append_drop 24 ((((((((((((((((((words1.drop 24).drop 24).drop 24).drop 24).drop 24).drop 24).drop 24).drop 24).drop 24).drop 24).drop 24).drop 24).drop 24).drop 24).drop 24).drop 24).drop 24).drop 24), List.all_append, w_t19, ← List.take_append_drop 24 (((((((((((((((((((words1.drop 24).drop 24).drop 24).drop 24).drop 24).drop 24).drop 24).drop 24).drop 24).drop 24).drop 24).drop 24).drop 24).drop 24).drop 24).drop 24).drop 24).drop 24).drop 24), List.all_append, w_t20, w_t21]
  rfl
set_option maxRecDepth 65536 in
theorem w_rest : rest_1_c.before args0 about1 = true := by decide +kernel
set_option maxRecDepth 65536 in
theorem w_case : (Jvm.Cond.and given_1 narrow_1).before args0 about1 = true := by decide +kernel
set_option maxRecDepth 65536 in
theorem w_consts : constsHeld consts_1 about1 := Jvm.Lit.constsHeldB_iff.mp (by decide +kernel)
theorem w_applies : (headSpec (Jvm.Cond.code x code maxLocals ret :: tables_1) room_1).applies x e0.platform about1 = true :=
  (Spec.applies_iff w_frames).mpr ⟨w_running, w_runnable, w_alone, w_named, w_hears, w_ripe, w_room, w_tables⟩
theorem atStart : AtStart classFile x code maxLocals ret World_1 tables_1 room_1 Calls_1 rest_1 Pre_1 launch0 p0 e0 about1 theMethod args0 below0 :=
  ⟨lists_1, trivial, launch0.admits_env _ _ _, launch0.least_env, fairChoices_fair.cas, fairChoices_fair.clock, w_frames, w_args, w_heap, w_applies, ⟨⟨48, k48, 4, by decide +kernel, rfl, rfl, _, rfl, rfl⟩, ⟨w_consts, trivial⟩⟩, w_rest, w_case⟩
end start1
theorem witness_1 : WitnessClaimed_1 := ⟨start1.p0, start1.e0, start1.about1, start1.theMethod, start1.args0, start1.below0, start1.atStart⟩
end Jvm.Pilot.@@N@@
