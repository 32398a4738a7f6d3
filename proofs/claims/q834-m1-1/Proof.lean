import JvmDerived
import JvmDerived.Pilot.@@N@@Statement
import JvmDerived.Pilot.@@N@@Code
set_option linter.unusedVariables false
set_option linter.unusedSimpArgs false
/- laws to paste: Road.backV, Road.lenW, Road.chN, Road.eqW, Road.empW, Road.codOf (cut by pick.py; bodies as the Statement names them) -/
namespace Jvm.Pilot.@@N@@
namespace StrChars
open Jvm Sem ClassFile Op Lib Jvm.Stand Jvm.Free.XT Jvm.Free.ALB Jvm.Free.JM Jvm.Free
open Jvm.Lib.Cold (StaticIs)
/-- a char array whose places are chars -/
def Ch (a : Addr) (A : Cell) (U : State) : Prop := Arr .char a A U ∧ Typed .char A
theorem Ch.mv {a : Addr} {A : Cell} {U U' : State} (h : Ch a A U) (hal : U.vm.Alike U'.vm) (hh : U'.heap = U.heap) : Ch a A U' := ⟨h.1.mv hal hh, h.2⟩
theorem Ch.keep {a : Addr} {A : Cell} {U U' : State} (h : Ch a A U) (hal : U.vm.Alike U'.vm) (hk : U'.heap[a]? = some A) : Ch a A U' := ⟨h.1.keep hal hk, h.2⟩
/-- what place i of a char[]'s cell holds -/
def cv (A : Cell) (i : Nat) : Int32 := match A.slots[i]? with | some (.int x) => x | _ => 0
theorem Ch.get {a : Addr} {A : Cell} {U : State} (h : Ch a A U) {i : Nat} (hi : i < A.slots.size) : A.slots[i]? = some (.int (cv A i)) := by
  have e := Array.getElem?_eq_getElem hi
  have f := h.2 i _ e
  unfold cv; rw [e]
  generalize A.slots[i] = v at f
  cases v <;> simp [fits] at f ⊢
/-- the byte that i2b leaves of a char -/
def lo8 (x : Int32) : Int32 := x.toInt8.toInt32
theorem fits_lo8 (y : Int32) : fits .byte (.int (lo8 y)) = true := by
  have h1 := y.toInt8.le_toInt
  have h2 := y.toInt8.toInt_lt
  simp only [lo8, fits, Bool.and_eq_true, decide_eq_true_eq, Int32.le_iff_toInt_le, Int8.toInt_toInt32, show (-128 : Int32).toInt = -128 from by decide, show (127 : Int32).toInt = 127 from by decide]
  omega
/-- A' is A but that each place j of lo .. hi - 1 holds f j -/
def Laid (A A' : Cell) (lo hi : Nat) (f : Nat → Value) : Prop := A'.cls = A.cls ∧ A'.vm = A.vm ∧ A'.slots.size = A.slots.size ∧ ∀ i, A'.slots[i]? = if lo ≤ i ∧ i < hi then some (f i) else A.slots[i]?
theorem Laid.zero (A : Cell) (lo : Nat) (f : Nat → Value) : Laid A A lo (lo + 0) f := ⟨rfl, rfl, rfl, fun i => by rw [if_neg (by omega)]⟩
theorem Laid.step {A Ak : Cell} {lo k : Nat} {f : Nat → Value} {v : Value} (h : Laid A Ak lo k f) (hlo : lo ≤ k) (hk : k < Ak.slots.size) (hv : v = f k) : Laid A (Ak.setSlot k v) lo (k + 1) f := by
  refine ⟨h.1, h.2.1, by simpa [Cell.setSlot] using h.2.2.1, fun i => ?_⟩
  by_cases e : k = i
  · subst e; rw [Cell.slots_setSlot_self v hk, if_pos (by omega), hv]
  · rw [Cell.slots_setSlot_ne v e, h.2.2.2 i]
    by_cases q : lo ≤ i ∧ i < k
    · rw [if_pos q, if_pos (by omega)]
    · rw [if_neg q, if_neg (by omega)]
def U16 : String := "java/lang/StringUTF16"
namespace Cmp5
def yN : MethodName := ⟨"java/lang/StringUTF16", "compress", "([CI[BII)I"⟩
abbrev yB : ByteArray := jdk_52_method_21_code
theorem d0 : decode yB 0 = .ok (.iconst 0, 1) := by decide +kernel
theorem d1 : decode yB 1 = .ok (.istore 5, 2) := by decide +kernel
theorem d3 : decode yB 3 = .ok (.iload 5, 2) := by decide +kernel
theorem d5 : decode yB 5 = .ok (.iload 4, 2) := by decide +kernel
theorem d7 : decode yB 7 = .ok (.if_icmp (.ge) 37, 3) := by decide +kernel
theorem d10 : decode yB 10 = .ok (.aload_n 0, 1) := by decide +kernel
theorem d11 : decode yB 11 = .ok (.iload_n 1, 1) := by decide +kernel
theorem d12 : decode yB 12 = .ok (.caload, 1) := by decide +kernel
theorem d13 : decode yB 13 = .ok (.istore 6, 2) := by decide +kernel
theorem d15 : decode yB 15 = .ok (.iload 6, 2) := by decide +kernel
theorem d17 : decode yB 17 = .ok (.sipush 255, 3) := by decide +kernel
theorem d20 : decode yB 20 = .ok (.if_icmp (.le) 6, 3) := by decide +kernel
theorem d26 : decode yB 26 = .ok (.aload_n 2, 1) := by decide +kernel
theorem d27 : decode yB 27 = .ok (.iload_n 3, 1) := by decide +kernel
theorem d28 : decode yB 28 = .ok (.iload 6, 2) := by decide +kernel
theorem d30 : decode yB 30 = .ok (.i2b, 1) := by decide +kernel
theorem d31 : decode yB 31 = .ok (.bastore, 1) := by decide +kernel
theorem d32 : decode yB 32 = .ok (.iinc 1 1, 3) := by decide +kernel
theorem d35 : decode yB 35 = .ok (.iinc 3 1, 3) := by decide +kernel
theorem d38 : decode yB 38 = .ok (.iinc 5 1, 3) := by decide +kernel
theorem d41 : decode yB 41 = .ok (.goto (-38), 3) := by decide +kernel
theorem d44 : decode yB 44 = .ok (.iload 4, 2) := by decide +kernel
theorem d46 : decode yB 46 = .ok (.ireturn, 1) := by decide +kernel
def site : List Cond := []
def tab : Cond := tabOf yN yB 7 (some .int) site
def P (b : Addr) (A : Cell) (d : Addr) (B : Cell) (o q len : Nat) (args : Array Value) (s : State) : Prop := args = #[.ref b, .int (Int32.ofNat o), .ref d, .int (Int32.ofNat q), .int (Int32.ofNat len)] ∧ Ch b A s ∧ Arr .byte d B s ∧ b ≠ d ∧ o + len ≤ A.slots.size ∧ q + len ≤ B.slots.size ∧ ∀ i, i < len → ¬ 255 < cv A (o + i)
def E (b : Addr) (A : Cell) (d : Addr) (B : Cell) (o q len : Nat) (r : Option Value) (s u : State) : Prop := r = some (.int (Int32.ofNat len)) ∧ ∃ B', Put d B' s u ∧ Laid B B' q (q + len) (fun j => Value.int (lo8 (cv A (o + (j - q)))))
/-- no char of the range above 255: len; the places written hold each char's low byte -/
theorem law (l : Launch) (b : Addr) (A : Cell) (d : Addr) (B : Cell) (o q len : Nat) : Law l yN 5 5 0 0 yB 7 (some .int) site (P b A d B o q len) (E b A d B o q len) (copyLocs d q len) 0 0 := by
  refine Law.of_walk (plainFor_of_name (by decide +kernel)) (by decide +kernel) (by decide +kernel) (by decide) (fun _ _ h => by rw [h.1]; rfl) (fun _ U U' hal hh h => ⟨h.1, h.2.1.mv hal hh, h.2.2.1.mv hal hh, h.2.2.2⟩) (fun r U U' V V' h1 hal h2 h => ⟨h.1, h.2.elim fun B' q => ⟨B', q.1.mv h1 h2, q.2⟩⟩) ?_
  intro p e s m args below meth c s₁ X0 hexec hbytes hml hret hlk hnm hown hh0 W hP
  obtain ⟨rfl, hA, hB, hne, l1, l2, hp⟩ := hP
  have c1 : Steps p.tables e below (s₁.setTop (entryFrame m #[.ref b, .int (Int32.ofNat o), .ref d, .int (Int32.ofNat q), .int (Int32.ofNat len)] 7)) (s₁.setTop (mkF m 0 #[.val (.ref b), .val (.int (Int32.ofNat o)), .val (.ref d), .val (.int (Int32.ofNat q)), .val (.int (Int32.ofNat len)), .unset, .unset] [])) := entry rfl
  have hA0 := hA.1.mv X0.warmed.alike hh0
  have hB0 := hB.mv X0.warmed.alike hh0
  have a31 := hA.1.2.2.2
  have c2 : Steps p.tables e below (s₁.setTop (entryFrame m #[.ref b, .int (Int32.ofNat o), .ref d, .int (Int32.ofNat q), .int (Int32.ofNat len)] 7)) (s₁.setTop (mkF m 3 #[.val (.ref b), .val (.int (Int32.ofNat o)), .val (.ref d), .val (.int (Int32.ofNat q)), .val (.int (Int32.ofNat len)), .val (.int 0), .unset] [])) := c1.trans (by
    refine iconstV X0.here hexec rfl 0 (hb hbytes d0) (by decide) ?_
    refine XS.istore X0.here hexec rfl (hb hbytes d1) rfl rfl ?_
    exact Steps.refl _)
  have loop : ∀ (r i : Nat), i + r = len → ∀ (z : Slot), (z = .unset ∨ ∃ w, z = .val w ∧ w.category = 1) → ∀ (Tl : State) (Bk : Cell), Stand p l e { frames := 0, locals := 0, cells := 0, slots := 0 } s m #[.ref b, .int (Int32.ofNat o), .ref d, .int (Int32.ofNat q), .int (Int32.ofNat len)] below meth c Tl ([] ++ copyLocs d q i) 0 0 → Put d Bk s₁ Tl → Laid B Bk q (q + i) (fun j => Value.int (lo8 (cv A (o + (j - q))))) →
      Steps p.tables e below (s₁.setTop (entryFrame m #[.ref b, .int (Int32.ofNat o), .ref d, .int (Int32.ofNat q), .int (Int32.ofNat len)] 7)) (Tl.setTop (mkF m 3 #[.val (.ref b), .val (.int (Int32.ofNat (o + i))), .val (.ref d), .val (.int (Int32.ofNat (q + i))), .val (.int (Int32.ofNat len)), .val (.int (Int32.ofNat i)), z] [])) → ∃ (T' : State) (B' : Cell) (z' : Slot), Stand p l e { frames := 0, locals := 0, cells := 0, slots := 0 } s m #[.ref b, .int (Int32.ofNat o), .ref d, .int (Int32.ofNat q), .int (Int32.ofNat len)] below meth c T' ([] ++ copyLocs d q len) 0 0 ∧ Put d B' s₁ T' ∧ Laid B B' q (q + len) (fun j => Value.int (lo8 (cv A (o + (j - q))))) ∧
      Steps p.tables e below (s₁.setTop (entryFrame m #[.ref b, .int (Int32.ofNat o), .ref d, .int (Int32.ofNat q), .int (Int32.ofNat len)] 7)) (T'.setTop (mkF m 3 #[.val (.ref b), .val (.int (Int32.ofNat (o + len))), .val (.ref d), .val (.int (Int32.ofNat (q + len))), .val (.int (Int32.ofNat len)), .val (.int (Int32.ofNat len)), z'] [])) := by
    intro r
    induction r with
    | zero =>
      intro i hi z hz Tl Bk Xl pl fl cl
      have hil : i = len := by omega
      rw [hil] at Xl fl cl
      exact ⟨Tl, Bk, z, Xl, pl, fl, cl⟩
    | succ r ih =>
      intro i hi z hz Tl Bk Xl pl fl cl
      have all := X0.warmed.alike.symm.trans Xl.warmed.alike
      have hAl := hA0.keep all (pl.other hne hA0.1)
      have hBk := hB0.like all pl.1 fl.1 fl.2.1 fl.2.2.1
      have hlt : q + i < Bk.slots.size := by rw [fl.2.2.1]; omega
      have c3 : Steps p.tables e below (s₁.setTop (entryFrame m #[.ref b, .int (Int32.ofNat o), .ref d, .int (Int32.ofNat q), .int (Int32.ofNat len)] 7)) (Tl.setTop (mkF m 12 #[.val (.ref b), .val (.int (Int32.ofNat (o + i))), .val (.ref d), .val (.int (Int32.ofNat (q + i))), .val (.int (Int32.ofNat len)), .val (.int (Int32.ofNat i)), z] [.int (Int32.ofNat (o + i)), .ref b])) := cl.trans (by
        refine XS.iload Xl.here hexec rfl (hb hbytes d3) rfl ?_
        refine XS.iload Xl.here hexec rfl (hb hbytes d5) rfl ?_
        refine XS.icmpNo Xl.here hexec rfl (hb hbytes d7) rfl (ii_ge_f (lt32 (by omega) (by omega))) ?_
        refine XS.aloadN Xl.here hexec rfl (hb hbytes d10) rfl rfl ?_
        refine XS.iloadN Xl.here hexec rfl (hb hbytes d11) rfl ?_
        exact Steps.refl _)
      have c4 : Steps p.tables e below (s₁.setTop (entryFrame m #[.ref b, .int (Int32.ofNat o), .ref d, .int (Int32.ofNat q), .int (Int32.ofNat len)] 7)) (Tl.setTop (mkF m 13 #[.val (.ref b), .val (.int (Int32.ofNat (o + i))), .val (.ref d), .val (.int (Int32.ofNat (q + i))), .val (.int (Int32.ofNat len)), .val (.int (Int32.ofNat i)), z] [.int (cv A (o + i))])) := c3.trans (by
        refine Xl.aget hexec hAl rfl (hA.get (i := o + i) (by omega)) rfl rfl (hb hbytes d12) ?_
        exact Steps.refl _)
      have c5 : Steps p.tables e below (s₁.setTop (entryFrame m #[.ref b, .int (Int32.ofNat o), .ref d, .int (Int32.ofNat q), .int (Int32.ofNat len)] 7)) (Tl.setTop (mkF m 15 #[.val (.ref b), .val (.int (Int32.ofNat (o + i))), .val (.ref d), .val (.int (Int32.ofNat (q + i))), .val (.int (Int32.ofNat len)), .val (.int (Int32.ofNat i)), .val (.int (cv A (o + i)))] [])) := c4.trans (by
        refine XS.istoreS Xl.here hexec rfl (hb hbytes d13) rfl rfl hz ?_
        exact Steps.refl _)
      have c6 : Steps p.tables e below (s₁.setTop (entryFrame m #[.ref b, .int (Int32.ofNat o), .ref d, .int (Int32.ofNat q), .int (Int32.ofNat len)] 7)) (Tl.setTop (mkF m 31 #[.val (.ref b), .val (.int (Int32.ofNat (o + i))), .val (.ref d), .val (.int (Int32.ofNat (q + i))), .val (.int (Int32.ofNat len)), .val (.int (Int32.ofNat i)), .val (.int (cv A (o + i)))] [.int (lo8 (cv A (o + i))), .int (Int32.ofNat (q + i)), .ref d])) := c5.trans (by
        refine XS.iload Xl.here hexec rfl (hb hbytes d15) rfl ?_
        refine sipushV Xl.here hexec rfl 255 (hb hbytes d17) (by decide) ?_
        refine XS.icmpYes Xl.here hexec rfl (pc0 := 20) rfl (hb hbytes d20) rfl (ii_le_t (hp i (by omega))) (by decide) rfl ?_
        refine XS.aloadN Xl.here hexec rfl (hb hbytes d26) rfl rfl ?_
        refine XS.iloadN Xl.here hexec rfl (hb hbytes d27) rfl ?_
        refine XS.iload Xl.here hexec rfl (hb hbytes d28) rfl ?_
        refine i2b Xl.here hexec rfl (hb hbytes d30) rfl ?_
        exact Steps.refl _)
      obtain ⟨T7, X7, p7, st7⟩ := Xl.aput hexec hBk rfl hlt rfl (fits_lo8 (cv A (o + i))) (g := (mkF m 31 #[.val (.ref b), .val (.int (Int32.ofNat (o + i))), .val (.ref d), .val (.int (Int32.ofNat (q + i))), .val (.int (Int32.ofNat len)), .val (.int (Int32.ofNat i)), .val (.int (cv A (o + i)))] [.int (lo8 (cv A (o + i))), .int (Int32.ofNat (q + i)), .ref d])) rfl (rest := []) rfl (hb hbytes d31)
      have c8 : Steps p.tables e below (s₁.setTop (entryFrame m #[.ref b, .int (Int32.ofNat o), .ref d, .int (Int32.ofNat q), .int (Int32.ofNat len)] 7)) (T7.setTop (mkF m 32 #[.val (.ref b), .val (.int (Int32.ofNat (o + i))), .val (.ref d), .val (.int (Int32.ofNat (q + i))), .val (.int (Int32.ofNat len)), .val (.int (Int32.ofNat i)), .val (.int (cv A (o + i)))] [])) := c6.trans (st7 _ (Steps.refl _))
      have c9 : Steps p.tables e below (s₁.setTop (entryFrame m #[.ref b, .int (Int32.ofNat o), .ref d, .int (Int32.ofNat q), .int (Int32.ofNat len)] 7)) (T7.setTop (mkF m 3 #[.val (.ref b), .val (.int (Int32.ofNat (o + i) + 1)), .val (.ref d), .val (.int (Int32.ofNat (q + i) + 1)), .val (.int (Int32.ofNat len)), .val (.int (Int32.ofNat i + 1)), .val (.int (cv A (o + i)))] [])) := c8.trans (by
        refine iincV X7.here hexec rfl 1 (hb hbytes d32) (by decide) rfl rfl ?_
        refine iincV X7.here hexec rfl 1 (hb hbytes d35) (by decide) rfl rfl ?_
        refine iincV X7.here hexec rfl 1 (hb hbytes d38) (by decide) rfl rfl ?_
        refine XS.goto X7.here hexec rfl (pc0 := 41) rfl (hb hbytes d41) (by decide) rfl ?_
        exact Steps.refl _)
      have c10 : Steps p.tables e below (s₁.setTop (entryFrame m #[.ref b, .int (Int32.ofNat o), .ref d, .int (Int32.ofNat q), .int (Int32.ofNat len)] 7)) (T7.setTop (mkF m 3 #[.val (.ref b), .val (.int (Int32.ofNat (o + (i + 1)))), .val (.ref d), .val (.int (Int32.ofNat (q + (i + 1)))), .val (.int (Int32.ofNat len)), .val (.int (Int32.ofNat (i + 1))), .val (.int (cv A (o + i)))] [])) := by
        have := c9
        rw [succ32, succ32, succ32] at this
        exact this
      exact ih (i + 1) (by omega) _ (Or.inr ⟨_, rfl, rfl⟩) T7 _ (by rw [copyLocs_step, ← List.append_assoc]; exact X7) (pl.trans p7) (fl.step (by omega) hlt (by simp)) c10
  obtain ⟨T9, B9, z9, X9, p9, f9, g9⟩ := loop len 0 (by omega) .unset (Or.inl rfl) s₁ B (by simpa [copyLocs] using X0) ⟨hB0.1, fun _ _ => rfl, rfl⟩ (Laid.zero _ _ _) c2
  have c11 : Steps p.tables e below (s₁.setTop (entryFrame m #[.ref b, .int (Int32.ofNat o), .ref d, .int (Int32.ofNat q), .int (Int32.ofNat len)] 7)) (T9.setTop (mkF m 46 #[.val (.ref b), .val (.int (Int32.ofNat (o + len))), .val (.ref d), .val (.int (Int32.ofNat (q + len))), .val (.int (Int32.ofNat len)), .val (.int (Int32.ofNat len)), z9] [.int (Int32.ofNat len)])) := g9.trans (by
    refine XS.iload X9.here hexec rfl (hb hbytes d3) rfl ?_
    refine XS.iload X9.here hexec rfl (hb hbytes d5) rfl ?_
    refine XS.icmpYes X9.here hexec rfl (pc0 := 7) rfl (hb hbytes d7) rfl (ii_ge_t (nlt32 (by omega) (Nat.le_refl _))) (by decide) rfl ?_
    refine XS.iload X9.here hexec rfl (hb hbytes d44) rfl ?_
    exact Steps.refl _)
  exact ⟨T9, some (.int (Int32.ofNat len)), _, _, _, X9, by simp, rfl, rfl, (fun h => by cases h), ⟨rfl, B9, p9.from hh0, f9⟩, fun fs hl => c11.trans (X9.ireturnOut hexec hret rfl (Or.inl rfl) (hb hbytes d46) hl)⟩
end Cmp5
namespace Cmp3
def yN : MethodName := ⟨"java/lang/StringUTF16", "compress", "([CII)[B"⟩
abbrev yB : ByteArray := jdk_52_method_16_code
theorem d0 : decode yB 0 = .ok (.iload_n 2, 1) := by decide +kernel
theorem d1 : decode yB 1 = .ok (.newarray .byte, 2) := by decide +kernel
theorem d3 : decode yB 3 = .ok (.astore_n 3, 1) := by decide +kernel
theorem d4 : decode yB 4 = .ok (.aload_n 0, 1) := by decide +kernel
theorem d5 : decode yB 5 = .ok (.iload_n 1, 1) := by decide +kernel
theorem d6 : decode yB 6 = .ok (.aload_n 3, 1) := by decide +kernel
theorem d7 : decode yB 7 = .ok (.iconst 0, 1) := by decide +kernel
theorem d8 : decode yB 8 = .ok (.iload_n 2, 1) := by decide +kernel
theorem d9 : decode yB 9 = .ok (.invokestatic 115, 3) := by decide +kernel
theorem d12 : decode yB 12 = .ok (.istore 4, 2) := by decide +kernel
theorem d14 : decode yB 14 = .ok (.iload 4, 2) := by decide +kernel
theorem d16 : decode yB 16 = .ok (.iload_n 2, 1) := by decide +kernel
theorem d17 : decode yB 17 = .ok (.if_icmp (.eq) 40, 3) := by decide +kernel
theorem d57 : decode yB 57 = .ok (.aload_n 3, 1) := by decide +kernel
theorem d58 : decode yB 58 = .ok (.areturn, 1) := by decide +kernel
def site : List Cond := [.arrayClass .byte, Cmp5.tab] ++ staticW U16 115 Cmp5.yN
def tab : Cond := tabOf yN yB 6 (some (.array .byte)) site
def P (b : Addr) (A : Cell) (o len : Nat) (args : Array Value) (s : State) : Prop := args = #[.ref b, .int (Int32.ofNat o), .int (Int32.ofNat len)] ∧ Ch b A s ∧ o + len ≤ A.slots.size ∧ len ≤ 536870912 ∧ ∀ i, i < len → ¬ 255 < cv A (o + i)
def E (b : Addr) (A : Cell) (o len : Nat) (r : Option Value) (s u : State) : Prop := NewArr .byte "[B" len (fun j => .int (lo8 (cv A (o + j)))) r s u ∧ u.heap.size = s.heap.size + 1
/-- no char of the range above 255: a new byte[] of their low bytes -/
theorem law (l : Launch) (b : Addr) (A : Cell) (o len : Nat) : Law l yN 3 3 1 18 yB 6 (some (.array .byte)) site (P b A o len) (E b A o len) [] 1 len := by
  refine Law.of_walk (plainFor_of_name (by decide +kernel)) (by decide +kernel) (by decide +kernel) (by decide) (fun _ _ h => by rw [h.1]; rfl) (fun _ U U' hal hh h => ⟨h.1, h.2.1.mv hal hh, h.2.2⟩) (fun r U U' V V' h1 hal h2 h => ⟨NewArr.mv r U U' V V' h1 hal h2 h.1, by rw [h1, h2]; exact h.2⟩) ?_
  intro p e s m args below meth c s₁ X0 hexec hbytes hml hret hlk hnm hown hh0 W hP
  obtain ⟨rfl, hA, l1, l2, hp⟩ := hP
  have a31 := hA.1.2.2.2
  have c1 : Steps p.tables e below (s₁.setTop (entryFrame m #[.ref b, .int (Int32.ofNat o), .int (Int32.ofNat len)] 6)) (s₁.setTop (mkF m 0 #[.val (.ref b), .val (.int (Int32.ofNat o)), .val (.int (Int32.ofNat len)), .unset, .unset, .unset] [])) := entry rfl
  have c2 : Steps p.tables e below (s₁.setTop (entryFrame m #[.ref b, .int (Int32.ofNat o), .int (Int32.ofNat len)] 6)) (s₁.setTop (mkF m 1 #[.val (.ref b), .val (.int (Int32.ofNat o)), .val (.int (Int32.ofNat len)), .unset, .unset, .unset] [.int (Int32.ofNat len)])) := c1.trans (by
    refine XS.iloadN X0.here hexec rfl (hb hbytes d0) rfl ?_
    exact Steps.refl _)
  obtain ⟨T3, B3, X3, ba3, bs3, bv3, bh3, bf3, st3⟩ := X0.anew hexec (atype := .byte) (wk W (.arrayClass .byte)) rfl (by show len * 1 ≤ _; omega) (by omega) (g := (mkF m 1 #[.val (.ref b), .val (.int (Int32.ofNat o)), .val (.int (Int32.ofNat len)), .unset, .unset, .unset] [.int (Int32.ofNat len)])) rfl (hb hbytes d1) (rest := []) rfl (Nat.le_refl _) (by show 0 + len ≤ len; omega)
  rw [hh0] at ba3 st3
  have kp3 : XT.Kept s T3 := (XT.Kept.of_eq hh0).push bh3
  have hA3 := hA.keep X3.warmed.alike (kp3 _ _ hA.1.1)
  have hne : b ≠ s.heap.size := hA.1.ne
  have c4 : Steps p.tables e below (s₁.setTop (entryFrame m #[.ref b, .int (Int32.ofNat o), .int (Int32.ofNat len)] 6)) (T3.setTop (mkF m 3 #[.val (.ref b), .val (.int (Int32.ofNat o)), .val (.int (Int32.ofNat len)), .unset, .unset, .unset] [.ref s.heap.size])) := c2.trans (st3 _ (Steps.refl _))
  have c5 : Steps p.tables e below (s₁.setTop (entryFrame m #[.ref b, .int (Int32.ofNat o), .int (Int32.ofNat len)] 6)) (T3.setTop (mkF m 9 #[.val (.ref b), .val (.int (Int32.ofNat o)), .val (.int (Int32.ofNat len)), .val (.ref s.heap.size), .unset, .unset] [.int (Int32.ofNat len), .int 0, .ref s.heap.size, .int (Int32.ofNat o), .ref b])) := c4.trans (by
    refine XS.astoreN X3.here hexec rfl (hb hbytes d3) rfl rfl rfl ?_
    refine XS.aloadN X3.here hexec rfl (hb hbytes d4) rfl rfl ?_
    refine XS.iloadN X3.here hexec rfl (hb hbytes d5) rfl ?_
    refine XS.aloadN X3.here hexec rfl (hb hbytes d6) rfl rfl ?_
    refine iconstV X3.here hexec rfl 0 (hb hbytes d7) (by decide) ?_
    refine XS.iloadN X3.here hexec rfl (hb hbytes d8) rfl ?_
    exact Steps.refl _)
  obtain ⟨v6, T6, X6, E6, g6⟩ := X3.callS hexec (Cmp5.law l b A s.heap.size B3 o 0 len) hown (wks W (staticW U16 115 Cmp5.yN)) (wk W Cmp5.tab) (W := 0) (Nat.le_of_ble_eq_true rfl) (Nat.le_of_ble_eq_true rfl) (Nat.le_refl _) (by show 0 + len + 0 ≤ len; omega) (g := (mkF m 9 #[.val (.ref b), .val (.int (Int32.ofNat o)), .val (.int (Int32.ofNat len)), .val (.ref s.heap.size), .unset, .unset] [.int (Int32.ofNat len), .int (Int32.ofNat 0), .ref s.heap.size, .int (Int32.ofNat o), .ref b])) rfl (by rw [hml]; rfl) c5 (argsL := [.ref b, .int (Int32.ofNat o), .ref s.heap.size, .int (Int32.ofNat 0), .int (Int32.ofNat len)]) (rest := []) rfl rfl (by show 2 * 0 + 0 ≤ _; decide) (hb hbytes d9) (⟨rfl, hA3, ba3, hne, l1, by rw [bs3]; simp, hp⟩)
  obtain ⟨rfl, B6, p6, f6⟩ := E6
  have c7 : Steps p.tables e below (s₁.setTop (entryFrame m #[.ref b, .int (Int32.ofNat o), .int (Int32.ofNat len)] 6)) (T6.setTop (mkF m 12 #[.val (.ref b), .val (.int (Int32.ofNat o)), .val (.int (Int32.ofNat len)), .val (.ref s.heap.size), .unset, .unset] [.int (Int32.ofNat len)])) := g6
  have c8 : Steps p.tables e below (s₁.setTop (entryFrame m #[.ref b, .int (Int32.ofNat o), .int (Int32.ofNat len)] 6)) (T6.setTop (mkF m 58 #[.val (.ref b), .val (.int (Int32.ofNat o)), .val (.int (Int32.ofNat len)), .val (.ref s.heap.size), .val (.int (Int32.ofNat len)), .unset] [.ref s.heap.size])) := c7.trans (by
    refine XS.istore X6.here hexec rfl (hb hbytes d12) rfl rfl ?_
    refine XS.iload X6.here hexec rfl (hb hbytes d14) rfl ?_
    refine XS.iloadN X6.here hexec rfl (hb hbytes d16) rfl ?_
    refine XS.icmpYes X6.here hexec rfl (pc0 := 17) rfl (hb hbytes d17) rfl (ii_eq_t rfl) (by decide) rfl ?_
    refine XS.aloadN X6.here hexec rfl (hb hbytes d57) rfl rfl ?_
    exact Steps.refl _)
  have X8 := X6.wide (L' := []) (cells' := 1) (slots' := len) (fun x hx hlt => by
    simp only [List.nil_append, copyLocs, List.mem_map, List.mem_range] at hx
    obtain ⟨i, -, rfl⟩ := hx
    exact absurd hlt (Nat.lt_irrefl _)) (Nat.le_refl _) (by omega)
  exact ⟨T6, some (.ref s.heap.size), _, _, _, X8, rfl, rfl, rfl, (fun h => by cases h), ⟨⟨rfl, B6, ba3.like (X3.warmed.alike.symm.trans X6.warmed.alike) p6.1 f6.1 f6.2.1 f6.2.2.1, f6.2.1.trans bv3, by rw [X6.warmed.alike.findClass, f6.1]; exact bf3, by rw [f6.2.2.1, bs3]; simp, fun j hj => by rw [f6.2.2.2 j, if_pos (by omega)]; rfl, kp3.put p6 (Nat.le_refl _)⟩, by rw [p6.2.2, bh3, hh0]; simp⟩, fun fs hl => c8.trans (X8.areturnOut hexec rfl hret rfl (hb hbytes d58) hl)⟩
end Cmp3
namespace CodL
def yN : MethodName := ⟨"java/lang/StringUTF16", "coderFromArrayLen", "([BI)B"⟩
abbrev yB : ByteArray := jdk_52_method_15_code
theorem d0 : decode yB 0 = .ok (.iload_n 1, 1) := by decide +kernel
theorem d1 : decode yB 1 = .ok (.aload_n 0, 1) := by decide +kernel
theorem d2 : decode yB 2 = .ok (.arraylength, 1) := by decide +kernel
theorem d3 : decode yB 3 = .ok (.isub, 1) := by decide +kernel
theorem d4 : decode yB 4 = .ok (.bipush 31, 2) := by decide +kernel
theorem d6 : decode yB 6 = .ok (.iushr, 1) := by decide +kernel
theorem d7 : decode yB 7 = .ok (.i2b, 1) := by decide +kernel
theorem d8 : decode yB 8 = .ok (.ireturn, 1) := by decide +kernel
def site : List Cond := []
def tab : Cond := tabOf yN yB 2 (some .byte) site
def P (d : Addr) (B : Cell) (args : Array Value) (s : State) : Prop := args = #[.ref d, .int (Int32.ofNat B.slots.size)] ∧ Arr .byte d B s
def E (r : Option Value) (s u : State) : Prop := XT.PureE (some (.int 0)) r s u
/-- an array as long as the number of chars: LATIN1 -/
theorem law (l : Launch) (d : Addr) (B : Cell) : Law l yN 2 2 0 0 yB 2 (some .byte) site (P d B) E [] 0 0 := by
  refine Law.of_walk (plainFor_of_name (by decide +kernel)) (by decide +kernel) (by decide +kernel) (by decide) (fun _ _ h => by rw [h.1]; rfl) (fun _ U U' hal hh h => ⟨h.1, h.2.mv hal hh⟩) (fun r U U' V V' h1 hal h2 h => XT.PureE.mv r U U' V V' h1 hal h2 h) ?_
  intro p e s m args below meth c s₁ X0 hexec hbytes hml hret hlk hnm hown hh0 W hP
  obtain ⟨rfl, hB⟩ := hP
  have hB0 := hB.mv X0.warmed.alike hh0
  have c1 : Steps p.tables e below (s₁.setTop (entryFrame m #[.ref d, .int (Int32.ofNat B.slots.size)] 2)) (s₁.setTop (mkF m 0 #[.val (.ref d), .val (.int (Int32.ofNat B.slots.size))] [])) := entry rfl
  have c2 : Steps p.tables e below (s₁.setTop (entryFrame m #[.ref d, .int (Int32.ofNat B.slots.size)] 2)) (s₁.setTop (mkF m 2 #[.val (.ref d), .val (.int (Int32.ofNat B.slots.size))] [.ref d, .int (Int32.ofNat B.slots.size)])) := c1.trans (by
    refine XS.iloadN X0.here hexec rfl (hb hbytes d0) rfl ?_
    refine XS.aloadN X0.here hexec rfl (hb hbytes d1) rfl rfl ?_
    exact Steps.refl _)
  have c3 : Steps p.tables e below (s₁.setTop (entryFrame m #[.ref d, .int (Int32.ofNat B.slots.size)] 2)) (s₁.setTop (mkF m 8 #[.val (.ref d), .val (.int (Int32.ofNat B.slots.size))] [.int (lo8 (ushr (Int32.ofNat B.slots.size - Int32.ofNat B.slots.size) 31))])) := c2.trans (by
    refine X0.alen hexec hB0 rfl rfl (hb hbytes d2) ?_
    refine XS.isub X0.here hexec rfl (hb hbytes d3) rfl ?_
    refine bipushV X0.here hexec rfl 31 (hb hbytes d4) (by decide) ?_
    refine iushr X0.here hexec rfl (hb hbytes d6) rfl ?_
    refine i2b X0.here hexec rfl (hb hbytes d7) rfl ?_
    exact Steps.refl _)
  have e0 : lo8 (ushr (Int32.ofNat B.slots.size - Int32.ofNat B.slots.size) 31) = 0 := by rw [Int32.sub_self]; decide
  rw [e0] at c3
  exact ⟨s₁, some (.int 0), _, _, _, X0, rfl, rfl, rfl, (fun h => by cases h), ⟨rfl, hh0⟩, fun fs hl => c3.trans (X0.ireturnOut hexec hret rfl (Or.inr (Or.inr (Or.inl rfl))) (hb hbytes d8) hl)⟩
end CodL
/-- the String at a is Latin-1 over a new byte[] (the heap's one new cell): the low bytes of the len chars of A from o on; every cell but a is kept -/
def Got (a : Addr) (D : Cell) (fV fC : Field) (A : Cell) (o len : Nat) (r : Option Value) (s u : State) : Prop := r = none ∧ ∃ D' V : Cell, Blank "java/lang/String" a D' u ∧ Same D D' [fV.slot, fC.slot] ∧ D'.slots[fV.slot]? = some (.ref s.heap.size) ∧ D'.slots[fC.slot]? = some (.int 0) ∧ Arr .byte s.heap.size V u ∧ V.vm = .none ∧ u.vm.findClass "[B" = some V.cls ∧ V.slots.size = len ∧ (∀ j, j < len → V.slots[j]? = some (.int (lo8 (cv A (o + j))))) ∧ (∀ (y : Addr) (c : Cell), y ≠ a → s.heap[y]? = some c → u.heap[y]? = some c) ∧ u.heap.size = s.heap.size + 1
theorem Got.mv {a : Addr} {D A : Cell} {fV fC : Field} {o len : Nat} : ∀ r (U U' V V' : State), U'.heap = U.heap → V.vm.Alike V'.vm → V'.heap = V.heap → Got a D fV fC A o len r U V → Got a D fV fC A o len r U' V' :=
  fun r U U' V V' h1 hal h2 ⟨e0, D', X, a1, a2, a3, a4, a5, a6, a7, a8, a9, a10, a11⟩ => ⟨e0, D', X, a1.mv hal h2, a2, by rw [h1]; exact a3, a4, by rw [h1]; exact a5.mv hal h2, a6, by rw [hal.findClass]; exact a7, a8, a9, by rw [h1, h2]; exact a10, by rw [h1, h2]; exact a11⟩
namespace New4
def yN : MethodName := ⟨"java/lang/String", "<init>", "([CIILjava/lang/Void;)V"⟩
abbrev yB : ByteArray := jdk_42_method_149_code
theorem d0 : decode yB 0 = .ok (.aload_n 0, 1) := by decide +kernel
theorem d1 : decode yB 1 = .ok (.invokespecial 1, 3) := by decide +kernel
theorem d4 : decode yB 4 = .ok (.iload_n 3, 1) := by decide +kernel
theorem d5 : decode yB 5 = .ok (.ifCond (.ne) 22, 3) := by decide +kernel
theorem d27 : decode yB 27 = .ok (.getstatic 38, 3) := by decide +kernel
theorem d30 : decode yB 30 = .ok (.ifCond (.eq) 28, 3) := by decide +kernel
theorem d33 : decode yB 33 = .ok (.aload_n 1, 1) := by decide +kernel
theorem d34 : decode yB 34 = .ok (.iload_n 2, 1) := by decide +kernel
theorem d35 : decode yB 35 = .ok (.iload_n 3, 1) := by decide +kernel
theorem d36 : decode yB 36 = .ok (.invokestatic 177, 3) := by decide +kernel
theorem d39 : decode yB 39 = .ok (.astore 5, 2) := by decide +kernel
theorem d41 : decode yB 41 = .ok (.aload_n 0, 1) := by decide +kernel
theorem d42 : decode yB 42 = .ok (.aload 5, 2) := by decide +kernel
theorem d44 : decode yB 44 = .ok (.iload_n 3, 1) := by decide +kernel
theorem d45 : decode yB 45 = .ok (.invokestatic 47, 3) := by decide +kernel
theorem d48 : decode yB 48 = .ok (.putfield 15, 3) := by decide +kernel
theorem d51 : decode yB 51 = .ok (.aload_n 0, 1) := by decide +kernel
theorem d52 : decode yB 52 = .ok (.aload 5, 2) := by decide +kernel
theorem d54 : decode yB 54 = .ok (.putfield 9, 3) := by decide +kernel
theorem d57 : decode yB 57 = .ok (.return_, 1) := by decide +kernel
def site : List Cond := [.fieldLink "java/lang/String" 38 "java/lang/String" "COMPACT_STRINGS" "Z", Cmp3.tab, CodL.tab, .laysFinal "java/lang/String" "java/lang/String" "value" "[B", .fieldLink "java/lang/String" 9 "java/lang/String" "value" "[B", .laysFinal "java/lang/String" "java/lang/String" "coder" "B", .fieldLink "java/lang/String" 15 "java/lang/String" "coder" "B"] ++ objW "java/lang/String" 1 ++ staticW "java/lang/String" 177 Cmp3.yN ++ staticW "java/lang/String" 47 CodL.yN
def tab : Cond := tabOf yN yB 6 none site
def P (a : Addr) (D : Cell) (fV fC : Field) (b : Addr) (A : Cell) (z : Int32) (o len : Nat) (args : Array Value) (s : State) : Prop := args = #[.ref a, .ref b, .int (Int32.ofNat o), .int (Int32.ofNat len), .null] ∧ Blank "java/lang/String" a D s ∧ Found "java/lang/String" "value" "[B" fV s ∧ Found "java/lang/String" "coder" "B" fC s ∧ Ch b A s ∧ StaticIs s "java/lang/String" "COMPACT_STRINGS" "Z" (.int z) ∧ ¬ z = 0 ∧ 0 < len ∧ o + len ≤ A.slots.size ∧ len ≤ 536870912 ∧ ∀ i, i < len → ¬ 255 < cv A (o + i)
def E (a : Addr) (D : Cell) (fV fC : Field) (A : Cell) (o len : Nat) (r : Option Value) (s u : State) : Prop := Got a D fV fC A o len r s u
/-- len > 0, no char of the range above 255: a Latin-1 String of their low bytes -/
theorem law (l : Launch) (a : Addr) (D : Cell) (fV fC : Field) (b : Addr) (A : Cell) (z : Int32) (o len : Nat) : Law l yN 5 4 2 35 yB 6 none site (P a D fV fC b A z o len) (E a D fV fC A o len) [⟨a, fC.slot⟩, ⟨a, fV.slot⟩] 1 len := by
  refine Law.of_walk (plainFor_of_name (by decide +kernel)) (by decide +kernel) (by decide +kernel) (by decide) (fun _ _ h => by rw [h.1]; rfl) (fun _ U U' hal hh h => ⟨h.1, h.2.1.mv hal hh, h.2.2.1.al hal, h.2.2.2.1.al hal, h.2.2.2.2.1.mv hal hh, h.2.2.2.2.2.1.there hal hh, h.2.2.2.2.2.2⟩) (fun r U U' V V' h1 hal h2 h => Got.mv r U U' V V' h1 hal h2 h) ?_
  intro p e s m args below meth c s₁ X0 hexec hbytes hml hret hlk hnm hown hh0 W hP
  obtain ⟨rfl, hB, f1, f2, hA, s1, hz, l0, l1, l2, hp⟩ := hP
  have a31 := hA.1.2.2.2
  have c1 : Steps p.tables e below (s₁.setTop (entryFrame m #[.ref a, .ref b, .int (Int32.ofNat o), .int (Int32.ofNat len), .null] 6)) (s₁.setTop (mkF m 0 #[.val (.ref a), .val (.ref b), .val (.int (Int32.ofNat o)), .val (.int (Int32.ofNat len)), .val .null, .unset] [])) := entry rfl
  have c2 : Steps p.tables e below (s₁.setTop (entryFrame m #[.ref a, .ref b, .int (Int32.ofNat o), .int (Int32.ofNat len), .null] 6)) (s₁.setTop (mkF m 1 #[.val (.ref a), .val (.ref b), .val (.int (Int32.ofNat o)), .val (.int (Int32.ofNat len)), .val .null, .unset] [.ref a])) := c1.trans (by
    refine XS.aloadN X0.here hexec rfl (hb hbytes d0) rfl rfl ?_
    exact Steps.refl _)
  obtain ⟨T3, X3, q3, st3⟩ := X0.oinit hexec hown (wks W (objW "java/lang/String" 1)) (g := (mkF m 1 #[.val (.ref a), .val (.ref b), .val (.int (Int32.ofNat o)), .val (.int (Int32.ofNat len)), .val .null, .unset] [.ref a])) rfl (by rw [hml]; rfl) (rest := []) rfl (hb hbytes d1) (W := 0) (by show 2 * 0 + 0 ≤ _; decide) (Nat.le_of_ble_eq_true rfl) (Nat.le_of_ble_eq_true rfl)
  have hh3 := q3.trans hh0
  have c4 : Steps p.tables e below (s₁.setTop (entryFrame m #[.ref a, .ref b, .int (Int32.ofNat o), .int (Int32.ofNat len), .null] 6)) (T3.setTop (mkF m 27 #[.val (.ref a), .val (.ref b), .val (.int (Int32.ofNat o)), .val (.int (Int32.ofNat len)), .val .null, .unset] [])) := (c2.trans (st3 _ (Steps.refl _))).trans (by
    refine XS.iloadN X3.here hexec rfl (hb hbytes d4) rfl ?_
    refine XS.ifYes X3.here hexec rfl (pc0 := 5) rfl (hb hbytes d5) rfl (i0_ne_t (nz32 (by omega) l0)) (by decide) rfl ?_
    exact Steps.refl _)
  obtain ⟨T5, X5, q5, st5⟩ := X3.sget hexec hown (wk W (.fieldLink "java/lang/String" 38 "java/lang/String" "COMPACT_STRINGS" "Z")) s1 (fun _ _ h => by rw [hh3]; exact h) (g := (mkF m 27 #[.val (.ref a), .val (.ref b), .val (.int (Int32.ofNat o)), .val (.int (Int32.ofNat len)), .val .null, .unset] [])) rfl (hb hbytes d27)
  have hh5 := q5.trans hh3
  have c6 : Steps p.tables e below (s₁.setTop (entryFrame m #[.ref a, .ref b, .int (Int32.ofNat o), .int (Int32.ofNat len), .null] 6)) (T5.setTop (mkF m 30 #[.val (.ref a), .val (.ref b), .val (.int (Int32.ofNat o)), .val (.int (Int32.ofNat len)), .val .null, .unset] [.int z])) := c4.trans (st5 _ (Steps.refl _))
  have c7 : Steps p.tables e below (s₁.setTop (entryFrame m #[.ref a, .ref b, .int (Int32.ofNat o), .int (Int32.ofNat len), .null] 6)) (T5.setTop (mkF m 36 #[.val (.ref a), .val (.ref b), .val (.int (Int32.ofNat o)), .val (.int (Int32.ofNat len)), .val .null, .unset] [.int (Int32.ofNat len), .int (Int32.ofNat o), .ref b])) := c6.trans (by
    refine XS.ifNo X5.here hexec rfl (hb hbytes d30) rfl (i0_eq_f hz) ?_
    refine XS.aloadN X5.here hexec rfl (hb hbytes d33) rfl rfl ?_
    refine XS.iloadN X5.here hexec rfl (hb hbytes d34) rfl ?_
    refine XS.iloadN X5.here hexec rfl (hb hbytes d35) rfl ?_
    exact Steps.refl _)
  obtain ⟨v8, T8, X8, E8, g8⟩ := X5.callS hexec (Cmp3.law l b A o len) hown (wks W (staticW "java/lang/String" 177 Cmp3.yN)) (wk W Cmp3.tab) (W := 0) (Nat.le_of_ble_eq_true rfl) (Nat.le_of_ble_eq_true rfl) (Nat.le_refl _) (by show 0 + len ≤ len; omega) (g := (mkF m 36 #[.val (.ref a), .val (.ref b), .val (.int (Int32.ofNat o)), .val (.int (Int32.ofNat len)), .val .null, .unset] [.int (Int32.ofNat len), .int (Int32.ofNat o), .ref b])) rfl (by rw [hml]; rfl) c7 (argsL := [.ref b, .int (Int32.ofNat o), .int (Int32.ofNat len)]) (rest := []) rfl rfl (by show 2 * 0 + 0 ≤ _; decide) (hb hbytes d36) (⟨rfl, hA.mv X5.warmed.alike hh5, l1, l2, hp⟩)
  obtain ⟨e8, z8⟩ := E8
  obtain ⟨rfl, N, n1, n2, n3, n4, n5, n6⟩ := NewArr.mv _ T5 s _ _ hh5.symm (Vm.Alike.refl _) rfl e8
  rw [hh5] at z8
  have hB1 := hB.keep X8.warmed.alike (n6 _ _ hB.1)
  have hne : s.heap.size ≠ a := (Nat.ne_of_lt (Array.getElem?_eq_some_iff.mp hB.1).1).symm
  have c9 : Steps p.tables e below (s₁.setTop (entryFrame m #[.ref a, .ref b, .int (Int32.ofNat o), .int (Int32.ofNat len), .null] 6)) (T8.setTop (mkF m 39 #[.val (.ref a), .val (.ref b), .val (.int (Int32.ofNat o)), .val (.int (Int32.ofNat len)), .val .null, .unset] [.ref s.heap.size])) := g8
  have c10 : Steps p.tables e below (s₁.setTop (entryFrame m #[.ref a, .ref b, .int (Int32.ofNat o), .int (Int32.ofNat len), .null] 6)) (T8.setTop (mkF m 45 #[.val (.ref a), .val (.ref b), .val (.int (Int32.ofNat o)), .val (.int (Int32.ofNat len)), .val .null, .val (.ref s.heap.size)] [.int (Int32.ofNat N.slots.size), .ref s.heap.size, .ref a])) := by
    have hc : Steps p.tables e below (s₁.setTop (entryFrame m #[.ref a, .ref b, .int (Int32.ofNat o), .int (Int32.ofNat len), .null] 6)) (T8.setTop (mkF m 45 #[.val (.ref a), .val (.ref b), .val (.int (Int32.ofNat o)), .val (.int (Int32.ofNat len)), .val .null, .val (.ref s.heap.size)] [.int (Int32.ofNat len), .ref s.heap.size, .ref a])) := c9.trans (by
      refine XS.astore X8.here hexec rfl (hb hbytes d39) rfl rfl rfl ?_
      refine XS.aloadN X8.here hexec rfl (hb hbytes d41) rfl rfl ?_
      refine XS.aload X8.here hexec rfl (hb hbytes d42) rfl rfl ?_
      refine XS.iloadN X8.here hexec rfl (hb hbytes d44) rfl ?_
      exact Steps.refl _)
    rw [n4]; exact hc
  obtain ⟨v11, T11, X11, E11, g11⟩ := X8.callS hexec (CodL.law l s.heap.size N) hown (wks W (staticW "java/lang/String" 47 CodL.yN)) (wk W CodL.tab) (W := 1) (Nat.le_of_ble_eq_true rfl) (Nat.le_of_ble_eq_true rfl) (Nat.le_refl _) (by show 0 + len + 0 ≤ len; omega) (g := (mkF m 45 #[.val (.ref a), .val (.ref b), .val (.int (Int32.ofNat o)), .val (.int (Int32.ofNat len)), .val .null, .val (.ref s.heap.size)] [.int (Int32.ofNat N.slots.size), .ref s.heap.size, .ref a])) rfl (by rw [hml]; rfl) c10 (argsL := [.ref s.heap.size, .int (Int32.ofNat N.slots.size)]) (rest := [.ref a]) rfl rfl (by show 2 * 0 + (1 + 0) ≤ _; decide) (hb hbytes d45) (⟨rfl, n1⟩)
  obtain ⟨rfl, q11⟩ := E11
  have hB11 := hB1.mv (X8.warmed.alike.symm.trans X11.warmed.alike) q11
  have c12 : Steps p.tables e below (s₁.setTop (entryFrame m #[.ref a, .ref b, .int (Int32.ofNat o), .int (Int32.ofNat len), .null] 6)) (T11.setTop (mkF m 48 #[.val (.ref a), .val (.ref b), .val (.int (Int32.ofNat o)), .val (.int (Int32.ofNat len)), .val .null, .val (.ref s.heap.size)] [.int 0, .ref a])) := g11
  obtain ⟨T13, X13, p13, bl13, sl13, st13⟩ := X11.finit hexec hown (wk W (.fieldLink "java/lang/String" 15 "java/lang/String" "coder" "B")) (Or.inr ⟨_, (wk W (.laysFinal "java/lang/String" "java/lang/String" "coder" "B"))⟩) (Or.inl ⟨rfl, hnm⟩) f2 (Or.inl rfl) hB11 (t := .byte) (by decide +kernel) rfl (g := (mkF m 48 #[.val (.ref a), .val (.ref b), .val (.int (Int32.ofNat o)), .val (.int (Int32.ofNat len)), .val .null, .val (.ref s.heap.size)] [.int 0, .ref a])) rfl (rest := []) rfl (hb hbytes d48)
  have c14 : Steps p.tables e below (s₁.setTop (entryFrame m #[.ref a, .ref b, .int (Int32.ofNat o), .int (Int32.ofNat len), .null] 6)) (T13.setTop (mkF m 54 #[.val (.ref a), .val (.ref b), .val (.int (Int32.ofNat o)), .val (.int (Int32.ofNat len)), .val .null, .val (.ref s.heap.size)] [.ref s.heap.size, .ref a])) := (c12.trans (st13 _ (Steps.refl _))).trans (by
    refine XS.aloadN X13.here hexec rfl (hb hbytes d51) rfl rfl ?_
    refine XS.aload X13.here hexec rfl (hb hbytes d52) rfl rfl ?_
    exact Steps.refl _)
  obtain ⟨T15, X15, p15, bl15, sl15, st15⟩ := X13.finit hexec hown (wk W (.fieldLink "java/lang/String" 9 "java/lang/String" "value" "[B")) (Or.inr ⟨_, (wk W (.laysFinal "java/lang/String" "java/lang/String" "value" "[B"))⟩) (Or.inl ⟨rfl, hnm⟩) f1 (Or.inl rfl) bl13 (t := (.array .byte)) (by decide +kernel) rfl (g := (mkF m 54 #[.val (.ref a), .val (.ref b), .val (.int (Int32.ofNat o)), .val (.int (Int32.ofNat len)), .val .null, .val (.ref s.heap.size)] [.ref s.heap.size, .ref a])) rfl (rest := []) rfl (hb hbytes d54)
  have c16 : Steps p.tables e below (s₁.setTop (entryFrame m #[.ref a, .ref b, .int (Int32.ofNat o), .int (Int32.ofNat len), .null] 6)) (T15.setTop (mkF m 57 #[.val (.ref a), .val (.ref b), .val (.int (Int32.ofNat o)), .val (.int (Int32.ofNat len)), .val .null, .val (.ref s.heap.size)] [])) := c14.trans (st15 _ (Steps.refl _))
  have ap := apart (Or.inr ⟨_, (wk W (.laysFinal "java/lang/String" "java/lang/String" "value" "[B"))⟩) (Or.inr ⟨_, (wk W (.laysFinal "java/lang/String" "java/lang/String" "coder" "B"))⟩) f1 f2 (t₁ := .array .byte) (t₂ := .byte) (by decide +kernel) (by decide +kernel) (by decide)
  have al := X8.warmed.alike.symm.trans X15.warmed.alike
  have n7 : T11.heap[s.heap.size]? = some N := by rw [q11]; exact n1.1
  exact ⟨T15, none, _, _, _, X15, by simp, rfl, by omega, (fun _ => rfl), ⟨rfl, _, N, bl15, ((Same.refl D _).set _ (by simp)).set _ (by simp), sl15, (Cell.slots_setSlot_ne _ ap).trans sl13, n1.keep al (p15.other hne (p13.other hne n7)), n2, by rw [al.findClass]; exact n3, n4, n5, fun y c h1 h2 => p15.other h1 (p13.other h1 (by rw [q11]; exact n6 y c h2)), by rw [p15.2.2, p13.2.2, q11]; exact z8⟩, fun fs hl => c16.trans (X15.returnOut hexec hret (hb hbytes d57) hl)⟩
end New4
namespace New1
def yN : MethodName := ⟨"java/lang/String", "<init>", "([C)V"⟩
abbrev yB : ByteArray := jdk_42_method_3_code
theorem d0 : decode yB 0 = .ok (.aload_n 0, 1) := by decide +kernel
theorem d1 : decode yB 1 = .ok (.aload_n 1, 1) := by decide +kernel
theorem d2 : decode yB 2 = .ok (.iconst 0, 1) := by decide +kernel
theorem d3 : decode yB 3 = .ok (.aload_n 1, 1) := by decide +kernel
theorem d4 : decode yB 4 = .ok (.arraylength, 1) := by decide +kernel
theorem d5 : decode yB 5 = .ok (.aconst_null, 1) := by decide +kernel
theorem d6 : decode yB 6 = .ok (.invokespecial 27, 3) := by decide +kernel
theorem d9 : decode yB 9 = .ok (.return_, 1) := by decide +kernel
def site : List Cond := [New4.tab] ++ initW "java/lang/String" 27 New4.yN
def tab : Cond := tabOf yN yB 2 none site
def P (a : Addr) (D : Cell) (fV fC : Field) (b : Addr) (A : Cell) (z : Int32) (args : Array Value) (s : State) : Prop := args = #[.ref a, .ref b] ∧ Blank "java/lang/String" a D s ∧ Found "java/lang/String" "value" "[B" fV s ∧ Found "java/lang/String" "coder" "B" fC s ∧ Ch b A s ∧ StaticIs s "java/lang/String" "COMPACT_STRINGS" "Z" (.int z) ∧ ¬ z = 0 ∧ 0 < A.slots.size ∧ A.slots.size ≤ 536870912 ∧ ∀ i, i < A.slots.size → ¬ 255 < cv A i
def E (a : Addr) (D : Cell) (fV fC : Field) (A : Cell) (r : Option Value) (s u : State) : Prop := Got a D fV fC A 0 A.slots.size r s u
/-- new String(chars), not empty, no char above 255: a Latin-1 String of their low bytes -/
theorem law (l : Launch) (a : Addr) (D : Cell) (fV fC : Field) (b : Addr) (A : Cell) (z : Int32) : Law l yN 2 1 3 52 yB 2 none site (P a D fV fC b A z) (E a D fV fC A) [⟨a, fC.slot⟩, ⟨a, fV.slot⟩] 1 A.slots.size := by
  refine Law.of_walk (plainFor_of_name (by decide +kernel)) (by decide +kernel) (by decide +kernel) (by decide) (fun _ _ h => by rw [h.1]; rfl) (fun _ U U' hal hh h => ⟨h.1, h.2.1.mv hal hh, h.2.2.1.al hal, h.2.2.2.1.al hal, h.2.2.2.2.1.mv hal hh, h.2.2.2.2.2.1.there hal hh, h.2.2.2.2.2.2⟩) (fun r U U' V V' h1 hal h2 h => Got.mv r U U' V V' h1 hal h2 h) ?_
  intro p e s m args below meth c s₁ X0 hexec hbytes hml hret hlk hnm hown hh0 W hP
  obtain ⟨rfl, hB, f1, f2, hA, s1, hz, l0, l2, hp⟩ := hP
  have c1 : Steps p.tables e below (s₁.setTop (entryFrame m #[.ref a, .ref b] 2)) (s₁.setTop (mkF m 0 #[.val (.ref a), .val (.ref b)] [])) := entry rfl
  have c2 : Steps p.tables e below (s₁.setTop (entryFrame m #[.ref a, .ref b] 2)) (s₁.setTop (mkF m 6 #[.val (.ref a), .val (.ref b)] [.null, .int (Int32.ofNat A.slots.size), .int 0, .ref b, .ref a])) := c1.trans (by
    refine XS.aloadN X0.here hexec rfl (hb hbytes d0) rfl rfl ?_
    refine XS.aloadN X0.here hexec rfl (hb hbytes d1) rfl rfl ?_
    refine iconstV X0.here hexec rfl 0 (hb hbytes d2) (by decide) ?_
    refine XS.aloadN X0.here hexec rfl (hb hbytes d3) rfl rfl ?_
    refine X0.alen hexec (hA.1.mv X0.warmed.alike hh0) rfl rfl (hb hbytes d4) ?_
    refine XS.aconstNull X0.here hexec rfl (hb hbytes d5) ?_
    exact Steps.refl _)
  obtain ⟨v3, T3, X3, E3, g3⟩ := X0.callN hexec (New4.law l a D fV fC b A z 0 A.slots.size) rfl hown (wks W (initW "java/lang/String" 27 New4.yN)) (W New4.tab (by simp only [site, List.mem_cons, List.mem_append, true_or, or_true])) (W := 0) (Nat.le_of_ble_eq_true rfl) (Nat.le_of_ble_eq_true rfl) (Nat.le_refl _) (by show 0 + A.slots.size ≤ A.slots.size; omega) (g := (mkF m 6 #[.val (.ref a), .val (.ref b)] [.null, .int (Int32.ofNat A.slots.size), .int (Int32.ofNat 0), .ref b, .ref a])) rfl (by rw [hml]; rfl) c2 (argsL := [.ref b, .int (Int32.ofNat 0), .int (Int32.ofNat A.slots.size), .null]) (rest := []) rfl rfl (by show 2 * 0 + 0 ≤ _; decide) (hb hbytes d6) (⟨rfl, hB.mv X0.warmed.alike hh0, f1.al X0.warmed.alike, f2.al X0.warmed.alike, hA.mv X0.warmed.alike hh0, s1.there X0.warmed.alike hh0, hz, l0, by omega, l2, fun i hi => by rw [Nat.zero_add]; exact hp i hi⟩)
  have e0 := Got.mv _ s₁ s _ _ hh0.symm (Vm.Alike.refl _) rfl E3
  obtain rfl := e0.1
  have c4 : Steps p.tables e below (s₁.setTop (entryFrame m #[.ref a, .ref b] 2)) (T3.setTop (mkF m 9 #[.val (.ref a), .val (.ref b)] [])) := g3
  exact ⟨T3, none, _, _, _, X3, by simp, rfl, by omega, (fun _ => rfl), e0, fun fs hl => c4.trans (X3.returnOut hexec hret (hb hbytes d9) hl)⟩
theorem pays {l : Launch} {R : Room} {p : Program} {e : Env} {below : List Frame} {s : State} {sargs : Array Value} {len W : Nat} (a : Addr) (D : Cell) (fV fC : Field) (b : Addr) (A : Cell) (z : Int32) (htab : tab.before sargs s = true) (hfr : 4 ≤ R.frames) (hlo : W + 65 ≤ R.locals) :
    Back l R p e below s sargs yN len W (fun A₁ a₁ => A₁.cells + 1 ≤ R.cells ∧ A₁.slots + A.slots.size ≤ R.slots ∧ P a D fV fC b A z a₁ A₁.U) (fun A₁ _ v₁ B₁ => E a D fV fC A v₁ A₁.U B₁.U ∧ B₁.locs = A₁.locs ++ [⟨a, fC.slot⟩, ⟨a, fV.slot⟩] ∧ B₁.cells = A₁.cells + 1 ∧ B₁.slots = A₁.slots + A.slots.size) :=
  (law l a D fV fC b A z).pays htab hfr (by omega)
end New1
/-- the byte, read back as charAt reads it, is the char -/
theorem lo8_mask {x : Int32} (h0 : ¬ x < 0) (h1 : ¬ 255 < x) : lo8 x &&& 255 = x := by
  have t : ∀ k : Fin 256, lo8 (Int32.ofNat k.val) &&& 255 = Int32.ofNat k.val := by decide +kernel
  rw [Int32.lt_iff_toInt_lt] at h0 h1
  have e0 : (0 : Int32).toInt = 0 := rfl
  have e1 : (255 : Int32).toInt = 255 := rfl
  obtain ⟨k, hk⟩ : ∃ k : Nat, x.toInt = k := ⟨x.toInt.toNat, by omega⟩
  have hx : x = Int32.ofNat k := Int32.toInt_inj.mp (by rw [hk, Int32.toInt_ofNat_small (by omega)])
  rw [hx]
  exact t ⟨k, by omega⟩
end StrChars
namespace StrChars.Road
open Jvm Sem ClassFile Op Lib Jvm.Stand Jvm.Free Jvm.Free.XT
open Jvm.Lib.Cold (StaticIs)
abbrev ST : String := "java/lang/String"
/-- every table word that New1's law asks, flat -/
abbrev words : List Jvm.Cond := [.code New1.yN New1.yB 2 none, .initialized ST, .methodLink ST 27 New4.yN, .instanceMethod New4.yN,
  .code New4.yN New4.yB 6 none, .fieldLink ST 38 ST "COMPACT_STRINGS" "Z", .laysFinal ST ST "value" "[B", .fieldLink ST 9 ST "value" "[B", .laysFinal ST ST "coder" "B", .fieldLink ST 15 ST "coder" "B",
  .methodLink ST 1 Lib.objectInit, .instanceMethod Lib.objectInit, .code Lib.objectInit ⟨#[0xb1]⟩ 1 none, .methodLink ST 177 Cmp3.yN, .static Cmp3.yN, .methodLink ST 47 CodL.yN, .static CodL.yN,
  .code Cmp3.yN Cmp3.yB 6 (some (.array .byte)), .initialized U16, .arrayClass .byte, .methodLink U16 115 Cmp5.yN, .static Cmp5.yN, .code Cmp5.yN Cmp5.yB 7 (some .int), .code CodL.yN CodL.yB 2 (some .byte)]
theorem tab_of {a : Array Value} {s : State} (h : ∀ w ∈ words, w.before a s = true) : New1.tab.before a s = true := by
  have h5 : Cmp5.tab.before a s = true := unparts (wk h (.code Cmp5.yN Cmp5.yB 7 (some .int))) (wks h (.initialized Cmp5.yN.cls :: Cmp5.site))
  have hc : CodL.tab.before a s = true := unparts (wk h (.code CodL.yN CodL.yB 2 (some .byte))) (wks h (.initialized CodL.yN.cls :: CodL.site))
  have q5 : ∀ w ∈ Cmp5.tab :: words, w.before a s = true := fun w hw => (List.mem_cons.mp hw).elim (fun e => e ▸ h5) (h w)
  have h3 : Cmp3.tab.before a s = true := unparts (wk q5 (.code Cmp3.yN Cmp3.yB 6 (some (.array .byte)))) (wks q5 (.initialized Cmp3.yN.cls :: Cmp3.site))
  have q3 : ∀ w ∈ Cmp3.tab :: CodL.tab :: words, w.before a s = true := fun w hw => (List.mem_cons.mp hw).elim (fun e => e ▸ h3) fun hw => (List.mem_cons.mp hw).elim (fun e => e ▸ hc) (h w)
  have h4 : New4.tab.before a s = true := unparts (wk q3 (.code New4.yN New4.yB 6 none)) (wks q3 (.initialized New4.yN.cls :: New4.site))
  have q4 : ∀ w ∈ New4.tab :: words, w.before a s = true := fun w hw => (List.mem_cons.mp hw).elim (fun e => e ▸ h4) (h w)
  exact unparts (wk q4 (.code New1.yN New1.yB 2 none)) (wks q4 (.initialized New1.yN.cls :: New1.site))
/-- the words ride from the start Z to the walk's own state -/
theorem moved {Z s : State} {a0 args : Array Value} (hZ : Z.Warmed39 s.vm) (hw : ∀ d ∈ words, d.before a0 Z = true) : ∀ d ∈ words, d.before args s = true := fun d hd => by
  have q := hw d hd
  have t : ∀ d ∈ words, d = .arrayClass .byte ∨ (d.onTables && d.keepsFace) = true := by decide +kernel
  rcases t d hd with rfl | t
  · exact RoadKit.mvA hZ q
  · exact RoadKit.mv hZ q t
/-- WHAT COMES BACK, over the tables of the start Z: h the heap at the call, h' behind it -/
def Q (Z : State) (x : Addr) (A : Cell) (h : Heap) (v : Option Value) (h' : Heap) (L : List Loc) : Prop := v = none ∧ (∀ y ∈ L, y.base = x) ∧ RoadKit.Keep h h' [x] ∧ h'.size = h.size + 1 ∧ RoadKit.Exa Z h' x ST ∧ RoadKit.Fld Z h' x ST "value" "[B" (.ref h.size) ∧ RoadKit.Fld Z h' x ST "coder" "B" (.int 0) ∧
  (∃ V : Cell, RoadKit.Arr Z h' h.size V .byte ∧ V.vm = .none ∧ Z.vm.findClass "[B" = some V.cls ∧ V.slots.size = A.slots.size ∧ ∀ j, j < A.slots.size → V.slots[j]? = some (.int (lo8 (cv A j)))) ∧
  ∀ (O n d : String) (w : Value), RoadKit.Fld Z h x O n d w → RoadKit.slotOf Z O n d ≠ RoadKit.slotOf Z ST "value" "[B" → RoadKit.slotOf Z O n d ≠ RoadKit.slotOf Z ST "coder" "B" → RoadKit.Fld Z h' x O n d w
/-- **new String(chars) AT A CALL, IN THE ROAD'S FORM**: for specialBack behind newO: x the fresh String, b the char[] with the cell A -/
theorem back {p : Program} {l : Launch} {e : Env} {R : Room} {s : State} {args : Array Value} {below : List Frame} {len W : Nat} {Z : State} {a0 : Array Value} {h : Heap} (hZ : Z.Warmed39 s.vm) (hw : ∀ d ∈ words, d.before a0 Z = true) {kI : Nat} (wi : (Jvm.Cond.instantiable ST kI).before a0 Z = true)
    {x b : Addr} {A : Cell} {z : Int32} {v0 c0 : Value} (E : RoadKit.Exa Z h x ST) (V : RoadKit.Fld Z h x ST "value" "[B" v0) (C : RoadKit.Fld Z h x ST "coder" "B" c0) (K : RoadKit.Arr Z h b A .char) (hty : Typed .char A) (S : RoadKit.Sta Z h ST "COMPACT_STRINGS" "Z" (.int z)) (hz : ¬ z = 0)
    (l0 : 0 < A.slots.size) (l2 : A.slots.size ≤ 536870912) (hp : ∀ i, i < A.slots.size → ¬ 255 < cv A i) (hfr : 4 ≤ R.frames) (hlo : W + 65 ≤ R.locals) :
    Back l R p e below s args New1.yN len W (fun P a => a = #[.ref x, .ref b] ∧ P.U.heap = h ∧ P.cells + 1 ≤ R.cells ∧ P.slots + A.slots.size ≤ R.slots)
      (fun P _ v B => ∃ L, Q Z x A h v B.U.heap L ∧ B.locs = P.locs ++ L ∧ B.cells = P.cells + 1 ∧ B.slots = P.slots + A.slots.size) := by
  intro m meth c P g ig mk a X hg hsize hdg hW hn hp'
  obtain ⟨rfl, rfl, r1, r2⟩ := hp'
  have al : Z.vm.Alike P.U.vm := hZ.alike.trans X.warmed.alike
  obtain ⟨D, cfV, kV, iV, fV, hD, gV, stV, knV, obV, asV, slV⟩ := id V
  obtain ⟨D', cfC, kC, iC, fC, hD', gC, stC, -, -, asC, slC⟩ := id C
  cases hD.symm.trans hD'
  obtain ⟨D2, kD, e1, e2, e3, e4, e5⟩ := id E
  cases hD.symm.trans e1
  obtain ⟨c2, k2, i1, i2, i3, -⟩ := Cond.instantiable_spec wi
  cases e2.symm.trans i1
  cases e3.symm.trans i2
  obtain ⟨kU, u1, u2⟩ := al.2.2 _ _ e3
  have hB : Blank ST x D P.U := ⟨hD, ⟨knV, fun q hq => by rw [hq] at obV; cases obV⟩, by rw [al.findClass]; exact e2, kU, u1, by rw [u2]; exact i3, by rw [u2]; exact e5 i3⟩
  have F1 : Found ST "value" "[B" fV P.U := ⟨SBG.found_only al ⟨cfV, kV, iV, gV⟩, stV⟩
  have F2 : Found ST "coder" "B" fC P.U := ⟨SBG.found_only al ⟨cfC, kC, iC, gC⟩, stC⟩
  have hA : Ch b A P.U := ⟨⟨K.1, State.isArrayOf_alike al K.2.1, K.2.2, by omega⟩, hty⟩
  have hS : StaticIs P.U ST "COMPACT_STRINGS" "Z" (.int z) := by
    obtain ⟨cfS, iS, kS, fS, st, cS, t1, t2, t3, t4, t5, t6, t7⟩ := S
    exact StaticIs.there (s := { Z with heap := P.U.heap }) ⟨cfS, iS, kS, fS, st, cS, t1, t2, t3, t4, t5, (fun q => by rw [q] at t6; cases t6), t7⟩ al rfl
  obtain ⟨v, B, X', ⟨⟨hv, E', V', q1, q2, q3, q4, q5, q6, q7, q8, q9, q10, q11⟩, hl, hc, hs⟩, st⟩ := New1.pays x D fV fC b A z (tab_of (moved hZ hw)) hfr hlo m meth c P g ig mk _ X hg hsize hdg hW hn ⟨r1, r2, rfl, hB, F1, F2, hA, hS, hz, l0, l2, hp⟩
  have al' : Z.vm.Alike B.U.vm := hZ.alike.trans X'.warmed.alike
  have hsz : E'.slots.size = D.slots.size := by
    obtain ⟨-, -, -, kB, w1, w2, w3⟩ := q1
    obtain ⟨kB', y1, y2⟩ := al'.2.2 _ _ e3
    rw [q2.2.1] at w1
    cases w1.symm.trans y1
    rw [w3, e5 i3, y2]
  refine ⟨v, B, X', ⟨_, ⟨hv, ?_, ⟨by omega, fun y cy hy hn' => q10 y cy (by simpa using hn') hy, fun y cy hy => ?_⟩, q11, ⟨E', _, q1.1, by rw [q2.2.1]; exact e2, by rw [q2.2.1]; exact e3, by rw [q2.1]; exact obV, fun _ => by rw [hsz]; exact e5 i3⟩,
    ⟨E', cfV, kV, iV, fV, q1.1, gV, stV, by rw [q2.1]; exact knV, by rw [q2.1]; exact obV, by rw [q2.2.1]; exact asV, q3⟩, ⟨E', cfC, kC, iC, fC, q1.1, gC, stC, by rw [q2.1]; exact knV, by rw [q2.1]; exact obV, by rw [q2.2.1]; exact asC, q4⟩,
    ⟨V', ⟨q5.1, State.isArrayOf_alike al'.symm q5.2.1, q5.2.2.1⟩, q6, by rw [← al'.findClass]; exact q7, q8, fun j hj => by have := q9 j hj; rwa [Nat.zero_add] at this⟩, fun O n d w F n1 n2 => ?_⟩, hl, hc, hs⟩, st⟩
  · intro y hy
    simp only [List.mem_cons, List.not_mem_nil, or_false] at hy
    rcases hy with rfl | rfl <;> rfl
  · by_cases q : y = x
    · subst q
      cases hD.symm.trans hy
      exact ⟨E', q1.1, q2.2.1, q2.1, hsz⟩
    · exact ⟨cy, q10 y cy q hy, rfl, rfl, rfl⟩
  · obtain ⟨D3, cf, k, i, f, g1, g2, g3, g4, g5, g6, g7⟩ := F
    cases hD.symm.trans g1
    simp only [RoadKit.slotOf, g2, gV, gC, Option.map_some, Option.getD_some] at n1 n2
    exact ⟨E', cf, k, i, f, q1.1, g2, g3, by rw [q2.1]; exact g4, by rw [q2.1]; exact g5, by rw [q2.2.1]; exact g6, by rw [q2.2.2 f.slot (by simp [n1, n2])]; exact g7⟩
end StrChars.Road
namespace StrChars.Road
open Jvm Sem ClassFile Op Lib Jvm.Stand Jvm.Free Jvm.Free.XT
/-- WHAT COMES BACK, the byte[] as a list of values -/
def QA (Z : State) (x : Addr) (zn : Int32) (cs : List Int32) (h : Heap) (v : Option Value) (h' : Heap) (L : List Loc) : Prop := v = none ∧ (∀ y ∈ L, y.base = x) ∧ RoadKit.Keep h h' [x] ∧ h'.size = h.size + 1 ∧ RoadKit.Exa Z h' x ST ∧ RoadKit.Fld Z h' x ST "value" "[B" (.ref h.size) ∧ RoadKit.Fld Z h' x ST "coder" "B" (.int 0) ∧
  (∃ kb, Z.vm.findClass "[B" = some kb ∧ RoadKit.Arv Z h' h.size kb .byte zn (cs.map fun c => .int (lo8 c)) (.int 0)) ∧
  ∀ (O n d : String) (w : Value), RoadKit.Fld Z h x O n d w → RoadKit.slotOf Z O n d ≠ RoadKit.slotOf Z ST "value" "[B" → RoadKit.slotOf Z O n d ≠ RoadKit.slotOf Z ST "coder" "B" → RoadKit.Fld Z h' x O n d w
/-- **new String(chars) AT A CALL, THE ARRAYS AS LISTS**: the char[] at b holds cs, not empty, no char above 255 -/
theorem backArv {p : Program} {l : Launch} {e : Env} {R : Room} {s : State} {args : Array Value} {below : List Frame} {len W : Nat} {Z : State} {a0 : Array Value} {h : Heap} (hZ : Z.Warmed39 s.vm) (hw : ∀ d ∈ words, d.before a0 Z = true) {kI : Nat} (wi : (Jvm.Cond.instantiable ST kI).before a0 Z = true)
    {x b : Addr} {k : ClassId} {zn z : Int32} {cs : List Int32} {dv v0 c0 : Value} (E : RoadKit.Exa Z h x ST) (V : RoadKit.Fld Z h x ST "value" "[B" v0) (C : RoadKit.Fld Z h x ST "coder" "B" c0) (K : RoadKit.Arv Z h b k .char zn (cs.map Value.int) dv) (S : RoadKit.Sta Z h ST "COMPACT_STRINGS" "Z" (.int z)) (hz : ¬ z = 0)
    (hlen : zn.toNatClampNeg = cs.length) (h0 : 0 < cs.length) (hbig : cs.length ≤ 536870912) (hall : ∀ c ∈ cs, ¬ 255 < c) (hfr : 4 ≤ R.frames) (hlo : W + 65 ≤ R.locals) :
    Back l R p e below s args New1.yN len W (fun P a => a = #[.ref x, .ref b] ∧ P.U.heap = h ∧ P.cells + 1 ≤ R.cells ∧ P.slots + cs.length ≤ R.slots)
      (fun P _ v B => ∃ L, QA Z x zn cs h v B.U.heap L ∧ B.locs = P.locs ++ L ∧ B.cells = P.cells + 1 ∧ B.slots = P.slots + cs.length) := by
  obtain ⟨A, K1, K2, K3, K4, K5, K6⟩ := K
  have e : A.slots.size = cs.length := K3.trans hlen
  have hat : ∀ (i : Nat) (hi : i < cs.length), A.slots[i]? = some (.int cs[i]) := fun i hi => by rw [K5 i (by omega)]; simp [List.getD_eq_getElem?_getD, hi]
  have hcv : ∀ (i : Nat) (hi : i < cs.length), cv A i = cs[i] := fun i hi => by unfold cv; rw [hat i hi]
  have hty : Typed .char A := fun i v hv => by
    have hi : i < A.slots.size := (Array.getElem?_eq_some_iff.mp hv).1
    have q := K5 i hi
    rw [hv] at q
    rw [Option.some.inj q]
    exact K6 i hi
  refine Back.mono (back hZ hw wi E V C K1 hty S hz (by omega) (by omega) (fun i hi => by rw [hcv i (by omega)]; exact hall _ (List.getElem_mem _)) hfr hlo) (fun P a hp => ⟨hp.1, hp.2.1, hp.2.2.1, by rw [e]; exact hp.2.2.2⟩) (fun P a v B hp hq => ?_)
  obtain ⟨L, ⟨q1, q2, q3, q4, q5, q6, q7, ⟨V', v1, v2, v3, v4, v5⟩, q9⟩, hl, hc, hs⟩ := hq
  refine ⟨L, ⟨q1, q2, q3, q4, q5, q6, q7, ⟨V'.cls, v3, V', v1, rfl, by rw [v4, e, hlen], K4, fun i hi => ?_, fun i hi => ?_⟩, q9⟩, hl, hc, by rw [hs, e]⟩
  · have hi' : i < cs.length := by omega
    rw [v5 i (by omega), hcv i hi']; simp [List.getD_eq_getElem?_getD, hi']
  · have hi' : i < cs.length := by omega
    simp only [List.getD_eq_getElem?_getD, List.getElem?_map, List.getElem?_eq_getElem hi', Option.map_some, Option.getD_some]
    exact fits_lo8 _
end StrChars.Road
namespace StrChars.Road
open Jvm Sem ClassFile Op Lib Jvm.Stand Jvm.Free Jvm.Free.XT
/-- WHAT COMES BACK, in the writer's own shape -/
def QV (Z : State) (x : Addr) (N : Int32) (bs : List Int32) (h : Heap) (n0 : Nat) (v : Option Value) (h' : Heap) (L : List Loc) : Prop := v = none ∧ RoadKit.Fr n0 L ∧ RoadKit.Keep h h' [x] ∧ RoadKit.Exa Z h' x ST ∧ RoadKit.Fld Z h' x ST "coder" "B" (.int 0) ∧
  ∃ (t : Addr) (kb : ClassId), n0 ≤ t ∧ h.size ≤ t ∧ ¬ t = x ∧ RoadKit.Fld Z h' x ST "value" "[B" (.ref t) ∧ RoadKit.Arv Z h' t kb .byte N (bs.map Value.int) (.int 0)
/-- **new String(chars) AT A CALL, FOR THE WRITER**: a char[] of n known ints, each 0 to 255 -/
theorem backV {p : Program} {l : Launch} {e : Env} {R : Room} {s : State} {args : Array Value} {below : List Frame} {len W : Nat} {Z : State} {a0 : Array Value} {h : Heap} (hZ : Z.Warmed39 s.vm) (hw : ∀ d ∈ words, d.before a0 Z = true) {kI : Nat} (wi : (Jvm.Cond.instantiable ST kI).before a0 Z = true)
    {x b : Addr} {kC : ClassId} {cs bs : List Int32} {d v0 c0 : Value} {z N : Int32} {n n0 : Nat} (hx0 : n0 ≤ x) (hh0 : n0 ≤ h.size) (E : RoadKit.Exa Z h x ST) (V : RoadKit.Fld Z h x ST "value" "[B" v0) (C : RoadKit.Fld Z h x ST "coder" "B" c0) (K : RoadKit.Arv Z h b kC .char N (cs.map Value.int) d) (S : RoadKit.Sta Z h ST "COMPACT_STRINGS" "Z" (.int z)) (hz : ¬ z = 0)
    (hn : cs.length = n) (hN : N = Int32.ofNat n) (l0 : 0 < n) (l2 : n ≤ 4000) (hp : ∀ c ∈ cs, ¬ c < 0 ∧ ¬ (255 : Int32) < c) (hb : bs = cs.map (fun c => c.toInt8.toInt32)) (hfr : 4 ≤ R.frames) (hlo : W + 65 ≤ R.locals) :
    Back l R p e below s args (⟨"java/lang/String", "<init>", "([C)V"⟩ : MethodName) len W (fun P a => a = #[.ref x, .ref b] ∧ P.U.heap = h ∧ P.cells + 1 ≤ R.cells ∧ P.slots + n ≤ R.slots)
      (fun P _ v B => ∃ L, QV Z x N bs h n0 v B.U.heap L ∧ B.locs = P.locs ++ L ∧ B.cells = P.cells + 1 ∧ B.slots = P.slots + n) := by
  subst hn hN hb
  refine Back.mono (backArv hZ hw wi E V C K S hz (n32 (by omega)) l0 (by omega) (fun c hc => (hp c hc).2) hfr hlo) (fun P a hp => hp) (fun P a v B hp hq => ?_)
  obtain ⟨L, ⟨q1, q2, q3, q4, q5, q6, q7, ⟨kb, v1, v2⟩, q9⟩, hl, hc, hs⟩ := hq
  exact ⟨L, ⟨q1, fun y hy => by rw [q2 y hy]; exact hx0, q3, q5, q7, h.size, kb, hh0, Nat.le_refl _, Nat.ne_of_gt E.lt, q6, by rw [List.map_map]; exact v2⟩, hl, hc, hs⟩
end StrChars.Road
namespace StrChars
open Jvm Sem ClassFile Op Lib Jvm.Stand Jvm.Free.XT Jvm.Free.ALB Jvm.Free.JM Jvm.Free
open Jvm.Lib.Cold (StaticIs)
def hi8 (x : Int32) : Int32 := lo8 (x >>> ((8 : Int32) &&& 31))
/-- what StringUTF16.getChar makes of two bytes -/
def pairCh (u v : Int32) : Int32 := (((u &&& 255) <<< ((0 : Int32) &&& 31)) ||| ((v &&& 255) <<< ((8 : Int32) &&& 31))).toUInt32.toUInt16.toUInt32.toInt32
theorem shr0 (c : Int32) : c >>> ((0 : Int32) &&& 31) = c := by
  have e : ((0 : Int32) &&& 31) = 0 := by decide
  rw [e]
  apply Int32.toBitVec_inj.mp
  rw [Int32.toBitVec_shiftRight]
  have e1 : ((0 : Int32).toBitVec.smod 32) = 0#32 := by decide
  rw [e1, BitVec.sshiftRight_eq']
  exact BitVec.sshiftRight_zero
theorem lo8_and (x : Int32) : (lo8 x &&& 255).toBitVec.toNat = x.toBitVec.toNat % 256 := by
  have h : (lo8 x).toBitVec = (x.toBitVec.signExtend 8).signExtend 32 := by rw [lo8, Int8.toBitVec_toInt32, Int32.toBitVec_toInt8]
  rw [Int32.toBitVec_and, BitVec.toNat_and, h]
  have e : ((x.toBitVec.signExtend 8).signExtend 32).toNat % 256 = x.toBitVec.toNat % 256 := by
    rw [BitVec.toNat_signExtend]
    have hlt := x.toBitVec.isLt
    simp only [BitVec.toNat_setWidth, BitVec.toNat_signExtend]
    split <;> split <;> omega
  rw [← e]
  exact Nat.and_two_pow_sub_one_eq_mod _ 8
theorem pair_says {c : Int32} (h0 : ¬ c < 0) (h1 : ¬ 65535 < c) : pairCh (lo8 c) (hi8 c) = c := by
  rw [Int32.lt_iff_toInt_lt] at h0 h1
  have e0 : (0 : Int32).toInt = 0 := rfl
  have e1 : (65535 : Int32).toInt = 65535 := rfl
  have hc : c.toInt = c.toBitVec.toNat := by
    have := c.toBitVec.isLt
    have e : c.toInt = c.toBitVec.toInt := rfl
    rw [e] at h0 h1
    rw [e]
    rw [BitVec.toInt_eq_toNat_cond] at h0 h1 ⊢
    split at h0 <;> split <;> omega
  have hn : c.toBitVec.toNat < 65536 := by omega
  have a1 := lo8_and c
  have a2 : (hi8 c &&& 255).toBitVec.toNat = c.toBitVec.toNat / 256 := by
    rw [hi8, lo8_and]
    have e : ((8 : Int32) &&& 31) = 8 := by decide
    rw [e, Int32.toBitVec_shiftRight]
    have e2 : ((8 : Int32).toBitVec.smod 32) = 8#32 := by decide
    rw [e2, BitVec.sshiftRight_eq', BitVec.toNat_sshiftRight_of_msb_false (by rw [BitVec.msb_eq_false_iff_two_mul_lt]; omega)]
    show c.toBitVec.toNat >>> 8 % 256 = _
    rw [Nat.shiftRight_eq_div_pow]
    omega
  unfold pairCh
  apply Int32.toBitVec_inj.mp
  apply BitVec.eq_of_toNat_eq
  have f0 : ((0 : Int32) &&& 31) = 0 := by decide
  have f8 : ((8 : Int32) &&& 31) = 8 := by decide
  rw [f0, f8]
  have g : (((lo8 c &&& 255) <<< (0 : Int32)) ||| ((hi8 c &&& 255) <<< (8 : Int32))).toBitVec.toNat = c.toBitVec.toNat := by
    rw [Int32.toBitVec_or, Int32.toBitVec_shiftLeft, Int32.toBitVec_shiftLeft]
    have s0 : ((0 : Int32).toBitVec.smod 32) = 0#32 := by decide
    have s8 : ((8 : Int32).toBitVec.smod 32) = 8#32 := by decide
    rw [s0, s8, BitVec.toNat_or]
    simp only [BitVec.shiftLeft_eq', BitVec.toNat_shiftLeft, a1, a2]
    show (c.toBitVec.toNat % 256) <<< 0 % 2 ^ 32 ||| (c.toBitVec.toNat / 256) <<< 8 % 2 ^ 32 = _
    rw [Nat.shiftLeft_zero, Nat.mod_eq_of_lt (show c.toBitVec.toNat % 256 < 2 ^ 32 by omega), Nat.mod_eq_of_lt (show (c.toBitVec.toNat / 256) <<< 8 < 2 ^ 32 by rw [Nat.shiftLeft_eq]; omega), Nat.or_comm, ← Nat.shiftLeft_add_eq_or_of_lt (by omega), Nat.shiftLeft_eq]
    omega
  show BitVec.toNat (((((lo8 c &&& 255) <<< (0 : Int32)) ||| ((hi8 c &&& 255) <<< (8 : Int32))).toBitVec.setWidth 16).setWidth 32) = _
  rw [BitVec.toNat_setWidth, BitVec.toNat_setWidth, g]
  omega
end StrChars
namespace StrChars
open Jvm Sem ClassFile Op Lib Jvm.Stand Jvm.Free.XT Jvm.Free.ALB Jvm.Free.JM Jvm.Free
open Jvm.Lib.Cold (StaticIs)
theorem shr1 {n : Nat} (h : 2 * n < 2 ^ 31) : Int32.ofNat (2 * n) >>> ((1 : Int32) &&& 31) = Int32.ofNat n := by
  have e : ((1 : Int32) &&& 31) = 1 := by decide
  rw [e]
  apply Int32.toBitVec_inj.mp
  rw [Int32.toBitVec_shiftRight]
  have e1 : ((1 : Int32).toBitVec.smod 32) = 1#32 := by decide
  have hm : (BitVec.ofNat 32 (2 * n)).toNat = 2 * n := by rw [BitVec.toNat_ofNat, Nat.mod_eq_of_lt (by omega)]
  rw [e1, BitVec.sshiftRight_eq']
  apply BitVec.eq_of_toNat_eq
  show ((BitVec.ofNat 32 (2 * n)).sshiftRight 1).toNat = (BitVec.ofNat 32 n).toNat
  rw [BitVec.toNat_sshiftRight_of_msb_false (by rw [BitVec.msb_eq_false_iff_two_mul_lt, hm]; omega), hm, BitVec.toNat_ofNat, Nat.shiftRight_eq_div_pow]
  omega
/-- charAt's cast of a byte read back -/
def chr8 (u : Int32) : Int32 := (u &&& 255).toUInt32.toUInt16.toUInt32.toInt32
theorem chr8_lo8 {c : Int32} (h0 : ¬ c < 0) (h1 : ¬ 255 < c) : chr8 (lo8 c) = c := by
  have t : ∀ k : Fin 256, (Int32.ofNat k.val).toUInt32.toUInt16.toUInt32.toInt32 = Int32.ofNat k.val := by decide +kernel
  unfold chr8
  rw [lo8_mask h0 h1]
  rw [Int32.lt_iff_toInt_lt] at h0 h1
  have e0 : (0 : Int32).toInt = 0 := rfl
  have e1 : (255 : Int32).toInt = 255 := rfl
  obtain ⟨k, hk⟩ : ∃ k : Nat, c.toInt = k := ⟨c.toInt.toNat, by omega⟩
  have hx : c = Int32.ofNat k := Int32.toInt_inj.mp (by rw [hk, Int32.toInt_ofNat_small (by omega)])
  rw [hx]
  exact t ⟨k, by omega⟩
theorem narrow_ch {c : Int32} (h0 : ¬ c < 0) (h1 : ¬ 65535 < c) : narrow .char (.int c) = .int c := by
  have q : narrow .char (.int (pairCh (lo8 c) (hi8 c))) = .int (pairCh (lo8 c) (hi8 c)) := narrow_c _
  rwa [pair_says h0 h1] at q
/-- the array's cell V codes the n chars f 0 .. f (n - 1) by the coder cd, as the JDK does: coder 1 just where some char is above 255 -/
def Cod (cd : Int32) (n : Nat) (f : Nat → Int32) (V : Cell) : Prop := (cd = 0 ∧ V.slots.size = n ∧ ∀ j, j < n → V.slots[j]? = some (.int (lo8 (f j))) ∧ ¬ 255 < f j) ∨ (cd = 1 ∧ V.slots.size = 2 * n ∧ (∀ j, j < n → V.slots[2 * j]? = some (.int (lo8 (f j))) ∧ V.slots[2 * j + 1]? = some (.int (hi8 (f j)))) ∧ ∃ j, j < n ∧ 255 < f j)
theorem Cod.cd {cd : Int32} {n : Nat} {f : Nat → Int32} {V : Cell} (h : Cod cd n f V) : cd = 0 ∨ cd = 1 := h.imp (fun q => q.1) fun q => q.1
theorem Cod.len {cd : Int32} {n : Nat} {f : Nat → Int32} {V : Cell} (h : Cod cd n f V) (hs : V.slots.size < 2 ^ 31) : Int32.ofNat V.slots.size >>> (cd &&& 31) = Int32.ofNat n := by
  rcases h with ⟨rfl, h, -⟩ | ⟨rfl, h, -⟩
  · rw [shr0, h]
  · rw [h, shr1 (by omega)]
/-- **x is a String of the n chars f 0 .. f (n - 1)**, Latin-1 or UTF-16; its array at t has the cell V -/
def Txt (x t : Addr) (V : Cell) (cd : Int32) (n : Nat) (f : Nat → Int32) (U : State) : Prop := Exact "java/lang/String" x U ∧ Has x "java/lang/String" "value" "[B" (.ref t) U ∧ Has x "java/lang/String" "coder" "B" (.int cd) U ∧ XT.Arr .byte t V U ∧ Cod cd n f V ∧ ∀ j, j < n → ¬ f j < 0 ∧ ¬ 65535 < f j
theorem Txt.mv {x t : Addr} {V : Cell} {cd : Int32} {n : Nat} {f : Nat → Int32} {U U' : State} (h : Txt x t V cd n f U) (hal : U.vm.Alike U'.vm) (hh : U'.heap = U.heap) : Txt x t V cd n f U' := ⟨h.1.mv hal hh, h.2.1.mv hal hh, h.2.2.1.mv hal hh, h.2.2.2.1.mv hal hh, h.2.2.2.2⟩
namespace Cdr
def yN : MethodName := ⟨"java/lang/String", "coder", "()B"⟩
abbrev yB : ByteArray := jdk_42_method_152_code
theorem d0 : decode yB 0 = .ok (.getstatic 38, 3) := by decide +kernel
theorem d3 : decode yB 3 = .ok (.ifCond (.eq) 10, 3) := by decide +kernel
theorem d6 : decode yB 6 = .ok (.aload_n 0, 1) := by decide +kernel
theorem d7 : decode yB 7 = .ok (.getfield 15, 3) := by decide +kernel
theorem d10 : decode yB 10 = .ok (.goto 4, 3) := by decide +kernel
theorem d14 : decode yB 14 = .ok (.ireturn, 1) := by decide +kernel
def site : List Cond := [.fieldLink "java/lang/String" 38 "java/lang/String" "COMPACT_STRINGS" "Z", .fieldLink "java/lang/String" 15 "java/lang/String" "coder" "B"]
def tab : Cond := tabOf yN yB 1 (some .byte) site
def P (x : Addr) (cd z : Int32) (args : Array Value) (s : State) : Prop := args = #[.ref x] ∧ Has x "java/lang/String" "coder" "B" (.int cd) s ∧ (cd = 0 ∨ cd = 1) ∧ StaticIs s "java/lang/String" "COMPACT_STRINGS" "Z" (.int z) ∧ ¬ z = 0
def E (cd : Int32) (r : Option Value) (s u : State) : Prop := XT.PureE (some (.int cd)) r s u
theorem law (l : Launch) (x : Addr) (cd z : Int32) : Law l yN 1 0 0 0 yB 1 (some .byte) site (P x cd z) (E cd) [] 0 0 := by
  refine Law.of_walk (plainFor_of_name (by decide +kernel)) (by decide +kernel) (by decide +kernel) (by decide) (fun _ _ h => by rw [h.1]; rfl) (fun _ U U' hal hh h => ⟨h.1, h.2.1.mv hal hh, h.2.2.1, h.2.2.2.1.there hal hh, h.2.2.2.2⟩) (fun r U U' V V' h1 hal h2 h => XT.PureE.mv r U U' V V' h1 hal h2 h) ?_
  intro p e s m args below meth c s₁ X0 hexec hbytes hml hret hlk hnm hown hh0 W hP
  obtain ⟨rfl, hx, hc, s1, hz⟩ := hP
  have c1 : Steps p.tables e below (s₁.setTop (entryFrame m #[.ref x] 1)) (s₁.setTop (mkF m 0 #[.val (.ref x)] [])) := entry rfl
  obtain ⟨T2, X2, q2, st2⟩ := X0.sget hexec hown (wk W (.fieldLink "java/lang/String" 38 "java/lang/String" "COMPACT_STRINGS" "Z")) s1 (fun _ _ h => by rw [hh0]; exact h) (g := (mkF m 0 #[.val (.ref x)] [])) rfl (hb hbytes d0)
  have hh2 := q2.trans hh0
  have c3 : Steps p.tables e below (s₁.setTop (entryFrame m #[.ref x] 1)) (T2.setTop (mkF m 7 #[.val (.ref x)] [.ref x])) := (c1.trans (st2 _ (Steps.refl _))).trans (by
    refine XS.ifNo X2.here hexec rfl (hb hbytes d3) rfl (i0_eq_f hz) ?_
    refine XS.aloadN X2.here hexec rfl (hb hbytes d6) rfl rfl ?_
    exact Steps.refl _)
  obtain ⟨T4, X4, q4, st4⟩ := X2.hget hexec hown (wk W (.fieldLink "java/lang/String" 15 "java/lang/String" "coder" "B")) (hx.mv X2.warmed.alike hh2) (g := (mkF m 7 #[.val (.ref x)] [.ref x])) rfl (rest := []) rfl (hb hbytes d7)
  have c5 : Steps p.tables e below (s₁.setTop (entryFrame m #[.ref x] 1)) (T4.setTop (mkF m 14 #[.val (.ref x)] [.int cd])) := (c3.trans (st4 _ (Steps.refl _))).trans (by
    refine XS.goto X4.here hexec rfl (pc0 := 10) rfl (hb hbytes d10) (by decide) rfl ?_
    exact Steps.refl _)
  exact ⟨T4, some (.int cd), _, _, _, X4, rfl, rfl, rfl, (fun h => by cases h), ⟨rfl, q4.trans hh2⟩, fun fs hl => c5.trans (X4.ireturnOut hexec hret (by rcases hc with rfl | rfl <;> rfl) (Or.inr (Or.inr (Or.inl rfl))) (hb hbytes d14) hl)⟩
end Cdr
namespace Len
def yN : MethodName := ⟨"java/lang/String", "length", "()I"⟩
abbrev yB : ByteArray := jdk_42_method_54_code
theorem d0 : decode yB 0 = .ok (.aload_n 0, 1) := by decide +kernel
theorem d1 : decode yB 1 = .ok (.getfield 9, 3) := by decide +kernel
theorem d4 : decode yB 4 = .ok (.arraylength, 1) := by decide +kernel
theorem d5 : decode yB 5 = .ok (.aload_n 0, 1) := by decide +kernel
theorem d6 : decode yB 6 = .ok (.invokevirtual 335, 3) := by decide +kernel
theorem d9 : decode yB 9 = .ok (.ishr, 1) := by decide +kernel
theorem d10 : decode yB 10 = .ok (.ireturn, 1) := by decide +kernel
def site : List Cond := [.fieldLink "java/lang/String" 9 "java/lang/String" "value" "[B", Cdr.tab] ++ virtW "java/lang/String" 335 "java/lang/String" Cdr.yN Cdr.yN
def tab : Cond := tabOf yN yB 1 (some .int) site
def P (x t : Addr) (V : Cell) (cd : Int32) (n : Nat) (f : Nat → Int32) (z : Int32) (args : Array Value) (s : State) : Prop := args = #[.ref x] ∧ Txt x t V cd n f s ∧ StaticIs s "java/lang/String" "COMPACT_STRINGS" "Z" (.int z) ∧ ¬ z = 0
def E (n : Nat) (r : Option Value) (s u : State) : Prop := XT.PureE (some (.int (Int32.ofNat n))) r s u
/-- length() of a String of n chars, in either coding -/
theorem law (l : Launch) (x t : Addr) (V : Cell) (cd : Int32) (n : Nat) (f : Nat → Int32) (z : Int32) : Law l yN 1 0 1 13 yB 1 (some .int) site (P x t V cd n f z) (E n) [] 0 0 := by
  refine Law.of_walk (plainFor_of_name (by decide +kernel)) (by decide +kernel) (by decide +kernel) (by decide) (fun _ _ h => by rw [h.1]; rfl) (fun _ U U' hal hh h => ⟨h.1, h.2.1.mv hal hh, h.2.2.1.there hal hh, h.2.2.2⟩) (fun r U U' V V' h1 hal h2 h => XT.PureE.mv r U U' V V' h1 hal h2 h) ?_
  intro p e s m args below meth c s₁ X0 hexec hbytes hml hret hlk hnm hown hh0 W hP
  obtain ⟨rfl, hx, s1, hz⟩ := hP
  have v31 := hx.2.2.2.1.2.2.2
  have c1 : Steps p.tables e below (s₁.setTop (entryFrame m #[.ref x] 1)) (s₁.setTop (mkF m 1 #[.val (.ref x)] [.ref x])) := Steps.trans (entry rfl) (by
    show Steps p.tables e below (s₁.setTop (mkF m 0 #[.val (.ref x)] [])) _
    refine XS.aloadN X0.here hexec rfl (hb hbytes d0) rfl rfl ?_
    exact Steps.refl _)
  obtain ⟨T2, X2, q2, st2⟩ := X0.hget hexec hown (wk W (.fieldLink "java/lang/String" 9 "java/lang/String" "value" "[B")) (hx.mv X0.warmed.alike hh0).2.1 (g := (mkF m 1 #[.val (.ref x)] [.ref x])) rfl (rest := []) rfl (hb hbytes d1)
  have hh2 := q2.trans hh0
  have hx2 := hx.mv X2.warmed.alike hh2
  have c3 : Steps p.tables e below (s₁.setTop (entryFrame m #[.ref x] 1)) (T2.setTop (mkF m 6 #[.val (.ref x)] [.ref x, .int (Int32.ofNat V.slots.size)])) := (c1.trans (st2 _ (Steps.refl _))).trans (by
    refine X2.alen hexec hx2.2.2.2.1 rfl rfl (hb hbytes d4) ?_
    refine XS.aloadN X2.here hexec rfl (hb hbytes d5) rfl rfl ?_
    exact Steps.refl _)
  obtain ⟨v4, T4, X4, E4, g4⟩ := X2.callV hexec (Cdr.law l x cd z) hown (wks W (virtW "java/lang/String" 335 "java/lang/String" Cdr.yN Cdr.yN)) rfl (by decide) (wk W Cdr.tab) (W := 1) (Nat.le_of_ble_eq_true rfl) (Nat.le_of_ble_eq_true rfl) (Nat.le_refl _) (Nat.le_refl _) (hx2.1.fc X2.warmed.alike) hx2.1.is (g := (mkF m 6 #[.val (.ref x)] [.ref x, .int (Int32.ofNat V.slots.size)])) rfl (by rw [hml]; rfl) c3 (argsL := []) (rest := [.int (Int32.ofNat V.slots.size)]) rfl rfl (by show 2 * 0 + (1 + 0) ≤ _; decide) (hb hbytes d6) (⟨rfl, hx2.2.2.1, hx.2.2.2.2.1.cd, s1.there X2.warmed.alike hh2, hz⟩)
  obtain ⟨rfl, q4⟩ := E4
  have c5 : Steps p.tables e below (s₁.setTop (entryFrame m #[.ref x] 1)) (T4.setTop (mkF m 10 #[.val (.ref x)] [.int (Int32.ofNat V.slots.size >>> (cd &&& 31))])) := Steps.trans g4 (by
    refine ishr X4.here hexec rfl (hb hbytes d9) rfl ?_
    exact Steps.refl _)
  rw [hx.2.2.2.2.1.len v31] at c5
  exact ⟨T4, some (.int (Int32.ofNat n)), _, _, _, X4, rfl, rfl, rfl, (fun h => by cases h), ⟨rfl, q4.trans hh2⟩, fun fs hl => c5.trans (X4.ireturnOut hexec hret rfl (Or.inl rfl) (hb hbytes d10) hl)⟩
theorem pays {l : Launch} {R : Room} {p : Program} {e : Env} {below : List Frame} {s : State} {sargs : Array Value} {len W : Nat} (x t : Addr) (V : Cell) (cd : Int32) (n : Nat) (f : Nat → Int32) (z : Int32) (htab : tab.before sargs s = true) (hfr : 2 ≤ R.frames) (hlo : W + 25 ≤ R.locals) :
    Back l R p e below s sargs yN len W (fun A₁ a₁ => A₁.cells + 0 ≤ R.cells ∧ A₁.slots + 0 ≤ R.slots ∧ P x t V cd n f z a₁ A₁.U) (fun A₁ _ v₁ B₁ => E n v₁ A₁.U B₁.U ∧ B₁.locs = A₁.locs ++ [] ∧ B₁.cells = A₁.cells + 0 ∧ B₁.slots = A₁.slots + 0) :=
  (law l x t V cd n f z).pays htab hfr (by omega)
end Len
namespace IsL
def yN : MethodName := ⟨"java/lang/String", "isLatin1", "()Z"⟩
abbrev yB : ByteArray := jdk_42_method_154_code
theorem d0 : decode yB 0 = .ok (.getstatic 38, 3) := by decide +kernel
theorem d3 : decode yB 3 = .ok (.ifCond (.eq) 14, 3) := by decide +kernel
theorem d6 : decode yB 6 = .ok (.aload_n 0, 1) := by decide +kernel
theorem d7 : decode yB 7 = .ok (.getfield 15, 3) := by decide +kernel
theorem d10 : decode yB 10 = .ok (.ifCond (.ne) 7, 3) := by decide +kernel
theorem d13 : decode yB 13 = .ok (.iconst 1, 1) := by decide +kernel
theorem d14 : decode yB 14 = .ok (.goto 4, 3) := by decide +kernel
theorem d17 : decode yB 17 = .ok (.iconst 0, 1) := by decide +kernel
theorem d18 : decode yB 18 = .ok (.ireturn, 1) := by decide +kernel
def site : List Cond := [.fieldLink "java/lang/String" 38 "java/lang/String" "COMPACT_STRINGS" "Z", .fieldLink "java/lang/String" 15 "java/lang/String" "coder" "B"]
def tab : Cond := tabOf yN yB 1 (some .boolean) site
def P (x : Addr) (cd z : Int32) (args : Array Value) (s : State) : Prop := args = #[.ref x] ∧ Has x "java/lang/String" "coder" "B" (.int cd) s ∧ (cd = 0 ∨ cd = 1) ∧ StaticIs s "java/lang/String" "COMPACT_STRINGS" "Z" (.int z) ∧ ¬ z = 0
def E (cd : Int32) (r : Option Value) (s u : State) : Prop := XT.PureE (some (.int (1 - cd))) r s u
theorem law (l : Launch) (x : Addr) (cd z : Int32) : Law l yN 1 0 0 0 yB 1 (some .boolean) site (P x cd z) (E cd) [] 0 0 := by
  refine Law.of_walk (plainFor_of_name (by decide +kernel)) (by decide +kernel) (by decide +kernel) (by decide) (fun _ _ h => by rw [h.1]; rfl) (fun _ U U' hal hh h => ⟨h.1, h.2.1.mv hal hh, h.2.2.1, h.2.2.2.1.there hal hh, h.2.2.2.2⟩) (fun r U U' V V' h1 hal h2 h => XT.PureE.mv r U U' V V' h1 hal h2 h) ?_
  intro p e s m args below meth c s₁ X0 hexec hbytes hml hret hlk hnm hown hh0 W hP
  obtain ⟨rfl, hx, hc, s1, hz⟩ := hP
  have c1 : Steps p.tables e below (s₁.setTop (entryFrame m #[.ref x] 1)) (s₁.setTop (mkF m 0 #[.val (.ref x)] [])) := entry rfl
  obtain ⟨T2, X2, q2, st2⟩ := X0.sget hexec hown (wk W (.fieldLink "java/lang/String" 38 "java/lang/String" "COMPACT_STRINGS" "Z")) s1 (fun _ _ h => by rw [hh0]; exact h) (g := (mkF m 0 #[.val (.ref x)] [])) rfl (hb hbytes d0)
  have hh2 := q2.trans hh0
  have c3 : Steps p.tables e below (s₁.setTop (entryFrame m #[.ref x] 1)) (T2.setTop (mkF m 7 #[.val (.ref x)] [.ref x])) := (c1.trans (st2 _ (Steps.refl _))).trans (by
    refine XS.ifNo X2.here hexec rfl (hb hbytes d3) rfl (i0_eq_f hz) ?_
    refine XS.aloadN X2.here hexec rfl (hb hbytes d6) rfl rfl ?_
    exact Steps.refl _)
  obtain ⟨T4, X4, q4, st4⟩ := X2.hget hexec hown (wk W (.fieldLink "java/lang/String" 15 "java/lang/String" "coder" "B")) (hx.mv X2.warmed.alike hh2) (g := (mkF m 7 #[.val (.ref x)] [.ref x])) rfl (rest := []) rfl (hb hbytes d7)
  have c5 : Steps p.tables e below (s₁.setTop (entryFrame m #[.ref x] 1)) (T4.setTop (mkF m 10 #[.val (.ref x)] [.int cd])) := c3.trans (st4 _ (Steps.refl _))
  have c6 : Steps p.tables e below (s₁.setTop (entryFrame m #[.ref x] 1)) (T4.setTop (mkF m 18 #[.val (.ref x)] [.int (1 - cd)])) := by
    rcases hc with rfl | rfl
    · exact c5.trans (by
        refine XS.ifNo X4.here hexec rfl (hb hbytes d10) rfl (i0_ne_f rfl) ?_
        refine iconstV X4.here hexec rfl 1 (hb hbytes d13) (by decide) ?_
        refine XS.goto X4.here hexec rfl (pc0 := 14) rfl (hb hbytes d14) (by decide) rfl ?_
        exact Steps.refl _)
    · exact c5.trans (by
        refine XS.ifYes X4.here hexec rfl (pc0 := 10) rfl (hb hbytes d10) rfl (i0_ne_t (by decide)) (by decide) rfl ?_
        refine iconstV X4.here hexec rfl 0 (hb hbytes d17) (by decide) ?_
        exact Steps.refl _)
  exact ⟨T4, some (.int (1 - cd)), _, _, _, X4, rfl, rfl, rfl, (fun h => by cases h), ⟨rfl, q4.trans hh2⟩, fun fs hl => c6.trans (X4.ireturnOut hexec hret (by rcases hc with rfl | rfl <;> rfl) (Or.inr (Or.inl rfl)) (hb hbytes d18) hl)⟩
end IsL
namespace LChA
def yN : MethodName := ⟨"java/lang/StringLatin1", "charAt", "([BI)C"⟩
abbrev yB : ByteArray := jdk_43_method_2_code
theorem d0 : decode yB 0 = .ok (.iload_n 1, 1) := by decide +kernel
theorem d1 : decode yB 1 = .ok (.aload_n 0, 1) := by decide +kernel
theorem d2 : decode yB 2 = .ok (.arraylength, 1) := by decide +kernel
theorem d3 : decode yB 3 = .ok (.invokestatic 9, 3) := by decide +kernel
theorem d6 : decode yB 6 = .ok (.aload_n 0, 1) := by decide +kernel
theorem d7 : decode yB 7 = .ok (.iload_n 1, 1) := by decide +kernel
theorem d8 : decode yB 8 = .ok (.baload, 1) := by decide +kernel
theorem d9 : decode yB 9 = .ok (.sipush 255, 3) := by decide +kernel
theorem d12 : decode yB 12 = .ok (.iand, 1) := by decide +kernel
theorem d13 : decode yB 13 = .ok (.i2c, 1) := by decide +kernel
theorem d14 : decode yB 14 = .ok (.ireturn, 1) := by decide +kernel
def site : List Cond := [JO.Str_checkIndex.tab] ++ staticW "java/lang/StringLatin1" 9 JO.Str_checkIndex.yN
def tab : Cond := tabOf yN yB 2 (some .char) site
def P (t : Addr) (V : Cell) (i : Nat) (u : Int32) (fm : Value) (args : Array Value) (s : State) : Prop := args = #[.ref t, .int (Int32.ofNat i)] ∧ XT.Arr .byte t V s ∧ V.slots[i]? = some (.int u) ∧ (StaticIs s "jdk/internal/util/Preconditions" "SIOOBE_FORMATTER" "Ljava/util/function/BiFunction;" fm ∧ fm.isRef = true)
def E (u : Int32) (r : Option Value) (s w : State) : Prop := XT.PureE (some (.int (chr8 u))) r s w
theorem law (l : Launch) (t : Addr) (V : Cell) (i : Nat) (u : Int32) (fm : Value) : Law l yN 2 2 2 27 yB 2 (some .char) site (P t V i u fm) (E u) [] 0 0 := by
  refine Law.of_walk (plainFor_of_name (by decide +kernel)) (by decide +kernel) (by decide +kernel) (by decide) (fun _ _ h => by rw [h.1]; rfl) (fun _ U U' hal hh h => ⟨h.1, h.2.1.mv hal hh, h.2.2.1, h.2.2.2.1.there hal hh, h.2.2.2.2⟩) (fun r U U' V V' h1 hal h2 h => XT.PureE.mv r U U' V V' h1 hal h2 h) ?_
  intro p e s m args below meth c s₁ X0 hexec hbytes hml hret hlk hnm hown hh0 W hP
  obtain ⟨rfl, hV, hu, s1, rf⟩ := hP
  have v31 := hV.2.2.2
  have hi : i < V.slots.size := (Array.getElem?_eq_some_iff.mp hu).1
  have c1 : Steps p.tables e below (s₁.setTop (entryFrame m #[.ref t, .int (Int32.ofNat i)] 2)) (s₁.setTop (mkF m 0 #[.val (.ref t), .val (.int (Int32.ofNat i))] [])) := entry rfl
  have c2 : Steps p.tables e below (s₁.setTop (entryFrame m #[.ref t, .int (Int32.ofNat i)] 2)) (s₁.setTop (mkF m 3 #[.val (.ref t), .val (.int (Int32.ofNat i))] [.int (Int32.ofNat V.slots.size), .int (Int32.ofNat i)])) := c1.trans (by
    refine XS.iloadN X0.here hexec rfl (hb hbytes d0) rfl ?_
    refine XS.aloadN X0.here hexec rfl (hb hbytes d1) rfl rfl ?_
    refine X0.alen hexec (hV.mv X0.warmed.alike hh0) rfl rfl (hb hbytes d2) ?_
    exact Steps.refl _)
  obtain ⟨v3, T3, X3, E3, g3⟩ := X0.callS hexec (JO.Str_checkIndex.law l (Int32.ofNat i) (Int32.ofNat V.slots.size) fm) hown (wks W (staticW "java/lang/StringLatin1" 9 JO.Str_checkIndex.yN)) (wk W JO.Str_checkIndex.tab) (W := 0) (Nat.le_of_ble_eq_true rfl) (Nat.le_of_ble_eq_true rfl) (Nat.le_refl _) (Nat.le_refl _) (g := (mkF m 3 #[.val (.ref t), .val (.int (Int32.ofNat i))] [.int (Int32.ofNat V.slots.size), .int (Int32.ofNat i)])) rfl (by rw [hml]; rfl) c2 (argsL := [.int (Int32.ofNat i), .int (Int32.ofNat V.slots.size)]) (rest := []) rfl rfl (by show 2 * 0 + 0 ≤ _; decide) (hb hbytes d3) (⟨rfl, rf, s1.there X0.warmed.alike hh0, Int32.ofNat_not_neg (by omega), lt32 v31 hi⟩)
  obtain ⟨rfl, q3⟩ := E3
  have hh3 := q3.trans hh0
  have c4 : Steps p.tables e below (s₁.setTop (entryFrame m #[.ref t, .int (Int32.ofNat i)] 2)) (T3.setTop (mkF m 14 #[.val (.ref t), .val (.int (Int32.ofNat i))] [.int (chr8 u)])) := Steps.trans g3 (by
    refine XS.aloadN X3.here hexec rfl (hb hbytes d6) rfl rfl ?_
    refine XS.iloadN X3.here hexec rfl (hb hbytes d7) rfl ?_
    refine X3.aget hexec (hV.mv X3.warmed.alike hh3) rfl hu rfl rfl (hb hbytes d8) ?_
    refine sipushV X3.here hexec rfl 255 (hb hbytes d9) (by decide) ?_
    refine XS.iand X3.here hexec rfl (hb hbytes d12) rfl ?_
    refine i2c X3.here hexec rfl (hb hbytes d13) rfl ?_
    exact Steps.refl _)
  exact ⟨T3, some (.int (chr8 u)), _, _, _, X3, rfl, rfl, rfl, (fun h => by cases h), ⟨rfl, hh3⟩, fun fs hl => c4.trans (X3.ireturnOut hexec hret (narrow_c _) (Or.inr (Or.inr (Or.inr (Or.inl rfl)))) (hb hbytes d14) hl)⟩
end LChA
end StrChars
namespace StrChars.Road
open Jvm Sem ClassFile Op Lib Jvm.Stand Jvm.Free Jvm.Free.XT
open Jvm.Lib.Cold (StaticIs)
theorem consq {a : Array Value} {s : State} {c : Jvm.Cond} {L : List Jvm.Cond} (h0 : c.before a s = true) (h : ∀ w ∈ L, w.before a s = true) : ∀ w ∈ c :: L, w.before a s = true := fun w hw => (List.mem_cons.mp hw).elim (fun e => e ▸ h0) (h w)
/-- the words of String.length(), either coding -/
abbrev wordsLen : List Jvm.Cond := [.code Len.yN Len.yB 1 (some .int), .initialized ST, .fieldLink ST 9 ST "value" "[B", .fieldLink ST 38 ST "COMPACT_STRINGS" "Z", .fieldLink ST 15 ST "coder" "B", .code Cdr.yN Cdr.yB 1 (some .byte), .methodLink ST 335 Cdr.yN, .declares Cdr.yN, .selects ST Cdr.yN Cdr.yN, .instanceMethod Cdr.yN]
theorem tabLen_of {a : Array Value} {s : State} (h : ∀ w ∈ wordsLen, w.before a s = true) : Len.tab.before a s = true := by
  have hc : Cdr.tab.before a s = true := unparts (wk h (.code Cdr.yN Cdr.yB 1 (some .byte))) (wks h (.initialized Cdr.yN.cls :: Cdr.site))
  have q := consq hc h
  exact unparts (wk q (.code Len.yN Len.yB 1 (some .int))) (wks q (.initialized Len.yN.cls :: Len.site))
theorem movedLen {Z s : State} {a0 args : Array Value} (hZ : Z.Warmed39 s.vm) (hw : ∀ d ∈ wordsLen, d.before a0 Z = true) : ∀ d ∈ wordsLen, d.before args s = true := fun d hd => by
  have q := hw d hd
  have t : ∀ d ∈ wordsLen, d = .arrayClass .byte ∨ (d.onTables && d.keepsFace) = true := by decide +kernel
  rcases t d hd with rfl | t
  · exact RoadKit.mvA hZ q
  · exact RoadKit.mv hZ q t
/-- the bytes of the chars cs, low before high -/
def wideBytes : List Int32 → List Value
  | [] => []
  | c :: cs => .int (lo8 c) :: .int (hi8 c) :: wideBytes cs
theorem wide_lo (d : Value) : ∀ (cs : List Int32) (j : Nat), j < cs.length → (wideBytes cs).getD (2 * j) d = .int (lo8 (cs.getD j 0))
  | [], j, h => absurd h (Nat.not_lt_zero j)
  | c :: cs, 0, _ => rfl
  | c :: cs, j + 1, h => by
    have q := wide_lo d cs j (by simpa using h)
    rw [show 2 * (j + 1) = 2 * j + 1 + 1 from by omega]
    simpa [wideBytes] using q
theorem wide_hi (d : Value) : ∀ (cs : List Int32) (j : Nat), j < cs.length → (wideBytes cs).getD (2 * j + 1) d = .int (hi8 (cs.getD j 0))
  | [], j, h => absurd h (Nat.not_lt_zero j)
  | c :: cs, 0, _ => rfl
  | c :: cs, j + 1, h => by
    have q := wide_hi d cs j (by simpa using h)
    rw [show 2 * (j + 1) + 1 = 2 * j + 1 + 1 + 1 from by omega]
    simpa [wideBytes] using q
theorem low_at (d : Value) (cs : List Int32) (j : Nat) (h : j < cs.length) : (cs.map fun c => Value.int (lo8 c)).getD j d = .int (lo8 (cs.getD j 0)) := by
  simp [List.getD_eq_getElem?_getD, h]
/-- an array of N2 bytes vs codes the chars cs by the coder cd -/
def CodA (cs : List Int32) (cd N2 : Int32) (vs : List Value) : Prop := (cd = 0 ∧ N2 = Int32.ofNat cs.length ∧ vs = (cs.map fun c => Value.int (lo8 c)) ∧ ∀ c ∈ cs, ¬ 255 < c) ∨ (cd = 1 ∧ N2 = Int32.ofNat (2 * cs.length) ∧ vs = wideBytes cs ∧ ∃ c ∈ cs, 255 < c)
theorem CodA.cod {cs : List Int32} {cd N2 : Int32} {vs : List Value} {V : Cell} (h : CodA cs cd N2 vs) (hn : 2 * cs.length < 2 ^ 31) (hs : V.slots.size = N2.toNatClampNeg) (hv : RoadKit.Has V vs (.int 0)) : Cod cd cs.length (fun j => cs.getD j 0) V := by
  rcases h with ⟨rfl, rfl, rfl, h⟩ | ⟨rfl, rfl, rfl, c, hc, hw⟩
  · rw [n32 (by omega)] at hs
    exact Or.inl ⟨rfl, hs, fun j hj => ⟨by rw [hv j (by omega), low_at _ _ _ hj], by
      have e : cs.getD j 0 = cs[j] := by simp [List.getD_eq_getElem?_getD, hj]
      show ¬ 255 < cs.getD j 0
      rw [e]; exact h _ (List.getElem_mem _)⟩⟩
  · rw [n32 (by omega)] at hs
    obtain ⟨j, hj, rfl⟩ := List.getElem_of_mem hc
    exact Or.inr ⟨rfl, hs, fun j hj => ⟨by rw [hv _ (by omega), wide_lo _ _ _ hj], by rw [hv _ (by omega), wide_hi _ _ _ hj]⟩, j, hj, by
      have e : cs.getD j 0 = cs[j] := by simp [List.getD_eq_getElem?_getD, hj]
      show 255 < cs.getD j 0
      rw [e]; exact hw⟩
/-- an object of exactly java/lang/String, its two fields found: as the laws ask it -/
theorem strObj {Z U : State} {a0 : Array Value} {kI : Nat} (wi : (Jvm.Cond.instantiable ST kI).before a0 Z = true) (al : Z.vm.Alike U.vm) {x : Addr} {v0 c0 : Value} (E : RoadKit.Exa Z U.heap x ST) (V : RoadKit.Fld Z U.heap x ST "value" "[B" v0) (C : RoadKit.Fld Z U.heap x ST "coder" "B" c0) :
    ∃ (D : Cell) (fV fC : Field), Blank ST x D U ∧ Found ST "value" "[B" fV U ∧ Found ST "coder" "B" fC U ∧ D.slots[fV.slot]? = some v0 ∧ D.slots[fC.slot]? = some c0 ∧ RoadKit.slotOf Z ST "value" "[B" = fV.slot ∧ RoadKit.slotOf Z ST "coder" "B" = fC.slot := by
  obtain ⟨D, cfV, kV, iV, fV, hD, gV, stV, knV, obV, asV, slV⟩ := V
  obtain ⟨D', cfC, kC, iC, fC, hD', gC, stC, -, -, asC, slC⟩ := C
  cases hD.symm.trans hD'
  obtain ⟨D2, kD, e1, e2, e3, e4, e5⟩ := E
  cases hD.symm.trans e1
  obtain ⟨c2, k2, i1, i2, i3, -⟩ := Cond.instantiable_spec wi
  cases e2.symm.trans i1
  cases e3.symm.trans i2
  obtain ⟨kU, u1, u2⟩ := al.2.2 _ _ e3
  exact ⟨D, fV, fC, ⟨hD, ⟨knV, fun q hq => by rw [hq] at obV; cases obV⟩, by rw [al.findClass]; exact e2, kU, u1, by rw [u2]; exact i3, by rw [u2]; exact e5 i3⟩, ⟨SBG.found_only al ⟨cfV, kV, iV, gV⟩, stV⟩, ⟨SBG.found_only al ⟨cfC, kC, iC, gC⟩, stC⟩, slV, slC, by simp [RoadKit.slotOf, gV], by simp [RoadKit.slotOf, gC]⟩
theorem sta_is {Z U : State} (al : Z.vm.Alike U.vm) {C n d : String} {v : Value} (S : RoadKit.Sta Z U.heap C n d v) : StaticIs U C n d v := by
  obtain ⟨cfS, iS, kS, fS, st, cS, t1, t2, t3, t4, t5, t6, t7⟩ := S
  exact StaticIs.there (s := { Z with heap := U.heap }) ⟨cfS, iS, kS, fS, st, cS, t1, t2, t3, t4, t5, (fun q => by rw [q] at t6; cases t6), t7⟩ al rfl
/-- **length() OF SUCH A STRING** -/
theorem lenW {p : Program} {l : Launch} {e : Env} {R : Room} {s : State} {args : Array Value} {below : List Frame} {len W : Nat} {Z : State} {a0 : Array Value} {h : Heap} (hZ : Z.Warmed39 s.vm) (hw : ∀ d ∈ wordsLen, d.before a0 Z = true) {kI : Nat} (wi : (Jvm.Cond.instantiable ST kI).before a0 Z = true)
    {x t : Addr} {kb : ClassId} {cs : List Int32} {cd N2 z : Int32} {vs : List Value} (E : RoadKit.Exa Z h x ST) (V : RoadKit.Fld Z h x ST "value" "[B" (.ref t)) (C : RoadKit.Fld Z h x ST "coder" "B" (.int cd)) (K : RoadKit.Arv Z h t kb .byte N2 vs (.int 0)) (hc : CodA cs cd N2 vs) (hb : ∀ c ∈ cs, ¬ c < 0 ∧ ¬ (65535 : Int32) < c)
    (S : RoadKit.Sta Z h ST "COMPACT_STRINGS" "Z" (.int z)) (hz : ¬ z = 0) (l2 : cs.length ≤ 4000) (hfr : 2 ≤ R.frames) (hlo : W + 25 ≤ R.locals) :
    Back l R p e below s args (⟨"java/lang/String", "length", "()I"⟩ : MethodName) len W (fun P a => a = #[.ref x] ∧ P.U.heap = h ∧ P.cells + 0 ≤ R.cells ∧ P.slots + 0 ≤ R.slots)
      (fun P _ v B => ∃ L, (v = some (.int (Int32.ofNat cs.length)) ∧ L = [] ∧ B.U.heap = h) ∧ B.locs = P.locs ++ L ∧ B.cells = P.cells + 0 ∧ B.slots = P.slots + 0) := by
  obtain ⟨A, K1, K2, K3, K4, K5, K6⟩ := K
  have hcod := hc.cod (by omega) K3 K5
  intro m meth c P g ig mk a X hg hsize hdg hW hn hp'
  obtain ⟨rfl, rfl, r1, r2⟩ := hp'
  have al : Z.vm.Alike P.U.vm := hZ.alike.trans X.warmed.alike
  obtain ⟨D, fV, fC, hB, F1, F2, g1, g2, -, -⟩ := strObj wi al E V C
  have hx : Txt x t A cd cs.length (fun j => cs.getD j 0) P.U := ⟨⟨_, hB.2.2.1, D, hB.1, rfl, by cases q : D.vm <;> first | rfl | exact absurd q (hB.2.1.2 _)⟩, Has.of hB F1 g1, Has.of hB F2 g2, ⟨K1.1, State.isArrayOf_alike al K1.2.1, K1.2.2, by rcases hcod with ⟨-, q, -⟩ | ⟨-, q, -⟩ <;> omega⟩, hcod, fun j hj => by
    have e : cs.getD j 0 = cs[j] := by simp [List.getD_eq_getElem?_getD, hj]
    show ¬ cs.getD j 0 < 0 ∧ ¬ 65535 < cs.getD j 0
    rw [e]; exact hb _ (List.getElem_mem _)⟩
  obtain ⟨v, B, X', ⟨⟨hv, hh⟩, hl, hk, hs⟩, st⟩ := Len.pays x t A cd cs.length (fun j => cs.getD j 0) z (tabLen_of (movedLen hZ hw)) hfr hlo m meth c P g ig mk _ X hg hsize hdg hW hn ⟨r1, r2, rfl, hx, sta_is al S, hz⟩
  exact ⟨v, B, X', ⟨[], ⟨hv, rfl, hh⟩, hl, hk, hs⟩, st⟩
end StrChars.Road
namespace StrChars
open Jvm Sem ClassFile Op Lib Jvm.Stand Jvm.Free.XT Jvm.Free.ALB Jvm.Free.JM Jvm.Free
open Jvm.Lib.Cold (StaticIs)
namespace Emp
def yN : MethodName := ⟨"java/lang/String", "isEmpty", "()Z"⟩
abbrev yB : ByteArray := jdk_42_method_55_code
theorem d0 : decode yB 0 = .ok (.aload_n 0, 1) := by decide +kernel
theorem d1 : decode yB 1 = .ok (.getfield 9, 3) := by decide +kernel
theorem d4 : decode yB 4 = .ok (.arraylength, 1) := by decide +kernel
theorem d5 : decode yB 5 = .ok (.ifCond (.ne) 7, 3) := by decide +kernel
theorem d8 : decode yB 8 = .ok (.iconst 1, 1) := by decide +kernel
theorem d9 : decode yB 9 = .ok (.goto 4, 3) := by decide +kernel
theorem d12 : decode yB 12 = .ok (.iconst 0, 1) := by decide +kernel
theorem d13 : decode yB 13 = .ok (.ireturn, 1) := by decide +kernel
def site : List Cond := [.fieldLink "java/lang/String" 9 "java/lang/String" "value" "[B"]
def tab : Cond := tabOf yN yB 1 (some .boolean) site
def P (x t : Addr) (V : Cell) (cd : Int32) (n : Nat) (f : Nat → Int32) (args : Array Value) (s : State) : Prop := args = #[.ref x] ∧ Txt x t V cd n f s
def E (n : Nat) (r : Option Value) (s u : State) : Prop := XT.PureE (some (.int (if n = 0 then 1 else 0))) r s u
/-- isEmpty() of a String of n chars -/
theorem law (l : Launch) (x t : Addr) (V : Cell) (cd : Int32) (n : Nat) (f : Nat → Int32) : Law l yN 1 0 0 0 yB 1 (some .boolean) site (P x t V cd n f) (E n) [] 0 0 := by
  refine Law.of_walk (plainFor_of_name (by decide +kernel)) (by decide +kernel) (by decide +kernel) (by decide) (fun _ _ h => by rw [h.1]; rfl) (fun _ U U' hal hh h => ⟨h.1, h.2.mv hal hh⟩) (fun r U U' V V' h1 hal h2 h => XT.PureE.mv r U U' V V' h1 hal h2 h) ?_
  intro p e s m args below meth c s₁ X0 hexec hbytes hml hret hlk hnm hown hh0 W hP
  obtain ⟨rfl, hx⟩ := hP
  have v31 := hx.2.2.2.1.2.2.2
  have c1 : Steps p.tables e below (s₁.setTop (entryFrame m #[.ref x] 1)) (s₁.setTop (mkF m 1 #[.val (.ref x)] [.ref x])) := Steps.trans (entry rfl) (by
    show Steps p.tables e below (s₁.setTop (mkF m 0 #[.val (.ref x)] [])) _
    refine XS.aloadN X0.here hexec rfl (hb hbytes d0) rfl rfl ?_
    exact Steps.refl _)
  obtain ⟨T2, X2, q2, st2⟩ := X0.hget hexec hown (wk W (.fieldLink "java/lang/String" 9 "java/lang/String" "value" "[B")) (hx.mv X0.warmed.alike hh0).2.1 (g := (mkF m 1 #[.val (.ref x)] [.ref x])) rfl (rest := []) rfl (hb hbytes d1)
  have hh2 := q2.trans hh0
  have hx2 := hx.mv X2.warmed.alike hh2
  have c3 : Steps p.tables e below (s₁.setTop (entryFrame m #[.ref x] 1)) (T2.setTop (mkF m 5 #[.val (.ref x)] [.int (Int32.ofNat V.slots.size)])) := (c1.trans (st2 _ (Steps.refl _))).trans (by
    refine X2.alen hexec hx2.2.2.2.1 rfl rfl (hb hbytes d4) ?_
    exact Steps.refl _)
  have hz : V.slots.size = 0 ↔ n = 0 := by
    rcases hx.2.2.2.2.1 with ⟨-, q, -⟩ | ⟨-, q, -⟩ <;> omega
  by_cases h0 : n = 0
  · have c4 : Steps p.tables e below (s₁.setTop (entryFrame m #[.ref x] 1)) (T2.setTop (mkF m 13 #[.val (.ref x)] [.int 1])) := c3.trans (by
      refine XS.ifNo X2.here hexec rfl (hb hbytes d5) rfl (i0_ne_f (by rw [hz.mpr h0]; rfl)) ?_
      refine iconstV X2.here hexec rfl 1 (hb hbytes d8) (by decide) ?_
      refine XS.goto X2.here hexec rfl (pc0 := 9) rfl (hb hbytes d9) (by decide) rfl ?_
      exact Steps.refl _)
    exact ⟨T2, some (.int 1), _, _, _, X2, rfl, rfl, rfl, (fun h => by cases h), ⟨by rw [if_pos h0], hh2⟩, fun fs hl => c4.trans (X2.ireturnOut hexec hret rfl (Or.inr (Or.inl rfl)) (hb hbytes d13) hl)⟩
  · have c4 : Steps p.tables e below (s₁.setTop (entryFrame m #[.ref x] 1)) (T2.setTop (mkF m 13 #[.val (.ref x)] [.int 0])) := c3.trans (by
      refine XS.ifYes X2.here hexec rfl (pc0 := 5) rfl (hb hbytes d5) rfl (i0_ne_t (nz32 v31 (by omega))) (by decide) rfl ?_
      refine iconstV X2.here hexec rfl 0 (hb hbytes d12) (by decide) ?_
      exact Steps.refl _)
    exact ⟨T2, some (.int 0), _, _, _, X2, rfl, rfl, rfl, (fun h => by cases h), ⟨by rw [if_neg h0], hh2⟩, fun fs hl => c4.trans (X2.ireturnOut hexec hret rfl (Or.inr (Or.inl rfl)) (hb hbytes d13) hl)⟩
theorem pays {l : Launch} {R : Room} {p : Program} {e : Env} {below : List Frame} {s : State} {sargs : Array Value} {len W : Nat} (x t : Addr) (V : Cell) (cd : Int32) (n : Nat) (f : Nat → Int32) (htab : tab.before sargs s = true) (hfr : 1 ≤ R.frames) (hlo : W + 12 ≤ R.locals) :
    Back l R p e below s sargs yN len W (fun A₁ a₁ => A₁.cells + 0 ≤ R.cells ∧ A₁.slots + 0 ≤ R.slots ∧ P x t V cd n f a₁ A₁.U) (fun A₁ _ v₁ B₁ => E n v₁ A₁.U B₁.U ∧ B₁.locs = A₁.locs ++ [] ∧ B₁.cells = A₁.cells + 0 ∧ B₁.slots = A₁.slots + 0) :=
  (law l x t V cd n f).pays htab hfr (by omega)
end Emp
/-- what place i of a byte[]'s cell holds -/
def yv (A : Cell) (i : Nat) : Int32 := match A.slots[i]? with | some (.int x) => x | _ => 0
theorem yv_get {a : Addr} {A : Cell} {U : State} (h : XT.Arr .byte a A U) (ht : Typed .byte A) {i : Nat} (hi : i < A.slots.size) : A.slots[i]? = some (.int (yv A i)) := by
  have e := Array.getElem?_eq_getElem hi
  have f := ht i _ e
  unfold yv; rw [e]
  generalize A.slots[i] = v at f
  cases v <;> simp [fits] at f ⊢
/-- the two arrays are equal, place for place -/
def EqC (A B : Cell) : Prop := A.slots.size = B.slots.size ∧ ∀ i, i < A.slots.size → yv A i = yv B i
/-- a boolean that says whether p -/
def Says01 (q : Prop) (r : Option Value) (s u : State) : Prop := ∃ v : Int32, r = some (.int v) ∧ u.heap = s.heap ∧ ((v = 1 ∧ q) ∨ (v = 0 ∧ ¬ q))
theorem Says01.mv {q : Prop} : ∀ r (U U' V V' : State), U'.heap = U.heap → V.vm.Alike V'.vm → V'.heap = V.heap → Says01 q r U V → Says01 q r U' V' :=
  fun r U U' V V' h1 _ h2 ⟨v, a, b, c⟩ => ⟨v, a, by rw [h1, h2]; exact b, c⟩
namespace LEq
def yN : MethodName := ⟨"java/lang/StringLatin1", "equals", "([B[B)Z"⟩
abbrev yB : ByteArray := jdk_43_method_13_code
theorem d0 : decode yB 0 = .ok (.aload_n 0, 1) := by decide +kernel
theorem d1 : decode yB 1 = .ok (.arraylength, 1) := by decide +kernel
theorem d2 : decode yB 2 = .ok (.aload_n 1, 1) := by decide +kernel
theorem d3 : decode yB 3 = .ok (.arraylength, 1) := by decide +kernel
theorem d4 : decode yB 4 = .ok (.if_icmp (.ne) 30, 3) := by decide +kernel
theorem d7 : decode yB 7 = .ok (.iconst 0, 1) := by decide +kernel
theorem d8 : decode yB 8 = .ok (.istore_n 2, 1) := by decide +kernel
theorem d9 : decode yB 9 = .ok (.iload_n 2, 1) := by decide +kernel
theorem d10 : decode yB 10 = .ok (.aload_n 0, 1) := by decide +kernel
theorem d11 : decode yB 11 = .ok (.arraylength, 1) := by decide +kernel
theorem d12 : decode yB 12 = .ok (.if_icmp (.ge) 20, 3) := by decide +kernel
theorem d15 : decode yB 15 = .ok (.aload_n 0, 1) := by decide +kernel
theorem d16 : decode yB 16 = .ok (.iload_n 2, 1) := by decide +kernel
theorem d17 : decode yB 17 = .ok (.baload, 1) := by decide +kernel
theorem d18 : decode yB 18 = .ok (.aload_n 1, 1) := by decide +kernel
theorem d19 : decode yB 19 = .ok (.iload_n 2, 1) := by decide +kernel
theorem d20 : decode yB 20 = .ok (.baload, 1) := by decide +kernel
theorem d21 : decode yB 21 = .ok (.if_icmp (.eq) 5, 3) := by decide +kernel
theorem d24 : decode yB 24 = .ok (.iconst 0, 1) := by decide +kernel
theorem d25 : decode yB 25 = .ok (.ireturn, 1) := by decide +kernel
theorem d26 : decode yB 26 = .ok (.iinc 2 1, 3) := by decide +kernel
theorem d29 : decode yB 29 = .ok (.goto (-20), 3) := by decide +kernel
theorem d32 : decode yB 32 = .ok (.iconst 1, 1) := by decide +kernel
theorem d33 : decode yB 33 = .ok (.ireturn, 1) := by decide +kernel
theorem d34 : decode yB 34 = .ok (.iconst 0, 1) := by decide +kernel
theorem d35 : decode yB 35 = .ok (.ireturn, 1) := by decide +kernel
def site : List Cond := []
def tab : Cond := tabOf yN yB 3 (some .boolean) site
def P (a : Addr) (A : Cell) (b : Addr) (B : Cell) (args : Array Value) (s : State) : Prop := args = #[.ref a, .ref b] ∧ XT.Arr .byte a A s ∧ Typed .byte A ∧ XT.Arr .byte b B s ∧ Typed .byte B
/-- whether two byte[] are equal, place for place -/
theorem law (l : Launch) (a : Addr) (A : Cell) (b : Addr) (B : Cell) : Law l yN 2 2 0 0 yB 3 (some .boolean) site (P a A b B) (Says01 (EqC A B)) [] 0 0 := by
  refine Law.of_walk (plainFor_of_name (by decide +kernel)) (by decide +kernel) (by decide +kernel) (by decide) (fun _ _ h => by rw [h.1]; rfl) (fun _ U U' hal hh h => ⟨h.1, h.2.1.mv hal hh, h.2.2.1, h.2.2.2.1.mv hal hh, h.2.2.2.2⟩) (fun r U U' V V' h1 hal h2 h => Says01.mv r U U' V V' h1 hal h2 h) ?_
  intro p e s m args below meth c s₁ X0 hexec hbytes hml hret hlk hnm hown hh0 W hP
  obtain ⟨rfl, hA, tA, hB, tB⟩ := hP
  have a31 := hA.2.2.2
  have b31 := hB.2.2.2
  have hA0 := hA.mv X0.warmed.alike hh0
  have hB0 := hB.mv X0.warmed.alike hh0
  have c1 : Steps p.tables e below (s₁.setTop (entryFrame m #[.ref a, .ref b] 3)) (s₁.setTop (mkF m 0 #[.val (.ref a), .val (.ref b), .unset] [])) := entry rfl
  have c2 : Steps p.tables e below (s₁.setTop (entryFrame m #[.ref a, .ref b] 3)) (s₁.setTop (mkF m 4 #[.val (.ref a), .val (.ref b), .unset] [.int (Int32.ofNat B.slots.size), .int (Int32.ofNat A.slots.size)])) := c1.trans (by
    refine XS.aloadN X0.here hexec rfl (hb hbytes d0) rfl rfl ?_
    refine X0.alen hexec hA0 rfl rfl (hb hbytes d1) ?_
    refine XS.aloadN X0.here hexec rfl (hb hbytes d2) rfl rfl ?_
    refine X0.alen hexec hB0 rfl rfl (hb hbytes d3) ?_
    exact Steps.refl _)
  by_cases hs : A.slots.size = B.slots.size
  · have c3 : Steps p.tables e below (s₁.setTop (entryFrame m #[.ref a, .ref b] 3)) (s₁.setTop (mkF m 9 #[.val (.ref a), .val (.ref b), .val (.int 0)] [])) := c2.trans (by
      refine XS.icmpNo X0.here hexec rfl (hb hbytes d4) rfl (ii_ne_f (by rw [hs])) ?_
      refine iconstV X0.here hexec rfl 0 (hb hbytes d7) (by decide) ?_
      refine XS.istoreN X0.here hexec rfl (hb hbytes d8) rfl rfl ?_
      exact Steps.refl _)
    have loop : ∀ (r i : Nat), i + r = A.slots.size → (∀ j, j < i → yv A j = yv B j) → Steps p.tables e below (s₁.setTop (entryFrame m #[.ref a, .ref b] 3)) (s₁.setTop (mkF m 9 #[.val (.ref a), .val (.ref b), .val (.int (Int32.ofNat i))] [])) → ∃ (pc : Nat) (Ls : Array Slot) (v : Int32), (pc = 25 ∨ pc = 33) ∧ ((v = 1 ∧ EqC A B) ∨ (v = 0 ∧ ¬ EqC A B)) ∧ Steps p.tables e below (s₁.setTop (entryFrame m #[.ref a, .ref b] 3)) (s₁.setTop (mkF m pc Ls [.int v])) := by
      intro r
      induction r with
      | zero =>
        intro i hi he cl
        exact ⟨33, _, 1, Or.inr rfl, Or.inl ⟨rfl, hs, fun j hj => he j (by omega)⟩, cl.trans (by
          refine XS.iloadN X0.here hexec rfl (hb hbytes d9) rfl ?_
          refine XS.aloadN X0.here hexec rfl (hb hbytes d10) rfl rfl ?_
          refine X0.alen hexec hA0 rfl rfl (hb hbytes d11) ?_
          refine XS.icmpYes X0.here hexec rfl (pc0 := 12) rfl (hb hbytes d12) rfl (ii_ge_t (nlt32 (by omega) (by omega))) (by decide) rfl ?_
          refine iconstV X0.here hexec rfl 1 (hb hbytes d32) (by decide) ?_
          exact Steps.refl _)⟩
      | succ r ih =>
        intro i hi he cl
        have c4 : Steps p.tables e below (s₁.setTop (entryFrame m #[.ref a, .ref b] 3)) (s₁.setTop (mkF m 21 #[.val (.ref a), .val (.ref b), .val (.int (Int32.ofNat i))] [.int (yv B i), .int (yv A i)])) := cl.trans (by
          refine XS.iloadN X0.here hexec rfl (hb hbytes d9) rfl ?_
          refine XS.aloadN X0.here hexec rfl (hb hbytes d10) rfl rfl ?_
          refine X0.alen hexec hA0 rfl rfl (hb hbytes d11) ?_
          refine XS.icmpNo X0.here hexec rfl (hb hbytes d12) rfl (ii_ge_f (lt32 (by omega) (by omega))) ?_
          refine XS.aloadN X0.here hexec rfl (hb hbytes d15) rfl rfl ?_
          refine XS.iloadN X0.here hexec rfl (hb hbytes d16) rfl ?_
          refine X0.aget hexec hA0 rfl (yv_get hA tA (i := i) (by omega)) rfl rfl (hb hbytes d17) ?_
          refine XS.aloadN X0.here hexec rfl (hb hbytes d18) rfl rfl ?_
          refine XS.iloadN X0.here hexec rfl (hb hbytes d19) rfl ?_
          refine X0.aget hexec hB0 rfl (yv_get hB tB (i := i) (by omega)) rfl rfl (hb hbytes d20) ?_
          exact Steps.refl _)
        by_cases hv : yv A i = yv B i
        · have c5 : Steps p.tables e below (s₁.setTop (entryFrame m #[.ref a, .ref b] 3)) (s₁.setTop (mkF m 9 #[.val (.ref a), .val (.ref b), .val (.int (Int32.ofNat i + 1))] [])) := c4.trans (by
            refine XS.icmpYes X0.here hexec rfl (pc0 := 21) rfl (hb hbytes d21) rfl (ii_eq_t hv) (by decide) rfl ?_
            refine iincV X0.here hexec rfl 1 (hb hbytes d26) (by decide) rfl rfl ?_
            refine XS.goto X0.here hexec rfl (pc0 := 29) rfl (hb hbytes d29) (by decide) rfl ?_
            exact Steps.refl _)
          rw [succ32] at c5
          exact ih (i + 1) (by omega) (fun j hj => by
            by_cases e : j = i
            · rw [e]; exact hv
            · exact he j (by omega)) c5
        · exact ⟨25, _, 0, Or.inl rfl, Or.inr ⟨rfl, fun q => hv (q.2 i (by omega))⟩, c4.trans (by
            refine XS.icmpNo X0.here hexec rfl (hb hbytes d21) rfl (ii_eq_f hv) ?_
            refine iconstV X0.here hexec rfl 0 (hb hbytes d24) (by decide) ?_
            exact Steps.refl _)⟩
    obtain ⟨pc, Ls, v, hpc, hv, cz⟩ := loop A.slots.size 0 (by omega) (fun j hj => absurd hj (Nat.not_lt_zero j)) c3
    have nv : narrow .boolean (.int v) = .int v := by rcases hv with ⟨rfl, -⟩ | ⟨rfl, -⟩ <;> rfl
    rcases hpc with rfl | rfl
    · exact ⟨s₁, some (.int v), _, _, _, X0, rfl, rfl, rfl, (fun h => by cases h), ⟨v, rfl, hh0, hv⟩, fun fs hl => cz.trans (X0.ireturnOut hexec hret nv (Or.inr (Or.inl rfl)) (hb hbytes d25) hl)⟩
    · exact ⟨s₁, some (.int v), _, _, _, X0, rfl, rfl, rfl, (fun h => by cases h), ⟨v, rfl, hh0, hv⟩, fun fs hl => cz.trans (X0.ireturnOut hexec hret nv (Or.inr (Or.inl rfl)) (hb hbytes d33) hl)⟩
  · have c3 : Steps p.tables e below (s₁.setTop (entryFrame m #[.ref a, .ref b] 3)) (s₁.setTop (mkF m 35 #[.val (.ref a), .val (.ref b), .unset] [.int 0])) := c2.trans (by
      refine XS.icmpYes X0.here hexec rfl (pc0 := 4) rfl (hb hbytes d4) rfl (ii_ne_t (ne32 a31 b31 hs)) (by decide) rfl ?_
      refine iconstV X0.here hexec rfl 0 (hb hbytes d34) (by decide) ?_
      exact Steps.refl _)
    exact ⟨s₁, some (.int 0), _, _, _, X0, rfl, rfl, rfl, (fun h => by cases h), ⟨0, rfl, hh0, Or.inr ⟨rfl, fun q => hs q.1⟩⟩, fun fs hl => c3.trans (X0.ireturnOut hexec hret rfl (Or.inr (Or.inl rfl)) (hb hbytes d35) hl)⟩
end LEq
theorem Cod.ty {cd : Int32} {n : Nat} {f : Nat → Int32} {V : Cell} (h : Cod cd n f V) : Typed .byte V := fun i v hv => by
  have hi : i < V.slots.size := (Array.getElem?_eq_some_iff.mp hv).1
  rcases h with ⟨-, k1, k2⟩ | ⟨-, k1, k2, -⟩
  · rw [(k2 i (by omega)).1] at hv; cases hv; exact fits_lo8 _
  · rcases Nat.mod_two_eq_zero_or_one i with e | e
    · obtain ⟨j, rfl⟩ : ∃ j, i = 2 * j := ⟨i / 2, by omega⟩
      rw [(k2 j (by omega)).1] at hv; cases hv; exact fits_lo8 _
    · obtain ⟨j, rfl⟩ : ∃ j, i = 2 * j + 1 := ⟨i / 2, by omega⟩
      rw [(k2 j (by omega)).2] at hv; cases hv; exact fits_lo8 _
/-- the same text -/
def SameT (n : Nat) (f : Nat → Int32) (k : Nat) (g : Nat → Int32) : Prop := n = k ∧ ∀ j, j < n → f j = g j
theorem lo8_inj {x y : Int32} (h0 : ¬ x < 0) (h1 : ¬ 255 < x) (k0 : ¬ y < 0) (k1 : ¬ 255 < y) (h : lo8 x = lo8 y) : x = y := by
  rw [← lo8_mask h0 h1, ← lo8_mask k0 k1, h]
/-- arrays coded by one coder are equal just where the texts are -/
theorem Cod.eqv {cd : Int32} {n k : Nat} {f g : Nat → Int32} {V V' : Cell} (h : Cod cd n f V) (h' : Cod cd k g V') (hf : ∀ j, j < n → ¬ f j < 0 ∧ ¬ 65535 < f j) (hg : ∀ j, j < k → ¬ g j < 0 ∧ ¬ 65535 < g j) : EqC V V' ↔ SameT n f k g := by
  have yvv : ∀ {W : Cell} {i : Nat} {x : Int32}, W.slots[i]? = some (.int x) → yv W i = x := fun q => by unfold yv; rw [q]
  rcases h with ⟨rfl, k1, k2⟩ | ⟨rfl, k1, k2, -⟩
  · rcases h' with ⟨-, m1, m2⟩ | ⟨e, -⟩
    · constructor
      · rintro ⟨e1, e2⟩
        refine ⟨by omega, fun j hj => ?_⟩
        have q := e2 j (by omega)
        rw [yvv (k2 j hj).1, yvv (m2 j (by omega)).1] at q
        exact lo8_inj (hf j hj).1 (k2 j hj).2 (hg j (by omega)).1 (m2 j (by omega)).2 q
      · rintro ⟨rfl, e2⟩
        refine ⟨by omega, fun j hj => ?_⟩
        rw [yvv (k2 j (by omega)).1, yvv (m2 j (by omega)).1, e2 j (by omega)]
    · exact absurd e (by decide)
  · rcases h' with ⟨e, -⟩ | ⟨-, m1, m2, -⟩
    · exact absurd e (by decide)
    · constructor
      · rintro ⟨e1, e2⟩
        refine ⟨by omega, fun j hj => ?_⟩
        have q1 := e2 (2 * j) (by omega)
        have q2 := e2 (2 * j + 1) (by omega)
        rw [yvv (k2 j hj).1, yvv (m2 j (by omega)).1] at q1
        rw [yvv (k2 j hj).2, yvv (m2 j (by omega)).2] at q2
        rw [← pair_says (hf j hj).1 (hf j hj).2, ← pair_says (hg j (by omega)).1 (hg j (by omega)).2, q1, q2]
      · rintro ⟨rfl, e2⟩
        refine ⟨by omega, fun i hi => ?_⟩
        rcases Nat.mod_two_eq_zero_or_one i with e | e
        · obtain ⟨j, rfl⟩ : ∃ j, i = 2 * j := ⟨i / 2, by omega⟩
          rw [yvv (k2 j (by omega)).1, yvv (m2 j (by omega)).1, e2 j (by omega)]
        · obtain ⟨j, rfl⟩ : ∃ j, i = 2 * j + 1 := ⟨i / 2, by omega⟩
          rw [yvv (k2 j (by omega)).2, yvv (m2 j (by omega)).2, e2 j (by omega)]
/-- two codings differ: so do the texts -/
theorem Cod.dif {cd cd' : Int32} {n k : Nat} {f g : Nat → Int32} {V V' : Cell} (h : Cod cd n f V) (h' : Cod cd' k g V') (hne : ¬ cd = cd') : ¬ SameT n f k g := by
  rintro ⟨rfl, e⟩
  rcases h with ⟨rfl, -, k2⟩ | ⟨rfl, -, -, j, hj, hw⟩
  · rcases h' with ⟨rfl, -⟩ | ⟨-, -, -, j, hj, hw⟩
    · exact hne rfl
    · exact (k2 j hj).2 (by rw [e j hj]; exact hw)
  · rcases h' with ⟨-, -, m2⟩ | ⟨rfl, -⟩
    · exact (m2 j hj).2 (by rw [← e j hj]; exact hw)
    · exact hne rfl
/-- an object of exactly C is an instance of C -/
theorem cinst {p : Program} {l : Launch} {e : Env} {R : Room} {s : State} {m : MethodId} {args : Array Value} {below : List Frame} {meth : Method} {c : Code} {T : State} {locs : List Loc} {cells slots : Nat} (X : Stand p l e R s m args below meth c T locs cells slots) (hexec : p.tables.exec = Jvm.exec) {own C : String} {index : Nat} (hown : s.vm.findClass own = some m.cls) (hlink : (Cond.classLink own index C).before args s = true) {a : Addr} (hE : Exact C a T)
    {g : JFrame} (hg : g.method = m) {rest : List Value} (hstack : g.stack = .ref a :: rest) (hdg : decode c.code g.pc = .ok (.instanceof index, 3)) :
    ∃ T', Stand p l e R s m args below meth c T' locs cells slots ∧ T'.heap = T.heap ∧ ∀ target, Steps p.tables e below (T'.setTop { g with pc := g.pc + 3, stack := .int 1 :: rest }) target → Steps p.tables e below (T.setTop g) target := by
  obtain ⟨cB, h1, D, h2, h3, h4⟩ := hE
  have h1' : s.vm.findClass C = some cB := by rw [← X.warmed.alike.findClass]; exact h1
  obtain ⟨vm', X', st⟩ := X.instanceofYes hexec hown hlink h2 h4 h1' (by rw [h3]; exact Jvm.Free.SB.assignable_self _ _) hg hstack hdg
  exact ⟨_, X', rfl, st⟩
theorem cself {p : Program} {l : Launch} {e : Env} {R : Room} {s : State} {m : MethodId} {args : Array Value} {below : List Frame} {meth : Method} {c : Code} {T : State} {locs : List Loc} {cells slots : Nat} (X : Stand p l e R s m args below meth c T locs cells slots) (hexec : p.tables.exec = Jvm.exec) {own C : String} {index : Nat} (hown : s.vm.findClass own = some m.cls) (hlink : (Cond.classLink own index C).before args s = true) {a : Addr} (hE : Exact C a T)
    {g : JFrame} (hg : g.method = m) {rest : List Value} (hstack : g.stack = .ref a :: rest) (hdg : decode c.code g.pc = .ok (.checkcast index, 3)) :
    ∃ T', Stand p l e R s m args below meth c T' locs cells slots ∧ T'.heap = T.heap ∧ ∀ target, Steps p.tables e below (T'.setTop { g with pc := g.pc + 3, stack := .ref a :: rest }) target → Steps p.tables e below (T.setTop g) target := by
  obtain ⟨cB, h1, D, h2, h3, h4⟩ := hE
  have h1' : s.vm.findClass C = some cB := by rw [← X.warmed.alike.findClass]; exact h1
  obtain ⟨vm', X', st⟩ := X.checkcastYes hexec hown hlink h2 h4 h1' (by rw [h3]; exact Jvm.Free.SB.assignable_self _ _) hg hstack hdg
  exact ⟨_, X', rfl, fun t h => st t (by rw [← hstack] at h; exact h)⟩
namespace SEq
def yN : MethodName := ⟨"java/lang/String", "equals", "(Ljava/lang/Object;)Z"⟩
abbrev yB : ByteArray := jdk_42_method_66_code
theorem d0 : decode yB 0 = .ok (.aload_n 0, 1) := by decide +kernel
theorem d1 : decode yB 1 = .ok (.aload_n 1, 1) := by decide +kernel
theorem d2 : decode yB 2 = .ok (.if_acmp (.ne) 5, 3) := by decide +kernel
theorem d5 : decode yB 5 = .ok (.iconst 1, 1) := by decide +kernel
theorem d6 : decode yB 6 = .ok (.ireturn, 1) := by decide +kernel
theorem d7 : decode yB 7 = .ok (.aload_n 1, 1) := by decide +kernel
theorem d8 : decode yB 8 = .ok (.instanceof 10, 3) := by decide +kernel
theorem d11 : decode yB 11 = .ok (.ifCond (.eq) 43, 3) := by decide +kernel
theorem d14 : decode yB 14 = .ok (.aload_n 1, 1) := by decide +kernel
theorem d15 : decode yB 15 = .ok (.checkcast 10, 3) := by decide +kernel
theorem d18 : decode yB 18 = .ok (.astore_n 2, 1) := by decide +kernel
theorem d19 : decode yB 19 = .ok (.getstatic 38, 3) := by decide +kernel
theorem d22 : decode yB 22 = .ok (.ifCond (.eq) 14, 3) := by decide +kernel
theorem d25 : decode yB 25 = .ok (.aload_n 0, 1) := by decide +kernel
theorem d26 : decode yB 26 = .ok (.getfield 15, 3) := by decide +kernel
theorem d29 : decode yB 29 = .ok (.aload_n 2, 1) := by decide +kernel
theorem d30 : decode yB 30 = .ok (.getfield 15, 3) := by decide +kernel
theorem d33 : decode yB 33 = .ok (.if_icmp (.ne) 21, 3) := by decide +kernel
theorem d36 : decode yB 36 = .ok (.aload_n 0, 1) := by decide +kernel
theorem d37 : decode yB 37 = .ok (.getfield 9, 3) := by decide +kernel
theorem d40 : decode yB 40 = .ok (.aload_n 2, 1) := by decide +kernel
theorem d41 : decode yB 41 = .ok (.getfield 9, 3) := by decide +kernel
theorem d44 : decode yB 44 = .ok (.invokestatic 541, 3) := by decide +kernel
theorem d47 : decode yB 47 = .ok (.ifCond (.eq) 7, 3) := by decide +kernel
theorem d50 : decode yB 50 = .ok (.iconst 1, 1) := by decide +kernel
theorem d51 : decode yB 51 = .ok (.goto 4, 3) := by decide +kernel
theorem d54 : decode yB 54 = .ok (.iconst 0, 1) := by decide +kernel
theorem d55 : decode yB 55 = .ok (.ireturn, 1) := by decide +kernel
def site : List Cond := [.classLink "java/lang/String" 10 "java/lang/String", .fieldLink "java/lang/String" 38 "java/lang/String" "COMPACT_STRINGS" "Z", .fieldLink "java/lang/String" 15 "java/lang/String" "coder" "B", .fieldLink "java/lang/String" 9 "java/lang/String" "value" "[B", LEq.tab] ++ staticW "java/lang/String" 541 LEq.yN
def tab : Cond := tabOf yN yB 3 (some .boolean) site
def P (x t : Addr) (V : Cell) (cd : Int32) (n : Nat) (f : Nat → Int32) (y t' : Addr) (V' : Cell) (cd' : Int32) (k : Nat) (g : Nat → Int32) (z : Int32) (args : Array Value) (s : State) : Prop := args = #[.ref x, .ref y] ∧ Txt x t V cd n f s ∧ Txt y t' V' cd' k g s ∧ StaticIs s "java/lang/String" "COMPACT_STRINGS" "Z" (.int z) ∧ ¬ z = 0
/-- equals(Object) of two Strings: whether the texts are the same -/
theorem law (l : Launch) (x t : Addr) (V : Cell) (cd : Int32) (n : Nat) (f : Nat → Int32) (y t' : Addr) (V' : Cell) (cd' : Int32) (k : Nat) (g : Nat → Int32) (z : Int32) : Law l yN 2 1 1 14 yB 3 (some .boolean) site (P x t V cd n f y t' V' cd' k g z) (Says01 (SameT n f k g)) [] 0 0 := by
  refine Law.of_walk (plainFor_of_name (by decide +kernel)) (by decide +kernel) (by decide +kernel) (by decide) (fun _ _ h => by rw [h.1]; rfl) (fun _ U U' hal hh h => ⟨h.1, h.2.1.mv hal hh, h.2.2.1.mv hal hh, h.2.2.2.1.there hal hh, h.2.2.2.2⟩) (fun r U U' V V' h1 hal h2 h => Says01.mv r U U' V V' h1 hal h2 h) ?_
  intro p e s m args below meth c s₁ X0 hexec hbytes hml hret hlk hnm hown hh0 W hP
  obtain ⟨rfl, hx, hy, s1, hz⟩ := hP
  have c1 : Steps p.tables e below (s₁.setTop (entryFrame m #[.ref x, .ref y] 3)) (s₁.setTop (mkF m 2 #[.val (.ref x), .val (.ref y), .unset] [.ref y, .ref x])) := Steps.trans (entry rfl) (by
    show Steps p.tables e below (s₁.setTop (mkF m 0 #[.val (.ref x), .val (.ref y), .unset] [])) _
    refine XS.aloadN X0.here hexec rfl (hb hbytes d0) rfl rfl ?_
    refine XS.aloadN X0.here hexec rfl (hb hbytes d1) rfl rfl ?_
    exact Steps.refl _)
  by_cases hxy : x = y
  · have c2 : Steps p.tables e below (s₁.setTop (entryFrame m #[.ref x, .ref y] 3)) (s₁.setTop (mkF m 6 #[.val (.ref x), .val (.ref y), .unset] [.int 1])) := c1.trans (by
      refine acmpNo X0.here hexec rfl (hb hbytes d2) rfl rfl rfl (by simp [acmp, hxy]) ?_
      refine iconstV X0.here hexec rfl 1 (hb hbytes d5) (by decide) ?_
      exact Steps.refl _)
    subst hxy
    have ec : cd = cd' := by
      obtain ⟨D, fd, a1, a2, a3⟩ := hx.2.2.1
      obtain ⟨D', fd', b1, b2, b3⟩ := hy.2.2.1
      cases a1.symm.trans b1
      obtain ⟨q1, q2, q3, q4⟩ := a2.1
      obtain ⟨r1, r2, r3, r4⟩ := b2.1
      cases q4.symm.trans r4
      cases a3.symm.trans b3; rfl
    have et : t = t' := by
      obtain ⟨D, fd, a1, a2, a3⟩ := hx.2.1
      obtain ⟨D', fd', b1, b2, b3⟩ := hy.2.1
      cases a1.symm.trans b1
      obtain ⟨q1, q2, q3, q4⟩ := a2.1
      obtain ⟨r1, r2, r3, r4⟩ := b2.1
      cases q4.symm.trans r4
      cases a3.symm.trans b3; rfl
    subst ec et
    have ev : V = V' := by cases hx.2.2.2.1.1.symm.trans hy.2.2.2.1.1; rfl
    subst ev
    have hs : SameT n f k g := (Cod.eqv hx.2.2.2.2.1 hy.2.2.2.2.1 hx.2.2.2.2.2 hy.2.2.2.2.2).mp ⟨rfl, fun _ _ => rfl⟩
    exact ⟨s₁, some (.int 1), _, _, _, X0, rfl, rfl, rfl, (fun h => by cases h), ⟨1, rfl, hh0, Or.inl ⟨rfl, hs⟩⟩, fun fs hl => c2.trans (X0.ireturnOut hexec hret rfl (Or.inr (Or.inl rfl)) (hb hbytes d6) hl)⟩
  · have c2 : Steps p.tables e below (s₁.setTop (entryFrame m #[.ref x, .ref y] 3)) (s₁.setTop (mkF m 8 #[.val (.ref x), .val (.ref y), .unset] [.ref y])) := c1.trans (by
      refine acmpYes X0.here hexec rfl (pc0 := 2) rfl (hb hbytes d2) rfl rfl rfl (by simp [acmp, hxy]) (by decide) rfl ?_
      refine XS.aloadN X0.here hexec rfl (hb hbytes d7) rfl rfl ?_
      exact Steps.refl _)
    obtain ⟨T3, X3, q3, st3⟩ := cinst X0 hexec hown (wk W (.classLink "java/lang/String" 10 "java/lang/String")) (hy.mv X0.warmed.alike hh0).1 (g := (mkF m 8 #[.val (.ref x), .val (.ref y), .unset] [.ref y])) rfl (rest := []) rfl (hb hbytes d8)
    have hh3 := q3.trans hh0
    have c4 : Steps p.tables e below (s₁.setTop (entryFrame m #[.ref x, .ref y] 3)) (T3.setTop (mkF m 15 #[.val (.ref x), .val (.ref y), .unset] [.ref y])) := (c2.trans (st3 _ (Steps.refl _))).trans (by
      refine XS.ifNo X3.here hexec rfl (hb hbytes d11) rfl (i0_eq_f (by decide)) ?_
      refine XS.aloadN X3.here hexec rfl (hb hbytes d14) rfl rfl ?_
      exact Steps.refl _)
    obtain ⟨T5, X5, q5, st5⟩ := cself X3 hexec hown (wk W (.classLink "java/lang/String" 10 "java/lang/String")) (hy.mv X3.warmed.alike hh3).1 (g := (mkF m 15 #[.val (.ref x), .val (.ref y), .unset] [.ref y])) rfl (rest := []) rfl (hb hbytes d15)
    have hh5 := q5.trans hh3
    have c6 : Steps p.tables e below (s₁.setTop (entryFrame m #[.ref x, .ref y] 3)) (T5.setTop (mkF m 19 #[.val (.ref x), .val (.ref y), .val (.ref y)] [])) := (c4.trans (st5 _ (Steps.refl _))).trans (by
      refine XS.astoreN X5.here hexec rfl (hb hbytes d18) rfl rfl rfl ?_
      exact Steps.refl _)
    obtain ⟨T7, X7, q7, st7⟩ := X5.sget hexec hown (wk W (.fieldLink "java/lang/String" 38 "java/lang/String" "COMPACT_STRINGS" "Z")) s1 (fun _ _ h => by rw [hh5]; exact h) (g := (mkF m 19 #[.val (.ref x), .val (.ref y), .val (.ref y)] [])) rfl (hb hbytes d19)
    have hh7 := q7.trans hh5
    have c8 : Steps p.tables e below (s₁.setTop (entryFrame m #[.ref x, .ref y] 3)) (T7.setTop (mkF m 26 #[.val (.ref x), .val (.ref y), .val (.ref y)] [.ref x])) := (c6.trans (st7 _ (Steps.refl _))).trans (by
      refine XS.ifNo X7.here hexec rfl (hb hbytes d22) rfl (i0_eq_f hz) ?_
      refine XS.aloadN X7.here hexec rfl (hb hbytes d25) rfl rfl ?_
      exact Steps.refl _)
    obtain ⟨T9, X9, q9, st9⟩ := X7.hget hexec hown (wk W (.fieldLink "java/lang/String" 15 "java/lang/String" "coder" "B")) (hx.mv X7.warmed.alike hh7).2.2.1 (g := (mkF m 26 #[.val (.ref x), .val (.ref y), .val (.ref y)] [.ref x])) rfl (rest := []) rfl (hb hbytes d26)
    have hh9 := q9.trans hh7
    have c10 : Steps p.tables e below (s₁.setTop (entryFrame m #[.ref x, .ref y] 3)) (T9.setTop (mkF m 30 #[.val (.ref x), .val (.ref y), .val (.ref y)] [.ref y, .int cd])) := (c8.trans (st9 _ (Steps.refl _))).trans (by
      refine XS.aloadN X9.here hexec rfl (hb hbytes d29) rfl rfl ?_
      exact Steps.refl _)
    obtain ⟨T11, X11, q11, st11⟩ := X9.hget hexec hown (wk W (.fieldLink "java/lang/String" 15 "java/lang/String" "coder" "B")) (hy.mv X9.warmed.alike hh9).2.2.1 (g := (mkF m 30 #[.val (.ref x), .val (.ref y), .val (.ref y)] [.ref y, .int cd])) rfl (rest := [.int cd]) rfl (hb hbytes d30)
    have hh11 := q11.trans hh9
    have c12 : Steps p.tables e below (s₁.setTop (entryFrame m #[.ref x, .ref y] 3)) (T11.setTop (mkF m 33 #[.val (.ref x), .val (.ref y), .val (.ref y)] [.int cd', .int cd])) := c10.trans (st11 _ (Steps.refl _))
    by_cases hcd : cd = cd'
    · subst hcd
      have c13 : Steps p.tables e below (s₁.setTop (entryFrame m #[.ref x, .ref y] 3)) (T11.setTop (mkF m 37 #[.val (.ref x), .val (.ref y), .val (.ref y)] [.ref x])) := c12.trans (by
        refine XS.icmpNo X11.here hexec rfl (hb hbytes d33) rfl (ii_ne_f rfl) ?_
        refine XS.aloadN X11.here hexec rfl (hb hbytes d36) rfl rfl ?_
        exact Steps.refl _)
      obtain ⟨T14, X14, q14, st14⟩ := X11.hget hexec hown (wk W (.fieldLink "java/lang/String" 9 "java/lang/String" "value" "[B")) (hx.mv X11.warmed.alike hh11).2.1 (g := (mkF m 37 #[.val (.ref x), .val (.ref y), .val (.ref y)] [.ref x])) rfl (rest := []) rfl (hb hbytes d37)
      have hh14 := q14.trans hh11
      have c15 : Steps p.tables e below (s₁.setTop (entryFrame m #[.ref x, .ref y] 3)) (T14.setTop (mkF m 41 #[.val (.ref x), .val (.ref y), .val (.ref y)] [.ref y, .ref t])) := (c13.trans (st14 _ (Steps.refl _))).trans (by
        refine XS.aloadN X14.here hexec rfl (hb hbytes d40) rfl rfl ?_
        exact Steps.refl _)
      obtain ⟨T16, X16, q16, st16⟩ := X14.hget hexec hown (wk W (.fieldLink "java/lang/String" 9 "java/lang/String" "value" "[B")) (hy.mv X14.warmed.alike hh14).2.1 (g := (mkF m 41 #[.val (.ref x), .val (.ref y), .val (.ref y)] [.ref y, .ref t])) rfl (rest := [.ref t]) rfl (hb hbytes d41)
      have hh16 := q16.trans hh14
      have c17 : Steps p.tables e below (s₁.setTop (entryFrame m #[.ref x, .ref y] 3)) (T16.setTop (mkF m 44 #[.val (.ref x), .val (.ref y), .val (.ref y)] [.ref t', .ref t])) := c15.trans (st16 _ (Steps.refl _))
      obtain ⟨v18, T18, X18, E18, g18⟩ := X16.callS hexec (LEq.law l t V t' V') hown (wks W (staticW "java/lang/String" 541 LEq.yN)) (wk W LEq.tab) (W := 0) (Nat.le_of_ble_eq_true rfl) (Nat.le_of_ble_eq_true rfl) (Nat.le_refl _) (Nat.le_refl _) (g := (mkF m 44 #[.val (.ref x), .val (.ref y), .val (.ref y)] [.ref t', .ref t])) rfl (by rw [hml]; rfl) c17 (argsL := [.ref t, .ref t']) (rest := []) rfl rfl (by show 2 * 0 + 0 ≤ _; decide) (hb hbytes d44) (⟨rfl, hx.2.2.2.1.mv X16.warmed.alike hh16, hx.2.2.2.2.1.ty, hy.2.2.2.1.mv X16.warmed.alike hh16, hy.2.2.2.2.1.ty⟩)
      obtain ⟨v, rfl, q18, hv⟩ := E18
      have iff := Cod.eqv hx.2.2.2.2.1 hy.2.2.2.2.1 hx.2.2.2.2.2 hy.2.2.2.2.2
      rcases hv with ⟨rfl, he⟩ | ⟨rfl, he⟩
      · have c19 : Steps p.tables e below (s₁.setTop (entryFrame m #[.ref x, .ref y] 3)) (T18.setTop (mkF m 55 #[.val (.ref x), .val (.ref y), .val (.ref y)] [.int 1])) := Steps.trans g18 (by
          refine XS.ifNo X18.here hexec rfl (hb hbytes d47) rfl (i0_eq_f (by decide)) ?_
          refine iconstV X18.here hexec rfl 1 (hb hbytes d50) (by decide) ?_
          refine XS.goto X18.here hexec rfl (pc0 := 51) rfl (hb hbytes d51) (by decide) rfl ?_
          exact Steps.refl _)
        exact ⟨T18, some (.int 1), _, _, _, X18, rfl, rfl, rfl, (fun h => by cases h), ⟨1, rfl, q18.trans hh16, Or.inl ⟨rfl, iff.mp he⟩⟩, fun fs hl => c19.trans (X18.ireturnOut hexec hret rfl (Or.inr (Or.inl rfl)) (hb hbytes d55) hl)⟩
      · have c19 : Steps p.tables e below (s₁.setTop (entryFrame m #[.ref x, .ref y] 3)) (T18.setTop (mkF m 55 #[.val (.ref x), .val (.ref y), .val (.ref y)] [.int 0])) := Steps.trans g18 (by
          refine XS.ifYes X18.here hexec rfl (pc0 := 47) rfl (hb hbytes d47) rfl (i0_eq_t rfl) (by decide) rfl ?_
          refine iconstV X18.here hexec rfl 0 (hb hbytes d54) (by decide) ?_
          exact Steps.refl _)
        exact ⟨T18, some (.int 0), _, _, _, X18, rfl, rfl, rfl, (fun h => by cases h), ⟨0, rfl, q18.trans hh16, Or.inr ⟨rfl, fun q => he (iff.mpr q)⟩⟩, fun fs hl => c19.trans (X18.ireturnOut hexec hret rfl (Or.inr (Or.inl rfl)) (hb hbytes d55) hl)⟩
    · have c13 : Steps p.tables e below (s₁.setTop (entryFrame m #[.ref x, .ref y] 3)) (T11.setTop (mkF m 55 #[.val (.ref x), .val (.ref y), .val (.ref y)] [.int 0])) := c12.trans (by
        refine XS.icmpYes X11.here hexec rfl (pc0 := 33) rfl (hb hbytes d33) rfl (ii_ne_t hcd) (by decide) rfl ?_
        refine iconstV X11.here hexec rfl 0 (hb hbytes d54) (by decide) ?_
        exact Steps.refl _)
      exact ⟨T11, some (.int 0), _, _, _, X11, rfl, rfl, rfl, (fun h => by cases h), ⟨0, rfl, hh11, Or.inr ⟨rfl, Cod.dif hx.2.2.2.2.1 hy.2.2.2.2.1 hcd⟩⟩, fun fs hl => c13.trans (X11.ireturnOut hexec hret rfl (Or.inr (Or.inl rfl)) (hb hbytes d55) hl)⟩
theorem pays {l : Launch} {R : Room} {p : Program} {e : Env} {below : List Frame} {s : State} {sargs : Array Value} {len W : Nat} (x t : Addr) (V : Cell) (cd : Int32) (n : Nat) (f : Nat → Int32) (y t' : Addr) (V' : Cell) (cd' : Int32) (k : Nat) (g : Nat → Int32) (z : Int32) (htab : tab.before sargs s = true) (hfr : 2 ≤ R.frames) (hlo : W + 28 ≤ R.locals) :
    Back l R p e below s sargs yN len W (fun A₁ a₁ => A₁.cells + 0 ≤ R.cells ∧ A₁.slots + 0 ≤ R.slots ∧ P x t V cd n f y t' V' cd' k g z a₁ A₁.U) (fun A₁ _ v₁ B₁ => Says01 (SameT n f k g) v₁ A₁.U B₁.U ∧ B₁.locs = A₁.locs ++ [] ∧ B₁.cells = A₁.cells + 0 ∧ B₁.slots = A₁.slots + 0) :=
  (law l x t V cd n f y t' V' cd' k g z).pays htab hfr (by omega)
end SEq
end StrChars
namespace StrChars.Road
open Jvm Sem ClassFile Op Lib Jvm.Stand Jvm.Free Jvm.Free.XT
open Jvm.Lib.Cold (StaticIs)
/-- the words of String.isEmpty() -/
abbrev wordsEmp : List Jvm.Cond := [.code Emp.yN Emp.yB 1 (some .boolean), .initialized ST, .fieldLink ST 9 ST "value" "[B"]
theorem tabEmp_of {a : Array Value} {s : State} (h : ∀ w ∈ wordsEmp, w.before a s = true) : Emp.tab.before a s = true := unparts (wk h (.code Emp.yN Emp.yB 1 (some .boolean))) (wks h (.initialized Emp.yN.cls :: Emp.site))
theorem movedEmp {Z s : State} {a0 args : Array Value} (hZ : Z.Warmed39 s.vm) (hw : ∀ d ∈ wordsEmp, d.before a0 Z = true) : ∀ d ∈ wordsEmp, d.before args s = true := fun d hd => by
  have t : ∀ d ∈ wordsEmp, (d.onTables && d.keepsFace) = true := by decide +kernel
  exact RoadKit.mv hZ (hw d hd) (t d hd)
/-- the words of String.equals(Object) -/
abbrev wordsEq : List Jvm.Cond := [.code SEq.yN SEq.yB 3 (some .boolean), .initialized ST, .classLink ST 10 ST, .fieldLink ST 38 ST "COMPACT_STRINGS" "Z", .fieldLink ST 15 ST "coder" "B", .fieldLink ST 9 ST "value" "[B", .methodLink ST 541 LEq.yN, .static LEq.yN, .code LEq.yN LEq.yB 3 (some .boolean), .initialized "java/lang/StringLatin1"]
theorem tabEq_of {a : Array Value} {s : State} (h : ∀ w ∈ wordsEq, w.before a s = true) : SEq.tab.before a s = true := by
  have hl : LEq.tab.before a s = true := unparts (wk h (.code LEq.yN LEq.yB 3 (some .boolean))) (wks h (.initialized LEq.yN.cls :: LEq.site))
  have q := consq hl h
  exact unparts (wk q (.code SEq.yN SEq.yB 3 (some .boolean))) (wks q (.initialized SEq.yN.cls :: SEq.site))
theorem movedEq {Z s : State} {a0 args : Array Value} (hZ : Z.Warmed39 s.vm) (hw : ∀ d ∈ wordsEq, d.before a0 Z = true) : ∀ d ∈ wordsEq, d.before args s = true := fun d hd => by
  have t : ∀ d ∈ wordsEq, (d.onTables && d.keepsFace) = true := by decide +kernel
  exact RoadKit.mv hZ (hw d hd) (t d hd)
/-- the road's facts of a String, as the laws ask it -/
theorem txt_of {Z U : State} {a0 : Array Value} {kI : Nat} (wi : (Jvm.Cond.instantiable ST kI).before a0 Z = true) (al : Z.vm.Alike U.vm) {x t : Addr} {kb : ClassId} {cs : List Int32} {cd N2 : Int32} {vs : List Value} (E : RoadKit.Exa Z U.heap x ST) (V : RoadKit.Fld Z U.heap x ST "value" "[B" (.ref t)) (C : RoadKit.Fld Z U.heap x ST "coder" "B" (.int cd)) (K : RoadKit.Arv Z U.heap t kb .byte N2 vs (.int 0)) (hc : CodA cs cd N2 vs) (hb : ∀ c ∈ cs, ¬ c < 0 ∧ ¬ (65535 : Int32) < c) (l2 : cs.length ≤ 4000) :
    ∃ A, Txt x t A cd cs.length (fun j => cs.getD j 0) U := by
  obtain ⟨A, K1, K2, K3, K4, K5, K6⟩ := K
  have hcod := hc.cod (by omega) K3 K5
  obtain ⟨D, fV, fC, hB, F1, F2, g1, g2, -, -⟩ := strObj wi al E V C
  exact ⟨A, ⟨_, hB.2.2.1, D, hB.1, rfl, by cases q : D.vm <;> first | rfl | exact absurd q (hB.2.1.2 _)⟩, Has.of hB F1 g1, Has.of hB F2 g2, ⟨K1.1, State.isArrayOf_alike al K1.2.1, K1.2.2, by rcases hcod with ⟨-, q, -⟩ | ⟨-, q, -⟩ <;> omega⟩, hcod, fun j hj => by
    have e : cs.getD j 0 = cs[j] := by simp [List.getD_eq_getElem?_getD, hj]
    show ¬ cs.getD j 0 < 0 ∧ ¬ 65535 < cs.getD j 0
    rw [e]; exact hb _ (List.getElem_mem _)⟩
theorem same_list (cs ds : List Int32) : SameT cs.length (fun j => cs.getD j 0) ds.length (fun j => ds.getD j 0) ↔ cs = ds := by
  constructor
  · rintro ⟨e, q⟩
    refine List.ext_getElem e fun j h1 h2 => ?_
    have := q j h1
    simpa [List.getD_eq_getElem?_getD, h1, h2] using this
  · rintro rfl
    exact ⟨rfl, fun _ _ => rfl⟩
/-- **isEmpty() OF SUCH A STRING** -/
theorem empW {p : Program} {l : Launch} {e : Env} {R : Room} {s : State} {args : Array Value} {below : List Frame} {len W : Nat} {Z : State} {a0 : Array Value} {h : Heap} (hZ : Z.Warmed39 s.vm) (hw : ∀ d ∈ wordsEmp, d.before a0 Z = true) {kI : Nat} (wi : (Jvm.Cond.instantiable ST kI).before a0 Z = true)
    {x t : Addr} {kb : ClassId} {cs : List Int32} {cd N2 : Int32} {vs : List Value} (E : RoadKit.Exa Z h x ST) (V : RoadKit.Fld Z h x ST "value" "[B" (.ref t)) (C : RoadKit.Fld Z h x ST "coder" "B" (.int cd)) (K : RoadKit.Arv Z h t kb .byte N2 vs (.int 0)) (hc : CodA cs cd N2 vs) (hb : ∀ c ∈ cs, ¬ c < 0 ∧ ¬ (65535 : Int32) < c) (l2 : cs.length ≤ 4000) (hfr : 1 ≤ R.frames) (hlo : W + 12 ≤ R.locals) :
    Back l R p e below s args (⟨"java/lang/String", "isEmpty", "()Z"⟩ : MethodName) len W (fun P a => a = #[.ref x] ∧ P.U.heap = h ∧ P.cells + 0 ≤ R.cells ∧ P.slots + 0 ≤ R.slots)
      (fun P _ v B => ∃ L, (v = some (.int (if cs.length = 0 then 1 else 0)) ∧ L = [] ∧ B.U.heap = h) ∧ B.locs = P.locs ++ L ∧ B.cells = P.cells + 0 ∧ B.slots = P.slots + 0) := by
  intro m meth c P g ig mk a X hg hsize hdg hW hn hp'
  obtain ⟨rfl, rfl, r1, r2⟩ := hp'
  have al : Z.vm.Alike P.U.vm := hZ.alike.trans X.warmed.alike
  obtain ⟨A, hx⟩ := txt_of wi al E V C K hc hb l2
  obtain ⟨v, B, X', ⟨⟨hv, hh⟩, hl, hk, hs⟩, st⟩ := Emp.pays x t A cd cs.length (fun j => cs.getD j 0) (tabEmp_of (movedEmp hZ hw)) hfr hlo m meth c P g ig mk _ X hg hsize hdg hW hn ⟨r1, r2, rfl, hx⟩
  exact ⟨v, B, X', ⟨[], ⟨hv, rfl, hh⟩, hl, hk, hs⟩, st⟩
/-- **equals(Object) OF TWO SUCH STRINGS**: 1 just where the chars are the same -/
theorem eqW {p : Program} {l : Launch} {e : Env} {R : Room} {s : State} {args : Array Value} {below : List Frame} {len W : Nat} {Z : State} {a0 : Array Value} {h : Heap} (hZ : Z.Warmed39 s.vm) (hw : ∀ d ∈ wordsEq, d.before a0 Z = true) {kI : Nat} (wi : (Jvm.Cond.instantiable ST kI).before a0 Z = true)
    {x t : Addr} {kb : ClassId} {cs : List Int32} {cd N2 : Int32} {vs : List Value} (E : RoadKit.Exa Z h x ST) (V : RoadKit.Fld Z h x ST "value" "[B" (.ref t)) (C : RoadKit.Fld Z h x ST "coder" "B" (.int cd)) (K : RoadKit.Arv Z h t kb .byte N2 vs (.int 0)) (hc : CodA cs cd N2 vs) (hb : ∀ c ∈ cs, ¬ c < 0 ∧ ¬ (65535 : Int32) < c) (l2 : cs.length ≤ 4000)
    {y t' : Addr} {kb' : ClassId} {ds : List Int32} {cd' N2' : Int32} {vs' : List Value} (E' : RoadKit.Exa Z h y ST) (V' : RoadKit.Fld Z h y ST "value" "[B" (.ref t')) (C' : RoadKit.Fld Z h y ST "coder" "B" (.int cd')) (K' : RoadKit.Arv Z h t' kb' .byte N2' vs' (.int 0)) (hc' : CodA ds cd' N2' vs') (hb' : ∀ c ∈ ds, ¬ c < 0 ∧ ¬ (65535 : Int32) < c) (l2' : ds.length ≤ 4000)
    {z : Int32} (S : RoadKit.Sta Z h ST "COMPACT_STRINGS" "Z" (.int z)) (hz : ¬ z = 0) (hfr : 2 ≤ R.frames) (hlo : W + 28 ≤ R.locals) :
    Back l R p e below s args (⟨"java/lang/String", "equals", "(Ljava/lang/Object;)Z"⟩ : MethodName) len W (fun P a => a = #[.ref x, .ref y] ∧ P.U.heap = h ∧ P.cells + 0 ≤ R.cells ∧ P.slots + 0 ≤ R.slots)
      (fun P _ v B => ∃ L, (((v = some (.int 1) ∧ cs = ds) ∨ (v = some (.int 0) ∧ ¬ cs = ds)) ∧ L = [] ∧ B.U.heap = h) ∧ B.locs = P.locs ++ L ∧ B.cells = P.cells + 0 ∧ B.slots = P.slots + 0) := by
  intro m meth c P g ig mk a X hg hsize hdg hW hn hp'
  obtain ⟨rfl, rfl, r1, r2⟩ := hp'
  have al : Z.vm.Alike P.U.vm := hZ.alike.trans X.warmed.alike
  obtain ⟨A, hx⟩ := txt_of wi al E V C K hc hb l2
  obtain ⟨A', hy⟩ := txt_of wi al E' V' C' K' hc' hb' l2'
  obtain ⟨v, B, X', ⟨⟨w, hv, hh, hq⟩, hl, hk, hs⟩, st⟩ := SEq.pays x t A cd cs.length (fun j => cs.getD j 0) y t' A' cd' ds.length (fun j => ds.getD j 0) z (tabEq_of (movedEq hZ hw)) hfr hlo m meth c P g ig mk _ X hg hsize hdg hW hn ⟨r1, r2, rfl, hx, hy, sta_is al S, hz⟩
  refine ⟨v, B, X', ⟨[], ⟨?_, rfl, hh⟩, hl, hk, hs⟩, st⟩
  rcases hq with ⟨rfl, q⟩ | ⟨rfl, q⟩
  · exact Or.inl ⟨hv, (same_list cs ds).mp q⟩
  · exact Or.inr ⟨hv, fun e => q ((same_list cs ds).mpr e)⟩
end StrChars.Road
namespace StrChars
open Jvm Sem ClassFile Op Lib Jvm.Stand Jvm.Free.XT Jvm.Free.ALB Jvm.Free.JM Jvm.Free
open Jvm.Lib.Cold (StaticIs)
namespace ChN
def yN : MethodName := ⟨"java/lang/String", "charAt", "(I)C"⟩
abbrev yB : ByteArray := jdk_42_method_56_code
theorem d0 : decode yB 0 = .ok (.aload_n 0, 1) := by decide +kernel
theorem d1 : decode yB 1 = .ok (.invokevirtual 492, 3) := by decide +kernel
theorem d4 : decode yB 4 = .ok (.ifCond (.eq) 12, 3) := by decide +kernel
theorem d7 : decode yB 7 = .ok (.aload_n 0, 1) := by decide +kernel
theorem d8 : decode yB 8 = .ok (.getfield 9, 3) := by decide +kernel
theorem d11 : decode yB 11 = .ok (.iload_n 1, 1) := by decide +kernel
theorem d12 : decode yB 12 = .ok (.invokestatic 495, 3) := by decide +kernel
theorem d15 : decode yB 15 = .ok (.ireturn, 1) := by decide +kernel
def site : List Cond := [.fieldLink "java/lang/String" 9 "java/lang/String" "value" "[B", IsL.tab, LChA.tab] ++ virtW "java/lang/String" 492 "java/lang/String" IsL.yN IsL.yN ++ staticW "java/lang/String" 495 LChA.yN
def tab : Cond := tabOf yN yB 2 (some .char) site
def P (x t : Addr) (V : Cell) (n : Nat) (f : Nat → Int32) (z : Int32) (fm : Value) (i : Nat) (args : Array Value) (s : State) : Prop := args = #[.ref x, .int (Int32.ofNat i)] ∧ Txt x t V 0 n f s ∧ i < n ∧ StaticIs s "java/lang/String" "COMPACT_STRINGS" "Z" (.int z) ∧ ¬ z = 0 ∧ StaticIs s "jdk/internal/util/Preconditions" "SIOOBE_FORMATTER" "Ljava/util/function/BiFunction;" fm ∧ fm.isRef = true
def E (f : Nat → Int32) (i : Nat) (r : Option Value) (s u : State) : Prop := XT.PureE (some (.int (f i))) r s u
/-- charAt(i) of a Latin-1 String of n chars, i < n: f i -/
theorem law (l : Launch) (x t : Addr) (V : Cell) (n : Nat) (f : Nat → Int32) (z : Int32) (fm : Value) (i : Nat) : Law l yN 2 1 3 40 yB 2 (some .char) site (P x t V n f z fm i) (E f i) [] 0 0 := by
  refine Law.of_walk (plainFor_of_name (by decide +kernel)) (by decide +kernel) (by decide +kernel) (by decide) (fun _ _ h => by rw [h.1]; rfl) (fun _ U U' hal hh h => ⟨h.1, h.2.1.mv hal hh, h.2.2.1, h.2.2.2.1.there hal hh, h.2.2.2.2.1, h.2.2.2.2.2.1.there hal hh, h.2.2.2.2.2.2⟩) (fun r U U' V V' h1 hal h2 h => XT.PureE.mv r U U' V V' h1 hal h2 h) ?_
  intro p e s m args below meth c s₁ X0 hexec hbytes hml hret hlk hnm hown hh0 W hP
  obtain ⟨rfl, hx, hi, s1, hz, s3, rf⟩ := hP
  have v31 := hx.2.2.2.1.2.2.2
  have hr := hx.2.2.2.2.2 i hi
  have hx0 := hx.mv X0.warmed.alike hh0
  have c1 : Steps p.tables e below (s₁.setTop (entryFrame m #[.ref x, .int (Int32.ofNat i)] 2)) (s₁.setTop (mkF m 1 #[.val (.ref x), .val (.int (Int32.ofNat i))] [.ref x])) := Steps.trans (entry rfl) (by
    show Steps p.tables e below (s₁.setTop (mkF m 0 #[.val (.ref x), .val (.int (Int32.ofNat i))] [])) _
    refine XS.aloadN X0.here hexec rfl (hb hbytes d0) rfl rfl ?_
    exact Steps.refl _)
  obtain ⟨v2, T2, X2, E2, g2⟩ := X0.callV hexec (IsL.law l x 0 z) hown (wks W (virtW "java/lang/String" 492 "java/lang/String" IsL.yN IsL.yN)) rfl (by decide) (wk W IsL.tab) (W := 0) (Nat.le_of_ble_eq_true rfl) (Nat.le_of_ble_eq_true rfl) (Nat.le_refl _) (Nat.le_refl _) (hx0.1.fc X0.warmed.alike) hx0.1.is (g := (mkF m 1 #[.val (.ref x), .val (.int (Int32.ofNat i))] [.ref x])) rfl (by rw [hml]; rfl) c1 (argsL := []) (rest := []) rfl rfl (by show 2 * 0 + 0 ≤ _; decide) (hb hbytes d1) (⟨rfl, hx0.2.2.1, hx.2.2.2.2.1.cd, s1.there X0.warmed.alike hh0, hz⟩)
  obtain ⟨rfl, q2⟩ := E2
  have hh2 := q2.trans hh0
  have hx2 := hx.mv X2.warmed.alike hh2
  obtain ⟨-, k1, k2⟩ | ⟨k0, -⟩ := hx.2.2.2.2.1
  · have c3 : Steps p.tables e below (s₁.setTop (entryFrame m #[.ref x, .int (Int32.ofNat i)] 2)) (T2.setTop (mkF m 8 #[.val (.ref x), .val (.int (Int32.ofNat i))] [.ref x])) := Steps.trans g2 (by
      refine XS.ifNo X2.here hexec rfl (hb hbytes d4) rfl (i0_eq_f (by decide)) ?_
      refine XS.aloadN X2.here hexec rfl (hb hbytes d7) rfl rfl ?_
      exact Steps.refl _)
    obtain ⟨T4, X4, q4, st4⟩ := X2.hget hexec hown (wk W (.fieldLink "java/lang/String" 9 "java/lang/String" "value" "[B")) hx2.2.1 (g := (mkF m 8 #[.val (.ref x), .val (.int (Int32.ofNat i))] [.ref x])) rfl (rest := []) rfl (hb hbytes d8)
    have hh4 := q4.trans hh2
    have c5 : Steps p.tables e below (s₁.setTop (entryFrame m #[.ref x, .int (Int32.ofNat i)] 2)) (T4.setTop (mkF m 12 #[.val (.ref x), .val (.int (Int32.ofNat i))] [.int (Int32.ofNat i), .ref t])) := (c3.trans (st4 _ (Steps.refl _))).trans (by
      refine XS.iloadN X4.here hexec rfl (hb hbytes d11) rfl ?_
      exact Steps.refl _)
    obtain ⟨v6, T6, X6, E6, g6⟩ := X4.callS hexec (LChA.law l t V i (lo8 (f i)) fm) hown (wks W (staticW "java/lang/String" 495 LChA.yN)) (wk W LChA.tab) (W := 0) (Nat.le_of_ble_eq_true rfl) (Nat.le_of_ble_eq_true rfl) (Nat.le_refl _) (Nat.le_refl _) (g := (mkF m 12 #[.val (.ref x), .val (.int (Int32.ofNat i))] [.int (Int32.ofNat i), .ref t])) rfl (by rw [hml]; rfl) c5 (argsL := [.ref t, .int (Int32.ofNat i)]) (rest := []) rfl rfl (by show 2 * 0 + 0 ≤ _; decide) (hb hbytes d12) (⟨rfl, hx.2.2.2.1.mv X4.warmed.alike hh4, (k2 i hi).1, s3.there X4.warmed.alike hh4, rf⟩)
    obtain ⟨rfl, q6⟩ := E6
    rw [chr8_lo8 hr.1 (k2 i hi).2] at g6
    exact ⟨T6, some (.int (f i)), _, _, _, X6, rfl, rfl, rfl, (fun h => by cases h), ⟨rfl, q6.trans hh4⟩, fun fs hl => Steps.trans g6 (X6.ireturnOut hexec hret (narrow_ch hr.1 hr.2) (Or.inr (Or.inr (Or.inr (Or.inl rfl)))) (hb hbytes d15) hl)⟩
  · exact absurd k0 (by decide)
theorem pays {l : Launch} {R : Room} {p : Program} {e : Env} {below : List Frame} {s : State} {sargs : Array Value} {len W : Nat} (x t : Addr) (V : Cell) (n : Nat) (f : Nat → Int32) (z : Int32) (fm : Value) (i : Nat) (htab : tab.before sargs s = true) (hfr : 4 ≤ R.frames) (hlo : W + 53 ≤ R.locals) :
    Back l R p e below s sargs yN len W (fun A₁ a₁ => A₁.cells + 0 ≤ R.cells ∧ A₁.slots + 0 ≤ R.slots ∧ P x t V n f z fm i a₁ A₁.U) (fun A₁ _ v₁ B₁ => E f i v₁ A₁.U B₁.U ∧ B₁.locs = A₁.locs ++ [] ∧ B₁.cells = A₁.cells + 0 ∧ B₁.slots = A₁.slots + 0) :=
  (law l x t V n f z fm i).pays htab hfr (by omega)
end ChN
end StrChars
namespace StrChars.Road
open Jvm Sem ClassFile Op Lib Jvm.Stand Jvm.Free Jvm.Free.XT
open Jvm.Lib.Cold (StaticIs)
/-- the words of String.charAt(int), the Latin-1 road alone -/
abbrev wordsChN : List Jvm.Cond := [.code ChN.yN ChN.yB 2 (some .char), .initialized ST, .fieldLink ST 9 ST "value" "[B", .fieldLink ST 38 ST "COMPACT_STRINGS" "Z", .fieldLink ST 15 ST "coder" "B", .code IsL.yN IsL.yB 1 (some .boolean), .methodLink ST 492 IsL.yN, .declares IsL.yN, .selects ST IsL.yN IsL.yN, .instanceMethod IsL.yN,
  .methodLink ST 495 LChA.yN, .static LChA.yN, .code LChA.yN LChA.yB 2 (some .char), .initialized "java/lang/StringLatin1", .methodLink "java/lang/StringLatin1" 9 JO.Str_checkIndex.yN, .static JO.Str_checkIndex.yN, .code JO.Str_checkIndex.yN JO.Str_checkIndex.yB 2 none,
  .fieldLink ST 1053 "jdk/internal/util/Preconditions" "SIOOBE_FORMATTER" "Ljava/util/function/BiFunction;", .methodLink ST 1059 JC.PreCheck.yN, .static JC.PreCheck.yN, .code JC.PreCheck.yN JC.PreCheck.yB 3 (some .int), .initialized "jdk/internal/util/Preconditions"]
theorem tabChN_of {a : Array Value} {s : State} (h : ∀ w ∈ wordsChN, w.before a s = true) : ChN.tab.before a s = true := by
  have hp : JC.PreCheck.tab.before a s = true := unparts (wk h (.code JC.PreCheck.yN JC.PreCheck.yB 3 (some .int))) (wks h (.initialized JC.PreCheck.yN.cls :: JC.PreCheck.site))
  have qk := consq hp h
  have hk : JO.Str_checkIndex.tab.before a s = true := unparts (wk qk (.code JO.Str_checkIndex.yN JO.Str_checkIndex.yB 2 none)) (wks qk (.initialized JO.Str_checkIndex.yN.cls :: JO.Str_checkIndex.site))
  have ql := consq hk h
  have hl : LChA.tab.before a s = true := unparts (wk ql (.code LChA.yN LChA.yB 2 (some .char))) (wks ql (.initialized LChA.yN.cls :: LChA.site))
  have hi : IsL.tab.before a s = true := unparts (wk h (.code IsL.yN IsL.yB 1 (some .boolean))) (wks h (.initialized IsL.yN.cls :: IsL.site))
  have q := consq hi (consq hl h)
  exact unparts (wk q (.code ChN.yN ChN.yB 2 (some .char))) (wks q (.initialized ChN.yN.cls :: ChN.site))
theorem movedChN {Z s : State} {a0 args : Array Value} (hZ : Z.Warmed39 s.vm) (hw : ∀ d ∈ wordsChN, d.before a0 Z = true) : ∀ d ∈ wordsChN, d.before args s = true := fun d hd => by
  have t : ∀ d ∈ wordsChN, (d.onTables && d.keepsFace) = true := by decide +kernel
  exact RoadKit.mv hZ (hw d hd) (t d hd)
/-- **charAt(i) OF A LATIN-1 STRING**, i < n: the char -/
theorem chN {p : Program} {l : Launch} {e : Env} {R : Room} {s : State} {args : Array Value} {below : List Frame} {len W : Nat} {Z : State} {a0 : Array Value} {h : Heap} (hZ : Z.Warmed39 s.vm) (hw : ∀ d ∈ wordsChN, d.before a0 Z = true) {kI : Nat} (wi : (Jvm.Cond.instantiable ST kI).before a0 Z = true)
    {x t : Addr} {kb : ClassId} {cs : List Int32} {N2 z : Int32} {vs : List Value} {fm : Value} {i : Nat} {j : Int32} (E : RoadKit.Exa Z h x ST) (V : RoadKit.Fld Z h x ST "value" "[B" (.ref t)) (C : RoadKit.Fld Z h x ST "coder" "B" (.int 0)) (K : RoadKit.Arv Z h t kb .byte N2 vs (.int 0)) (hc : CodA cs 0 N2 vs) (hb : ∀ c ∈ cs, ¬ c < 0 ∧ ¬ (65535 : Int32) < c)
    (S : RoadKit.Sta Z h ST "COMPACT_STRINGS" "Z" (.int z)) (hz : ¬ z = 0) (F : RoadKit.Sta Z h "jdk/internal/util/Preconditions" "SIOOBE_FORMATTER" "Ljava/util/function/BiFunction;" fm) (rf : fm.isRef = true) (l2 : cs.length ≤ 4000) (hi : i < cs.length) (hj : j = Int32.ofNat i) (hfr : 4 ≤ R.frames) (hlo : W + 53 ≤ R.locals) :
    Back l R p e below s args (⟨"java/lang/String", "charAt", "(I)C"⟩ : MethodName) len W (fun P a => a = #[.ref x, .int j] ∧ P.U.heap = h ∧ P.cells + 0 ≤ R.cells ∧ P.slots + 0 ≤ R.slots)
      (fun P _ v B => ∃ L, (v = some (.int (cs.getD i 0)) ∧ L = [] ∧ B.U.heap = h) ∧ B.locs = P.locs ++ L ∧ B.cells = P.cells + 0 ∧ B.slots = P.slots + 0) := by
  subst hj
  intro m meth c P g ig mk a X hg hsize hdg hW hn hp'
  obtain ⟨rfl, rfl, r1, r2⟩ := hp'
  have al : Z.vm.Alike P.U.vm := hZ.alike.trans X.warmed.alike
  obtain ⟨A, hx⟩ := txt_of wi al E V C K hc hb l2
  obtain ⟨v, B, X', ⟨⟨hv, hh⟩, hl, hk, hs⟩, st⟩ := ChN.pays x t A cs.length (fun j => cs.getD j 0) z fm i (tabChN_of (movedChN hZ hw)) hfr hlo m meth c P g ig mk _ X hg hsize hdg hW hn ⟨r1, r2, rfl, hx, hi, sta_is al S, hz, sta_is al F, rf⟩
  exact ⟨v, B, X', ⟨[], ⟨hv, rfl, hh⟩, hl, hk, hs⟩, st⟩
/-- what backV says of its String, as the contracts of this text ask it: cs's low bytes, coder 0 -/
theorem codOf {cs : List Int32} {n : Nat} (hn : cs.length = n) (hb : ∀ c ∈ cs, ¬ 255 < c) : CodA cs 0 (Int32.ofNat n) ((cs.map lo8).map Value.int) := Or.inl ⟨rfl, by rw [hn], by simp [List.map_map, Function.comp_def], hb⟩
end StrChars.Road
end Jvm.Pilot.@@N@@
namespace Jvm.Pilot.@@N@@
open Jvm Jvm.ClassFile Sem Op Lib Jvm.Free Jvm.Stand Jvm.LawKit Jvm.RoadKit Bundle Jvm.Pilot.@@N@@.Jvm.D
/-! OWN KIT, core: where a walk stands (own_S), what is left to run (own_Go), a body's contract (own_Met), and the rules that join them. -/
section OwnCore
variable {p : Program} {l : Launch} {e : Env} {R : Room} {s : State} {m : MethodId} {args : Array Value} {below : List Frame} {meth : Method} {c : Code} {T T' : State} {cells slots : Nat} {Z : State} {a0 : Array Value} {h h' h0 : Heap} {w kf : Bool} {EL : List (String × Nat)} {own : String} {ws ws' fs : List Addr} {Q : Option Value → Heap → Prop} {vm0 vm1 : Vm} {locs L : List Loc} {k0 : Nat} {tb : Tables} {P : Outcome → State → Prop}

/-- from T, with the frame f on top, the run comes to its end and P says how -/
def own_Go (tb : Tables) (e : Env) (below : List Frame) (P : Outcome → State → Prop) (T : State) (f : JFrame) : Prop :=
  ∃ s₂ o, Steps tb e below (T.setTop f) s₂ ∧ s₂.status = .running ∧ Ended s₂ below o ∧ P o s₂
theorem own_by {f f' : JFrame} (k : ∀ t, Steps tb e below (T'.setTop f') t → Steps tb e below (T.setTop f) t) (g : own_Go tb e below P T' f') : own_Go tb e below P T f := by
  obtain ⟨s₂, o, h1, r⟩ := g
  exact ⟨s₂, o, k _ h1, r⟩
theorem own_on {f f' : JFrame} (k : Steps tb e below (T.setTop f) (T'.setTop f')) (g : own_Go tb e below P T' f') : own_Go tb e below P T f := own_by (fun _ q => k.trans q) g

def own_End (w : Bool) (s : State) (o : Outcome) (t : State) (L : List Loc) (k n : Nat) : Prop := (w = true → ReturnedEndW s o t L k n) ∧ (w = false → FrameEnd s o t L k n)
/-- what every contract says besides its own Q -/
def own_Post (w : Bool) (EL : List (String × Nat)) (Z : State) (rm : Room) (h0 : Heap) (ws : List Addr) (Q : Option Value → Heap → Prop) (U : State) (o : Outcome) (U' : State) : Prop :=
  ∃ v L, o = .returned v ∧ Q v U'.heap ∧ Keep h0 U'.heap ws ∧ Fr Z.heap.size L ∧ CHr Z EL U.vm h0 U'.vm U'.heap ∧ own_End w U o U' L rm.cells rm.slots
/-- what every contract asks -/
def own_Pre (EL : List (String × Nat)) (Z : State) (a0 : Array Value) (as' : Array Value) (h0 : Heap) (ws : List Addr) (a : Array Value) (U : State) : Prop :=
  a = as' ∧ Z.Warmed39 U.vm ∧ U.heap = h0 ∧ Ext Z.heap h0 ∧ EW Z a0 EL ∧ CHv Z EL U.vm h0 ∧ ∀ x ∈ ws, Z.heap.size ≤ x ∧ x < h0.size ∧ Safe Z EL U.vm h0 x
def own_K (kf : Bool) : Program → Env → List Frame → State → Array Value → Prop := fun _ _ bl s _ => kf = true → s.vm.MethodsKnown ∧ s.vm.FramesKnown bl
/-- the contract of a body -/
def own_Met (w kf : Bool) (EL : List (String × Nat)) (l : Launch) (Z : State) (a0 : Array Value) (y : MethodName) (bytes : ByteArray) (maxL : Nat) (ret : Option FieldType) (more : List Cond) (rm : Room) (as' : Array Value) (h0 : Heap) (ws : List Addr) (Q : Option Value → Heap → Prop) : Prop :=
  MetFree l y (head1 (Cond.code y bytes maxL ret :: more) rm) (own_Pre EL Z a0 as' h0 ws) (own_K kf) (fun _ U o U' => own_Post w EL Z rm h0 ws Q U o U')
/-- what a walk bears besides its Stand -/
def own_I (w kf : Bool) (EL : List (String × Nat)) (s : State) (m : MethodId) (below : List Frame) (Z : State) (a0 : Array Value) (own : String) (h0 : Heap) (ws : List Addr) (h : Heap) (fs : List Addr) (vm0 : Vm) (locs : List Loc) (k0 : Nat) : Prop :=
  Z.Warmed39 vm0 ∧ vm0.findClass own = some m.cls ∧ Fr Z.heap.size locs ∧ Ext Z.heap h ∧ Keep h0 h ws ∧ s.Since vm0 k0 ∧ k0 ≤ h.size ∧ EW Z a0 EL ∧ CHr Z EL s.vm h0 vm0 h ∧ (w = false → vm0 = s.vm) ∧ (kf = true → vm0.MethodsKnown ∧ vm0.FramesKnown below) ∧ (s.heap = h0 ∧ Ext Z.heap h0) ∧
    ∀ x ∈ fs, (x ∈ ws ∨ h0.size ≤ x) ∧ Z.heap.size ≤ x ∧ x < h.size ∧ Safe Z EL vm0 h x
/-- where the walk stands: the state T, its heap h, the cells fs that it may write -/
def own_S (w kf : Bool) (EL : List (String × Nat)) (p : Program) (l : Launch) (e : Env) (R : Room) (s : State) (m : MethodId) (args : Array Value) (below : List Frame) (meth : Method) (c : Code) (Z : State) (a0 : Array Value) (own : String) (h0 : Heap) (ws : List Addr) (T : State) (h : Heap) (fs : List Addr) (cells slots : Nat) : Prop :=
  ∃ vm0 locs k0, Stand p l e R (s.setVm vm0) m args below meth c T locs cells slots ∧ T.heap = h ∧ own_I w kf EL s m below Z a0 own h0 ws h fs vm0 locs k0

theorem own_here (K : own_S w kf EL p l e R s m args below meth c Z a0 own h0 ws T h fs cells slots) : At T m c below := by
  obtain ⟨vm0, locs, k0, X, -⟩ := K; exact X.here
theorem own_more (K : own_S w kf EL p l e R s m args below meth c Z a0 own h0 ws T h fs cells slots) {cells' slots' : Nat} (hc : cells ≤ cells') (hs : slots ≤ slots') : own_S w kf EL p l e R s m args below meth c Z a0 own h0 ws T h fs cells' slots' := by
  obtain ⟨vm0, locs, k0, X, r⟩ := K; exact ⟨vm0, locs, k0, X.more hc hs, r⟩
theorem own_sub (K : own_S w kf EL p l e R s m args below meth c Z a0 own h0 ws T h fs cells slots) {fs' : List Addr} (q : ∀ x ∈ fs', x ∈ fs) : own_S w kf EL p l e R s m args below meth c Z a0 own h0 ws T h fs' cells slots := by
  obtain ⟨vm0, locs, k0, X, eT, h1, h2, h3, h4, h5, h6, h7, h8, h9, h10, h11, hst, h12⟩ := K
  exact ⟨vm0, locs, k0, X, eT, h1, h2, h3, h4, h5, h6, h7, h8, h9, h10, h11, hst, fun x hx => h12 x (q x hx)⟩
theorem own_ext0 (K : own_S w kf EL p l e R s m args below meth c Z a0 own h0 ws T h fs cells slots) : Ext Z.heap h := by
  obtain ⟨vm0, locs, k0, X, eT, h1, h2, h3, h4, -⟩ := K; exact h4
theorem own_alike (K : own_S w kf EL p l e R s m args below meth c Z a0 own h0 ws T h fs cells slots) : ∃ vm0, Z.vm.Alike vm0 := by
  obtain ⟨vm0, locs, k0, X, eT, h1, -⟩ := K; exact ⟨vm0, h1.alike⟩
theorem own_fresh (K : own_S w kf EL p l e R s m args below meth c Z a0 own h0 ws T h fs cells slots) {x : Addr} (hx : x ∈ fs) : Z.heap.size ≤ x ∧ x < h.size := by
  obtain ⟨vm0, locs, k0, X, eT, h1, h2, h3, h4, h5, h6, h7, h8, h9, h10, h11, hst, h12⟩ := K; exact ⟨(h12 x hx).2.1, (h12 x hx).2.2.1⟩
theorem own_cat {v : Value} (q : v.isRef = true) : v.category = 1 := by rcases ref_cases q with rfl | ⟨_, rfl⟩ <;> rfl
theorem own_fits {v : Value} {C : String} (q : v.isRef = true) : fits (.object C) v = true := by rcases ref_cases q with rfl | ⟨_, rfl⟩ <;> rfl
theorem own_mem1 {x : Addr} (q : x ∈ fs) : ∀ y ∈ [x], y ∈ fs := fun y hy => by cases List.mem_singleton.mp hy; exact q
theorem own_mem2 {x y : Addr} (q : x ∈ fs) (r : y ∈ fs) : ∀ z ∈ [x, y], z ∈ fs := fun z hz => by
  rcases List.mem_cons.mp hz with rfl | hz
  · exact q
  · cases List.mem_singleton.mp hz; exact r
theorem own_sta (K : own_S w kf EL p l e R s m args below meth c Z a0 own h0 ws T h fs cells slots) {C n d : String} {v : Value} (F : Sta Z Z.heap C n d v) : Sta Z h C n d v := F.ext (own_ext0 K)

/-- the heap moves on, the tables stay -/
theorem own_I.keep (I : own_I w kf EL s m below Z a0 own h0 ws h fs vm0 locs k0) (Kp : Keep h h' ws') (hw : ∀ x ∈ ws', x ∈ fs) (hL : Fr Z.heap.size L) : own_I w kf EL s m below Z a0 own h0 ws h' fs vm0 (locs ++ L) k0 := by
  obtain ⟨h1, h2, h3, h4, h5, h6, h7, h8, h9, h10, h11, hst, h12⟩ := I
  have C : CHr Z EL vm0 h vm0 h' := CHr.keep Kp (fun x hx => (h12 x (hw x hx)).2.2.2) h9.1
  refine ⟨h1, h2, h3.app hL, ?_, h5.trans Kp (fun x hx => (h12 x (hw x hx)).1), h6, Nat.le_trans h7 Kp.1, h8, h9.trans C, h10, h11, hst, fun x hx => ?_⟩
  · exact (Old.keep (show Old Z Z.heap.size h from ⟨rfl, h4⟩) Kp fun x hx => (h12 x (hw x hx)).2.1).2
  · obtain ⟨q1, q2, q3, q4⟩ := h12 x hx
    exact ⟨q1, q2, Nat.lt_of_lt_of_le q3 Kp.1, C.safe q3 q4⟩
/-- a new cell at the heap's end -/
theorem own_I.grow (I : own_I w kf EL s m below Z a0 own h0 ws h fs vm0 locs k0) (E : Ext h h') (hlt : h.size < h'.size) : own_I w kf EL s m below Z a0 own h0 ws h' (h.size :: fs) vm0 locs k0 := by
  have I' := I.keep (L := []) ((Keep.refl h []).ext E) (fun _ q => nomatch q) (Fr.nil _)
  rw [List.append_nil] at I'
  obtain ⟨h1, h2, h3, h4, h5, h6, h7, h8, h9, h10, h11, hst, h12⟩ := I'
  refine ⟨h1, h2, h3, h4, h5, h6, h7, h8, h9, h10, h11, hst, fun x hx => ?_⟩
  rcases List.mem_cons.mp hx with rfl | hx
  · obtain ⟨-, -, -, g4, g5, -, -, -, g9, -⟩ := I
    exact ⟨Or.inr g5.1, g4.1, hlt, Safe.ext E g9.1 (Safe.new (Nat.le_refl _))⟩
  · exact h12 x hx
/-- the tables move on (literals were interned) -/
theorem own_I.wide (I : own_I w kf EL s m below Z a0 own h0 ws h fs vm0 locs k0) (hw1 : w = true) (C : CHr Z EL vm0 h vm1 h') {k1 : Nat} (S : (s.setVm vm0).Since vm1 k1) (hk : h.size ≤ k1) (hk1 : k1 ≤ h'.size) (Kp : Keep h h' ws') (hw : ∀ x ∈ ws', x ∈ fs) (hL : Fr Z.heap.size L) : own_I w kf EL s m below Z a0 own h0 ws h' fs vm1 (locs ++ L) k1 := by
  obtain ⟨h1, h2, h3, h4, h5, h6, h7, h8, h9, h10, h11, hst, h12⟩ := I
  have al : vm0.Alike vm1 := S.1.alike
  refine ⟨State.Warmed39.trans (t := s.setVm vm0) h1 S.1, (al.findClass _ _).trans h2, h3.app hL, ?_, h5.trans Kp (fun x hx => (h12 x (hw x hx)).1), h6.trans S (Nat.le_trans h7 hk), hk1, h8, h9.trans C, (fun q => by rw [hw1] at q; cases q), fun q => ?_, hst, fun x hx => ?_⟩
  · exact (Old.keep (show Old Z Z.heap.size h from ⟨rfl, h4⟩) Kp fun x hx => (h12 x (hw x hx)).2.1).2
  · obtain ⟨g1, g2⟩ := h11 q
    exact ⟨Vm.MethodsKnown.alikeC al g1, Vm.FramesKnown.alikeC al g2⟩
  · obtain ⟨q1, q2, q3, q4⟩ := h12 x hx
    exact ⟨q1, q2, Nat.lt_of_lt_of_le q3 Kp.1, C.safe q3 q4⟩

/-- entering a body -/
theorem own_enter {y : MethodName} {bytes : ByteArray} {maxL : Nat} {ret : Option FieldType} {more : List Cond} {rm : Room} {as' : Array Value} (ho : y.cls = own) (hpl : plainFor y = true)
    (body : ∀ (p : Program) (e : Env) (s : State) (m : MethodId) (below : List Frame) (meth : Method) (c : Code) (T : State), p.tables.exec = Jvm.exec → c.code = bytes → c.maxLocals = maxL → meth.sig.returnType = ret → meth.locks = false → meth.name = y.name →
      own_S w kf EL p l e rm s m as' below meth c Z a0 own h0 ws T h0 ws 0 0 → own_Go p.tables e below (own_Post w EL Z rm h0 ws Q s) T (entryFrame m as' maxL)) :
    own_Met w kf EL l Z a0 y bytes maxL ret more rm as' h0 ws Q := by
  subst ho
  refine MetFree.of_bodySF hpl hisR ?_
  intro p e s m args below meth c s₁ Bd hml hP hK
  obtain ⟨rfl, hZ, hh, hE, hEL, hC, hws⟩ := hP
  have X0 : Stand p l e rm s m args below meth c s₁ [] 0 0 := Stand.of_body Bd
  have e0 : s₁.heap = h0 := by rw [← hh, Bd.state]; rfl
  exact body p e s m below meth c s₁ Bd.exec Bd.bytes hml Bd.returns Bd.notSynchronized (name_of_methodNamed Bd.named Bd.method).1
    ⟨s.vm, [], h0.size, X0, e0, hZ, findClass_of_methodNamed Bd.named, Fr.nil _, hE, Keep.refl _ _, (State.WarmedH.refl s).since _, Nat.le_refl _, hEL, CHr.refl hC, fun _ => rfl, hK, ⟨hh, hE⟩, fun x hx => ⟨Or.inl hx, hws x hx⟩⟩

/-- leaving it -/
theorem own_leave (K : own_S w kf EL p l e R s m args below meth c Z a0 own h0 ws T h fs cells slots) (hlk : meth.locks = false) {v : Option Value} (hv : meth.sig.returnType = none → v = none) (hc : cells ≤ R.cells) (hs : slots ≤ R.slots) (hQ : Q v h) {f : JFrame}
    (st : ∀ (locs : List Loc) (vm0 : Vm), Stand p l e R (s.setVm vm0) m args below meth c T locs cells slots → ∀ frs : List Frame, (∀ (f : JFrame) (acts : List Action), f.method = m → f.locked = none → f.entered = [] → (doReturn e (T.setTop f) acts v).1 = T.setFrames frs) → Steps p.tables e below (T.setTop f) (T.setFrames frs)) :
    own_Go p.tables e below (own_Post w EL Z R h0 ws Q s) T f := by
  obtain ⟨vm0, locs, k0, X, eT, h1, h2, h3, h4, h5, h6, h7, h8, h9, h10, h11, hst, h12⟩ := K
  have C : CHr Z EL vm0 h T.vm h := CHv.at X h1 h8 h9.1
  cases w with
  | true =>
    obtain ⟨frs, hr, hrun, hended, e1, e2, e3, e4⟩ := X.leaveW h6 (by rw [eT]; exact h7) hv hlk
    refine ⟨_, _, st locs vm0 X frs hr, hrun, hended, v, locs, rfl, by show Q v T.heap; rw [eT]; exact hQ, by show Keep h0 T.heap ws; rw [eT]; exact h5, h3, ?_, And.intro (fun _ => ⟨e1, e2, e3, e4.mono hc hs⟩) (fun q => by cases q)⟩
    show CHr Z EL s.vm h0 T.vm T.heap
    rw [eT]; exact h9.trans C
  | false =>
    obtain rfl := h10 rfl
    obtain ⟨frs, hr, hrun, hended, hW, hsame⟩ := X.leave hv hlk
    refine ⟨_, _, st locs _ X frs hr, hrun, hended, v, locs, rfl, by show Q v T.heap; rw [eT]; exact hQ, by show Keep h0 T.heap ws; rw [eT]; exact h5, h3, ?_, And.intro (fun q => by cases q) (fun _ => ⟨⟨_, rfl⟩, hW, hsame.mono hc hs⟩)⟩
    show CHr Z EL s.vm h0 T.vm T.heap
    rw [eT]; exact h9.trans C
variable {pc : Nat} {Ls : Array Slot} {St : List Value}
theorem own_retV (K : own_S w kf EL p l e R s m args below meth c Z a0 own h0 ws T h fs cells slots) (hx : p.tables.exec = Jvm.exec) (hlk : meth.locks = false) (hret : meth.sig.returnType = none) (hd : decode c.code pc = .ok (.return_, 1)) (hc : cells ≤ R.cells) (hs : slots ≤ R.slots) (hQ : Q none h) :
    own_Go p.tables e below (own_Post w EL Z R h0 ws Q s) T (mkF m pc Ls []) :=
  own_leave K hlk (fun _ => rfl) hc hs hQ fun locs vm0 X frs hr => X.returnOut hx hret hd hr
theorem own_ret (K : own_S w kf EL p l e R s m args below meth c Z a0 own h0 ws T h fs cells slots) (hx : p.tables.exec = Jvm.exec) (hlk : meth.locks = false) {t : FieldType} {i : Instr} {v : Value} (hret : meth.sig.returnType = some t) (hn : narrow t v = v)
    (hi : (i = .ireturn ∧ (t = .int ∨ t = .boolean ∨ t = .byte ∨ t = .char ∨ t = .short) ∧ ∃ z, v = .int z) ∨ (i = .lreturn ∧ t = .long ∧ ∃ z, v = .long z) ∨ (i = .dreturn ∧ t = .double ∧ ∃ z, v = .double z) ∨ (i = .freturn ∧ t = .float ∧ ∃ z, v = .float z) ∨ (i = .areturn ∧ t.isReference = true ∧ v.isRef = true))
    (hd : decode c.code pc = .ok (i, 1)) (hc : cells ≤ R.cells) (hs : slots ≤ R.slots) (hQ : Q (some v) h) :
    own_Go p.tables e below (own_Post w EL Z R h0 ws Q s) T (mkF m pc Ls (v :: St)) :=
  own_leave K hlk (fun q => by rw [hret] at q; cases q) hc hs hQ fun locs vm0 X frs hr => retOut X hx hret hn hi hd hr
/-- ireturn of an int -/
theorem own_retI (K : own_S w kf EL p l e R s m args below meth c Z a0 own h0 ws T h fs cells slots) (hx : p.tables.exec = Jvm.exec) (hlk : meth.locks = false) {z : Int32} (hret : meth.sig.returnType = some .int) (hd : decode c.code pc = .ok (.ireturn, 1)) (hc : cells ≤ R.cells) (hs : slots ≤ R.slots) (hQ : Q (some (.int z)) h) :
    own_Go p.tables e below (own_Post w EL Z R h0 ws Q s) T (mkF m pc Ls (.int z :: St)) :=
  own_ret K hx hlk hret rfl (Or.inl ⟨rfl, Or.inl rfl, z, rfl⟩) hd hc hs hQ
/-- ireturn of a boolean, byte, char or short: narrowed -/
theorem own_retN (K : own_S w kf EL p l e R s m args below meth c Z a0 own h0 ws T h fs cells slots) (hx : p.tables.exec = Jvm.exec) (hlk : meth.locks = false) {t : FieldType} {z : Int32} (hret : meth.sig.returnType = some t) (ht : t = .boolean ∨ t = .byte ∨ t = .char ∨ t = .short) (hd : decode c.code pc = .ok (.ireturn, 1)) (hc : cells ≤ R.cells) (hs : slots ≤ R.slots) (hQ : Q (some (.int (nar t z))) h) :
    own_Go p.tables e below (own_Post w EL Z R h0 ws Q s) T (mkF m pc Ls (.int z :: St)) :=
  own_leave K hlk (fun q => by rw [hret] at q; cases q) hc hs hQ fun locs vm0 X frs hr => retN X hx hret ht hd hr
/-- areturn -/
theorem own_retR (K : own_S w kf EL p l e R s m args below meth c Z a0 own h0 ws T h fs cells slots) (hx : p.tables.exec = Jvm.exec) (hlk : meth.locks = false) {t : FieldType} {v : Value} (hret : meth.sig.returnType = some t) (ht : t.isReference = true) (hv : v.isRef = true) (hd : decode c.code pc = .ok (.areturn, 1)) (hc : cells ≤ R.cells) (hs : slots ≤ R.slots) (hQ : Q (some v) h) :
    own_Go p.tables e below (own_Post w EL Z R h0 ws Q s) T (mkF m pc Ls (v :: St)) :=
  own_ret K hx hlk hret (by cases t <;> cases v <;> first | rfl | (simp [FieldType.isReference] at ht) | (simp [Value.isRef] at hv)) (Or.inr (Or.inr (Or.inr (Or.inr ⟨rfl, ht, hv⟩)))) hd hc hs hQ
end OwnCore
section OwnWords
variable {args : Array Value} {first s : State} {o : Option Outcome} {idx : List Nat}
/-- one object, one ordinal -/
theorem own_ord {t u : Term} {x y : Addr} {C n d : String} {a b : Int32} (ht : t.eval args first o idx s = some (.ref x)) (hu : u.eval args first o idx s = some (.ref y)) (h1 : (Cond.eq (Term.field t C n d) (Term.int a)).value args first o s idx = some true) (h2 : (Cond.eq (Term.field u C n d) (Term.int b)).value args first o s idx = some true) (hne : a ≠ b) : x ≠ y := fun q => by
  subst q
  obtain ⟨v1, w1, a1, b1, -, k1⟩ := cmp_v (Or.inl h1)
  obtain ⟨v2, w2, a2, b2, -, k2⟩ := cmp_v (Or.inl h2)
  cases (Term.int_eval a).symm.trans b1
  cases (Term.int_eval b).symm.trans b2
  obtain ⟨z1, rfl⟩ := k1
  obtain ⟨z2, rfl⟩ := k2
  have e1 := gotT (Cond.eq_ints a1 (Term.int_eval a)) h1
  have e2 := gotT (Cond.eq_ints a2 (Term.int_eval b)) h2
  rw [fld_at ht] at a1
  rw [fld_at hu] at a2
  have e3 := a1.symm.trans a2
  simp only [Option.some.injEq, Value.int.injEq] at e3
  exact hne (e1.symm.trans (e3.trans e2))
end OwnWords
theorem own_if0 {Q : Prop} [Decidable Q] (h : (if Q then (1 : Int32) else 0) = 0) : ¬ Q := fun q => by rw [if_pos q] at h; exact absurd h (by decide)
theorem own_if1 {Q : Prop} [Decidable Q] (h : ¬ (if Q then (1 : Int32) else 0) = 0) : Q := Classical.not_not.mp fun q => h (by rw [if_neg q])
/-! OWN KIT, single steps (printed by mkrules.py) -/
section OwnSteps
variable {p : Program} {e : Env} {m : MethodId} {below : List Frame} {c : Code} {T : State} {P : Outcome → State → Prop} {pc : Nat} {Ls : Array Slot} {St : List Value}
theorem own_iload (A : At T m c below) (hx : p.tables.exec = Jvm.exec) {pc' : Nat} {k : Nat} {v : Int32} (hd : decode c.code pc = .ok (.iload k, 2)) (hl : Ls[k]? = some (.val (.int v))) (hp : pc + 2 = pc') (G : own_Go p.tables e below P T (mkF m pc' Ls (.int v :: St))) : own_Go p.tables e below P T (mkF m pc Ls (St)) := by
  subst hp
  exact own_by (fun t q => XS.iload A hx rfl hd hl q) G
theorem own_iloadN (A : At T m c below) (hx : p.tables.exec = Jvm.exec) {pc' : Nat} {k : Fin 4} {v : Int32} (hd : decode c.code pc = .ok (.iload_n k, 1)) (hl : Ls[k.val]? = some (.val (.int v))) (hp : pc + 1 = pc') (G : own_Go p.tables e below P T (mkF m pc' Ls (.int v :: St))) : own_Go p.tables e below P T (mkF m pc Ls (St)) := by
  subst hp
  exact own_by (fun t q => XS.iloadN A hx rfl hd hl q) G
theorem own_lload (A : At T m c below) (hx : p.tables.exec = Jvm.exec) {pc' : Nat} {k : Nat} {v : Int64} (hd : decode c.code pc = .ok (.lload k, 2)) (hl : Ls[k]? = some (.val (.long v))) (hp : pc + 2 = pc') (G : own_Go p.tables e below P T (mkF m pc' Ls (.long v :: St))) : own_Go p.tables e below P T (mkF m pc Ls (St)) := by
  subst hp
  exact own_by (fun t q => XS.lload A hx rfl hd hl q) G
theorem own_lloadN (A : At T m c below) (hx : p.tables.exec = Jvm.exec) {pc' : Nat} {k : Fin 4} {v : Int64} (hd : decode c.code pc = .ok (.lload_n k, 1)) (hl : Ls[k.val]? = some (.val (.long v))) (hp : pc + 1 = pc') (G : own_Go p.tables e below P T (mkF m pc' Ls (.long v :: St))) : own_Go p.tables e below P T (mkF m pc Ls (St)) := by
  subst hp
  exact own_by (fun t q => XS.lloadN A hx rfl hd hl q) G
theorem own_aload (A : At T m c below) (hx : p.tables.exec = Jvm.exec) {pc' : Nat} {k : Nat} {v : Value} (hd : decode c.code pc = .ok (.aload k, 2)) (hl : Ls[k]? = some (.val v)) (hv : v.isRef = true) (hp : pc + 2 = pc') (G : own_Go p.tables e below P T (mkF m pc' Ls (v :: St))) : own_Go p.tables e below P T (mkF m pc Ls (St)) := by
  subst hp
  exact own_by (fun t q => XS.aload A hx rfl hd hl hv q) G
theorem own_aloadN (A : At T m c below) (hx : p.tables.exec = Jvm.exec) {pc' : Nat} {k : Fin 4} {v : Value} (hd : decode c.code pc = .ok (.aload_n k, 1)) (hl : Ls[k.val]? = some (.val v)) (hv : v.isRef = true) (hp : pc + 1 = pc') (G : own_Go p.tables e below P T (mkF m pc' Ls (v :: St))) : own_Go p.tables e below P T (mkF m pc Ls (St)) := by
  subst hp
  exact own_by (fun t q => XS.aloadN A hx rfl hd hl hv q) G
theorem own_istore (A : At T m c below) (hx : p.tables.exec = Jvm.exec) {pc' : Nat} {k : Nat} {v : Int32} (l' : Array Slot) (hd : decode c.code pc = .ok (.istore k, 2)) (hl : storeLocals Ls k (.int v) = some l') (hp : pc + 2 = pc') (G : own_Go p.tables e below P T (mkF m pc' l' (St))) : own_Go p.tables e below P T (mkF m pc Ls (.int v :: St)) := by
  subst hp
  exact own_by (fun t q => XS.istore A hx rfl hd rfl hl q) G
theorem own_istoreN (A : At T m c below) (hx : p.tables.exec = Jvm.exec) {pc' : Nat} {k : Fin 4} {v : Int32} (l' : Array Slot) (hd : decode c.code pc = .ok (.istore_n k, 1)) (hl : storeLocals Ls k.val (.int v) = some l') (hp : pc + 1 = pc') (G : own_Go p.tables e below P T (mkF m pc' l' (St))) : own_Go p.tables e below P T (mkF m pc Ls (.int v :: St)) := by
  subst hp
  exact own_by (fun t q => XS.istoreN A hx rfl hd rfl hl q) G
theorem own_lstore (A : At T m c below) (hx : p.tables.exec = Jvm.exec) {pc' : Nat} {k : Nat} {v : Int64} (l' : Array Slot) (hd : decode c.code pc = .ok (.lstore k, 2)) (hl : storeLocals Ls k (.long v) = some l') (hp : pc + 2 = pc') (G : own_Go p.tables e below P T (mkF m pc' l' (St))) : own_Go p.tables e below P T (mkF m pc Ls (.long v :: St)) := by
  subst hp
  exact own_by (fun t q => XS.lstore A hx rfl hd rfl hl q) G
theorem own_lstoreN (A : At T m c below) (hx : p.tables.exec = Jvm.exec) {pc' : Nat} {k : Fin 4} {v : Int64} (l' : Array Slot) (hd : decode c.code pc = .ok (.lstore_n k, 1)) (hl : storeLocals Ls k.val (.long v) = some l') (hp : pc + 1 = pc') (G : own_Go p.tables e below P T (mkF m pc' l' (St))) : own_Go p.tables e below P T (mkF m pc Ls (.long v :: St)) := by
  subst hp
  exact own_by (fun t q => XS.lstoreN A hx rfl hd rfl hl q) G
theorem own_astore (A : At T m c below) (hx : p.tables.exec = Jvm.exec) {pc' : Nat} {k : Nat} {v : Value} (l' : Array Slot) (hd : decode c.code pc = .ok (.astore k, 2)) (hv : v.isRef = true) (hl : storeLocals Ls k v = some l') (hp : pc + 2 = pc') (G : own_Go p.tables e below P T (mkF m pc' l' (St))) : own_Go p.tables e below P T (mkF m pc Ls (v :: St)) := by
  subst hp
  exact own_by (fun t q => XS.astore A hx rfl hd rfl hv hl q) G
theorem own_astoreN (A : At T m c below) (hx : p.tables.exec = Jvm.exec) {pc' : Nat} {k : Fin 4} {v : Value} (l' : Array Slot) (hd : decode c.code pc = .ok (.astore_n k, 1)) (hv : v.isRef = true) (hl : storeLocals Ls k.val v = some l') (hp : pc + 1 = pc') (G : own_Go p.tables e below P T (mkF m pc' l' (St))) : own_Go p.tables e below P T (mkF m pc Ls (v :: St)) := by
  subst hp
  exact own_by (fun t q => XS.astoreN A hx rfl hd rfl hv hl q) G
theorem own_iconst (A : At T m c below) (hx : p.tables.exec = Jvm.exec) {pc' : Nat} {i : Int} {z : Int32} (hd : decode c.code pc = .ok (.iconst i, 1))  (hz : Int32.ofInt i = z) (hp : pc + 1 = pc') (G : own_Go p.tables e below P T (mkF m pc' Ls (.int z :: St))) : own_Go p.tables e below P T (mkF m pc Ls (St)) := by
  subst hz hp
  exact own_by (fun t q => XS.iconst A hx rfl hd  q) G
theorem own_bipush (A : At T m c below) (hx : p.tables.exec = Jvm.exec) {pc' : Nat} {i : Int} {z : Int32} (hd : decode c.code pc = .ok (.bipush i, 2))  (hz : (Int8.ofInt i).toInt32 = z) (hp : pc + 2 = pc') (G : own_Go p.tables e below P T (mkF m pc' Ls (.int z :: St))) : own_Go p.tables e below P T (mkF m pc Ls (St)) := by
  subst hz hp
  exact own_by (fun t q => XS.bipush A hx rfl hd  q) G
theorem own_sipush (A : At T m c below) (hx : p.tables.exec = Jvm.exec) {pc' : Nat} {i : Int} {z : Int32} (hd : decode c.code pc = .ok (.sipush i, 3))  (hz : (Int16.ofInt i).toInt32 = z) (hp : pc + 3 = pc') (G : own_Go p.tables e below P T (mkF m pc' Ls (.int z :: St))) : own_Go p.tables e below P T (mkF m pc Ls (St)) := by
  subst hz hp
  exact own_by (fun t q => XS.sipush A hx rfl hd  q) G
theorem own_lconst (A : At T m c below) (hx : p.tables.exec = Jvm.exec) {pc' : Nat} {k : Fin 2} {z : Int64} (hd : decode c.code pc = .ok (.lconst k, 1))  (hz : Int64.ofNat k = z) (hp : pc + 1 = pc') (G : own_Go p.tables e below P T (mkF m pc' Ls (.long z :: St))) : own_Go p.tables e below P T (mkF m pc Ls (St)) := by
  subst hz hp
  exact own_by (fun t q => XS.lconst A hx rfl hd  q) G
theorem own_null (A : At T m c below) (hx : p.tables.exec = Jvm.exec) {pc' : Nat}  (hd : decode c.code pc = .ok (.aconst_null, 1))  (hp : pc + 1 = pc') (G : own_Go p.tables e below P T (mkF m pc' Ls (.null :: St))) : own_Go p.tables e below P T (mkF m pc Ls (St)) := by
  subst hp
  exact own_by (fun t q => XS.aconstNull A hx rfl hd  q) G
theorem own_iadd (A : At T m c below) (hx : p.tables.exec = Jvm.exec) {pc' : Nat} {x y : Int32} {z : Int32} (hd : decode c.code pc = .ok (.iadd, 1))  (hz : x + y = z) (hp : pc + 1 = pc') (G : own_Go p.tables e below P T (mkF m pc' Ls (.int z :: St))) : own_Go p.tables e below P T (mkF m pc Ls (.int y :: .int x :: St)) := by
  subst hz hp
  exact own_by (fun t q => XS.iadd A hx rfl hd rfl q) G
theorem own_isub (A : At T m c below) (hx : p.tables.exec = Jvm.exec) {pc' : Nat} {x y : Int32} {z : Int32} (hd : decode c.code pc = .ok (.isub, 1))  (hz : x - y = z) (hp : pc + 1 = pc') (G : own_Go p.tables e below P T (mkF m pc' Ls (.int z :: St))) : own_Go p.tables e below P T (mkF m pc Ls (.int y :: .int x :: St)) := by
  subst hz hp
  exact own_by (fun t q => XS.isub A hx rfl hd rfl q) G
theorem own_imul (A : At T m c below) (hx : p.tables.exec = Jvm.exec) {pc' : Nat} {x y : Int32} {z : Int32} (hd : decode c.code pc = .ok (.imul, 1))  (hz : x * y = z) (hp : pc + 1 = pc') (G : own_Go p.tables e below P T (mkF m pc' Ls (.int z :: St))) : own_Go p.tables e below P T (mkF m pc Ls (.int y :: .int x :: St)) := by
  subst hz hp
  exact own_by (fun t q => XS.imul A hx rfl hd rfl q) G
theorem own_iand (A : At T m c below) (hx : p.tables.exec = Jvm.exec) {pc' : Nat} {x y : Int32} {z : Int32} (hd : decode c.code pc = .ok (.iand, 1))  (hz : x &&& y = z) (hp : pc + 1 = pc') (G : own_Go p.tables e below P T (mkF m pc' Ls (.int z :: St))) : own_Go p.tables e below P T (mkF m pc Ls (.int y :: .int x :: St)) := by
  subst hz hp
  exact own_by (fun t q => XS.iand A hx rfl hd rfl q) G
theorem own_ior (A : At T m c below) (hx : p.tables.exec = Jvm.exec) {pc' : Nat} {x y : Int32} {z : Int32} (hd : decode c.code pc = .ok (.ior, 1))  (hz : x ||| y = z) (hp : pc + 1 = pc') (G : own_Go p.tables e below P T (mkF m pc' Ls (.int z :: St))) : own_Go p.tables e below P T (mkF m pc Ls (.int y :: .int x :: St)) := by
  subst hz hp
  exact own_by (fun t q => XS.ior A hx rfl hd rfl q) G
theorem own_ixor (A : At T m c below) (hx : p.tables.exec = Jvm.exec) {pc' : Nat} {x y : Int32} {z : Int32} (hd : decode c.code pc = .ok (.ixor, 1))  (hz : x ^^^ y = z) (hp : pc + 1 = pc') (G : own_Go p.tables e below P T (mkF m pc' Ls (.int z :: St))) : own_Go p.tables e below P T (mkF m pc Ls (.int y :: .int x :: St)) := by
  subst hz hp
  exact own_by (fun t q => XS.ixor A hx rfl hd rfl q) G
theorem own_ishl (A : At T m c below) (hx : p.tables.exec = Jvm.exec) {pc' : Nat} {x y : Int32} {z : Int32} (hd : decode c.code pc = .ok (.ishl, 1))  (hz : x <<< (y &&& 31) = z) (hp : pc + 1 = pc') (G : own_Go p.tables e below P T (mkF m pc' Ls (.int z :: St))) : own_Go p.tables e below P T (mkF m pc Ls (.int y :: .int x :: St)) := by
  subst hz hp
  exact own_by (fun t q => XS.ishl A hx rfl hd rfl q) G
theorem own_ishr (A : At T m c below) (hx : p.tables.exec = Jvm.exec) {pc' : Nat} {x y : Int32} {z : Int32} (hd : decode c.code pc = .ok (.ishr, 1))  (hz : x >>> (y &&& 31) = z) (hp : pc + 1 = pc') (G : own_Go p.tables e below P T (mkF m pc' Ls (.int z :: St))) : own_Go p.tables e below P T (mkF m pc Ls (.int y :: .int x :: St)) := by
  subst hz hp
  exact own_by (fun t q => XS.ishr A hx rfl hd rfl q) G
theorem own_iushr (A : At T m c below) (hx : p.tables.exec = Jvm.exec) {pc' : Nat} {x y : Int32} {z : Int32} (hd : decode c.code pc = .ok (.iushr, 1))  (hz : (x.toUInt32 >>> (y &&& 31).toUInt32).toInt32 = z) (hp : pc + 1 = pc') (G : own_Go p.tables e below P T (mkF m pc' Ls (.int z :: St))) : own_Go p.tables e below P T (mkF m pc Ls (.int y :: .int x :: St)) := by
  subst hz hp
  exact own_by (fun t q => XS.iushr A hx rfl hd rfl q) G
theorem own_idiv (A : At T m c below) (hx : p.tables.exec = Jvm.exec) {pc' : Nat} {x y : Int32} {z : Int32} (hd : decode c.code pc = .ok (.idiv, 1)) (hy : y ≠ 0) (hz : x / y = z) (hp : pc + 1 = pc') (G : own_Go p.tables e below P T (mkF m pc' Ls (.int z :: St))) : own_Go p.tables e below P T (mkF m pc Ls (.int y :: .int x :: St)) := by
  subst hz hp
  exact own_by (fun t q => XS.idiv A hx rfl hd rfl hy q) G
theorem own_ineg (A : At T m c below) (hx : p.tables.exec = Jvm.exec) {pc' : Nat} {x : Int32} {z : Int32} (hd : decode c.code pc = .ok (.ineg, 1))  (hz : -x = z) (hp : pc + 1 = pc') (G : own_Go p.tables e below P T (mkF m pc' Ls (.int z :: St))) : own_Go p.tables e below P T (mkF m pc Ls (.int x :: St)) := by
  subst hz hp
  exact own_by (fun t q => XS.ineg A hx rfl hd rfl q) G
theorem own_i2b (A : At T m c below) (hx : p.tables.exec = Jvm.exec) {pc' : Nat} {x : Int32} {z : Int32} (hd : decode c.code pc = .ok (.i2b, 1))  (hz : x.toInt8.toInt32 = z) (hp : pc + 1 = pc') (G : own_Go p.tables e below P T (mkF m pc' Ls (.int z :: St))) : own_Go p.tables e below P T (mkF m pc Ls (.int x :: St)) := by
  subst hz hp
  exact own_by (fun t q => XS.i2b A hx rfl hd rfl q) G
theorem own_i2c (A : At T m c below) (hx : p.tables.exec = Jvm.exec) {pc' : Nat} {x : Int32} {z : Int32} (hd : decode c.code pc = .ok (.i2c, 1))  (hz : x.toUInt32.toUInt16.toUInt32.toInt32 = z) (hp : pc + 1 = pc') (G : own_Go p.tables e below P T (mkF m pc' Ls (.int z :: St))) : own_Go p.tables e below P T (mkF m pc Ls (.int x :: St)) := by
  subst hz hp
  exact own_by (fun t q => XS.i2c A hx rfl hd rfl q) G
theorem own_i2s (A : At T m c below) (hx : p.tables.exec = Jvm.exec) {pc' : Nat} {x : Int32} {z : Int32} (hd : decode c.code pc = .ok (.i2s, 1))  (hz : x.toInt16.toInt32 = z) (hp : pc + 1 = pc') (G : own_Go p.tables e below P T (mkF m pc' Ls (.int z :: St))) : own_Go p.tables e below P T (mkF m pc Ls (.int x :: St)) := by
  subst hz hp
  exact own_by (fun t q => XS.i2s A hx rfl hd rfl q) G
theorem own_i2l (A : At T m c below) (hx : p.tables.exec = Jvm.exec) {pc' : Nat} {x : Int32} {z : Int64} (hd : decode c.code pc = .ok (.i2l, 1))  (hz : x.toInt64 = z) (hp : pc + 1 = pc') (G : own_Go p.tables e below P T (mkF m pc' Ls (.long z :: St))) : own_Go p.tables e below P T (mkF m pc Ls (.int x :: St)) := by
  subst hz hp
  exact own_by (fun t q => XS.i2l A hx rfl hd rfl q) G
theorem own_l2i (A : At T m c below) (hx : p.tables.exec = Jvm.exec) {pc' : Nat} {x : Int64} {z : Int32} (hd : decode c.code pc = .ok (.l2i, 1))  (hz : x.toInt32 = z) (hp : pc + 1 = pc') (G : own_Go p.tables e below P T (mkF m pc' Ls (.int z :: St))) : own_Go p.tables e below P T (mkF m pc Ls (.long x :: St)) := by
  subst hz hp
  exact own_by (fun t q => XS.l2i A hx rfl hd rfl q) G
theorem own_ladd (A : At T m c below) (hx : p.tables.exec = Jvm.exec) {pc' : Nat} {x y : Int64} {z : Int64} (hd : decode c.code pc = .ok (.ladd, 1))  (hz : x + y = z) (hp : pc + 1 = pc') (G : own_Go p.tables e below P T (mkF m pc' Ls (.long z :: St))) : own_Go p.tables e below P T (mkF m pc Ls (.long y :: .long x :: St)) := by
  subst hz hp
  exact own_by (fun t q => XS.ladd A hx rfl hd rfl q) G
theorem own_lsub (A : At T m c below) (hx : p.tables.exec = Jvm.exec) {pc' : Nat} {x y : Int64} {z : Int64} (hd : decode c.code pc = .ok (.lsub, 1))  (hz : x - y = z) (hp : pc + 1 = pc') (G : own_Go p.tables e below P T (mkF m pc' Ls (.long z :: St))) : own_Go p.tables e below P T (mkF m pc Ls (.long y :: .long x :: St)) := by
  subst hz hp
  exact own_by (fun t q => XS.lsub A hx rfl hd rfl q) G
theorem own_lmul (A : At T m c below) (hx : p.tables.exec = Jvm.exec) {pc' : Nat} {x y : Int64} {z : Int64} (hd : decode c.code pc = .ok (.lmul, 1))  (hz : x * y = z) (hp : pc + 1 = pc') (G : own_Go p.tables e below P T (mkF m pc' Ls (.long z :: St))) : own_Go p.tables e below P T (mkF m pc Ls (.long y :: .long x :: St)) := by
  subst hz hp
  exact own_by (fun t q => XS.lmul A hx rfl hd rfl q) G
theorem own_land (A : At T m c below) (hx : p.tables.exec = Jvm.exec) {pc' : Nat} {x y : Int64} {z : Int64} (hd : decode c.code pc = .ok (.land, 1))  (hz : x &&& y = z) (hp : pc + 1 = pc') (G : own_Go p.tables e below P T (mkF m pc' Ls (.long z :: St))) : own_Go p.tables e below P T (mkF m pc Ls (.long y :: .long x :: St)) := by
  subst hz hp
  exact own_by (fun t q => XS.land A hx rfl hd rfl q) G
theorem own_lor (A : At T m c below) (hx : p.tables.exec = Jvm.exec) {pc' : Nat} {x y : Int64} {z : Int64} (hd : decode c.code pc = .ok (.lor, 1))  (hz : x ||| y = z) (hp : pc + 1 = pc') (G : own_Go p.tables e below P T (mkF m pc' Ls (.long z :: St))) : own_Go p.tables e below P T (mkF m pc Ls (.long y :: .long x :: St)) := by
  subst hz hp
  exact own_by (fun t q => XS.lor A hx rfl hd rfl q) G
theorem own_lxor (A : At T m c below) (hx : p.tables.exec = Jvm.exec) {pc' : Nat} {x y : Int64} {z : Int64} (hd : decode c.code pc = .ok (.lxor, 1))  (hz : x ^^^ y = z) (hp : pc + 1 = pc') (G : own_Go p.tables e below P T (mkF m pc' Ls (.long z :: St))) : own_Go p.tables e below P T (mkF m pc Ls (.long y :: .long x :: St)) := by
  subst hz hp
  exact own_by (fun t q => XS.lxor A hx rfl hd rfl q) G
theorem own_lshl (A : At T m c below) (hx : p.tables.exec = Jvm.exec) {pc' : Nat} {x : Int64} {y : Int32} {z : Int64} (hd : decode c.code pc = .ok (.lshl, 1))  (hz : x <<< (y &&& 0x3f).toInt64 = z) (hp : pc + 1 = pc') (G : own_Go p.tables e below P T (mkF m pc' Ls (.long z :: St))) : own_Go p.tables e below P T (mkF m pc Ls (.int y :: .long x :: St)) := by
  subst hz hp
  exact own_by (fun t q => XS.lshl A hx rfl hd rfl q) G
theorem own_lshr (A : At T m c below) (hx : p.tables.exec = Jvm.exec) {pc' : Nat} {x : Int64} {y : Int32} {z : Int64} (hd : decode c.code pc = .ok (.lshr, 1))  (hz : x >>> (y &&& 0x3f).toInt64 = z) (hp : pc + 1 = pc') (G : own_Go p.tables e below P T (mkF m pc' Ls (.long z :: St))) : own_Go p.tables e below P T (mkF m pc Ls (.int y :: .long x :: St)) := by
  subst hz hp
  exact own_by (fun t q => XS.lshr A hx rfl hd rfl q) G
theorem own_lushr (A : At T m c below) (hx : p.tables.exec = Jvm.exec) {pc' : Nat} {x : Int64} {y : Int32} {z : Int64} (hd : decode c.code pc = .ok (.lushr, 1))  (hz : (x.toUInt64 >>> (y &&& 0x3f).toInt64.toUInt64).toInt64 = z) (hp : pc + 1 = pc') (G : own_Go p.tables e below P T (mkF m pc' Ls (.long z :: St))) : own_Go p.tables e below P T (mkF m pc Ls (.int y :: .long x :: St)) := by
  subst hz hp
  exact own_by (fun t q => XS.lushr A hx rfl hd rfl q) G
theorem own_lcmp (A : At T m c below) (hx : p.tables.exec = Jvm.exec) {pc' : Nat} {x y : Int64} {z : Int32} (hd : decode c.code pc = .ok (.lcmp, 1))  (hz : lcmpW x y = z) (hp : pc + 1 = pc') (G : own_Go p.tables e below P T (mkF m pc' Ls (.int z :: St))) : own_Go p.tables e below P T (mkF m pc Ls (.long y :: .long x :: St)) := by
  subst hz hp
  exact own_by (fun t q => XS.lcmp A hx rfl hd rfl q) G
theorem own_iinc (A : At T m c below) (hx : p.tables.exec = Jvm.exec) {pc' : Nat} {k : Nat} {cst : Int} {x : Int32} (l' : Array Slot) (hd : decode c.code pc = .ok (.iinc k cst, 3)) (hl : Ls[k]? = some (.val (.int x))) (hl' : storeLocals Ls k (.int (x + Int32.ofInt cst)) = some l') (hp : pc + 3 = pc') (G : own_Go p.tables e below P T (mkF m pc' l' (St))) : own_Go p.tables e below P T (mkF m pc Ls (St)) := by
  subst hp
  exact own_by (fun t q => XS.iinc A hx rfl hd hl hl' q) G
theorem own_dup (A : At T m c below) (hx : p.tables.exec = Jvm.exec) {pc' : Nat} {v : Value} (hd : decode c.code pc = .ok (.dup, 1)) (hv : v.category = 1) (hp : pc + 1 = pc') (G : own_Go p.tables e below P T (mkF m pc' Ls (v :: v :: St))) : own_Go p.tables e below P T (mkF m pc Ls (v :: St)) := by
  subst hp
  exact own_by (fun t q => XS.dup A hx rfl hd rfl hv q) G
theorem own_pop (A : At T m c below) (hx : p.tables.exec = Jvm.exec) {pc' : Nat} {v : Value} (hd : decode c.code pc = .ok (.pop, 1)) (hv : v.category = 1) (hp : pc + 1 = pc') (G : own_Go p.tables e below P T (mkF m pc' Ls (St))) : own_Go p.tables e below P T (mkF m pc Ls (v :: St)) := by
  subst hp
  exact own_by (fun t q => XS.pop A hx rfl hd rfl hv q) G
theorem own_dupX1 (A : At T m c below) (hx : p.tables.exec = Jvm.exec) {pc' : Nat} {v u : Value} (hd : decode c.code pc = .ok (.dup_x1, 1)) (hv : v.category = 1) (hu : u.category = 1) (hp : pc + 1 = pc') (G : own_Go p.tables e below P T (mkF m pc' Ls (v :: u :: v :: St))) : own_Go p.tables e below P T (mkF m pc Ls (v :: u :: St)) := by
  subst hp
  exact own_by (fun t q => XS.dupX1 A hx rfl hd rfl hv hu q) G
theorem own_goto (A : At T m c below) (hx : p.tables.exec = Jvm.exec) {o : Int} (pc' : Nat) (hd : decode c.code pc = .ok (.goto o, 3)) (ho : 0 ≤ (pc : Int) + o) (hp : ((pc : Int) + o).toNat = pc') (G : own_Go p.tables e below P T (mkF m pc' Ls St)) : own_Go p.tables e below P T (mkF m pc Ls St) :=
  own_by (fun t q => XS.goto A hx rfl rfl hd ho hp q) G
theorem own_icmp_eq (A : At T m c below) (hx : p.tables.exec = Jvm.exec) {o : Int} {x y : Int32} (pcY pcN : Nat) (hd : decode c.code pc = .ok (.if_icmp .eq o, 3)) (ho : 0 ≤ (pc : Int) + o) (hY : ((pc : Int) + o).toNat = pcY) (hN : pc + 3 = pcN) (GY : x = y → own_Go p.tables e below P T (mkF m pcY Ls St)) (GN : ¬ x = y → own_Go p.tables e below P T (mkF m pcN Ls St)) : own_Go p.tables e below P T (mkF m pc Ls (.int y :: .int x :: St)) := by
  by_cases q : x = y
  · exact own_by (fun t k => XS.icmpYes A hx rfl rfl hd rfl (teq q).1 ho hY k) (GY q)
  · have q : ¬ x = y := q
    subst hN
    exact own_by (fun t k => XS.icmpNo A hx rfl hd rfl (feq q).1 k) (GN q)
theorem own_if_eq (A : At T m c below) (hx : p.tables.exec = Jvm.exec) {o : Int} {x : Int32} (pcY pcN : Nat) (hd : decode c.code pc = .ok (.ifCond .eq o, 3)) (ho : 0 ≤ (pc : Int) + o) (hY : ((pc : Int) + o).toNat = pcY) (hN : pc + 3 = pcN) (GY : x = 0 → own_Go p.tables e below P T (mkF m pcY Ls St)) (GN : ¬ x = 0 → own_Go p.tables e below P T (mkF m pcN Ls St)) : own_Go p.tables e below P T (mkF m pc Ls (.int x :: St)) := by
  by_cases q : x = 0
  · exact own_by (fun t k => XS.ifYes A hx rfl rfl hd rfl ((if0 _ _).trans (teq q).1) ho hY k) (GY q)
  · have q : ¬ x = 0 := q
    subst hN
    exact own_by (fun t k => XS.ifNo A hx rfl hd rfl ((if0 _ _).trans (feq q).1) k) (GN q)
theorem own_icmp_ne (A : At T m c below) (hx : p.tables.exec = Jvm.exec) {o : Int} {x y : Int32} (pcY pcN : Nat) (hd : decode c.code pc = .ok (.if_icmp .ne o, 3)) (ho : 0 ≤ (pc : Int) + o) (hY : ((pc : Int) + o).toNat = pcY) (hN : pc + 3 = pcN) (GY : ¬ x = y → own_Go p.tables e below P T (mkF m pcY Ls St)) (GN : x = y → own_Go p.tables e below P T (mkF m pcN Ls St)) : own_Go p.tables e below P T (mkF m pc Ls (.int y :: .int x :: St)) := by
  by_cases q : ¬ x = y
  · exact own_by (fun t k => XS.icmpYes A hx rfl rfl hd rfl (feq q).2 ho hY k) (GY q)
  · have q : x = y := Classical.not_not.mp q
    subst hN
    exact own_by (fun t k => XS.icmpNo A hx rfl hd rfl (teq q).2 k) (GN q)
theorem own_if_ne (A : At T m c below) (hx : p.tables.exec = Jvm.exec) {o : Int} {x : Int32} (pcY pcN : Nat) (hd : decode c.code pc = .ok (.ifCond .ne o, 3)) (ho : 0 ≤ (pc : Int) + o) (hY : ((pc : Int) + o).toNat = pcY) (hN : pc + 3 = pcN) (GY : ¬ x = 0 → own_Go p.tables e below P T (mkF m pcY Ls St)) (GN : x = 0 → own_Go p.tables e below P T (mkF m pcN Ls St)) : own_Go p.tables e below P T (mkF m pc Ls (.int x :: St)) := by
  by_cases q : ¬ x = 0
  · exact own_by (fun t k => XS.ifYes A hx rfl rfl hd rfl ((if0 _ _).trans (feq q).2) ho hY k) (GY q)
  · have q : x = 0 := Classical.not_not.mp q
    subst hN
    exact own_by (fun t k => XS.ifNo A hx rfl hd rfl ((if0 _ _).trans (teq q).2) k) (GN q)
theorem own_icmp_lt (A : At T m c below) (hx : p.tables.exec = Jvm.exec) {o : Int} {x y : Int32} (pcY pcN : Nat) (hd : decode c.code pc = .ok (.if_icmp .lt o, 3)) (ho : 0 ≤ (pc : Int) + o) (hY : ((pc : Int) + o).toNat = pcY) (hN : pc + 3 = pcN) (GY : x < y → own_Go p.tables e below P T (mkF m pcY Ls St)) (GN : ¬ x < y → own_Go p.tables e below P T (mkF m pcN Ls St)) : own_Go p.tables e below P T (mkF m pc Ls (.int y :: .int x :: St)) := by
  by_cases q : x < y
  · exact own_by (fun t k => XS.icmpYes A hx rfl rfl hd rfl (tlt q).1 ho hY k) (GY q)
  · have q : ¬ x < y := q
    subst hN
    exact own_by (fun t k => XS.icmpNo A hx rfl hd rfl (flt q).1 k) (GN q)
theorem own_if_lt (A : At T m c below) (hx : p.tables.exec = Jvm.exec) {o : Int} {x : Int32} (pcY pcN : Nat) (hd : decode c.code pc = .ok (.ifCond .lt o, 3)) (ho : 0 ≤ (pc : Int) + o) (hY : ((pc : Int) + o).toNat = pcY) (hN : pc + 3 = pcN) (GY : x < 0 → own_Go p.tables e below P T (mkF m pcY Ls St)) (GN : ¬ x < 0 → own_Go p.tables e below P T (mkF m pcN Ls St)) : own_Go p.tables e below P T (mkF m pc Ls (.int x :: St)) := by
  by_cases q : x < 0
  · exact own_by (fun t k => XS.ifYes A hx rfl rfl hd rfl ((if0 _ _).trans (tlt q).1) ho hY k) (GY q)
  · have q : ¬ x < 0 := q
    subst hN
    exact own_by (fun t k => XS.ifNo A hx rfl hd rfl ((if0 _ _).trans (flt q).1) k) (GN q)
theorem own_icmp_ge (A : At T m c below) (hx : p.tables.exec = Jvm.exec) {o : Int} {x y : Int32} (pcY pcN : Nat) (hd : decode c.code pc = .ok (.if_icmp .ge o, 3)) (ho : 0 ≤ (pc : Int) + o) (hY : ((pc : Int) + o).toNat = pcY) (hN : pc + 3 = pcN) (GY : ¬ x < y → own_Go p.tables e below P T (mkF m pcY Ls St)) (GN : x < y → own_Go p.tables e below P T (mkF m pcN Ls St)) : own_Go p.tables e below P T (mkF m pc Ls (.int y :: .int x :: St)) := by
  by_cases q : ¬ x < y
  · exact own_by (fun t k => XS.icmpYes A hx rfl rfl hd rfl (flt q).2.1 ho hY k) (GY q)
  · have q : x < y := Classical.not_not.mp q
    subst hN
    exact own_by (fun t k => XS.icmpNo A hx rfl hd rfl (tlt q).2.1 k) (GN q)
theorem own_if_ge (A : At T m c below) (hx : p.tables.exec = Jvm.exec) {o : Int} {x : Int32} (pcY pcN : Nat) (hd : decode c.code pc = .ok (.ifCond .ge o, 3)) (ho : 0 ≤ (pc : Int) + o) (hY : ((pc : Int) + o).toNat = pcY) (hN : pc + 3 = pcN) (GY : ¬ x < 0 → own_Go p.tables e below P T (mkF m pcY Ls St)) (GN : x < 0 → own_Go p.tables e below P T (mkF m pcN Ls St)) : own_Go p.tables e below P T (mkF m pc Ls (.int x :: St)) := by
  by_cases q : ¬ x < 0
  · exact own_by (fun t k => XS.ifYes A hx rfl rfl hd rfl ((if0 _ _).trans (flt q).2.1) ho hY k) (GY q)
  · have q : x < 0 := Classical.not_not.mp q
    subst hN
    exact own_by (fun t k => XS.ifNo A hx rfl hd rfl ((if0 _ _).trans (tlt q).2.1) k) (GN q)
theorem own_icmp_gt (A : At T m c below) (hx : p.tables.exec = Jvm.exec) {o : Int} {x y : Int32} (pcY pcN : Nat) (hd : decode c.code pc = .ok (.if_icmp .gt o, 3)) (ho : 0 ≤ (pc : Int) + o) (hY : ((pc : Int) + o).toNat = pcY) (hN : pc + 3 = pcN) (GY : y < x → own_Go p.tables e below P T (mkF m pcY Ls St)) (GN : ¬ y < x → own_Go p.tables e below P T (mkF m pcN Ls St)) : own_Go p.tables e below P T (mkF m pc Ls (.int y :: .int x :: St)) := by
  by_cases q : y < x
  · exact own_by (fun t k => XS.icmpYes A hx rfl rfl hd rfl (tlt q).2.2.1 ho hY k) (GY q)
  · have q : ¬ y < x := q
    subst hN
    exact own_by (fun t k => XS.icmpNo A hx rfl hd rfl (flt q).2.2.1 k) (GN q)
theorem own_if_gt (A : At T m c below) (hx : p.tables.exec = Jvm.exec) {o : Int} {x : Int32} (pcY pcN : Nat) (hd : decode c.code pc = .ok (.ifCond .gt o, 3)) (ho : 0 ≤ (pc : Int) + o) (hY : ((pc : Int) + o).toNat = pcY) (hN : pc + 3 = pcN) (GY : 0 < x → own_Go p.tables e below P T (mkF m pcY Ls St)) (GN : ¬ 0 < x → own_Go p.tables e below P T (mkF m pcN Ls St)) : own_Go p.tables e below P T (mkF m pc Ls (.int x :: St)) := by
  by_cases q : 0 < x
  · exact own_by (fun t k => XS.ifYes A hx rfl rfl hd rfl ((if0 _ _).trans (tlt q).2.2.1) ho hY k) (GY q)
  · have q : ¬ 0 < x := q
    subst hN
    exact own_by (fun t k => XS.ifNo A hx rfl hd rfl ((if0 _ _).trans (flt q).2.2.1) k) (GN q)
theorem own_icmp_le (A : At T m c below) (hx : p.tables.exec = Jvm.exec) {o : Int} {x y : Int32} (pcY pcN : Nat) (hd : decode c.code pc = .ok (.if_icmp .le o, 3)) (ho : 0 ≤ (pc : Int) + o) (hY : ((pc : Int) + o).toNat = pcY) (hN : pc + 3 = pcN) (GY : ¬ y < x → own_Go p.tables e below P T (mkF m pcY Ls St)) (GN : y < x → own_Go p.tables e below P T (mkF m pcN Ls St)) : own_Go p.tables e below P T (mkF m pc Ls (.int y :: .int x :: St)) := by
  by_cases q : ¬ y < x
  · exact own_by (fun t k => XS.icmpYes A hx rfl rfl hd rfl (flt q).2.2.2 ho hY k) (GY q)
  · have q : y < x := Classical.not_not.mp q
    subst hN
    exact own_by (fun t k => XS.icmpNo A hx rfl hd rfl (tlt q).2.2.2 k) (GN q)
theorem own_if_le (A : At T m c below) (hx : p.tables.exec = Jvm.exec) {o : Int} {x : Int32} (pcY pcN : Nat) (hd : decode c.code pc = .ok (.ifCond .le o, 3)) (ho : 0 ≤ (pc : Int) + o) (hY : ((pc : Int) + o).toNat = pcY) (hN : pc + 3 = pcN) (GY : ¬ 0 < x → own_Go p.tables e below P T (mkF m pcY Ls St)) (GN : 0 < x → own_Go p.tables e below P T (mkF m pcN Ls St)) : own_Go p.tables e below P T (mkF m pc Ls (.int x :: St)) := by
  by_cases q : ¬ 0 < x
  · exact own_by (fun t k => XS.ifYes A hx rfl rfl hd rfl ((if0 _ _).trans (flt q).2.2.2) ho hY k) (GY q)
  · have q : 0 < x := Classical.not_not.mp q
    subst hN
    exact own_by (fun t k => XS.ifNo A hx rfl hd rfl ((if0 _ _).trans (tlt q).2.2.2) k) (GN q)
theorem own_ifnull_t (A : At T m c below) (hx : p.tables.exec = Jvm.exec) {o : Int} (pcY : Nat) (hd : decode c.code pc = .ok (.ifnull o, 3)) (ho : 0 ≤ (pc : Int) + o) (hY : ((pc : Int) + o).toNat = pcY) (G : own_Go p.tables e below P T (mkF m pcY Ls St)) : own_Go p.tables e below P T (mkF m pc Ls (.null :: St)) := own_by (fun t k => XS.ifnullYes A hx rfl rfl hd rfl ho hY k) G
theorem own_ifnull_f (A : At T m c below) (hx : p.tables.exec = Jvm.exec) {o : Int} {b : Addr} (pcN : Nat) (hd : decode c.code pc = .ok (.ifnull o, 3)) (hN : pc + 3 = pcN) (G : own_Go p.tables e below P T (mkF m pcN Ls St)) : own_Go p.tables e below P T (mkF m pc Ls (.ref b :: St)) := by subst hN; exact own_by (fun t k => XS.ifnullNo A hx rfl hd rfl k) G
theorem own_ifnonnull_t (A : At T m c below) (hx : p.tables.exec = Jvm.exec) {o : Int} {b : Addr} (pcY : Nat) (hd : decode c.code pc = .ok (.ifnonnull o, 3)) (ho : 0 ≤ (pc : Int) + o) (hY : ((pc : Int) + o).toNat = pcY) (G : own_Go p.tables e below P T (mkF m pcY Ls St)) : own_Go p.tables e below P T (mkF m pc Ls (.ref b :: St)) := own_by (fun t k => XS.ifnonnullYes A hx rfl rfl hd rfl ho hY k) G
theorem own_ifnonnull_f (A : At T m c below) (hx : p.tables.exec = Jvm.exec) {o : Int} (pcN : Nat) (hd : decode c.code pc = .ok (.ifnonnull o, 3)) (hN : pc + 3 = pcN) (G : own_Go p.tables e below P T (mkF m pcN Ls St)) : own_Go p.tables e below P T (mkF m pc Ls (.null :: St)) := by subst hN; exact own_by (fun t k => XS.ifnonnullNo A hx rfl hd rfl k) G
end OwnSteps
/-! OWN KIT, steps on the heap -/
section OwnHeap
variable {p : Program} {l : Launch} {e : Env} {R : Room} {s : State} {m : MethodId} {args : Array Value} {below : List Frame} {meth : Method} {c : Code} {T : State} {cells slots : Nat} {Z : State} {a0 : Array Value} {h h0 : Heap} {w kf : Bool} {EL : List (String × Nat)} {own : String} {ws fs : List Addr} {P : Outcome → State → Prop} {pc pc' : Nat} {Ls : Array Slot} {St : List Value} {index : Nat}
theorem own_new {C : String} {n : Nat} (K : own_S w kf EL p l e R s m args below meth c Z a0 own h0 ws T h fs cells slots) (hx : p.tables.exec = Jvm.exec) (w1 : (Cond.classLink own index C).before a0 Z = true) (wi : (Cond.instantiable C n).before a0 Z = true) (wz : (Cond.initialized C).before a0 Z = true)
    (hd : decode c.code pc = .ok (.new index, 3)) (hp : pc + 3 = pc') (hc : cells + 1 ≤ R.cells) (hl : slots + n ≤ R.slots)
    (G : ∀ (T' : State) (h' : Heap) (a : Addr), a = h.size → own_S w kf EL p l e R s m args below meth c Z a0 own h0 ws T' h' (a :: fs) (cells + 1) (slots + n) → Ext h h' → Exa Z h' a C → (∀ {O nm d : String} {ty : FieldType}, Laid Z a0 C O nm d → parseFieldDescriptor d = some ty → Fld Z h' a O nm d (defaultValue ty)) → Unt h' a →
      own_Go p.tables e below P T' (mkF m pc' Ls (.ref a :: St))) : own_Go p.tables e below P T (mkF m pc Ls St) := by
  subst hp
  obtain ⟨vm0, locs, k0, X, eT, I⟩ := K
  obtain ⟨T', h', X', e', E, F, D, N, st⟩ := newO X hx I.1 I.2.1 w1 wi wz eT (g := mkF m pc Ls St) rfl hd hc hl
  exact own_by st (G T' h' _ rfl ⟨vm0, locs, k0, X', e', I.grow E F.lt⟩ E F D N)
theorem own_newarr {aty : ArrayType} {n : Int32} (K : own_S w kf EL p l e R s m args below meth c Z a0 own h0 ws T h fs cells slots) (hx : p.tables.exec = Jvm.exec) (w1 : (Cond.arrayClass (newarray.typeOf aty)).before a0 Z = true)
    (hd : decode c.code pc = .ok (.newarray aty, 2)) (hp : pc + 2 = pc') (hn : ¬ n < 0) (cap : Nat) (hcap : n.toNatClampNeg ≤ cap) (hb : cap * 8 ≤ 536870912) (hc : cells + 1 ≤ R.cells) (hl : slots + cap ≤ R.slots)
    (G : ∀ (T' : State) (h' : Heap) (a : Addr) (k : ClassId), a = h.size → own_S w kf EL p l e R s m args below meth c Z a0 own h0 ws T' h' (a :: fs) (cells + 1) (slots + cap) → Ext h h' → Arv Z h' a k (newarray.typeOf aty) n [] (defaultValue (newarray.typeOf aty)) →
      own_Go p.tables e below P T' (mkF m pc' Ls (.ref a :: St))) : own_Go p.tables e below P T (mkF m pc Ls (.int n :: St)) := by
  subst hp
  obtain ⟨vm0, locs, k0, X, eT, I⟩ := K
  obtain ⟨T', h', k, X', e', E, F, st⟩ := newP X hx I.1 w1 eT (g := mkF m pc Ls (.int n :: St)) rfl hd rfl hn hcap hb hc hl
  exact own_by st (G T' h' _ k rfl ⟨vm0, locs, k0, X', e', I.grow E F.lt⟩ E (Arv.new F hn))
theorem own_newref {C : String} {n : Int32} (K : own_S w kf EL p l e R s m args below meth c Z a0 own h0 ws T h fs cells slots) (hx : p.tables.exec = Jvm.exec) (w1 : (Cond.classLink own index C).before a0 Z = true) (w2 : (Cond.arrayOver (.object C)).before a0 Z = true)
    (hd : decode c.code pc = .ok (.anewarray index, 3)) (hp : pc + 3 = pc') (hn : ¬ n < 0) (cap : Nat) (hcap : n.toNatClampNeg ≤ cap) (hb : cap * 8 ≤ 536870912) (hc : cells + 1 ≤ R.cells) (hl : slots + cap ≤ R.slots)
    (G : ∀ (T' : State) (h' : Heap) (a : Addr) (k : ClassId), a = h.size → own_S w kf EL p l e R s m args below meth c Z a0 own h0 ws T' h' (a :: fs) (cells + 1) (slots + cap) → Ext h h' → Arv Z h' a k (.object C) n [] .null → Ovr Z k C →
      own_Go p.tables e below P T' (mkF m pc' Ls (.ref a :: St))) : own_Go p.tables e below P T (mkF m pc Ls (.int n :: St)) := by
  subst hp
  obtain ⟨vm0, locs, k0, X, eT, I⟩ := K
  obtain ⟨T', h', k, X', e', E, F, O, st⟩ := newR X hx I.1 I.2.1 w1 w2 eT (g := mkF m pc Ls (.int n :: St)) rfl hd rfl hn hcap hb hc hl
  exact own_by st (G T' h' _ k rfl ⟨vm0, locs, k0, X', e', I.grow E F.lt⟩ E (Arv.new F hn) O)
/-- a place of a cell that the walk may write is written -/
theorem own_wrote {vm0 : Vm} {locs : List Loc} {k0 : Nat} {T' : State} {h' : Heap} {a : Addr} {sl : Nat} {v : Value} (I : own_I w kf EL s m below Z a0 own h0 ws h fs vm0 locs k0) (X' : Stand p l e R (s.setVm vm0) m args below meth c T' (locs ++ [⟨a, sl⟩]) cells slots) (e' : T'.heap = h') (W : Wr h h' a sl v) (ha : a ∈ fs) :
    own_S w kf EL p l e R s m args below meth c Z a0 own h0 ws T' h' fs cells slots :=
  ⟨vm0, _, k0, X', e', I.keep (Keep.of_wr W) (fun x hx => by cases List.mem_singleton.mp hx; exact ha) (fun y hy => by cases List.mem_singleton.mp hy; obtain ⟨-, -, -, -, -, -, -, -, -, -, -, -, h12⟩ := I; exact (h12 a ha).2.1)⟩
theorem own_putF {R0 O n d C host : String} {kk : Nat} {ty : FieldType} {a : Addr} {v old : Value} (K : own_S w kf EL p l e R s m args below meth c Z a0 own h0 ws T h fs cells slots) (hx : p.tables.exec = Jvm.exec)
    (w1 : (Cond.fieldLink own index R0 n d).before a0 Z = true ∨ (Cond.fieldLinkNest own index R0 n d host).before a0 Z = true) (via : Via Z R0 O n d) (F : Fld Z h a O n d old) (E : Exa Z h a C) (L : (Cond.lays C O n d).before a0 Z = true ∨ ((Cond.laysFinal C O n d).before a0 Z = true ∧ own = O ∧ meth.name = "<init>")) (wi : (Cond.instantiable C kk).before a0 Z = true)
    (hty : parseFieldDescriptor d = some ty) (hn : narrow ty v = v) (hf : fits ty v = true) (ha : a ∈ fs) (hd : decode c.code pc = .ok (.putfield index, 3)) (hp : pc + 3 = pc')
    (G : ∀ (T' : State) (h' : Heap), own_S w kf EL p l e R s m args below meth c Z a0 own h0 ws T' h' fs cells slots → Wr h h' a (Jvm.RoadKit.slotOf Z O n d) v → own_Go p.tables e below P T' (mkF m pc' Ls St)) : own_Go p.tables e below P T (mkF m pc Ls (v :: .ref a :: St)) := by
  subst hp
  obtain ⟨vm0, locs, k0, X, eT, I⟩ := K
  obtain ⟨T', h', X', e', W, st⟩ := putF X hx I.1 I.2.1 w1 via eT F E L wi hty hn hf (g := mkF m pc Ls (v :: .ref a :: St)) rfl rfl hd
  exact own_by st (G T' h' (own_wrote I X' e' W ha) W)
theorem own_getF {R0 O n d host : String} {a : Addr} {v : Value} (K : own_S w kf EL p l e R s m args below meth c Z a0 own h0 ws T h fs cells slots) (hx : p.tables.exec = Jvm.exec)
    (w1 : (Cond.fieldLink own index R0 n d).before a0 Z = true ∨ (Cond.fieldLinkNest own index R0 n d host).before a0 Z = true) (via : Via Z R0 O n d) (F : Fld Z h a O n d v) (hd : decode c.code pc = .ok (.getfield index, 3)) (hp : pc + 3 = pc')
    (G : ∀ T' : State, own_S w kf EL p l e R s m args below meth c Z a0 own h0 ws T' h fs cells slots → own_Go p.tables e below P T' (mkF m pc' Ls (v :: St))) : own_Go p.tables e below P T (mkF m pc Ls (.ref a :: St)) := by
  subst hp
  obtain ⟨vm0, locs, k0, X, eT, I⟩ := K
  obtain ⟨T', X', e', st⟩ := getF X hx I.1 I.2.1 w1 via eT F (g := mkF m pc Ls (.ref a :: St)) rfl rfl hd
  exact own_by st (G T' ⟨vm0, locs, k0, X', e', I⟩)
theorem own_getS {R0 O n d host : String} {v : Value} (K : own_S w kf EL p l e R s m args below meth c Z a0 own h0 ws T h fs cells slots) (hx : p.tables.exec = Jvm.exec)
    (w1 : (Cond.fieldLink own index R0 n d).before a0 Z = true ∨ (Cond.fieldLinkNest own index R0 n d host).before a0 Z = true) (via : Via Z R0 O n d) (F : Sta Z Z.heap O n d v) (hd : decode c.code pc = .ok (.getstatic index, 3)) (hp : pc + 3 = pc')
    (G : ∀ T' : State, own_S w kf EL p l e R s m args below meth c Z a0 own h0 ws T' h fs cells slots → own_Go p.tables e below P T' (mkF m pc' Ls (v :: St))) : own_Go p.tables e below P T (mkF m pc Ls St) := by
  subst hp
  have F' := own_sta K F
  obtain ⟨vm0, locs, k0, X, eT, I⟩ := K
  obtain ⟨T', X', e', st⟩ := getS2 X hx I.1 I.2.1 w1 via eT F' (g := mkF m pc Ls St) rfl hd
  exact own_by st (G T' ⟨vm0, locs, k0, X', e', I⟩)
theorem own_cast {C : String} {a : Addr} (K : own_S w kf EL p l e R s m args below meth c Z a0 own h0 ws T h fs cells slots) (hx : p.tables.exec = Jvm.exec) (w1 : (Cond.classLink own index C).before a0 Z = true) (F : Ins Z h a C true) (hd : decode c.code pc = .ok (.checkcast index, 3)) (hp : pc + 3 = pc')
    (G : ∀ T' : State, own_S w kf EL p l e R s m args below meth c Z a0 own h0 ws T' h fs cells slots → own_Go p.tables e below P T' (mkF m pc' Ls (.ref a :: St))) : own_Go p.tables e below P T (mkF m pc Ls (.ref a :: St)) := by
  subst hp
  obtain ⟨vm0, locs, k0, X, eT, I⟩ := K
  obtain ⟨T', X', e', st⟩ := castY X hx I.1 I.2.1 w1 eT F (g := mkF m pc Ls (.ref a :: St)) rfl rfl hd
  exact own_by st (G T' ⟨vm0, locs, k0, X', e', I⟩)
theorem own_instY {C : String} {a : Addr} (K : own_S w kf EL p l e R s m args below meth c Z a0 own h0 ws T h fs cells slots) (hx : p.tables.exec = Jvm.exec) (w1 : (Cond.classLink own index C).before a0 Z = true) (F : Ins Z h a C true) (hd : decode c.code pc = .ok (.instanceof index, 3)) (hp : pc + 3 = pc')
    (G : ∀ T' : State, own_S w kf EL p l e R s m args below meth c Z a0 own h0 ws T' h fs cells slots → own_Go p.tables e below P T' (mkF m pc' Ls (.int 1 :: St))) : own_Go p.tables e below P T (mkF m pc Ls (.ref a :: St)) := by
  subst hp
  obtain ⟨vm0, locs, k0, X, eT, I⟩ := K
  obtain ⟨T', X', e', st⟩ := instY X hx I.1 I.2.1 w1 eT F (g := mkF m pc Ls (.ref a :: St)) rfl rfl hd
  exact own_by st (G T' ⟨vm0, locs, k0, X', e', I⟩)
/-- Object.<init> -/
theorem own_initO {a : Addr} (K : own_S w kf EL p l e R s m args below meth c Z a0 own h0 ws T h fs cells slots) (hx : p.tables.exec = Jvm.exec) (w1 : (Cond.methodLink own index Lib.objectInit).before a0 Z = true) (w2 : (Cond.instanceMethod Lib.objectInit).before a0 Z = true) (w3 : (Cond.code Lib.objectInit ⟨#[0xb1]⟩ 1 none).before a0 Z = true)
    (hsz : Ls.size = c.maxLocals) (W : Nat) (hW : (St.map fun v => v.category).sum ≤ W) (hf : 1 ≤ R.frames) (hl : W + 12 ≤ R.locals) (hd : decode c.code pc = .ok (.invokespecial index, 3)) (hp : pc + 3 = pc')
    (G : ∀ T' : State, own_S w kf EL p l e R s m args below meth c Z a0 own h0 ws T' h fs cells slots → own_Go p.tables e below P T' (mkF m pc' Ls St)) : own_Go p.tables e below P T (mkF m pc Ls (.ref a :: St)) := by
  subst hp
  obtain ⟨vm0, locs, k0, X, eT, I⟩ := K
  obtain ⟨T', X', e', st⟩ := initO X hx I.1 I.2.1 w1 w2 w3 eT (g := mkF m pc Ls (.ref a :: St)) rfl hsz rfl hd hf (W := W) (by show 2 * 0 + _ ≤ _; omega) hl
  exact own_by st (G T' ⟨vm0, locs, k0, X', e', I⟩)
section OwnArr
variable {a : Addr} {k : ClassId} {n j : Int32} {vs : List Value} {dv : Value}
/-- castore into an array whose first components are said -/
theorem own_stC {x : Int32} (K : own_S w kf EL p l e R s m args below meth c Z a0 own h0 ws T h fs cells slots) (hx : p.tables.exec = Jvm.exec) (F : Arv Z h a k .char n vs dv) (ha : a ∈ fs) (hj : ¬ j < 0 ∧ j < n) (i : Nat) (hi : j.toNatClampNeg = i) (hl : i < vs.length) (hd : decode c.code pc = .ok (.castore, 1)) (hp : pc + 1 = pc')
    (G : ∀ (T' : State) (h' : Heap), own_S w kf EL p l e R s m args below meth c Z a0 own h0 ws T' h' fs cells slots → Wr h h' a j.toNatClampNeg (.int (nar .char x)) → Arv Z h' a k .char n (vs.set i (.int (nar .char x))) dv → own_Go p.tables e below P T' (mkF m pc' Ls St)) : own_Go p.tables e below P T (mkF m pc Ls (.int x :: .int j :: .ref a :: St)) := by
  subst hp
  obtain ⟨vm0, locs, k0, X, eT, I⟩ := K
  obtain ⟨cl, A, q1, q2, q3, q4, q5⟩ := F
  obtain ⟨T', h', X', e', W, st⟩ := stC X hx I.1 eT A (j := j) (x := x) (inb_of q2 hj) (g := mkF m pc Ls (.int x :: .int j :: .ref a :: St)) rfl rfl hd
  exact own_by st (G T' h' (own_wrote I X' e' W ha) W (Arv.set A q1 q2 q3 q4 q5 (fits_nar_char _) W i hi hl))
theorem own_stB {x : Int32} (K : own_S w kf EL p l e R s m args below meth c Z a0 own h0 ws T h fs cells slots) (hx : p.tables.exec = Jvm.exec) (F : Arv Z h a k .byte n vs dv) (ha : a ∈ fs) (hj : ¬ j < 0 ∧ j < n) (i : Nat) (hi : j.toNatClampNeg = i) (hl : i < vs.length) (hd : decode c.code pc = .ok (.bastore, 1)) (hp : pc + 1 = pc')
    (G : ∀ (T' : State) (h' : Heap), own_S w kf EL p l e R s m args below meth c Z a0 own h0 ws T' h' fs cells slots → Wr h h' a j.toNatClampNeg (.int x.toInt8.toInt32) → Arv Z h' a k .byte n (vs.set i (.int x.toInt8.toInt32)) dv → own_Go p.tables e below P T' (mkF m pc' Ls St)) : own_Go p.tables e below P T (mkF m pc Ls (.int x :: .int j :: .ref a :: St)) := by
  subst hp
  obtain ⟨vm0, locs, k0, X, eT, I⟩ := K
  obtain ⟨cl, A, q1, q2, q3, q4, q5⟩ := F
  obtain ⟨T', h', X', e', W, st⟩ := stB X hx I.1 eT A (j := j) (x := x) (inb_of q2 hj) (g := mkF m pc Ls (.int x :: .int j :: .ref a :: St)) rfl rfl hd
  exact own_by st (G T' h' (own_wrote I X' e' W ha) W (Arv.set A q1 q2 q3 q4 q5 (fits_nar_byte _) W i hi hl))
theorem own_stR {C : String} {v : Value} (K : own_S w kf EL p l e R s m args below meth c Z a0 own h0 ws T h fs cells slots) (hx : p.tables.exec = Jvm.exec) (F : Arv Z h a k (.object C) n vs dv) (hS : Sto Z h a v) (hv : v.isRef = true) (ha : a ∈ fs) (hj : ¬ j < 0 ∧ j < n) (i : Nat) (hi : j.toNatClampNeg = i) (hl : i < vs.length) (hd : decode c.code pc = .ok (.aastore, 1)) (hp : pc + 1 = pc')
    (G : ∀ (T' : State) (h' : Heap), own_S w kf EL p l e R s m args below meth c Z a0 own h0 ws T' h' fs cells slots → Wr h h' a j.toNatClampNeg v → Arv Z h' a k (.object C) n (vs.set i v) dv → own_Go p.tables e below P T' (mkF m pc' Ls St)) : own_Go p.tables e below P T (mkF m pc Ls (v :: .int j :: .ref a :: St)) := by
  subst hp
  obtain ⟨vm0, locs, k0, X, eT, I⟩ := K
  obtain ⟨cl, A, q1, q2, q3, q4, q5⟩ := F
  obtain ⟨T', h', X', e', W, st⟩ := stR X hx I.1 eT A (j := j) (v := v) (inb_of q2 hj) rfl hS (g := mkF m pc Ls (v :: .int j :: .ref a :: St)) rfl rfl hd
  exact own_by st (G T' h' (own_wrote I X' e' W ha) W (Arv.set A q1 q2 q3 q4 q5 (by rcases ref_cases hv with rfl | ⟨_, rfl⟩ <;> rfl) W i hi hl))
theorem own_ldC {x : Int32} (K : own_S w kf EL p l e R s m args below meth c Z a0 own h0 ws T h fs cells slots) (hx : p.tables.exec = Jvm.exec) (F : Arv Z h a k .char n vs dv) (hj : ¬ j < 0 ∧ j < n) (hv : vs.getD j.toNatClampNeg dv = .int x) (hd : decode c.code pc = .ok (.caload, 1)) (hp : pc + 1 = pc')
    (G : own_Go p.tables e below P T (mkF m pc' Ls (.int x :: St))) : own_Go p.tables e below P T (mkF m pc Ls (.int j :: .ref a :: St)) := by
  subst hp
  obtain ⟨vm0, locs, k0, X, eT, I⟩ := K
  obtain ⟨cl, A, q1, q2, q3, q4, q5⟩ := F
  exact own_by (fun t q => X.caload hx (j := j) (v := .int x) (by rw [eT]; exact A.1) (State.isArrayOf_alike I.1.alike A.2.1) A.2.2 (inb_of q2 hj) (q4.at (inb_of q2 hj) hv) (g := mkF m pc Ls (.int j :: .ref a :: St)) rfl rfl hd _ q) G
theorem own_ldB {x : Int32} (K : own_S w kf EL p l e R s m args below meth c Z a0 own h0 ws T h fs cells slots) (hx : p.tables.exec = Jvm.exec) (F : Arv Z h a k .byte n vs dv) (hj : ¬ j < 0 ∧ j < n) (hv : vs.getD j.toNatClampNeg dv = .int x) (hd : decode c.code pc = .ok (.baload, 1)) (hp : pc + 1 = pc')
    (G : own_Go p.tables e below P T (mkF m pc' Ls (.int x :: St))) : own_Go p.tables e below P T (mkF m pc Ls (.int j :: .ref a :: St)) := by
  subst hp
  obtain ⟨vm0, locs, k0, X, eT, I⟩ := K
  obtain ⟨cl, A, q1, q2, q3, q4, q5⟩ := F
  exact own_by (fun t q => X.baloadBytes hx (j := j) (v := .int x) (by rw [eT]; exact A.1) (State.isArrayOf_alike I.1.alike A.2.1) A.2.2 (inb_of q2 hj) (q4.at (inb_of q2 hj) hv) (g := mkF m pc Ls (.int j :: .ref a :: St)) rfl rfl hd _ q) G
theorem own_ldR {C : String} {v : Value} (K : own_S w kf EL p l e R s m args below meth c Z a0 own h0 ws T h fs cells slots) (hx : p.tables.exec = Jvm.exec) (F : Arv Z h a k (.object C) n vs dv) (hj : ¬ j < 0 ∧ j < n) (hv : vs.getD j.toNatClampNeg dv = v) (hd : decode c.code pc = .ok (.aaload, 1)) (hp : pc + 1 = pc')
    (G : own_Go p.tables e below P T (mkF m pc' Ls (v :: St))) : own_Go p.tables e below P T (mkF m pc Ls (.int j :: .ref a :: St)) := by
  subst hp
  obtain ⟨vm0, locs, k0, X, eT, I⟩ := K
  obtain ⟨cl, A, q1, q2, q3, q4, q5⟩ := F
  exact own_by (fun t q => X.aaload hx (j := j) (v := v) (by rw [eT]; exact A.1) (State.isArrayOf_alike I.1.alike A.2.1) rfl A.2.2 (inb_of q2 hj) (q4.at (inb_of q2 hj) hv) (g := mkF m pc Ls (.int j :: .ref a :: St)) rfl rfl hd _ q) G
theorem own_len {ty : FieldType} (K : own_S w kf EL p l e R s m args below meth c Z a0 own h0 ws T h fs cells slots) (hx : p.tables.exec = Jvm.exec) (F : Arv Z h a k ty n vs dv) (hd : decode c.code pc = .ok (.arraylength, 1)) (hp : pc + 1 = pc')
    (G : own_Go p.tables e below P T (mkF m pc' Ls (.int n :: St))) : own_Go p.tables e below P T (mkF m pc Ls (.ref a :: St)) := by
  subst hp
  obtain ⟨vm0, locs, k0, X, eT, I⟩ := K
  obtain ⟨cl, A, q1, q2, q3, q4, q5⟩ := F
  refine own_by (fun t q => X.arraylength hx (by rw [eT]; exact A.1) (State.isArrayOf_alike I.1.alike A.2.1) (g := mkF m pc Ls (.ref a :: St)) rfl rfl hd _ ?_) G
  rw [len_of q2 q3]; exact q
end OwnArr
theorem own_acmp {x y : Value} {cd : ACond} {o : Int} (K : own_S w kf EL p l e R s m args below meth c Z a0 own h0 ws T h fs cells slots) (hx : p.tables.exec = Jvm.exec) (h1 : x.isRef = true) (h2 : y.isRef = true) (same : Bool) (hq : decide (x = y) = same) (hd : decode c.code pc = .ok (.if_acmp cd o, 3)) (ho : 0 ≤ (pc : Int) + o) (hp : pc' = if acV cd same = true then ((pc : Int) + o).toNat else pc + 3)
    (G : own_Go p.tables e below P T (mkF m pc' Ls St)) : own_Go p.tables e below P T (mkF m pc Ls (y :: x :: St)) := by
  obtain ⟨vm0, locs, k0, X, eT, I⟩ := K
  exact own_by (fun t q => acmp X hx (g := mkF m pc Ls (y :: x :: St)) rfl h1 h2 rfl hd rfl hq ho hp q) G
theorem own_irem {x y z : Int32} (K : own_S w kf EL p l e R s m args below meth c Z a0 own h0 ws T h fs cells slots) (hx : p.tables.exec = Jvm.exec) (hy : y ≠ 0) (hz : x % y = z) (hd : decode c.code pc = .ok (.irem, 1)) (hp : pc + 1 = pc')
    (G : own_Go p.tables e below P T (mkF m pc' Ls (.int z :: St))) : own_Go p.tables e below P T (mkF m pc Ls (.int y :: .int x :: St)) := by
  subst hp hz
  obtain ⟨vm0, locs, k0, X, eT, I⟩ := K
  exact own_by (fun t q => iremM X hx (g := mkF m pc Ls (.int y :: .int x :: St)) rfl hd rfl hy q) G
end OwnHeap
section OwnInst
variable {p : Program} {l : Launch} {e : Env} {R : Room} {s : State} {m : MethodId} {args : Array Value} {below : List Frame} {meth : Method} {c : Code} {T : State} {cells slots : Nat} {Z : State} {a0 : Array Value} {h h0 : Heap} {w kf : Bool} {EL : List (String × Nat)} {own : String} {ws fs : List Addr} {P : Outcome → State → Prop} {pc pc' : Nat} {Ls : Array Slot} {St : List Value} {index : Nat}
/-- C, right beneath O, which has no superclass, is no K -/
theorem own_notSub {C O K : String} {n : Nat} (w1 : (Cond.superclass C O).before a0 Z = true) (w2 : (Cond.noSuperclass O).before a0 Z = true) (wi : (Cond.instantiable K n).before a0 Z = true) (hC : C ≠ K) (hO : O ≠ K) : ∃ cc t, Z.vm.findClass C = some cc ∧ Z.vm.findClass K = some t ∧ Z.vm.assignable cc t = false := by
  obtain ⟨t, kt, g1, g2, g3, g4, -⟩ := Cond.instantiable_spec wi
  obtain ⟨o, ko, o1, o2, o3, -, -⟩ := Cond.noSuperclass_spec w2
  obtain ⟨cc, h0⟩ := found_sup w1
  obtain ⟨p, k, kp, h1, h2, h3, h4, h5, -, h7⟩ := Cond.superclass_spec h0 w1
  cases o1.symm.trans h1
  have ne := ids_ne h0 g1 hC
  have ne' := ids_ne o1 g1 hO
  have gi : kt.isInterface = false := by
    cases hi : kt.isInterface
    · rfl
    · rw [hi] at g4; cases g4
  have sub : ∀ fuel, Z.vm.isSubclassAux fuel cc t = false := fun fuel => by
    cases fuel with
    | zero => rfl
    | succ f =>
      cases f with
      | zero => simp [Vm.isSubclassAux, ne, h2, h4]
      | succ f => simp [Vm.isSubclassAux, ne, ne', h2, h4, o2, o3]
  refine ⟨cc, t, h0, g1, ?_⟩
  show Z.vm.assignableAux (255 + 1) cc t = false
  simp [Vm.assignableAux, ne, h2, g2, h5, g3, gi, Vm.isSubclass, sub]
theorem own_instN {C K : String} {a : Addr} (Kk : own_S w kf EL p l e R s m args below meth c Z a0 own h0 ws T h fs cells slots) (hx : p.tables.exec = Jvm.exec) (w1 : (Cond.classLink own index K).before a0 Z = true) (E : Exa Z h a C) (F : ∃ cc t, Z.vm.findClass C = some cc ∧ Z.vm.findClass K = some t ∧ Z.vm.assignable cc t = false) (hd : decode c.code pc = .ok (.instanceof index, 3)) (hp : pc + 3 = pc')
    (G : ∀ T' : State, own_S w kf EL p l e R s m args below meth c Z a0 own h0 ws T' h fs cells slots → own_Go p.tables e below P T' (mkF m pc' Ls (.int 0 :: St))) : own_Go p.tables e below P T (mkF m pc Ls (.ref a :: St)) := by
  subst hp
  obtain ⟨vm0, locs, k0, X, eT, I⟩ := Kk
  obtain ⟨T', X', e', st⟩ := instNo X hx I.1 I.2.1 w1 eT E F (g := mkF m pc Ls (.ref a :: St)) rfl rfl hd
  exact own_by st (G T' ⟨vm0, locs, k0, X', e', I⟩)
theorem own_instNull (Kk : own_S w kf EL p l e R s m args below meth c Z a0 own h0 ws T h fs cells slots) (hx : p.tables.exec = Jvm.exec) (hd : decode c.code pc = .ok (.instanceof index, 3)) (hp : pc + 3 = pc')
    (G : own_Go p.tables e below P T (mkF m pc' Ls (.int 0 :: St))) : own_Go p.tables e below P T (mkF m pc Ls (.null :: St)) := by
  subst hp
  obtain ⟨vm0, locs, k0, X, eT, I⟩ := Kk
  exact own_by (fun t q => X.instanceofNull hx (g := mkF m pc Ls (.null :: St)) rfl rfl hd t q) G
theorem own_castNull (Kk : own_S w kf EL p l e R s m args below meth c Z a0 own h0 ws T h fs cells slots) (hx : p.tables.exec = Jvm.exec) (hd : decode c.code pc = .ok (.checkcast index, 3)) (hp : pc + 3 = pc')
    (G : own_Go p.tables e below P T (mkF m pc' Ls (.null :: St))) : own_Go p.tables e below P T (mkF m pc Ls (.null :: St)) := by
  subst hp
  obtain ⟨vm0, locs, k0, X, eT, I⟩ := Kk
  exact own_by (fun t q => X.checkcastNull hx (g := mkF m pc Ls (.null :: St)) rfl rfl hd t q) G
end OwnInst
/-! OWN KIT, calls -/
section OwnCalls
variable {p : Program} {l : Launch} {e : Env} {R : Room} {s : State} {m : MethodId} {args : Array Value} {below : List Frame} {meth : Method} {c : Code} {T : State} {cells slots : Nat} {Z : State} {a0 : Array Value} {h h0 : Heap} {w kf : Bool} {EL : List (String × Nat)} {own : String} {ws ws' fs : List Addr} {P : Outcome → State → Prop} {pc pc' : Nat} {Ls : Array Slot} {St : List Value} {index : Nat}
variable {y z : MethodName} {bytes : ByteArray} {maxL len W : Nat} {ret : Option FieldType} {rm : Room} {as' : Array Value} {Q' : Option Value → Heap → Prop} {vm0 : Vm} {locs : List Loc} {k0 : Nat} {argsL rest : List Value}
abbrev own_BackF (l : Launch) (R : Room) (p : Program) (e : Env) (below : List Frame) (s : State) (args : Array Value) (y : MethodName) (len W : Nat) (as' : Array Value) (h : Heap) (kc ks : Nat) (Q : Option Value → Heap → List Loc → Prop) : Prop :=
  Back l R p e below s args y len W (fun A a => a = as' ∧ A.U.heap = h ∧ A.cells + kc ≤ R.cells ∧ A.slots + ks ≤ R.slots) (fun A _ v B => ∃ L, Q v B.U.heap L ∧ B.locs = A.locs ++ L ∧ B.cells = A.cells + kc ∧ B.slots = A.slots + ks)
/-- a callee's contract, where the tables stay -/
theorem own_backN (hM : own_Met false kf EL l Z a0 y bytes maxL ret [] rm as' h ws' Q') (I : own_I false kf EL s m below Z a0 own h0 ws h fs vm0 locs k0) (hw : ∀ x ∈ ws', x ∈ fs) (wc : (Cond.code y bytes maxL ret).before a0 Z = true) (wz : (Cond.initialized y.cls).before a0 Z = true) (hf : rm.frames + 1 ≤ R.frames) (hl : W + (maxL + 11) + rm.locals ≤ R.locals) :
    own_BackF l R p e below (s.setVm vm0) args y len W as' h rm.cells rm.slots (fun v h' L => Q' v h' ∧ Keep h h' ws' ∧ Fr Z.heap.size L) := by
  obtain ⟨h1, h2, h3, h4, h5, h6, h7, h8, h9, h10, h11, hst0, h12⟩ := I
  exact Back.of_freeG (bytes := bytes) (maxL := maxL) (ret := ret) (E := fun _ _ o t L k n => k = rm.cells ∧ n = rm.slots ∧ ∃ v, o = .returned v ∧ Q' v t.heap ∧ Keep h t.heap ws' ∧ Fr Z.heap.size L) hM hf hl
    (fun m meth c A a Y hp => have hU : Z.Warmed39 A.U.vm := wtrans (s := s.setVm vm0) h1 Y.warmed
      ⟨by show (Cond.and _ .tt).before a A.U = true; rw [Cond.before_and, mv hU wc]; rfl, mv hU wc, mv hU wz, hp.2.2.1, hp.2.2.2⟩)
    (fun m meth c A a g mk Y hp => have C : CHr Z EL vm0 h A.U.vm h := CHv.at Y h1 h8 h9.1
      ⟨hp.1, wtrans (s := s.setVm vm0) h1 Y.warmed, hp.2.1, h4, h8, C.1, fun x hx => have q := h12 x (hw x hx); ⟨q.2.1, q.2.2.1, C.safe q.2.2.1 q.2.2.2⟩⟩)
    (fun m meth c A a g mk Y _ hg q => known_frames Y hg (h11 q).1 (h11 q).2)
    (fun _ _ _ _ ⟨v, L, g1, g2, g3, g4, g5, g6⟩ => ⟨L, _, _, g6.2 rfl, rfl, rfl, v, g1, g2, g3, g4⟩)
    (fun m meth c A a g mk v t L k n Y hp _ _ ⟨e1, e2, v', e3, e4⟩ => by cases e3; subst e1 e2; exact ⟨L, e4, rfl, rfl, rfl⟩)
/-- a callee's contract, where it may intern -/
theorem own_backW (hM : own_Met true kf EL l Z a0 y bytes maxL ret [] rm as' h ws' Q') (I : own_I true kf EL s m below Z a0 own h0 ws h fs vm0 locs k0) (hw : ∀ x ∈ ws', x ∈ fs) (wc : (Cond.code y bytes maxL ret).before a0 Z = true) (wz : (Cond.initialized y.cls).before a0 Z = true) (hf : rm.frames + 1 ≤ R.frames) (hl : W + (maxL + 11) + rm.locals ≤ R.locals) :
    BackS l R p e below (s.setVm vm0) args y len W (fun A a => a = as' ∧ A.U.heap = h ∧ A.cells + rm.cells ≤ R.cells ∧ A.slots + rm.slots ≤ R.slots)
      (fun A _ v B => ∃ L, (Q' v B.U.heap ∧ Keep h B.U.heap ws' ∧ Fr Z.heap.size L ∧ CHr Z EL vm0 h B.U.vm B.U.heap) ∧ B.locs = A.locs ++ L ∧ B.cells = A.cells + rm.cells ∧ B.slots = A.slots + rm.slots) := by
  obtain ⟨h1, h2, h3, h4, h5, h6, h7, h8, h9, h10, h11, hst0, h12⟩ := I
  exact BackS.of_freeWG (bytes := bytes) (maxL := maxL) (ret := ret) (E := fun _ first o t L k n => k = rm.cells ∧ n = rm.slots ∧ (∃ v, o = .returned v ∧ Q' v t.heap ∧ Keep h t.heap ws' ∧ Fr Z.heap.size L) ∧ CHr Z EL first.vm h t.vm t.heap) hM hf hl
    (fun m meth c A a Y hp => have hU : Z.Warmed39 A.U.vm := wtrans (s := s.setVm vm0) h1 Y.warmed
      ⟨by show (Cond.and _ .tt).before a A.U = true; rw [Cond.before_and, mv hU wc]; rfl, mv hU wc, mv hU wz, hp.2.2.1, hp.2.2.2⟩)
    (fun m meth c A a g mk Y hp => have C : CHr Z EL vm0 h A.U.vm h := CHv.at Y h1 h8 h9.1
      ⟨hp.1, wtrans (s := s.setVm vm0) h1 Y.warmed, hp.2.1, h4, h8, C.1, fun x hx => have q := h12 x (hw x hx); ⟨q.2.1, q.2.2.1, C.safe q.2.2.1 q.2.2.2⟩⟩)
    (fun m meth c A a g mk Y _ hg q => known_frames Y hg (h11 q).1 (h11 q).2)
    (fun _ _ _ _ ⟨v, L, g1, g2, g3, g4, g5, g6⟩ => ⟨L, _, _, g6.1 rfl, rfl, rfl, ⟨v, g1, g2, g3, g4⟩, g5⟩)
    (fun m meth c A a g mk v t L k n Y hp _ _ ⟨e1, e2, ⟨v', e3, e4, e5, e6⟩, e7⟩ => by
      cases e3; subst e1 e2
      exact ⟨L, ⟨e4, e5, e6, (CHv.at Y h1 h8 h9.1).trans e7⟩, rfl, rfl, rfl⟩)
/-- where the walk stands behind a callee that leaves the tables -/
theorem own_afterN {B : Pt} {kc ks : Nat} {L : List Loc} (I : own_I w kf EL s m below Z a0 own h0 ws h fs vm0 locs k0) (X' : Stand p l e R (s.setVm vm0) m args below meth c B.U B.locs B.cells B.slots) (Kp : Keep h B.U.heap ws') (hw : ∀ x ∈ ws', x ∈ fs) (hL : Fr Z.heap.size L) (e1 : B.locs = locs ++ L) (e2 : B.cells = cells + kc) (e3 : B.slots = slots + ks) :
    own_S w kf EL p l e R s m args below meth c Z a0 own h0 ws B.U B.U.heap fs (cells + kc) (slots + ks) := by
  rw [e1, e2, e3] at X'
  exact ⟨vm0, _, k0, X', rfl, I.keep Kp hw hL⟩
theorem own_afterW {B : Pt} {kc ks : Nat} {L : List Loc} (I : own_I true kf EL s m below Z a0 own h0 ws h fs vm0 locs k0) (X' : Stand p l e R ((s.setVm vm0).setVm B.U.vm) m args below meth c B.U B.locs B.cells B.slots) (S : (s.setVm vm0).Since B.U.vm B.U.heap.size) (C : CHr Z EL vm0 h B.U.vm B.U.heap) (Kp : Keep h B.U.heap ws') (hw : ∀ x ∈ ws', x ∈ fs) (hL : Fr Z.heap.size L) (e1 : B.locs = locs ++ L) (e2 : B.cells = cells + kc) (e3 : B.slots = slots + ks) :
    own_S true kf EL p l e R s m args below meth c Z a0 own h0 ws B.U B.U.heap fs (cells + kc) (slots + ks) := by
  rw [e1, e2, e3] at X'
  exact ⟨B.U.vm, _, _, X', rfl, I.wide rfl C S Kp.1 (Nat.le_refl _) Kp hw hL⟩

/-- invokestatic of a body by its contract -/
theorem own_callS (K : own_S w kf EL p l e R s m args below meth c Z a0 own h0 ws T h fs cells slots) (hx : p.tables.exec = Jvm.exec) (hsz : Ls.size = c.maxLocals)
    (w1 : (Cond.methodLink own index y).before a0 Z = true) (w2 : (Cond.static y).before a0 Z = true) (wz : (Cond.initialized y.cls).before a0 Z = true) (wc : (Cond.code y bytes maxL ret).before a0 Z = true) (hy : y.cls ≠ "java/lang/invoke/MethodHandle" ∧ y.cls ≠ "java/lang/invoke/VarHandle")
    (hM : own_Met w kf EL l Z a0 y bytes maxL ret [] rm argsL.toArray h ws' Q') (hw : ∀ x ∈ ws', x ∈ fs) (hlen : ∀ sig, parseMethodDescriptor y.desc = some sig → argsL.length = sig.parameters.length) (hst : St = argsL.reverse ++ rest) (W : Nat) (hW : (rest.map fun v => v.category).sum ≤ W)
    (hd : decode c.code pc = .ok (.invokestatic index, 3)) (hp : pc + 3 = pc') (hf : rm.frames + 1 ≤ R.frames) (hl : W + (maxL + 11) + rm.locals ≤ R.locals) (hc : cells + rm.cells ≤ R.cells) (hs : slots + rm.slots ≤ R.slots)
    (G : ∀ (v : Option Value) (T' : State) (h' : Heap), own_S w kf EL p l e R s m args below meth c Z a0 own h0 ws T' h' fs (cells + rm.cells) (slots + rm.slots) → Keep h h' ws' → Q' v h' → own_Go p.tables e below P T' (mkF m pc' Ls (v.toList ++ rest))) :
    own_Go p.tables e below P T (mkF m pc Ls St) := by
  subst hp
  obtain ⟨vm0, locs, k0, X, eT, I⟩ := K
  have hZ : Z.Warmed39 (s.setVm vm0).vm := I.1
  cases w with
  | false =>
    obtain ⟨v, vm₁, B, -, X', ⟨L, ⟨q1, q2, q3⟩, e1, e2, e3⟩, st⟩ := Jvm.LawKit.callS X hx (y := y) I.2.1 (mvT hZ w1) (mvT hZ w2) (mvT hZ wz) (mvT hZ wc) hy (own_backN (len := 3) (W := W) hM I hw wc wz hf hl) (g := mkF m pc Ls St) rfl hsz (argsL := argsL) (rest := rest) hlen hst (by show 2 * 0 + _ ≤ _; omega) hd (fun _ _ => ⟨rfl, eT, hc, hs⟩)
    exact own_by st (G v B.U _ (own_afterN I X' q2 hw q3 e1 e2 e3) q2 q1)
  | true =>
    obtain ⟨v, vm₁, B, -, X', hS, hgr, ⟨L, ⟨q1, q2, q3, q4⟩, e1, e2, e3⟩, st⟩ := callSS X hx (y := y) I.2.1 (mvT hZ w1) (mvT hZ w2) (mvT hZ wz) (mvT hZ wc) hy (own_backW (len := 3) (W := W) hM I hw wc wz hf hl) (g := mkF m pc Ls St) rfl hsz (argsL := argsL) (rest := rest) hlen hst (by show 2 * 0 + _ ≤ _; omega) hd (fun _ _ => ⟨rfl, eT, hc, hs⟩)
    exact own_on st (G v B.U _ (own_afterW I X' hS q4 q2 hw q3 e1 e2 e3) q2 q1)
/-- a constructor by its contract -/
theorem own_callSp {a : Addr} (K : own_S w kf EL p l e R s m args below meth c Z a0 own h0 ws T h fs cells slots) (hx : p.tables.exec = Jvm.exec) (hsz : Ls.size = c.maxLocals) (hy1 : y.name = "<init>")
    (w1 : (Cond.methodLink own index y).before a0 Z = true) (w2 : (Cond.instanceMethod y).before a0 Z = true) (wz : (Cond.initialized y.cls).before a0 Z = true) (wc : (Cond.code y bytes maxL none).before a0 Z = true) (hy : y.cls ≠ "java/lang/invoke/MethodHandle" ∧ y.cls ≠ "java/lang/invoke/VarHandle")
    (hM : own_Met w kf EL l Z a0 y bytes maxL none [] rm (.ref a :: argsL).toArray h ws' Q') (hw : ∀ x ∈ ws', x ∈ fs) (hlen : ∀ sig, parseMethodDescriptor y.desc = some sig → argsL.length = sig.parameters.length) (hst : St = argsL.reverse ++ .ref a :: rest) (W : Nat) (hW : (rest.map fun v => v.category).sum ≤ W)
    (hd : decode c.code pc = .ok (.invokespecial index, 3)) (hp : pc + 3 = pc') (hf : rm.frames + 1 ≤ R.frames) (hl : W + (maxL + 11) + rm.locals ≤ R.locals) (hc : cells + rm.cells ≤ R.cells) (hs : slots + rm.slots ≤ R.slots)
    (G : ∀ (v : Option Value) (T' : State) (h' : Heap), own_S w kf EL p l e R s m args below meth c Z a0 own h0 ws T' h' fs (cells + rm.cells) (slots + rm.slots) → Keep h h' ws' → Q' v h' → own_Go p.tables e below P T' (mkF m pc' Ls (v.toList ++ rest))) :
    own_Go p.tables e below P T (mkF m pc Ls St) := by
  subst hp
  obtain ⟨vm0, locs, k0, X, eT, I⟩ := K
  have hZ : Z.Warmed39 (s.setVm vm0).vm := I.1
  cases w with
  | false =>
    obtain ⟨v, vm₁, B, -, X', ⟨L, ⟨q1, q2, q3⟩, e1, e2, e3⟩, st⟩ := X.specialBack hx (y := y) hy1 I.2.1 (mvT hZ w1) (mvT hZ w2) (mvT hZ wc) hy (own_backN (len := 3) (W := W) hM I hw wc wz hf hl) (g := mkF m pc Ls St) rfl hsz (Steps.refl _) (a := a) (argsL := argsL) (rest := rest) hlen hst (by show 2 * 0 + _ ≤ _; omega) hd (fun _ _ => ⟨rfl, eT, hc, hs⟩)
    exact own_on st (G v B.U _ (own_afterN I X' q2 hw q3 e1 e2 e3) q2 q1)
  | true =>
    obtain ⟨v, vm₁, B, -, X', hS, hgr, ⟨L, ⟨q1, q2, q3, q4⟩, e1, e2, e3⟩, st⟩ := X.specialBackS hx (y := y) hy1 I.2.1 (mvT hZ w1) (mvT hZ w2) (mvT hZ wc) hy (own_backW (len := 3) (W := W) hM I hw wc wz hf hl) (g := mkF m pc Ls St) rfl hsz (Steps.refl _) (a := a) (argsL := argsL) (rest := rest) hlen hst (by show 2 * 0 + _ ≤ _; omega) hd (fun _ _ => ⟨rfl, eT, hc, hs⟩)
    exact own_on st (G v B.U _ (own_afterW I X' hS q4 q2 hw q3 e1 e2 e3) q2 q1)
/-- invokevirtual by the contract of the body that the receiver's class selects -/
theorem own_callV {C : String} {b : Addr} (K : own_S w kf EL p l e R s m args below meth c Z a0 own h0 ws T h fs cells slots) (hx : p.tables.exec = Jvm.exec) (hsz : Ls.size = c.maxLocals)
    (w1 : (Cond.methodLink own index y).before a0 Z = true) (w2 : (Cond.declares y).before a0 Z = true) (hnf : ∀ U : State, Z.Warmed39 U.vm → NotFace U y) (w3 : (Cond.selects C y z).before a0 Z = true) (w4 : (Cond.instanceMethod z).before a0 Z = true) (wz : (Cond.initialized z.cls).before a0 Z = true) (wc : (Cond.code z bytes maxL ret).before a0 Z = true) (hy : y.cls ≠ "java/lang/invoke/MethodHandle" ∧ y.cls ≠ "java/lang/invoke/VarHandle") (E : Exa Z h b C)
    (hM : own_Met w kf EL l Z a0 z bytes maxL ret [] rm (.ref b :: argsL).toArray h ws' Q') (hw : ∀ x ∈ ws', x ∈ fs) (hlen : ∀ sig, parseMethodDescriptor y.desc = some sig → argsL.length = sig.parameters.length) (hst : St = argsL.reverse ++ .ref b :: rest) (W : Nat) (hW : (rest.map fun v => v.category).sum ≤ W)
    (hd : decode c.code pc = .ok (.invokevirtual index, 3)) (hp : pc + 3 = pc') (hf : rm.frames + 1 ≤ R.frames) (hl : W + (maxL + 11) + rm.locals ≤ R.locals) (hc : cells + rm.cells ≤ R.cells) (hs : slots + rm.slots ≤ R.slots)
    (G : ∀ (v : Option Value) (T' : State) (h' : Heap), own_S w kf EL p l e R s m args below meth c Z a0 own h0 ws T' h' fs (cells + rm.cells) (slots + rm.slots) → Keep h h' ws' → Q' v h' → own_Go p.tables e below P T' (mkF m pc' Ls (v.toList ++ rest))) :
    own_Go p.tables e below P T (mkF m pc Ls St) := by
  subst hp
  obtain ⟨vm0, locs, k0, X, eT, I⟩ := K
  have hZ : Z.Warmed39 (s.setVm vm0).vm := I.1
  obtain ⟨cB, kB, b1, b2, b3⟩ := isOf hZ eT E
  cases w with
  | false =>
    obtain ⟨v, vm₁, B, -, X', ⟨L, ⟨q1, q2, q3⟩, e1, e2, e3⟩, st⟩ := X.virtualBack hx (y := y) (z := z) I.2.1 (mvT hZ w1) (mvT hZ w2) (hnf _ hZ) (mvT hZ w3) (mvT hZ w4) hy (own_backN (len := 3) (W := W) hM I hw wc wz hf hl) b1 b3 (g := mkF m pc Ls St) rfl hsz (Steps.refl _) (argsL := argsL) (rest := rest) hlen hst (by show 2 * 0 + _ ≤ _; omega) hd (fun _ _ => ⟨rfl, eT, hc, hs⟩)
    exact own_on st (G v B.U _ (own_afterN I X' q2 hw q3 e1 e2 e3) q2 q1)
  | true =>
    obtain ⟨v, vm₁, B, -, X', hS, hgr, ⟨L, ⟨q1, q2, q3, q4⟩, e1, e2, e3⟩, st⟩ := X.virtualBackS hx (y := y) (z := z) I.2.1 (mvT hZ w1) (mvT hZ w2) (hnf _ hZ) (mvT hZ w3) (mvT hZ w4) hy (own_backW (len := 3) (W := W) hM I hw wc wz hf hl) b1 b3 (g := mkF m pc Ls St) rfl hsz (Steps.refl _) (argsL := argsL) (rest := rest) hlen hst (by show 2 * 0 + _ ≤ _; omega) hd (fun _ _ => ⟨rfl, eT, hc, hs⟩)
    exact own_on st (G v B.U _ (own_afterW I X' hS q4 q2 hw q3 e1 e2 e3) q2 q1)
/-- invokevirtual where the entry names a class beneath the declaring one -/
theorem own_callVU {C owner : String} {b : Addr} (K : own_S w kf EL p l e R s m args below meth c Z a0 own h0 ws T h fs cells slots) (hx : p.tables.exec = Jvm.exec) (hsz : Ls.size = c.maxLocals)
    (w1 : (Cond.methodLink own index y).before a0 Z = true) (wsm : (Cond.sameMethod y.cls owner y.name y.desc).before a0 Z = true) (w2 : (Cond.declares ⟨owner, y.name, y.desc⟩).before a0 Z = true) (w3 : (Cond.selects C y z).before a0 Z = true) (w4 : (Cond.instanceMethod z).before a0 Z = true) (wz : (Cond.initialized z.cls).before a0 Z = true) (wc : (Cond.code z bytes maxL ret).before a0 Z = true) (hy : owner ≠ "java/lang/invoke/MethodHandle" ∧ owner ≠ "java/lang/invoke/VarHandle") (E : Exa Z h b C)
    (hM : own_Met w kf EL l Z a0 z bytes maxL ret [] rm (.ref b :: argsL).toArray h ws' Q') (hw : ∀ x ∈ ws', x ∈ fs) (hlen : ∀ sig, parseMethodDescriptor y.desc = some sig → argsL.length = sig.parameters.length) (hst : St = argsL.reverse ++ .ref b :: rest) (W : Nat) (hW : (rest.map fun v => v.category).sum ≤ W)
    (hd : decode c.code pc = .ok (.invokevirtual index, 3)) (hp : pc + 3 = pc') (hf : rm.frames + 1 ≤ R.frames) (hl : W + (maxL + 11) + rm.locals ≤ R.locals) (hc : cells + rm.cells ≤ R.cells) (hs : slots + rm.slots ≤ R.slots)
    (G : ∀ (v : Option Value) (T' : State) (h' : Heap), own_S w kf EL p l e R s m args below meth c Z a0 own h0 ws T' h' fs (cells + rm.cells) (slots + rm.slots) → Keep h h' ws' → Q' v h' → own_Go p.tables e below P T' (mkF m pc' Ls (v.toList ++ rest))) :
    own_Go p.tables e below P T (mkF m pc Ls St) := by
  subst hp
  obtain ⟨vm0, locs, k0, X, eT, I⟩ := K
  have hZ : Z.Warmed39 (s.setVm vm0).vm := I.1
  obtain ⟨cB, kB, b1, b2, b3⟩ := isOf hZ eT E
  cases w with
  | false =>
    obtain ⟨v, vm₁, B, -, X', ⟨L, ⟨q1, q2, q3⟩, e1, e2, e3⟩, st⟩ := X.virtualBackUp hx (x := y) (y := z) I.2.1 (mvT hZ w1) (mvT hZ wsm) (mvT hZ w2) hy (mvT hZ w3) (mvT hZ w4) (own_backN (len := 3) (W := W) hM I hw wc wz hf hl) b1 b3 (g := mkF m pc Ls St) rfl hsz (Steps.refl _) (argsL := argsL) (rest := rest) hlen hst (by show 2 * 0 + _ ≤ _; omega) hd (fun _ _ => ⟨rfl, eT, hc, hs⟩)
    exact own_on st (G v B.U _ (own_afterN I X' q2 hw q3 e1 e2 e3) q2 q1)
  | true =>
    obtain ⟨v, vm₁, B, -, X', hS, hgr, ⟨L, ⟨q1, q2, q3, q4⟩, e1, e2, e3⟩, st⟩ := virtualBackUpS X hx (x := y) (y := z) I.2.1 (mvT hZ w1) (mvT hZ wsm) (mvT hZ w2) hy (mvT hZ w3) (mvT hZ w4) (own_backW (len := 3) (W := W) hM I hw wc wz hf hl) b1 b3 (g := mkF m pc Ls St) rfl hsz (Steps.refl _) (argsL := argsL) (rest := rest) hlen hst (by show 2 * 0 + _ ≤ _; omega) hd (fun _ _ => ⟨rfl, eT, hc, hs⟩)
    exact own_on st (G v B.U _ (own_afterW I X' hS q4 q2 hw q3 e1 e2 e3) q2 q1)
/-- a static JDK member by a law of its own -/
theorem own_byS {kc ks : Nat} {QL : Option Value → Heap → List Loc → Prop} (K : own_S w kf EL p l e R s m args below meth c Z a0 own h0 ws T h fs cells slots) (hx : p.tables.exec = Jvm.exec) (hsz : Ls.size = c.maxLocals)
    (w1 : (Cond.methodLink own index y).before a0 Z = true) (w2 : (Cond.static y).before a0 Z = true) (wz : (Cond.initialized y.cls).before a0 Z = true) (wc : (Cond.code y bytes maxL ret).before a0 Z = true) (hy : y.cls ≠ "java/lang/invoke/MethodHandle" ∧ y.cls ≠ "java/lang/invoke/VarHandle")
    (hB : ∀ vm0 : Vm, Z.Warmed39 (s.setVm vm0).vm → own_BackF l R p e below (s.setVm vm0) args y 3 W argsL.toArray h kc ks QL) (hQ : ∀ v h' L, QL v h' L → Keep h h' ws' ∧ Fr Z.heap.size L) (hw : ∀ x ∈ ws', x ∈ fs) (hlen : ∀ sig, parseMethodDescriptor y.desc = some sig → argsL.length = sig.parameters.length) (hst : St = argsL.reverse ++ rest) (hW : (rest.map fun v => v.category).sum ≤ W)
    (hd : decode c.code pc = .ok (.invokestatic index, 3)) (hp : pc + 3 = pc') (hc : cells + kc ≤ R.cells) (hs : slots + ks ≤ R.slots)
    (G : ∀ (v : Option Value) (T' : State) (h' : Heap) (L : List Loc), own_S w kf EL p l e R s m args below meth c Z a0 own h0 ws T' h' fs (cells + kc) (slots + ks) → Keep h h' ws' → QL v h' L → own_Go p.tables e below P T' (mkF m pc' Ls (v.toList ++ rest))) :
    own_Go p.tables e below P T (mkF m pc Ls St) := by
  subst hp
  obtain ⟨vm0, locs, k0, X, eT, I⟩ := K
  have hZ : Z.Warmed39 (s.setVm vm0).vm := I.1
  obtain ⟨v, vm₁, B, -, X', ⟨L, q1, e1, e2, e3⟩, st⟩ := Jvm.LawKit.callS X hx (y := y) I.2.1 (mvT hZ w1) (mvT hZ w2) (mvT hZ wz) (mvT hZ wc) hy (hB vm0 hZ) (g := mkF m pc Ls St) rfl hsz (argsL := argsL) (rest := rest) hlen hst (by show 2 * 0 + _ ≤ _; omega) hd (fun _ _ => ⟨rfl, eT, hc, hs⟩)
  obtain ⟨q2, q3⟩ := hQ _ _ _ q1
  exact own_by st (G v B.U _ L (own_afterN I X' q2 hw q3 e1 e2 e3) q2 q1)
/-- a constructor of the JDK by a law of its own -/
theorem own_bySp {a : Addr} {kc ks : Nat} {QL : Option Value → Heap → List Loc → Prop} (K : own_S w kf EL p l e R s m args below meth c Z a0 own h0 ws T h fs cells slots) (hx : p.tables.exec = Jvm.exec) (hsz : Ls.size = c.maxLocals) (hy1 : y.name = "<init>")
    (w1 : (Cond.methodLink own index y).before a0 Z = true) (w2 : (Cond.instanceMethod y).before a0 Z = true) (wc : (Cond.code y bytes maxL none).before a0 Z = true) (hy : y.cls ≠ "java/lang/invoke/MethodHandle" ∧ y.cls ≠ "java/lang/invoke/VarHandle")
    (hB : ∀ vm0 : Vm, Z.Warmed39 (s.setVm vm0).vm → own_BackF l R p e below (s.setVm vm0) args y 3 W (.ref a :: argsL).toArray h kc ks QL) (hQ : ∀ v h' L, QL v h' L → Keep h h' ws' ∧ Fr Z.heap.size L) (hw : ∀ x ∈ ws', x ∈ fs) (hlen : ∀ sig, parseMethodDescriptor y.desc = some sig → argsL.length = sig.parameters.length) (hst : St = argsL.reverse ++ .ref a :: rest) (hW : (rest.map fun v => v.category).sum ≤ W)
    (hd : decode c.code pc = .ok (.invokespecial index, 3)) (hp : pc + 3 = pc') (hc : cells + kc ≤ R.cells) (hs : slots + ks ≤ R.slots)
    (G : ∀ (v : Option Value) (T' : State) (h' : Heap) (L : List Loc), own_S w kf EL p l e R s m args below meth c Z a0 own h0 ws T' h' fs (cells + kc) (slots + ks) → Keep h h' ws' → QL v h' L → own_Go p.tables e below P T' (mkF m pc' Ls (v.toList ++ rest))) :
    own_Go p.tables e below P T (mkF m pc Ls St) := by
  subst hp
  obtain ⟨vm0, locs, k0, X, eT, I⟩ := K
  have hZ : Z.Warmed39 (s.setVm vm0).vm := I.1
  obtain ⟨v, vm₁, B, -, X', ⟨L, q1, e1, e2, e3⟩, st⟩ := X.specialBack hx (y := y) hy1 I.2.1 (mvT hZ w1) (mvT hZ w2) (mvT hZ wc) hy (hB vm0 hZ) (g := mkF m pc Ls St) rfl hsz (Steps.refl _) (a := a) (argsL := argsL) (rest := rest) hlen hst (by show 2 * 0 + _ ≤ _; omega) hd (fun _ _ => ⟨rfl, eT, hc, hs⟩)
  obtain ⟨q2, q3⟩ := hQ _ _ _ q1
  exact own_on st (G v B.U _ L (own_afterN I X' q2 hw q3 e1 e2 e3) q2 q1)
/-- an instance method of the JDK by a law of its own -/
theorem own_byV {C : String} {b : Addr} {kc ks : Nat} {QL : Option Value → Heap → List Loc → Prop} (K : own_S w kf EL p l e R s m args below meth c Z a0 own h0 ws T h fs cells slots) (hx : p.tables.exec = Jvm.exec) (hsz : Ls.size = c.maxLocals)
    (w1 : (Cond.methodLink own index y).before a0 Z = true) (w2 : (Cond.declares y).before a0 Z = true) (hnf : ∀ U : State, Z.Warmed39 U.vm → NotFace U y) (w3 : (Cond.selects C y z).before a0 Z = true) (w4 : (Cond.instanceMethod z).before a0 Z = true) (hy : y.cls ≠ "java/lang/invoke/MethodHandle" ∧ y.cls ≠ "java/lang/invoke/VarHandle") (E : Exa Z h b C)
    (hB : ∀ vm0 : Vm, Z.Warmed39 (s.setVm vm0).vm → own_BackF l R p e below (s.setVm vm0) args z 3 W (.ref b :: argsL).toArray h kc ks QL) (hQ : ∀ v h' L, QL v h' L → Keep h h' ws' ∧ Fr Z.heap.size L) (hw : ∀ x ∈ ws', x ∈ fs) (hlen : ∀ sig, parseMethodDescriptor y.desc = some sig → argsL.length = sig.parameters.length) (hst : St = argsL.reverse ++ .ref b :: rest) (hW : (rest.map fun v => v.category).sum ≤ W)
    (hd : decode c.code pc = .ok (.invokevirtual index, 3)) (hp : pc + 3 = pc') (hc : cells + kc ≤ R.cells) (hs : slots + ks ≤ R.slots)
    (G : ∀ (v : Option Value) (T' : State) (h' : Heap) (L : List Loc), own_S w kf EL p l e R s m args below meth c Z a0 own h0 ws T' h' fs (cells + kc) (slots + ks) → Keep h h' ws' → QL v h' L → own_Go p.tables e below P T' (mkF m pc' Ls (v.toList ++ rest))) :
    own_Go p.tables e below P T (mkF m pc Ls St) := by
  subst hp
  obtain ⟨vm0, locs, k0, X, eT, I⟩ := K
  have hZ : Z.Warmed39 (s.setVm vm0).vm := I.1
  obtain ⟨cB, kB, b1, b2, b3⟩ := isOf hZ eT E
  obtain ⟨v, vm₁, B, -, X', ⟨L, q1, e1, e2, e3⟩, st⟩ := X.virtualBack hx (y := y) (z := z) I.2.1 (mvT hZ w1) (mvT hZ w2) (hnf _ hZ) (mvT hZ w3) (mvT hZ w4) hy (hB vm0 hZ) b1 b3 (g := mkF m pc Ls St) rfl hsz (Steps.refl _) (argsL := argsL) (rest := rest) hlen hst (by show 2 * 0 + _ ≤ _; omega) hd (fun _ _ => ⟨rfl, eT, hc, hs⟩)
  obtain ⟨q2, q3⟩ := hQ _ _ _ q1
  exact own_on st (G v B.U _ L (own_afterN I X' q2 hw q3 e1 e2 e3) q2 q1)
/-- ldc of a String constant, what it holds unsaid -/
theorem own_ldc {text : String} {n : Nat} (K : own_S true kf EL p l e R s m args below meth c Z a0 own h0 ws T h fs cells slots) (hx : p.tables.exec = Jvm.exec) (w1 : (Cond.stringLink own index text).before a0 Z = true) (wS : ∀ a ∈ Bundle.stringAtoms, a.before a0 Z = true)
    (hd : decode c.code pc = .ok (.ldc index, 2)) (hp : pc + 2 = pc') (hn : 4 * text.toList.length ≤ n) (hbig : n ≤ 536870912) (hc : cells + 2 ≤ R.cells) (hs : slots + (n + 4) ≤ R.slots)
    (G : ∀ (a : Addr) (T' : State) (h' : Heap), own_S true kf EL p l e R s m args below meth c Z a0 own h0 ws T' h' fs (cells + 2) (slots + (n + 4)) → Ext h h' → own_Go p.tables e below P T' (mkF m pc' Ls (.ref a :: St))) : own_Go p.tables e below P T (mkF m pc Ls St) := by
  subst hp
  obtain ⟨vm0, locs, k0, X, eT, I⟩ := K
  obtain ⟨h1, h2, h3, h4, h5, h6, h7, h8, h9, h10, h11, hst0, h12⟩ := id I
  obtain ⟨a, T', h', k1, X', e', E, hS, hk, hZ', ho', C, -, st⟩ := ldcOH X hx h1 h2 w1 wS eT (s := s.setVm vm0) (k0 := h.size) ((State.WarmedH.refl (s.setVm vm0)).since _) (Nat.le_refl _) h8 h9.1 (g := mkF m pc Ls St) rfl hd hn hbig hc hs
  have I' := I.wide (L := []) rfl C (k1 := h'.size) ⟨hS.1, fun j q hj hq => ⟨(hS.2 j q hj hq).1, Nat.lt_of_lt_of_le (hS.2 j q hj hq).2 hk⟩⟩ E.1 (Nat.le_refl _) ((Keep.refl h []).ext E) (fun _ q => nomatch q) (Fr.nil _)
  rw [List.append_nil] at I'
  exact own_by st (G a T' h' ⟨T'.vm, locs, _, X', e', I'⟩ E)
/-- ldc of a String constant of EL, read -/
theorem own_ldcR {text : String} {n : Nat} {vs : List Value} {zn : Int32} (K : own_S true kf EL p l e R s m args below meth c Z a0 own h0 ws T h fs cells slots) (hx : p.tables.exec = Jvm.exec) (w1 : (Cond.stringLink own index text).before a0 Z = true) (wS : ∀ a ∈ Bundle.stringAtoms, a.before a0 Z = true) (hmem : (own, index) ∈ EL)
    (ht : (∀ c ∈ text.toList, c.toNat < 256) ∧ text.toList.map (fun c => Value.int (Jvm.Lit.byteI c.toNat.toUInt16)) = vs) (hz : ¬ zn < 0) (hlz : zn.toNatClampNeg = vs.length)
    (hd : decode c.code pc = .ok (.ldc index, 2)) (hp : pc + 2 = pc') (hn : 4 * text.toList.length ≤ n) (hbig : n ≤ 536870912) (hc : cells + 2 ≤ R.cells) (hs : slots + (n + 4) ≤ R.slots)
    (G : ∀ (a : Addr) (T' : State) (h' : Heap) (b : Addr) (k : ClassId), own_S true kf EL p l e R s m args below meth c Z a0 own h0 ws T' h' fs (cells + 2) (slots + (n + 4)) → Ext h h' → Exa Z h' a "java/lang/String" → Fld Z h' a "java/lang/String" "coder" "B" (.int 0) → Fld Z h' a "java/lang/String" "value" "[B" (.ref b) → Arv Z h' b k .byte zn vs (.int 0) → (∀ x ∈ fs, x ≠ a ∧ x ≠ b) →
      own_Go p.tables e below P T' (mkF m pc' Ls (.ref a :: St))) : own_Go p.tables e below P T (mkF m pc Ls St) := by
  subst hp
  obtain ⟨vm0, locs, k0, X, eT, I⟩ := K
  obtain ⟨h1, h2, h3, h4, h5, h6, h7, h8, h9, h10, h11, hst0, h12⟩ := id I
  obtain ⟨a, T', h', k1, b, k, X', e', E, hS, hk, hZ', ho', Ex, Fc, Fv, Ar, -, -, C, -, hne, st⟩ := ldcCH X hx h1 h2 w1 wS eT (s := s.setVm vm0) (k0 := h.size) ((State.WarmedH.refl (s.setVm vm0)).since _) (Nat.le_refl _) h8 hmem h9.1 ht hz hlz (g := mkF m pc Ls St) rfl hd hn hbig hc hs
  have I' := I.wide (L := []) rfl C (k1 := h'.size) ⟨hS.1, fun j q hj hq => ⟨(hS.2 j q hj hq).1, Nat.lt_of_lt_of_le (hS.2 j q hj hq).2 hk⟩⟩ E.1 (Nat.le_refl _) ((Keep.refl h []).ext E) (fun _ q => nomatch q) (Fr.nil _)
  rw [List.append_nil] at I'
  have h12' : ∀ x ∈ fs, x ≠ a ∧ x ≠ b := fun x hx => hne x (C.safe (h12 x hx).2.2.1 (h12 x hx).2.2.2)
  exact own_by st (G a T' h' b k ⟨T'.vm, locs, _, X', e', I'⟩ E Ex Fc Fv Ar h12')
end OwnCalls
/-! OWN KIT, Strings: own_Str: the object at a is a String that spells cs -/
section OwnStr
variable {Z : State} {h h' : Heap} {a x : Addr} {cs ds : List Int32} {a0 : Array Value}
def own_Str (Z : State) (h : Heap) (a : Addr) (cs : List Int32) : Prop :=
  ∃ (t : Addr) (kb : ClassId) (cd N2 : Int32) (vs : List Value), Exa Z h a "java/lang/String" ∧ Fld Z h a "java/lang/String" "value" "[B" (.ref t) ∧ Fld Z h a "java/lang/String" "coder" "B" (.int cd) ∧ Arv Z h t kb .byte N2 vs (.int 0) ∧ StrChars.Road.CodA cs cd N2 vs ∧ (∀ c ∈ cs, ¬ c < 0 ∧ ¬ (65535 : Int32) < c) ∧ cs.length ≤ 4000
theorem own_Str.exa (F : own_Str Z h a cs) : Exa Z h a "java/lang/String" := by obtain ⟨t, kb, cd, N2, vs, E, -⟩ := F; exact E
theorem own_Str.lt (F : own_Str Z h a cs) : a < h.size := F.exa.lt
theorem own_Str.ext (F : own_Str Z h a cs) (E : Ext h h') : own_Str Z h' a cs := by
  obtain ⟨t, kb, cd, N2, vs, q1, q2, q3, q4, r⟩ := F; exact ⟨t, kb, cd, N2, vs, q1.ext E, q2.ext E, q3.ext E, q4.ext E, r⟩
/-- x is neither a String's cell nor a byte[]'s -/
def own_Off (Z : State) (h : Heap) (x : Addr) : Prop := ∀ cell : Cell, h[x]? = some cell → Z.vm.findClass "java/lang/String" ≠ some cell.cls ∧ ∀ ty, Z.isArrayOf cell ty → ty ≠ .byte
theorem own_Off.exa {C : String} {n : Nat} (E : Exa Z h x C) (wi : (Cond.instantiable C n).before a0 Z = true) (hC : C ≠ "java/lang/String") : own_Off Z h x := fun cell hc => by
  obtain ⟨cell', k, h1, h2, h3, -⟩ := E
  cases hc.symm.trans h1
  obtain ⟨c2, k2, i1, i2, i3, -⟩ := Cond.instantiable_spec wi
  cases h2.symm.trans i1
  refine ⟨fun q => ?_, fun ty ⟨_, kk, hk, comp, hkind⟩ => ?_⟩
  · obtain ⟨k1, a1, a2⟩ := Vm.findClass_spec h2
    obtain ⟨k2, b1, b2⟩ := Vm.findClass_spec q
    cases a1.symm.trans b1
    exact hC (a2.symm.trans b2)
  · rw [i2] at hk; cases hk; rw [i3] at hkind; cases hkind
theorem own_Off.arr {cl : Cell} {ty : FieldType} (A : Arr Z h x cl ty) {n : Nat} (wi : (Cond.instantiable "java/lang/String" n).before a0 Z = true) (ht : ty ≠ .byte) : own_Off Z h x := fun cell hc => by
  cases hc.symm.trans A.1
  obtain ⟨-, k0, hk0, comp0, hkind0⟩ := A.2.1
  refine ⟨fun q => ?_, fun ty' ⟨_, kk, hk, comp, hkind⟩ => ?_⟩
  · obtain ⟨c2, k2, i1, i2, i3, -⟩ := Cond.instantiable_spec wi
    cases q.symm.trans i1
    rw [i2] at hk0; cases hk0; rw [i3] at hkind0; cases hkind0
  · rw [hk0] at hk; cases hk; rw [hkind0] at hkind
    injection hkind with _ e
    exact fun q => ht (e.trans q)
theorem own_Off.arv {k : ClassId} {ty : FieldType} {z : Int32} {vs : List Value} {d : Value} (A : Arv Z h x k ty z vs d) {n : Nat} (wi : (Cond.instantiable "java/lang/String" n).before a0 Z = true) (ht : ty ≠ .byte) : own_Off Z h x := by
  obtain ⟨c, A, -⟩ := A; exact own_Off.arr A wi ht
theorem own_Str.keep {ws : List Addr} (F : own_Str Z h a cs) (K : Keep h h' ws) (hn : ∀ x ∈ ws, own_Off Z h x) : own_Str Z h' a cs := by
  obtain ⟨t, kb, cd, N2, vs, q1, q2, q3, q4, r⟩ := F
  have na : a ∉ ws := fun hm => by
    obtain ⟨cell, k, h1, h2, -⟩ := q1
    exact (hn a hm cell h1).1 h2
  have nt : t ∉ ws := fun hm => by
    obtain ⟨c, A, -⟩ := q4
    exact (hn t hm c A.1).2 _ A.2.1 rfl
  exact ⟨t, kb, cd, N2, vs, q1.keep K, q2.keep K na, q3.keep K na, q4.keep K nt, r⟩
theorem own_off0 : ∀ x ∈ ([] : List Addr), own_Off Z h x := fun _ q => nomatch q
theorem own_off1 (q : own_Off Z h x) : ∀ y ∈ [x], own_Off Z h y := fun y hy => by cases List.mem_singleton.mp hy; exact q
theorem own_Str.wr {sl : Nat} {v : Value} (F : own_Str Z h a cs) (W : Wr h h' x sl v) (hn : own_Off Z h x) : own_Str Z h' a cs := F.keep (Keep.of_wr W) (own_off1 hn)
theorem own_Str.of0 {t : Addr} {kb : ClassId} {N2 : Int32} {vs : List Value} (E : Exa Z h a "java/lang/String") (V : Fld Z h a "java/lang/String" "value" "[B" (.ref t)) (C : Fld Z h a "java/lang/String" "coder" "B" (.int 0)) (K : Arv Z h t kb .byte N2 vs (.int 0)) (hN : N2 = Int32.ofNat cs.length) (hv : vs = (cs.map (fun c => c.toInt8.toInt32)).map Value.int) (hp : ∀ c ∈ cs, ¬ c < 0 ∧ ¬ (255 : Int32) < c) (hl : cs.length ≤ 4000) : own_Str Z h a cs := by
  subst hN hv
  refine ⟨t, kb, 0, _, _, E, V, C, K, StrChars.Road.codOf rfl (fun c hc => (hp c hc).2), fun c hc => ⟨(hp c hc).1, fun q => (hp c hc).2 ?_⟩, hl⟩
  rw [Int32.lt_iff_toInt_lt] at q ⊢
  have e1 : (65535 : Int32).toInt = 65535 := rfl
  have e2 : (255 : Int32).toInt = 255 := rfl
  omega
end OwnStr
section OwnStrCalls
variable {p : Program} {l : Launch} {e : Env} {R : Room} {s : State} {m : MethodId} {args : Array Value} {below : List Frame} {meth : Method} {c : Code} {T : State} {cells slots : Nat} {Z : State} {a0 : Array Value} {h h0 : Heap} {w kf : Bool} {EL : List (String × Nat)} {own : String} {ws fs : List Addr} {P : Outcome → State → Prop} {pc pc' : Nat} {Ls : Array Slot} {index : Nat} {rest : List Value} {W : Nat} {z : Int32}
/-- new String(char[]) of 1 to 4000 chars, each 0 to 255 -/
theorem own_strNew {x b : Addr} {kC : ClassId} {cs : List Int32} {d v0 c0 : Value} {N : Int32} {n : Nat} {bytes : ByteArray} {maxL : Nat} (K : own_S w kf EL p l e R s m args below meth c Z a0 own h0 ws T h fs cells slots) (hx : p.tables.exec = Jvm.exec) (hsz : Ls.size = c.maxLocals)
    (w1 : (Cond.methodLink own index (⟨"java/lang/String", "<init>", "([C)V"⟩ : MethodName)).before a0 Z = true) (w2 : (Cond.instanceMethod (⟨"java/lang/String", "<init>", "([C)V"⟩ : MethodName)).before a0 Z = true) (wc : (Cond.code (⟨"java/lang/String", "<init>", "([C)V"⟩ : MethodName) bytes maxL none).before a0 Z = true)
    (hws : ∀ d ∈ StrChars.Road.words, d.before a0 Z = true) (wi : (Cond.instantiable "java/lang/String" 4).before a0 Z = true) (ha : x ∈ fs) (E : Exa Z h x "java/lang/String") (V : Fld Z h x "java/lang/String" "value" "[B" v0) (C : Fld Z h x "java/lang/String" "coder" "B" c0) (A : Arv Z h b kC .char N (cs.map Value.int) d)
    (O2 : Sta Z Z.heap "java/lang/String" "COMPACT_STRINGS" "Z" (.int z)) (P5 : ¬ z = 0) (hn : cs.length = n) (hN : N = Int32.ofNat n) (l0 : 0 < n) (l2 : n ≤ 4000) (hp : ∀ c ∈ cs, ¬ c < 0 ∧ ¬ (255 : Int32) < c) (hpd : ∀ sig, parseMethodDescriptor "([C)V" = some sig → [Value.ref b].length = sig.parameters.length)
    (W : Nat) (hW : (rest.map fun v => v.category).sum ≤ W) (hd : decode c.code pc = .ok (.invokespecial index, 3)) (hpc : pc + 3 = pc') (hfr : 4 ≤ R.frames) (hlo : W + 65 ≤ R.locals) (hc : cells + 1 ≤ R.cells) (hs : slots + n ≤ R.slots)
    (G : ∀ (T' : State) (h' : Heap), own_S w kf EL p l e R s m args below meth c Z a0 own h0 ws T' h' fs (cells + 1) (slots + n) → Keep h h' [x] → own_Str Z h' x cs → own_Go p.tables e below P T' (mkF m pc' Ls rest)) : own_Go p.tables e below P T (mkF m pc Ls (.ref b :: .ref x :: rest)) :=
  own_bySp (W := W) K hx hsz rfl w1 w2 wc (by decide) (argsL := [.ref b]) (rest := rest) (fun vm0 hZ => StrChars.Road.backV (W := W) hZ hws wi (n0 := Z.heap.size) (own_fresh K ha).1 (own_ext0 K).1 E V C A (own_sta K O2) P5 hn hN l0 l2 hp rfl hfr hlo) (fun v h' L q => ⟨q.2.2.1, q.2.1⟩) (own_mem1 ha) hpd rfl hW hd hpc hc hs
    fun v T' h' L K' Kp ⟨hv, _, _, E', C', t, kb, _, _, _, V', A'⟩ => by subst hv; exact G T' h' K' Kp (own_Str.of0 E' V' C' A' (by rw [hN, hn]) rfl hp (by omega))
theorem own_strLen {x : Addr} {cs : List Int32} (K : own_S w kf EL p l e R s m args below meth c Z a0 own h0 ws T h fs cells slots) (hx : p.tables.exec = Jvm.exec) (hsz : Ls.size = c.maxLocals)
    (w1 : (Cond.methodLink own index (⟨"java/lang/String", "length", "()I"⟩ : MethodName)).before a0 Z = true) (w2 : (Cond.declares (⟨"java/lang/String", "length", "()I"⟩ : MethodName)).before a0 Z = true) (w3 : (Cond.selects "java/lang/String" (⟨"java/lang/String", "length", "()I"⟩ : MethodName) (⟨"java/lang/String", "length", "()I"⟩ : MethodName)).before a0 Z = true) (w4 : (Cond.instanceMethod (⟨"java/lang/String", "length", "()I"⟩ : MethodName)).before a0 Z = true)
    (hwl : ∀ d ∈ StrChars.Road.wordsLen, d.before a0 Z = true) (wi : (Cond.instantiable "java/lang/String" 4).before a0 Z = true) (F : own_Str Z h x cs) (O2 : Sta Z Z.heap "java/lang/String" "COMPACT_STRINGS" "Z" (.int z)) (P5 : ¬ z = 0) (hpd : ∀ sig, parseMethodDescriptor "()I" = some sig → ([] : List Value).length = sig.parameters.length)
    (W : Nat) (hW : (rest.map fun v => v.category).sum ≤ W) (hd : decode c.code pc = .ok (.invokevirtual index, 3)) (hpc : pc + 3 = pc') (hfr : 2 ≤ R.frames) (hlo : W + 25 ≤ R.locals) (hc : cells ≤ R.cells) (hs : slots ≤ R.slots)
    (G : ∀ T' : State, own_S w kf EL p l e R s m args below meth c Z a0 own h0 ws T' h fs cells slots → own_Go p.tables e below P T' (mkF m pc' Ls (.int (Int32.ofNat cs.length) :: rest))) : own_Go p.tables e below P T (mkF m pc Ls (.ref x :: rest)) := by
  obtain ⟨t, kb, cd, N2, vs, q1, q2, q3, q4, q5, q6, q7⟩ := id F
  refine own_byV (W := W) (QL := fun v h' L => v = some (.int (Int32.ofNat cs.length)) ∧ L = [] ∧ h' = h) K hx hsz w1 w2 (fun U hU => notFace_of_selects (args := #[]) (mvT hU w3)) w3 w4 (by decide) q1 (argsL := []) (rest := rest) (ws' := []) (fun vm0 hZ => StrChars.Road.lenW (W := W) hZ hwl wi q1 q2 q3 q4 q5 q6 (own_sta K O2) P5 q7 hfr hlo) (fun v h' L q => ⟨by rw [q.2.2]; exact Keep.refl _ _, by rw [q.2.1]; exact Fr.nil _⟩) (fun _ q => nomatch q) hpd rfl hW hd hpc hc hs ?_
  rintro v T' h' L K' Kp ⟨rfl, rfl, rfl⟩
  exact G T' K'
theorem own_strCh {x : Addr} {cs : List Int32} {fm : Value} {i : Nat} {j : Int32} (K : own_S w kf EL p l e R s m args below meth c Z a0 own h0 ws T h fs cells slots) (hx : p.tables.exec = Jvm.exec) (hsz : Ls.size = c.maxLocals)
    (w1 : (Cond.methodLink own index (⟨"java/lang/String", "charAt", "(I)C"⟩ : MethodName)).before a0 Z = true) (w2 : (Cond.declares (⟨"java/lang/String", "charAt", "(I)C"⟩ : MethodName)).before a0 Z = true) (w3 : (Cond.selects "java/lang/String" (⟨"java/lang/String", "charAt", "(I)C"⟩ : MethodName) (⟨"java/lang/String", "charAt", "(I)C"⟩ : MethodName)).before a0 Z = true) (w4 : (Cond.instanceMethod (⟨"java/lang/String", "charAt", "(I)C"⟩ : MethodName)).before a0 Z = true)
    (hwl : ∀ d ∈ StrChars.Road.wordsChN, d.before a0 Z = true) (wi : (Cond.instantiable "java/lang/String" 4).before a0 Z = true) (F : own_Str Z h x cs) (hlat : ∀ c ∈ cs, ¬ (255 : Int32) < c) (O2 : Sta Z Z.heap "java/lang/String" "COMPACT_STRINGS" "Z" (.int z)) (P5 : ¬ z = 0) (O4 : Sta Z Z.heap "jdk/internal/util/Preconditions" "SIOOBE_FORMATTER" "Ljava/util/function/BiFunction;" fm) (rf : fm.isRef = true) (hi : i < cs.length) (hj : j = Int32.ofNat i) (hpd : ∀ sig, parseMethodDescriptor "(I)C" = some sig → [Value.int j].length = sig.parameters.length)
    (W : Nat) (hW : (rest.map fun v => v.category).sum ≤ W) (hd : decode c.code pc = .ok (.invokevirtual index, 3)) (hpc : pc + 3 = pc') (hfr : 4 ≤ R.frames) (hlo : W + 53 ≤ R.locals) (hc : cells ≤ R.cells) (hs : slots ≤ R.slots)
    (G : ∀ T' : State, own_S w kf EL p l e R s m args below meth c Z a0 own h0 ws T' h fs cells slots → own_Go p.tables e below P T' (mkF m pc' Ls (.int (cs.getD i 0) :: rest))) : own_Go p.tables e below P T (mkF m pc Ls (.int j :: .ref x :: rest)) := by
  obtain ⟨t, kb, cd, N2, vs, q1, q2, q3, q4, q5, q6, q7⟩ := id F
  have hcd : cd = 0 := by
    rcases q5 with q | ⟨-, -, -, c, hc, hb⟩
    · exact q.1
    · exact absurd hb (hlat c hc)
  subst hcd
  refine own_byV (W := W) (QL := fun v h' L => v = some (.int (cs.getD i 0)) ∧ L = [] ∧ h' = h) K hx hsz w1 w2 (fun U hU => notFace_of_selects (args := #[]) (mvT hU w3)) w3 w4 (by decide) q1 (argsL := [.int j]) (rest := rest) (ws' := []) (fun vm0 hZ => StrChars.Road.chN (W := W) hZ hwl wi q1 q2 q3 q4 q5 q6 (own_sta K O2) P5 (own_sta K O4) rf q7 hi hj hfr hlo) (fun v h' L q => ⟨by rw [q.2.2]; exact Keep.refl _ _, by rw [q.2.1]; exact Fr.nil _⟩) (fun _ q => nomatch q) hpd rfl hW hd hpc hc hs ?_
  rintro v T' h' L K' Kp ⟨rfl, rfl, rfl⟩
  exact G T' K'
theorem own_strEq {x y : Addr} {cs ds : List Int32} (K : own_S w kf EL p l e R s m args below meth c Z a0 own h0 ws T h fs cells slots) (hx : p.tables.exec = Jvm.exec) (hsz : Ls.size = c.maxLocals)
    (w1 : (Cond.methodLink own index (⟨"java/lang/String", "equals", "(Ljava/lang/Object;)Z"⟩ : MethodName)).before a0 Z = true) (w2 : (Cond.declares (⟨"java/lang/String", "equals", "(Ljava/lang/Object;)Z"⟩ : MethodName)).before a0 Z = true) (w3 : (Cond.selects "java/lang/String" (⟨"java/lang/String", "equals", "(Ljava/lang/Object;)Z"⟩ : MethodName) (⟨"java/lang/String", "equals", "(Ljava/lang/Object;)Z"⟩ : MethodName)).before a0 Z = true) (w4 : (Cond.instanceMethod (⟨"java/lang/String", "equals", "(Ljava/lang/Object;)Z"⟩ : MethodName)).before a0 Z = true)
    (hwl : ∀ d ∈ StrChars.Road.wordsEq, d.before a0 Z = true) (wi : (Cond.instantiable "java/lang/String" 4).before a0 Z = true) (F : own_Str Z h x cs) (F' : own_Str Z h y ds) (O2 : Sta Z Z.heap "java/lang/String" "COMPACT_STRINGS" "Z" (.int z)) (P5 : ¬ z = 0) (hpd : ∀ sig, parseMethodDescriptor "(Ljava/lang/Object;)Z" = some sig → [Value.ref y].length = sig.parameters.length)
    (W : Nat) (hW : (rest.map fun v => v.category).sum ≤ W) (hd : decode c.code pc = .ok (.invokevirtual index, 3)) (hpc : pc + 3 = pc') (hfr : 2 ≤ R.frames) (hlo : W + 28 ≤ R.locals) (hc : cells ≤ R.cells) (hs : slots ≤ R.slots)
    (G : ∀ T' : State, own_S w kf EL p l e R s m args below meth c Z a0 own h0 ws T' h fs cells slots → own_Go p.tables e below P T' (mkF m pc' Ls (.int (if cs = ds then 1 else 0) :: rest))) : own_Go p.tables e below P T (mkF m pc Ls (.ref y :: .ref x :: rest)) := by
  obtain ⟨t, kb, cd, N2, vs, q1, q2, q3, q4, q5, q6, q7⟩ := id F
  obtain ⟨t', kb', cd', N2', vs', r1, r2, r3, r4, r5, r6, r7⟩ := id F'
  refine own_byV (W := W) (QL := fun v h' L => ((v = some (.int 1) ∧ cs = ds) ∨ (v = some (.int 0) ∧ ¬ cs = ds)) ∧ L = [] ∧ h' = h) K hx hsz w1 w2 (fun U hU => notFace_of_selects (args := #[]) (mvT hU w3)) w3 w4 (by decide) q1 (argsL := [.ref y]) (rest := rest) (ws' := []) (fun vm0 hZ => StrChars.Road.eqW (W := W) hZ hwl wi q1 q2 q3 q4 q5 q6 q7 r1 r2 r3 r4 r5 r6 r7 (own_sta K O2) P5 hfr hlo) (fun v h' L q => ⟨by rw [q.2.2]; exact Keep.refl _ _, by rw [q.2.1]; exact Fr.nil _⟩) (fun _ q => nomatch q) hpd rfl hW hd hpc hc hs ?_
  rintro v T' h' L K' Kp ⟨⟨rfl, hq⟩ | ⟨rfl, hq⟩, rfl, rfl⟩
  · have := G T' K'; rw [if_pos hq] at this; exact this
  · have := G T' K'; rw [if_neg hq] at this; exact this
theorem own_strEmp {x : Addr} {cs : List Int32} (K : own_S w kf EL p l e R s m args below meth c Z a0 own h0 ws T h fs cells slots) (hx : p.tables.exec = Jvm.exec) (hsz : Ls.size = c.maxLocals)
    (w1 : (Cond.methodLink own index (⟨"java/lang/String", "isEmpty", "()Z"⟩ : MethodName)).before a0 Z = true) (w2 : (Cond.declares (⟨"java/lang/String", "isEmpty", "()Z"⟩ : MethodName)).before a0 Z = true) (w3 : (Cond.selects "java/lang/String" (⟨"java/lang/String", "isEmpty", "()Z"⟩ : MethodName) (⟨"java/lang/String", "isEmpty", "()Z"⟩ : MethodName)).before a0 Z = true) (w4 : (Cond.instanceMethod (⟨"java/lang/String", "isEmpty", "()Z"⟩ : MethodName)).before a0 Z = true)
    (hwl : ∀ d ∈ StrChars.Road.wordsEmp, d.before a0 Z = true) (wi : (Cond.instantiable "java/lang/String" 4).before a0 Z = true) (F : own_Str Z h x cs) (hpd : ∀ sig, parseMethodDescriptor "()Z" = some sig → ([] : List Value).length = sig.parameters.length)
    (W : Nat) (hW : (rest.map fun v => v.category).sum ≤ W) (hd : decode c.code pc = .ok (.invokevirtual index, 3)) (hpc : pc + 3 = pc') (hfr : 1 ≤ R.frames) (hlo : W + 12 ≤ R.locals) (hc : cells ≤ R.cells) (hs : slots ≤ R.slots)
    (G : ∀ T' : State, own_S w kf EL p l e R s m args below meth c Z a0 own h0 ws T' h fs cells slots → own_Go p.tables e below P T' (mkF m pc' Ls (.int (if cs.length = 0 then 1 else 0) :: rest))) : own_Go p.tables e below P T (mkF m pc Ls (.ref x :: rest)) := by
  obtain ⟨t, kb, cd, N2, vs, q1, q2, q3, q4, q5, q6, q7⟩ := id F
  refine own_byV (W := W) (QL := fun v h' L => v = some (.int (if cs.length = 0 then 1 else 0)) ∧ L = [] ∧ h' = h) K hx hsz w1 w2 (fun U hU => notFace_of_selects (args := #[]) (mvT hU w3)) w3 w4 (by decide) q1 (argsL := []) (rest := rest) (ws' := []) (fun vm0 hZ => StrChars.Road.empW (W := W) hZ hwl wi q1 q2 q3 q4 q5 q6 q7 hfr hlo) (fun v h' L q => ⟨by rw [q.2.2]; exact Keep.refl _ _, by rw [q.2.1]; exact Fr.nil _⟩) (fun _ q => nomatch q) hpd rfl hW hd hpc hc hs ?_
  rintro v T' h' L K' Kp ⟨rfl, rfl, rfl⟩
  exact G T' K'
end OwnStrCalls
theorem own_sa {Z : State} {a0 : Array Value} (hw : ∀ d ∈ tables_1, d.before a0 Z = true) : ∀ a ∈ Bundle.stringAtoms, a.before a0 Z = true := fun d hd => hw d ((by decide +kernel : ∀ d ∈ Bundle.stringAtoms, d ∈ tables_1) d hd)
theorem own_wn {Z : State} {a0 : Array Value} (hw : ∀ d ∈ tables_1, d.before a0 Z = true) : ∀ d ∈ StrChars.Road.words, d.before a0 Z = true := fun d hd => hw d ((by decide +kernel : ∀ d ∈ StrChars.Road.words, d ∈ tables_1) d hd)
theorem own_wl {Z : State} {a0 : Array Value} (hw : ∀ d ∈ tables_1, d.before a0 Z = true) : ∀ d ∈ StrChars.Road.wordsLen, d.before a0 Z = true := fun d hd => hw d ((by decide +kernel : ∀ d ∈ StrChars.Road.wordsLen, d ∈ tables_1) d hd)
theorem own_wc {Z : State} {a0 : Array Value} (hw : ∀ d ∈ tables_1, d.before a0 Z = true) : ∀ d ∈ StrChars.Road.wordsChN, d.before a0 Z = true := fun d hd => hw d ((by decide +kernel : ∀ d ∈ StrChars.Road.wordsChN, d ∈ tables_1) d hd)
theorem own_we {Z : State} {a0 : Array Value} (hw : ∀ d ∈ tables_1, d.before a0 Z = true) : ∀ d ∈ StrChars.Road.wordsEq, d.before a0 Z = true := fun d hd => hw d ((by decide +kernel : ∀ d ∈ StrChars.Road.wordsEq, d ∈ tables_1) d hd)
theorem own_wp {Z : State} {a0 : Array Value} (hw : ∀ d ∈ tables_1, d.before a0 Z = true) : ∀ d ∈ StrChars.Road.wordsEmp, d.before a0 Z = true := fun d hd => hw d ((by decide +kernel : ∀ d ∈ StrChars.Road.wordsEmp, d ∈ tables_1) d hd)
theorem own_m255 (x : Int32) : ¬ (x &&& (255 : Int32)) < 0 ∧ ¬ (255 : Int32) < (x &&& (255 : Int32)) := by
  have h : (x &&& 255).toBitVec.toNat < 256 := by
    simp only [Int32.toBitVec_and, BitVec.toNat_and]
    exact Nat.lt_succ_of_le Nat.and_le_right
  have t : ∀ k : Fin 256, ¬ (Int32.ofNat k.val) < 0 ∧ ¬ (255 : Int32) < (Int32.ofNat k.val) := by decide +kernel
  have e : (x &&& 255) = Int32.ofNat (x &&& 255).toBitVec.toNat := by
    apply Int32.toBitVec_inj.mp
    show _ = BitVec.ofNat 32 _
    rw [BitVec.ofNat_toNat]; simp
  rw [e]
  exact t ⟨_, h⟩
theorem own_c255 (x : Int32) : ¬ ((x &&& (255 : Int32)).toUInt32.toUInt16.toUInt32.toInt32) < 0 ∧ ¬ (255 : Int32) < ((x &&& (255 : Int32)).toUInt32.toUInt16.toUInt32.toInt32) := by
  rw [i2c_mask]; exact own_m255 x
theorem own_n255 (x : Int32) : nar .char ((x &&& (255 : Int32)).toUInt32.toUInt16.toUInt32.toInt32) = ((x &&& (255 : Int32)).toUInt32.toUInt16.toUInt32.toInt32) := by simp only [nar, UInt32.toUInt32_toInt32, UInt16.toUInt16_toUInt32]
theorem own_and255 (x : Int32) : ¬ nar .char ((x &&& (255 : Int32)).toUInt32.toUInt16.toUInt32.toInt32) < 0 ∧ ¬ (255 : Int32) < nar .char ((x &&& (255 : Int32)).toUInt32.toUInt16.toUInt32.toInt32) := by
  rw [own_n255]; exact own_c255 x
abbrev own_LD (c : Int32) : Prop := (¬ c < 97 ∧ ¬ 122 < c) ∨ (¬ c < 48 ∧ ¬ 57 < c)
abbrev own_AY (c : Int32) : Prop := own_LD c ∨ c = 45
theorem own_int {x : Int32} {n : Nat} (h0 : ¬ x < 0) (h1 : x.toInt < n) : ∃ k : Fin n, x = Int32.ofNat k.val := by
  rw [Int32.lt_iff_toInt_lt] at h0
  have e0 : (0 : Int32).toInt = 0 := rfl
  refine ⟨⟨x.toInt.toNat, by omega⟩, ?_⟩
  apply Int32.toInt_inj.mp
  have hb := x.toInt_lt
  rw [Int32.toInt_ofNat_small (by show x.toInt.toNat < 2 ^ 31; omega)]
  show x.toInt = ((x.toInt.toNat : Nat) : Int)
  omega
theorem own_rem {x y : Int32} {n : Nat} (h0 : ¬ x < 0) (hy : y.toInt = n) (hn : 0 < n) : ∃ k : Fin n, x % y = Int32.ofNat k.val := by
  rw [Int32.lt_iff_toInt_lt] at h0
  have e0 : (0 : Int32).toInt = 0 := rfl
  have e : (x % y).toInt = x.toInt % n := by rw [Int32.toInt_mod, hy, Int.tmod_eq_emod_of_nonneg (by omega)]
  have a := Int.emod_nonneg x.toInt (show (n : Int) ≠ 0 by omega)
  have b := Int.emod_lt_of_pos x.toInt (show 0 < (n : Int) by omega)
  refine own_int ?_ (by rw [e]; exact b)
  rw [Int32.lt_iff_toInt_lt, e, e0]; omega
theorem own_lead1 : ∀ k : Fin 36, Int32.ofNat k.val < 26 → own_LD (nar .char (((97 : Int32) + Int32.ofNat k.val).toUInt32.toUInt16.toUInt32.toInt32)) := by decide +kernel
theorem own_lead2 : ∀ k : Fin 36, ¬ Int32.ofNat k.val < 26 → own_LD (nar .char (((48 : Int32) + (Int32.ofNat k.val - (26 : Int32))).toUInt32.toUInt16.toUInt32.toInt32)) := by decide +kernel
theorem own_ayR {c : Int32} (h : own_AY c) : (¬ c < 0 ∧ ¬ (255 : Int32) < c) ∧ nar .char c = c := by
  have q : ¬ c < 0 ∧ c.toInt < (123 : Nat) := by
    simp only [own_AY, own_LD, Int32.lt_iff_toInt_lt] at h ⊢
    have e0 : (0 : Int32).toInt = 0 := rfl
    have e1 : (97 : Int32).toInt = 97 := rfl
    have e2 : (122 : Int32).toInt = 122 := rfl
    have e3 : (48 : Int32).toInt = 48 := rfl
    have e4 : (57 : Int32).toInt = 57 := rfl
    rcases h with h | rfl
    · omega
    · decide
  obtain ⟨k, rfl⟩ := own_int q.1 q.2
  have t : ∀ k : Fin 123, (¬ Int32.ofNat k.val < 0 ∧ ¬ (255 : Int32) < Int32.ofNat k.val) ∧ nar .char (Int32.ofNat k.val) = Int32.ofNat k.val := by decide +kernel
  exact t k
def own_txt (n c0 c1 c2 c3 : Int32) : List Int32 := if n = 1 then [c0] else if n = 2 then [c0, c1] else if n = 3 then [c0, c1, c2] else [c0, c1, c2, c3]
theorem own_txt_ok {n c0 c1 c2 c3 : Int32} (h0 : own_LD c0) (h1 : own_AY c1) (h2 : own_AY c2) (h3 : own_AY c3) : own_txt n c0 c1 c2 c3 ≠ [] ∧ (∀ c ∈ own_txt n c0 c1 c2 c3, own_AY c) ∧ own_LD ((own_txt n c0 c1 c2 c3).getD 0 0) ∧ (own_txt n c0 c1 c2 c3).length ≤ 64 := by
  have h0' : own_AY c0 := Or.inl h0
  unfold own_txt
  split
  · refine ⟨by simp, fun c hc => ?_, h0, by simp⟩
    simp only [List.mem_cons, List.not_mem_nil, or_false] at hc
    subst hc; exact h0'
  · split
    · refine ⟨by simp, fun c hc => ?_, h0, by simp⟩
      simp only [List.mem_cons, List.not_mem_nil, or_false] at hc
      rcases hc with rfl | rfl <;> assumption
    · split
      · refine ⟨by simp, fun c hc => ?_, h0, by simp⟩
        simp only [List.mem_cons, List.not_mem_nil, or_false] at hc
        rcases hc with rfl | rfl | rfl <;> assumption
      · refine ⟨by simp, fun c hc => ?_, h0, by simp⟩
        simp only [List.mem_cons, List.not_mem_nil, or_false] at hc
        rcases hc with rfl | rfl | rfl | rfl <;> assumption
theorem own_small {a b : Nat} (hb : b < 2 ^ 31) (h : a < b) : Int32.ofNat a < Int32.ofNat b := by
  rw [Int32.lt_iff_toInt_lt, Int32.toInt_ofNat_small (by omega), Int32.toInt_ofNat_small hb]; omega
theorem own_inc (k : Nat) : Int32.ofNat k + Int32.ofInt 1 = Int32.ofNat (k + 1) := by
  rw [show Int32.ofInt 1 = Int32.ofNat 1 from rfl, ← Int32.ofNat_add]
theorem d_method_2_0 : decode method_2_code 0 = .ok (.iload_n 0, 1) := by decide +kernel
theorem d_method_2_1 : decode method_2_code 1 = .ok (.bipush 36, 2) := by decide +kernel
theorem d_method_2_3 : decode method_2_code 3 = .ok (.irem, 1) := by decide +kernel
theorem d_method_2_4 : decode method_2_code 4 = .ok (.istore_n 1, 1) := by decide +kernel
theorem d_method_2_5 : decode method_2_code 5 = .ok (.iload_n 1, 1) := by decide +kernel
theorem d_method_2_6 : decode method_2_code 6 = .ok (.bipush 26, 2) := by decide +kernel
theorem d_method_2_8 : decode method_2_code 8 = .ok (.if_icmp .ge 9, 3) := by decide +kernel
theorem d_method_2_17 : decode method_2_code 17 = .ok (.bipush 48, 2) := by decide +kernel
theorem d_method_2_19 : decode method_2_code 19 = .ok (.iload_n 1, 1) := by decide +kernel
theorem d_method_2_20 : decode method_2_code 20 = .ok (.bipush 26, 2) := by decide +kernel
theorem d_method_2_22 : decode method_2_code 22 = .ok (.isub, 1) := by decide +kernel
theorem d_method_2_23 : decode method_2_code 23 = .ok (.iadd, 1) := by decide +kernel
theorem d_method_2_24 : decode method_2_code 24 = .ok (.i2c, 1) := by decide +kernel
theorem d_method_2_25 : decode method_2_code 25 = .ok (.ireturn, 1) := by decide +kernel
theorem d_method_2_11 : decode method_2_code 11 = .ok (.bipush 97, 2) := by decide +kernel
theorem d_method_2_13 : decode method_2_code 13 = .ok (.iload_n 1, 1) := by decide +kernel
theorem d_method_2_14 : decode method_2_code 14 = .ok (.iadd, 1) := by decide +kernel
theorem d_method_2_15 : decode method_2_code 15 = .ok (.i2c, 1) := by decide +kernel
theorem d_method_2_16 : decode method_2_code 16 = .ok (.ireturn, 1) := by decide +kernel
theorem ef_rm_lead (m : MethodId) (p1 : Int32)  : entryFrame m #[(.int p1)] 2 = mkF m 0 #[.val (.int p1), .unset] [] := by  first | (simp [entryFrame, mkF, argsToLocals, Value.category]; done) | rfl
theorem pn_0 : plainName "com/example/kustody/kustody/DatasetNameEqualsPinLaw" = true := by first | (simp [plainName, overriddenIn]; done) | decide +kernel
set_option maxRecDepth 65536 in
set_option maxHeartbeats 40000000 in
theorem rm_lead (l : Launch) (Z : State) (a0 : Array Value) (hw : ∀ d ∈ tables_1, d.before a0 Z = true) (more : List Jvm.Cond) (h0 : Heap) (p1 : Int32)  (hp : ¬ p1 < 0) :
    own_Met true false [] l Z a0 (⟨"com/example/kustody/kustody/DatasetNameEqualsPinLaw", "lead", "(I)C"⟩ : MethodName) method_2_code 2 (some .char) more ({ frames := 0, cells := 0, slots := 0, locals := 0 } : Room) #[(.int p1)] h0 [] (fun v h => ∃ r, v = some (.int r) ∧ own_LD r ∧ h = h0) := by
  refine own_enter (own := "com/example/kustody/kustody/DatasetNameEqualsPinLaw") rfl (plainFor_of_name pn_0) ?_
  intro p e s m below meth c T hx hby hml hret hlk hnm K
  rw [ef_rm_lead m p1]
  have A := own_here K
  refine own_iloadN A hx (pc' := 1) (hb hby d_method_2_0) rfl rfl ?_
  refine own_bipush A hx (pc' := 3) (hb hby d_method_2_1) (z := (36 : Int32)) (by decide) rfl ?_
  refine own_irem K hx (z := (p1 % (36 : Int32))) (pc' := 4) (by decide) rfl (hb hby d_method_2_3) rfl ?_
  refine own_istoreN A hx (pc' := 5) #[.val (.int p1), .val (.int (p1 % (36 : Int32)))] (hb hby d_method_2_4) rfl rfl ?_
  refine own_iloadN A hx (pc' := 6) (hb hby d_method_2_5) rfl rfl ?_
  refine own_bipush A hx (pc' := 8) (hb hby d_method_2_6) (z := (26 : Int32)) (by decide) rfl ?_
  refine own_icmp_ge A hx 17 11 (hb hby d_method_2_8) (by decide) (by decide) rfl (fun hc8 => ?_) (fun hc8 => ?_)
  · refine own_bipush A hx (pc' := 19) (hb hby d_method_2_17) (z := (48 : Int32)) (by decide) rfl ?_
    refine own_iloadN A hx (pc' := 20) (hb hby d_method_2_19) rfl rfl ?_
    refine own_bipush A hx (pc' := 22) (hb hby d_method_2_20) (z := (26 : Int32)) (by decide) rfl ?_
    refine own_isub A hx (pc' := 23) (hb hby d_method_2_22) (z := ((p1 % (36 : Int32)) - (26 : Int32))) rfl rfl ?_
    refine own_iadd A hx (pc' := 24) (hb hby d_method_2_23) (z := ((48 : Int32) + ((p1 % (36 : Int32)) - (26 : Int32)))) rfl rfl ?_
    refine own_i2c A hx (pc' := 25) (hb hby d_method_2_24) (z := (((48 : Int32) + ((p1 % (36 : Int32)) - (26 : Int32))).toUInt32.toUInt16.toUInt32.toInt32)) rfl rfl ?_
    exact own_retN K hx hlk hret (by simp) (hb hby d_method_2_25) (by decide) (by decide) (by obtain ⟨k, hk⟩ := own_rem (y := 36) (n := 36) hp rfl (by decide); rw [hk] at hc8 ⊢; exact ⟨_, rfl, own_lead2 k hc8, rfl⟩)
  · refine own_bipush A hx (pc' := 13) (hb hby d_method_2_11) (z := (97 : Int32)) (by decide) rfl ?_
    refine own_iloadN A hx (pc' := 14) (hb hby d_method_2_13) rfl rfl ?_
    refine own_iadd A hx (pc' := 15) (hb hby d_method_2_14) (z := ((97 : Int32) + (p1 % (36 : Int32)))) rfl rfl ?_
    refine own_i2c A hx (pc' := 16) (hb hby d_method_2_15) (z := (((97 : Int32) + (p1 % (36 : Int32))).toUInt32.toUInt16.toUInt32.toInt32)) rfl rfl ?_
    exact own_retN K hx hlk hret (by simp) (hb hby d_method_2_16) (by decide) (by decide) (by obtain ⟨k, hk⟩ := own_rem (y := 36) (n := 36) hp rfl (by decide); rw [hk] at hc8 ⊢; exact ⟨_, rfl, own_lead1 k hc8, rfl⟩)
theorem d_method_3_0 : decode method_3_code 0 = .ok (.iload_n 0, 1) := by decide +kernel
theorem d_method_3_1 : decode method_3_code 1 = .ok (.bipush 37, 2) := by decide +kernel
theorem d_method_3_3 : decode method_3_code 3 = .ok (.irem, 1) := by decide +kernel
theorem d_method_3_4 : decode method_3_code 4 = .ok (.istore_n 1, 1) := by decide +kernel
theorem d_method_3_5 : decode method_3_code 5 = .ok (.iload_n 1, 1) := by decide +kernel
theorem d_method_3_6 : decode method_3_code 6 = .ok (.bipush 36, 2) := by decide +kernel
theorem d_method_3_8 : decode method_3_code 8 = .ok (.if_icmp .ne 6, 3) := by decide +kernel
theorem d_method_3_14 : decode method_3_code 14 = .ok (.iload_n 1, 1) := by decide +kernel
theorem pd_0 : parseMethodDescriptor "(I)C" = some ⟨[.int], some .char⟩ := by decide +kernel
theorem d_method_3_15 : decode method_3_code 15 = .ok (.invokestatic 7, 3) := by decide +kernel
theorem d_method_3_18 : decode method_3_code 18 = .ok (.ireturn, 1) := by decide +kernel
theorem d_method_3_11 : decode method_3_code 11 = .ok (.bipush 45, 2) := by decide +kernel
theorem d_method_3_13 : decode method_3_code 13 = .ok (.ireturn, 1) := by decide +kernel
theorem ef_rm_any (m : MethodId) (p1 : Int32)  : entryFrame m #[(.int p1)] 2 = mkF m 0 #[.val (.int p1), .unset] [] := by  first | (simp [entryFrame, mkF, argsToLocals, Value.category]; done) | rfl
set_option maxRecDepth 65536 in
set_option maxHeartbeats 40000000 in
theorem rm_any (l : Launch) (Z : State) (a0 : Array Value) (hw : ∀ d ∈ tables_1, d.before a0 Z = true) (more : List Jvm.Cond) (h0 : Heap) (p1 : Int32)  (hp : ¬ p1 < 0) :
    own_Met true false [] l Z a0 (⟨"com/example/kustody/kustody/DatasetNameEqualsPinLaw", "any", "(I)C"⟩ : MethodName) method_3_code 2 (some .char) more ({ frames := 1, cells := 0, slots := 0, locals := 13 } : Room) #[(.int p1)] h0 [] (fun v h => ∃ r, v = some (.int r) ∧ own_AY r) := by
  refine own_enter (own := "com/example/kustody/kustody/DatasetNameEqualsPinLaw") rfl (plainFor_of_name pn_0) ?_
  intro p e s m below meth c T hx hby hml hret hlk hnm K
  rw [ef_rm_any m p1]
  have A := own_here K
  refine own_iloadN A hx (pc' := 1) (hb hby d_method_3_0) rfl rfl ?_
  refine own_bipush A hx (pc' := 3) (hb hby d_method_3_1) (z := (37 : Int32)) (by decide) rfl ?_
  refine own_irem K hx (z := (p1 % (37 : Int32))) (pc' := 4) (by decide) rfl (hb hby d_method_3_3) rfl ?_
  refine own_istoreN A hx (pc' := 5) #[.val (.int p1), .val (.int (p1 % (37 : Int32)))] (hb hby d_method_3_4) rfl rfl ?_
  refine own_iloadN A hx (pc' := 6) (hb hby d_method_3_5) rfl rfl ?_
  refine own_bipush A hx (pc' := 8) (hb hby d_method_3_6) (z := (36 : Int32)) (by decide) rfl ?_
  refine own_icmp_ne A hx 14 11 (hb hby d_method_3_8) (by decide) (by decide) rfl (fun hc8 => ?_) (fun hc8 => ?_)
  · refine own_iloadN A hx (pc' := 15) (hb hby d_method_3_14) rfl rfl ?_
    have hk0 : ¬ (p1 % (37 : Int32)) < 0 := by obtain ⟨k, hk⟩ := own_rem (y := 37) (n := 37) hp rfl (by decide); rw [hk]; exact (by decide +kernel : ∀ k : Fin 37, ¬ Int32.ofNat k.val < 0) k
    refine own_callS K hx (by rw [hml]; rfl) (hw _ (List.mem_of_getElem? (i := 0) rfl)) (hw _ (List.mem_of_getElem? (i := 1) rfl)) (hw _ (List.mem_of_getElem? (i := 2) rfl)) (hw _ (List.mem_of_getElem? (i := 3) rfl)) (by decide) (rm_lead l Z a0 hw [] h0 (p1 % (37 : Int32)) hk0) (fun _ q => nomatch q) (argsL := [(.int (p1 % (37 : Int32)))]) (rest := []) (lenOf pd_0 rfl) rfl 0 (Nat.le_of_eq rfl) (hb hby d_method_3_15) (pc' := 18) rfl (by decide) (by decide) (by decide) (by decide) ?_
    intro v1 T1 h1 K1 Kp1 Q1
    obtain ⟨r1, rfl, hr1, -⟩ := Q1
    have A1 := own_here K1
    show own_Go p.tables e below _ T1 (mkF m 18 #[.val (.int p1), .val (.int (p1 % (37 : Int32)))] [(.int r1)])
    exact own_retN K1 hx hlk hret (by simp) (hb hby d_method_3_18) (by decide) (by decide) ⟨_, rfl, by rw [(own_ayR (Or.inl hr1)).2]; exact Or.inl hr1⟩
  · refine own_bipush A hx (pc' := 13) (hb hby d_method_3_11) (z := (45 : Int32)) (by decide) rfl ?_
    exact own_retN K hx hlk hret (by simp) (hb hby d_method_3_13) (by decide) (by decide) ⟨_, rfl, Or.inr (by decide)⟩
theorem d_method_4_0 : decode method_4_code 0 = .ok (.iload_n 0, 1) := by decide +kernel
theorem d_method_4_1 : decode method_4_code 1 = .ok (.iconst 1, 1) := by decide +kernel
theorem d_method_4_2 : decode method_4_code 2 = .ok (.if_icmp .ne 18, 3) := by decide +kernel
theorem d_method_4_20 : decode method_4_code 20 = .ok (.iload_n 0, 1) := by decide +kernel
theorem d_method_4_21 : decode method_4_code 21 = .ok (.iconst 2, 1) := by decide +kernel
theorem d_method_4_22 : decode method_4_code 22 = .ok (.if_icmp .ne 22, 3) := by decide +kernel
theorem d_method_4_44 : decode method_4_code 44 = .ok (.iload_n 0, 1) := by decide +kernel
theorem d_method_4_45 : decode method_4_code 45 = .ok (.iconst 3, 1) := by decide +kernel
theorem d_method_4_46 : decode method_4_code 46 = .ok (.if_icmp .ne 26, 3) := by decide +kernel
theorem d_method_4_72 : decode method_4_code 72 = .ok (.new 13, 3) := by decide +kernel
theorem d_method_4_75 : decode method_4_code 75 = .ok (.dup, 1) := by decide +kernel
theorem d_method_4_76 : decode method_4_code 76 = .ok (.iconst 4, 1) := by decide +kernel
theorem d_method_4_77 : decode method_4_code 77 = .ok (.newarray .char, 2) := by decide +kernel
theorem d_method_4_79 : decode method_4_code 79 = .ok (.dup, 1) := by decide +kernel
theorem d_method_4_80 : decode method_4_code 80 = .ok (.iconst 0, 1) := by decide +kernel
theorem d_method_4_81 : decode method_4_code 81 = .ok (.iload_n 1, 1) := by decide +kernel
theorem d_method_4_82 : decode method_4_code 82 = .ok (.castore, 1) := by decide +kernel
theorem d_method_4_83 : decode method_4_code 83 = .ok (.dup, 1) := by decide +kernel
theorem d_method_4_84 : decode method_4_code 84 = .ok (.iconst 1, 1) := by decide +kernel
theorem d_method_4_85 : decode method_4_code 85 = .ok (.iload_n 2, 1) := by decide +kernel
theorem d_method_4_86 : decode method_4_code 86 = .ok (.castore, 1) := by decide +kernel
theorem d_method_4_87 : decode method_4_code 87 = .ok (.dup, 1) := by decide +kernel
theorem d_method_4_88 : decode method_4_code 88 = .ok (.iconst 2, 1) := by decide +kernel
theorem d_method_4_89 : decode method_4_code 89 = .ok (.iload_n 3, 1) := by decide +kernel
theorem d_method_4_90 : decode method_4_code 90 = .ok (.castore, 1) := by decide +kernel
theorem d_method_4_91 : decode method_4_code 91 = .ok (.dup, 1) := by decide +kernel
theorem d_method_4_92 : decode method_4_code 92 = .ok (.iconst 3, 1) := by decide +kernel
theorem d_method_4_93 : decode method_4_code 93 = .ok (.iload 4, 2) := by decide +kernel
theorem d_method_4_95 : decode method_4_code 95 = .ok (.castore, 1) := by decide +kernel
theorem pd_1 : parseMethodDescriptor "([C)V" = some ⟨[(.array .char)], none⟩ := by decide +kernel
theorem d_method_4_96 : decode method_4_code 96 = .ok (.invokespecial 15, 3) := by decide +kernel
theorem d_method_4_99 : decode method_4_code 99 = .ok (.areturn, 1) := by decide +kernel
theorem d_method_4_49 : decode method_4_code 49 = .ok (.new 13, 3) := by decide +kernel
theorem d_method_4_52 : decode method_4_code 52 = .ok (.dup, 1) := by decide +kernel
theorem d_method_4_53 : decode method_4_code 53 = .ok (.iconst 3, 1) := by decide +kernel
theorem d_method_4_54 : decode method_4_code 54 = .ok (.newarray .char, 2) := by decide +kernel
theorem d_method_4_56 : decode method_4_code 56 = .ok (.dup, 1) := by decide +kernel
theorem d_method_4_57 : decode method_4_code 57 = .ok (.iconst 0, 1) := by decide +kernel
theorem d_method_4_58 : decode method_4_code 58 = .ok (.iload_n 1, 1) := by decide +kernel
theorem d_method_4_59 : decode method_4_code 59 = .ok (.castore, 1) := by decide +kernel
theorem d_method_4_60 : decode method_4_code 60 = .ok (.dup, 1) := by decide +kernel
theorem d_method_4_61 : decode method_4_code 61 = .ok (.iconst 1, 1) := by decide +kernel
theorem d_method_4_62 : decode method_4_code 62 = .ok (.iload_n 2, 1) := by decide +kernel
theorem d_method_4_63 : decode method_4_code 63 = .ok (.castore, 1) := by decide +kernel
theorem d_method_4_64 : decode method_4_code 64 = .ok (.dup, 1) := by decide +kernel
theorem d_method_4_65 : decode method_4_code 65 = .ok (.iconst 2, 1) := by decide +kernel
theorem d_method_4_66 : decode method_4_code 66 = .ok (.iload_n 3, 1) := by decide +kernel
theorem d_method_4_67 : decode method_4_code 67 = .ok (.castore, 1) := by decide +kernel
theorem d_method_4_68 : decode method_4_code 68 = .ok (.invokespecial 15, 3) := by decide +kernel
theorem d_method_4_71 : decode method_4_code 71 = .ok (.areturn, 1) := by decide +kernel
theorem d_method_4_25 : decode method_4_code 25 = .ok (.new 13, 3) := by decide +kernel
theorem d_method_4_28 : decode method_4_code 28 = .ok (.dup, 1) := by decide +kernel
theorem d_method_4_29 : decode method_4_code 29 = .ok (.iconst 2, 1) := by decide +kernel
theorem d_method_4_30 : decode method_4_code 30 = .ok (.newarray .char, 2) := by decide +kernel
theorem d_method_4_32 : decode method_4_code 32 = .ok (.dup, 1) := by decide +kernel
theorem d_method_4_33 : decode method_4_code 33 = .ok (.iconst 0, 1) := by decide +kernel
theorem d_method_4_34 : decode method_4_code 34 = .ok (.iload_n 1, 1) := by decide +kernel
theorem d_method_4_35 : decode method_4_code 35 = .ok (.castore, 1) := by decide +kernel
theorem d_method_4_36 : decode method_4_code 36 = .ok (.dup, 1) := by decide +kernel
theorem d_method_4_37 : decode method_4_code 37 = .ok (.iconst 1, 1) := by decide +kernel
theorem d_method_4_38 : decode method_4_code 38 = .ok (.iload_n 2, 1) := by decide +kernel
theorem d_method_4_39 : decode method_4_code 39 = .ok (.castore, 1) := by decide +kernel
theorem d_method_4_40 : decode method_4_code 40 = .ok (.invokespecial 15, 3) := by decide +kernel
theorem d_method_4_43 : decode method_4_code 43 = .ok (.areturn, 1) := by decide +kernel
theorem d_method_4_5 : decode method_4_code 5 = .ok (.new 13, 3) := by decide +kernel
theorem d_method_4_8 : decode method_4_code 8 = .ok (.dup, 1) := by decide +kernel
theorem d_method_4_9 : decode method_4_code 9 = .ok (.iconst 1, 1) := by decide +kernel
theorem d_method_4_10 : decode method_4_code 10 = .ok (.newarray .char, 2) := by decide +kernel
theorem d_method_4_12 : decode method_4_code 12 = .ok (.dup, 1) := by decide +kernel
theorem d_method_4_13 : decode method_4_code 13 = .ok (.iconst 0, 1) := by decide +kernel
theorem d_method_4_14 : decode method_4_code 14 = .ok (.iload_n 1, 1) := by decide +kernel
theorem d_method_4_15 : decode method_4_code 15 = .ok (.castore, 1) := by decide +kernel
theorem d_method_4_16 : decode method_4_code 16 = .ok (.invokespecial 15, 3) := by decide +kernel
theorem d_method_4_19 : decode method_4_code 19 = .ok (.areturn, 1) := by decide +kernel
theorem ef_rm_text (m : MethodId) (p0 : Int32) (c0 : Int32) (c1 : Int32) (c2 : Int32) (c3 : Int32)  : entryFrame m #[(.int p0), (.int c0), (.int c1), (.int c2), (.int c3)] 5 = mkF m 0 #[.val (.int p0), .val (.int c0), .val (.int c1), .val (.int c2), .val (.int c3)] [] := by  first | (simp [entryFrame, mkF, argsToLocals, Value.category]; done) | rfl
set_option maxRecDepth 65536 in
set_option maxHeartbeats 40000000 in
theorem rm_text (l : Launch) (Z : State) (a0 : Array Value) (hw : ∀ d ∈ tables_1, d.before a0 Z = true) (more : List Jvm.Cond) (h0 : Heap) (p0 : Int32) (c0 : Int32) (c1 : Int32) (c2 : Int32) (c3 : Int32)  (G1 : Int32) (O2 : Sta Z Z.heap "java/lang/String" "COMPACT_STRINGS" "Z" (.int G1)) (P5 : ¬ (G1 = (0 : Int32))) (q0 : (¬ nar .char c0 < 0 ∧ ¬ (255 : Int32) < nar .char c0) ∧ nar .char c0 = c0) (q1 : (¬ nar .char c1 < 0 ∧ ¬ (255 : Int32) < nar .char c1) ∧ nar .char c1 = c1) (q2 : (¬ nar .char c2 < 0 ∧ ¬ (255 : Int32) < nar .char c2) ∧ nar .char c2 = c2) (q3 : (¬ nar .char c3 < 0 ∧ ¬ (255 : Int32) < nar .char c3) ∧ nar .char c3 = c3) :
    own_Met true false [] l Z a0 (⟨"com/example/kustody/kustody/DatasetNameEqualsPinLaw", "text", "(ICCCC)Ljava/lang/String;"⟩ : MethodName) method_4_code 5 (some (.object "java/lang/String")) more ({ frames := 4, cells := 3, slots := 12, locals := 66 } : Room) #[(.int p0), (.int c0), (.int c1), (.int c2), (.int c3)] h0 [] (fun v h => ∃ a, v = some (.ref a) ∧ own_Str Z h a (own_txt p0 (nar .char c0) (nar .char c1) (nar .char c2) (nar .char c3))) := by
  refine own_enter (own := "com/example/kustody/kustody/DatasetNameEqualsPinLaw") rfl (plainFor_of_name pn_0) ?_
  intro p e s m below meth c T hx hby hml hret hlk hnm K
  rw [ef_rm_text m p0 c0 c1 c2 c3]
  have A := own_here K
  refine own_iloadN A hx (pc' := 1) (hb hby d_method_4_0) rfl rfl ?_
  refine own_iconst A hx (pc' := 2) (hb hby d_method_4_1) (z := (1 : Int32)) (by decide) rfl ?_
  refine own_icmp_ne A hx 20 5 (hb hby d_method_4_2) (by decide) (by decide) rfl (fun hc2 => ?_) (fun hc2 => ?_)
  · refine own_iloadN A hx (pc' := 21) (hb hby d_method_4_20) rfl rfl ?_
    refine own_iconst A hx (pc' := 22) (hb hby d_method_4_21) (z := (2 : Int32)) (by decide) rfl ?_
    refine own_icmp_ne A hx 44 25 (hb hby d_method_4_22) (by decide) (by decide) rfl (fun hc22 => ?_) (fun hc22 => ?_)
    · refine own_iloadN A hx (pc' := 45) (hb hby d_method_4_44) rfl rfl ?_
      refine own_iconst A hx (pc' := 46) (hb hby d_method_4_45) (z := (3 : Int32)) (by decide) rfl ?_
      refine own_icmp_ne A hx 72 49 (hb hby d_method_4_46) (by decide) (by decide) rfl (fun hc46 => ?_) (fun hc46 => ?_)
      · refine own_new K hx (hw _ (List.mem_of_getElem? (i := 10) rfl)) (hw _ (List.mem_of_getElem? (i := 11) rfl)) (hw _ (List.mem_of_getElem? (i := 12) rfl)) (hb hby d_method_4_72) (pc' := 75) rfl (by decide) (by decide) ?_
        intro T2 h2 b2 g2 K2 E2 X2 D2 U2
        have A2 := own_here K2
        have F_value_b2 := D2 (Or.inr (hw _ (List.mem_of_getElem? (i := 39) rfl))) (ty := (.array .byte)) (by decide)
        have F_coder_b2 := D2 (Or.inr (hw _ (List.mem_of_getElem? (i := 37) rfl))) (ty := .byte) (by decide)
        refine own_dup A2 hx (pc' := 76) (hb hby d_method_4_75) rfl rfl ?_
        refine own_iconst A2 hx (pc' := 77) (hb hby d_method_4_76) (z := (4 : Int32)) (by decide) rfl ?_
        refine own_newarr K2 hx (hw _ (List.mem_of_getElem? (i := 13) rfl)) (hb hby d_method_4_77) (pc' := 79) rfl (by decide) 4 (by decide) (by decide) (by decide) (by decide) ?_
        intro T3 h3 b3 k3 g3 K3 E3 V3
        have ne_b2_b3 : b2 ≠ b3 := by rw [g3]; exact Nat.ne_of_lt X2.lt
        have X2 := X2.ext E3
        have F_value_b2 := F_value_b2.ext E3
        have F_coder_b2 := F_coder_b2.ext E3
        have A3 := own_here K3
        have V3 : Arv Z h3 b3 k3 .char (4 : Int32) [(.int (0 : Int32)), (.int (0 : Int32)), (.int (0 : Int32)), (.int (0 : Int32))] (.int (0 : Int32)) := V3.pad (pad_rep [] (.int (0 : Int32)) 4)
        refine own_dup A3 hx (pc' := 80) (hb hby d_method_4_79) rfl rfl ?_
        refine own_iconst A3 hx (pc' := 81) (hb hby d_method_4_80) (z := (0 : Int32)) (by decide) rfl ?_
        refine own_iloadN A3 hx (pc' := 82) (hb hby d_method_4_81) rfl rfl ?_
        refine own_stC K3 hx V3 (List.mem_of_getElem? (i := 0) rfl) (by decide) 0 rfl (Nat.le_of_ble_eq_true rfl) (hb hby d_method_4_82) (pc' := 83) rfl ?_
        intro T4 h4 K4 W4 V4
        have X2 := X2.wr W4
        have F_value_b2 := F_value_b2.other W4 (Or.inl ne_b2_b3)
        have F_coder_b2 := F_coder_b2.other W4 (Or.inl ne_b2_b3)
        have A4 := own_here K4
        have V4 : Arv Z h4 b3 k3 .char (4 : Int32) [(.int (nar .char c0)), (.int (0 : Int32)), (.int (0 : Int32)), (.int (0 : Int32))] (.int (0 : Int32)) := V4
        refine own_dup A4 hx (pc' := 84) (hb hby d_method_4_83) rfl rfl ?_
        refine own_iconst A4 hx (pc' := 85) (hb hby d_method_4_84) (z := (1 : Int32)) (by decide) rfl ?_
        refine own_iloadN A4 hx (pc' := 86) (hb hby d_method_4_85) rfl rfl ?_
        refine own_stC K4 hx V4 (List.mem_of_getElem? (i := 0) rfl) (by decide) 1 rfl (Nat.le_of_ble_eq_true rfl) (hb hby d_method_4_86) (pc' := 87) rfl ?_
        intro T5 h5 K5 W5 V5
        have X2 := X2.wr W5
        have F_value_b2 := F_value_b2.other W5 (Or.inl ne_b2_b3)
        have F_coder_b2 := F_coder_b2.other W5 (Or.inl ne_b2_b3)
        have A5 := own_here K5
        have V5 : Arv Z h5 b3 k3 .char (4 : Int32) [(.int (nar .char c0)), (.int (nar .char c1)), (.int (0 : Int32)), (.int (0 : Int32))] (.int (0 : Int32)) := V5
        refine own_dup A5 hx (pc' := 88) (hb hby d_method_4_87) rfl rfl ?_
        refine own_iconst A5 hx (pc' := 89) (hb hby d_method_4_88) (z := (2 : Int32)) (by decide) rfl ?_
        refine own_iloadN A5 hx (pc' := 90) (hb hby d_method_4_89) rfl rfl ?_
        refine own_stC K5 hx V5 (List.mem_of_getElem? (i := 0) rfl) (by decide) 2 rfl (Nat.le_of_ble_eq_true rfl) (hb hby d_method_4_90) (pc' := 91) rfl ?_
        intro T6 h6 K6 W6 V6
        have X2 := X2.wr W6
        have F_value_b2 := F_value_b2.other W6 (Or.inl ne_b2_b3)
        have F_coder_b2 := F_coder_b2.other W6 (Or.inl ne_b2_b3)
        have A6 := own_here K6
        have V6 : Arv Z h6 b3 k3 .char (4 : Int32) [(.int (nar .char c0)), (.int (nar .char c1)), (.int (nar .char c2)), (.int (0 : Int32))] (.int (0 : Int32)) := V6
        refine own_dup A6 hx (pc' := 92) (hb hby d_method_4_91) rfl rfl ?_
        refine own_iconst A6 hx (pc' := 93) (hb hby d_method_4_92) (z := (3 : Int32)) (by decide) rfl ?_
        refine own_iload A6 hx (pc' := 95) (hb hby d_method_4_93) rfl rfl ?_
        refine own_stC K6 hx V6 (List.mem_of_getElem? (i := 0) rfl) (by decide) 3 rfl (Nat.le_of_ble_eq_true rfl) (hb hby d_method_4_95) (pc' := 96) rfl ?_
        intro T7 h7 K7 W7 V7
        have X2 := X2.wr W7
        have F_value_b2 := F_value_b2.other W7 (Or.inl ne_b2_b3)
        have F_coder_b2 := F_coder_b2.other W7 (Or.inl ne_b2_b3)
        have A7 := own_here K7
        have V7 : Arv Z h7 b3 k3 .char (4 : Int32) [(.int (nar .char c0)), (.int (nar .char c1)), (.int (nar .char c2)), (.int (nar .char c3))] (.int (0 : Int32)) := V7
        have hp8 : ∀ c ∈ ([(nar .char c0), (nar .char c1), (nar .char c2), (nar .char c3)] : List Int32), ¬ c < 0 ∧ ¬ (255 : Int32) < c := by
          intro c hc
          simp only [List.mem_cons, List.not_mem_nil, or_false] at hc
          rcases hc with rfl | rfl | rfl | rfl <;> (first | exact q0.1 | exact q1.1 | exact q2.1 | exact q3.1)
        refine own_strNew K7 hx (by rw [hml]; rfl) (hw _ (List.mem_of_getElem? (i := 14) rfl)) (hw _ (List.mem_of_getElem? (i := 15) rfl)) (hw _ (List.mem_of_getElem? (i := 16) rfl)) (own_wn hw) (hw _ (List.mem_of_getElem? (i := 11) rfl)) (List.mem_of_getElem? (i := 1) rfl) X2 F_value_b2 F_coder_b2 V7 O2 P5 (cs := [(nar .char c0), (nar .char c1), (nar .char c2), (nar .char c3)]) (n := 4) rfl rfl (by decide) (by decide) hp8 (lenOf pd_1 rfl) 1 (Nat.le_of_eq rfl) (hb hby d_method_4_96) (pc' := 99) rfl (by decide) (by decide) (by decide) (by decide) ?_
        intro T8 h8 K8 Kp8 Z8
        have V7 := V7.keep Kp8 (ninS (Ne.symm ne_b2_b3) nin0)
        have A8 := own_here K8
        exact own_retR K8 hx hlk hret rfl rfl (hb hby d_method_4_99) (by decide) (by decide) ⟨_, rfl, by rw [own_txt, if_neg hc2, if_neg hc22, if_neg hc46]; exact Z8⟩
      · refine own_new K hx (hw _ (List.mem_of_getElem? (i := 10) rfl)) (hw _ (List.mem_of_getElem? (i := 11) rfl)) (hw _ (List.mem_of_getElem? (i := 12) rfl)) (hb hby d_method_4_49) (pc' := 52) rfl (by decide) (by decide) ?_
        intro T9 h9 b9 g9 K9 E9 X9 D9 U9
        have A9 := own_here K9
        have F_value_b9 := D9 (Or.inr (hw _ (List.mem_of_getElem? (i := 39) rfl))) (ty := (.array .byte)) (by decide)
        have F_coder_b9 := D9 (Or.inr (hw _ (List.mem_of_getElem? (i := 37) rfl))) (ty := .byte) (by decide)
        refine own_dup A9 hx (pc' := 53) (hb hby d_method_4_52) rfl rfl ?_
        refine own_iconst A9 hx (pc' := 54) (hb hby d_method_4_53) (z := (3 : Int32)) (by decide) rfl ?_
        refine own_newarr K9 hx (hw _ (List.mem_of_getElem? (i := 13) rfl)) (hb hby d_method_4_54) (pc' := 56) rfl (by decide) 3 (by decide) (by decide) (by decide) (by decide) ?_
        intro T10 h10 b10 k10 g10 K10 E10 V10
        have ne_b9_b10 : b9 ≠ b10 := by rw [g10]; exact Nat.ne_of_lt X9.lt
        have X9 := X9.ext E10
        have F_value_b9 := F_value_b9.ext E10
        have F_coder_b9 := F_coder_b9.ext E10
        have A10 := own_here K10
        have V10 : Arv Z h10 b10 k10 .char (3 : Int32) [(.int (0 : Int32)), (.int (0 : Int32)), (.int (0 : Int32))] (.int (0 : Int32)) := V10.pad (pad_rep [] (.int (0 : Int32)) 3)
        refine own_dup A10 hx (pc' := 57) (hb hby d_method_4_56) rfl rfl ?_
        refine own_iconst A10 hx (pc' := 58) (hb hby d_method_4_57) (z := (0 : Int32)) (by decide) rfl ?_
        refine own_iloadN A10 hx (pc' := 59) (hb hby d_method_4_58) rfl rfl ?_
        refine own_stC K10 hx V10 (List.mem_of_getElem? (i := 0) rfl) (by decide) 0 rfl (Nat.le_of_ble_eq_true rfl) (hb hby d_method_4_59) (pc' := 60) rfl ?_
        intro T11 h11 K11 W11 V11
        have X9 := X9.wr W11
        have F_value_b9 := F_value_b9.other W11 (Or.inl ne_b9_b10)
        have F_coder_b9 := F_coder_b9.other W11 (Or.inl ne_b9_b10)
        have A11 := own_here K11
        have V11 : Arv Z h11 b10 k10 .char (3 : Int32) [(.int (nar .char c0)), (.int (0 : Int32)), (.int (0 : Int32))] (.int (0 : Int32)) := V11
        refine own_dup A11 hx (pc' := 61) (hb hby d_method_4_60) rfl rfl ?_
        refine own_iconst A11 hx (pc' := 62) (hb hby d_method_4_61) (z := (1 : Int32)) (by decide) rfl ?_
        refine own_iloadN A11 hx (pc' := 63) (hb hby d_method_4_62) rfl rfl ?_
        refine own_stC K11 hx V11 (List.mem_of_getElem? (i := 0) rfl) (by decide) 1 rfl (Nat.le_of_ble_eq_true rfl) (hb hby d_method_4_63) (pc' := 64) rfl ?_
        intro T12 h12 K12 W12 V12
        have X9 := X9.wr W12
        have F_value_b9 := F_value_b9.other W12 (Or.inl ne_b9_b10)
        have F_coder_b9 := F_coder_b9.other W12 (Or.inl ne_b9_b10)
        have A12 := own_here K12
        have V12 : Arv Z h12 b10 k10 .char (3 : Int32) [(.int (nar .char c0)), (.int (nar .char c1)), (.int (0 : Int32))] (.int (0 : Int32)) := V12
        refine own_dup A12 hx (pc' := 65) (hb hby d_method_4_64) rfl rfl ?_
        refine own_iconst A12 hx (pc' := 66) (hb hby d_method_4_65) (z := (2 : Int32)) (by decide) rfl ?_
        refine own_iloadN A12 hx (pc' := 67) (hb hby d_method_4_66) rfl rfl ?_
        refine own_stC K12 hx V12 (List.mem_of_getElem? (i := 0) rfl) (by decide) 2 rfl (Nat.le_of_ble_eq_true rfl) (hb hby d_method_4_67) (pc' := 68) rfl ?_
        intro T13 h13 K13 W13 V13
        have X9 := X9.wr W13
        have F_value_b9 := F_value_b9.other W13 (Or.inl ne_b9_b10)
        have F_coder_b9 := F_coder_b9.other W13 (Or.inl ne_b9_b10)
        have A13 := own_here K13
        have V13 : Arv Z h13 b10 k10 .char (3 : Int32) [(.int (nar .char c0)), (.int (nar .char c1)), (.int (nar .char c2))] (.int (0 : Int32)) := V13
        have hp14 : ∀ c ∈ ([(nar .char c0), (nar .char c1), (nar .char c2)] : List Int32), ¬ c < 0 ∧ ¬ (255 : Int32) < c := by
          intro c hc
          simp only [List.mem_cons, List.not_mem_nil, or_false] at hc
          rcases hc with rfl | rfl | rfl <;> (first | exact q0.1 | exact q1.1 | exact q2.1 | exact q3.1)
        refine own_strNew K13 hx (by rw [hml]; rfl) (hw _ (List.mem_of_getElem? (i := 14) rfl)) (hw _ (List.mem_of_getElem? (i := 15) rfl)) (hw _ (List.mem_of_getElem? (i := 16) rfl)) (own_wn hw) (hw _ (List.mem_of_getElem? (i := 11) rfl)) (List.mem_of_getElem? (i := 1) rfl) X9 F_value_b9 F_coder_b9 V13 O2 P5 (cs := [(nar .char c0), (nar .char c1), (nar .char c2)]) (n := 3) rfl rfl (by decide) (by decide) hp14 (lenOf pd_1 rfl) 1 (Nat.le_of_eq rfl) (hb hby d_method_4_68) (pc' := 71) rfl (by decide) (by decide) (by decide) (by decide) ?_
        intro T14 h14 K14 Kp14 Z14
        have V13 := V13.keep Kp14 (ninS (Ne.symm ne_b9_b10) nin0)
        have A14 := own_here K14
        exact own_retR K14 hx hlk hret rfl rfl (hb hby d_method_4_71) (by decide) (by decide) ⟨_, rfl, by rw [own_txt, if_neg hc2, if_neg hc22, if_pos hc46]; exact Z14⟩
    · refine own_new K hx (hw _ (List.mem_of_getElem? (i := 10) rfl)) (hw _ (List.mem_of_getElem? (i := 11) rfl)) (hw _ (List.mem_of_getElem? (i := 12) rfl)) (hb hby d_method_4_25) (pc' := 28) rfl (by decide) (by decide) ?_
      intro T15 h15 b15 g15 K15 E15 X15 D15 U15
      have A15 := own_here K15
      have F_value_b15 := D15 (Or.inr (hw _ (List.mem_of_getElem? (i := 39) rfl))) (ty := (.array .byte)) (by decide)
      have F_coder_b15 := D15 (Or.inr (hw _ (List.mem_of_getElem? (i := 37) rfl))) (ty := .byte) (by decide)
      refine own_dup A15 hx (pc' := 29) (hb hby d_method_4_28) rfl rfl ?_
      refine own_iconst A15 hx (pc' := 30) (hb hby d_method_4_29) (z := (2 : Int32)) (by decide) rfl ?_
      refine own_newarr K15 hx (hw _ (List.mem_of_getElem? (i := 13) rfl)) (hb hby d_method_4_30) (pc' := 32) rfl (by decide) 2 (by decide) (by decide) (by decide) (by decide) ?_
      intro T16 h16 b16 k16 g16 K16 E16 V16
      have ne_b15_b16 : b15 ≠ b16 := by rw [g16]; exact Nat.ne_of_lt X15.lt
      have X15 := X15.ext E16
      have F_value_b15 := F_value_b15.ext E16
      have F_coder_b15 := F_coder_b15.ext E16
      have A16 := own_here K16
      have V16 : Arv Z h16 b16 k16 .char (2 : Int32) [(.int (0 : Int32)), (.int (0 : Int32))] (.int (0 : Int32)) := V16.pad (pad_rep [] (.int (0 : Int32)) 2)
      refine own_dup A16 hx (pc' := 33) (hb hby d_method_4_32) rfl rfl ?_
      refine own_iconst A16 hx (pc' := 34) (hb hby d_method_4_33) (z := (0 : Int32)) (by decide) rfl ?_
      refine own_iloadN A16 hx (pc' := 35) (hb hby d_method_4_34) rfl rfl ?_
      refine own_stC K16 hx V16 (List.mem_of_getElem? (i := 0) rfl) (by decide) 0 rfl (Nat.le_of_ble_eq_true rfl) (hb hby d_method_4_35) (pc' := 36) rfl ?_
      intro T17 h17 K17 W17 V17
      have X15 := X15.wr W17
      have F_value_b15 := F_value_b15.other W17 (Or.inl ne_b15_b16)
      have F_coder_b15 := F_coder_b15.other W17 (Or.inl ne_b15_b16)
      have A17 := own_here K17
      have V17 : Arv Z h17 b16 k16 .char (2 : Int32) [(.int (nar .char c0)), (.int (0 : Int32))] (.int (0 : Int32)) := V17
      refine own_dup A17 hx (pc' := 37) (hb hby d_method_4_36) rfl rfl ?_
      refine own_iconst A17 hx (pc' := 38) (hb hby d_method_4_37) (z := (1 : Int32)) (by decide) rfl ?_
      refine own_iloadN A17 hx (pc' := 39) (hb hby d_method_4_38) rfl rfl ?_
      refine own_stC K17 hx V17 (List.mem_of_getElem? (i := 0) rfl) (by decide) 1 rfl (Nat.le_of_ble_eq_true rfl) (hb hby d_method_4_39) (pc' := 40) rfl ?_
      intro T18 h18 K18 W18 V18
      have X15 := X15.wr W18
      have F_value_b15 := F_value_b15.other W18 (Or.inl ne_b15_b16)
      have F_coder_b15 := F_coder_b15.other W18 (Or.inl ne_b15_b16)
      have A18 := own_here K18
      have V18 : Arv Z h18 b16 k16 .char (2 : Int32) [(.int (nar .char c0)), (.int (nar .char c1))] (.int (0 : Int32)) := V18
      have hp19 : ∀ c ∈ ([(nar .char c0), (nar .char c1)] : List Int32), ¬ c < 0 ∧ ¬ (255 : Int32) < c := by
        intro c hc
        simp only [List.mem_cons, List.not_mem_nil, or_false] at hc
        rcases hc with rfl | rfl <;> (first | exact q0.1 | exact q1.1 | exact q2.1 | exact q3.1)
      refine own_strNew K18 hx (by rw [hml]; rfl) (hw _ (List.mem_of_getElem? (i := 14) rfl)) (hw _ (List.mem_of_getElem? (i := 15) rfl)) (hw _ (List.mem_of_getElem? (i := 16) rfl)) (own_wn hw) (hw _ (List.mem_of_getElem? (i := 11) rfl)) (List.mem_of_getElem? (i := 1) rfl) X15 F_value_b15 F_coder_b15 V18 O2 P5 (cs := [(nar .char c0), (nar .char c1)]) (n := 2) rfl rfl (by decide) (by decide) hp19 (lenOf pd_1 rfl) 1 (Nat.le_of_eq rfl) (hb hby d_method_4_40) (pc' := 43) rfl (by decide) (by decide) (by decide) (by decide) ?_
      intro T19 h19 K19 Kp19 Z19
      have V18 := V18.keep Kp19 (ninS (Ne.symm ne_b15_b16) nin0)
      have A19 := own_here K19
      exact own_retR K19 hx hlk hret rfl rfl (hb hby d_method_4_43) (by decide) (by decide) ⟨_, rfl, by rw [own_txt, if_neg hc2, if_pos hc22]; exact Z19⟩
  · refine own_new K hx (hw _ (List.mem_of_getElem? (i := 10) rfl)) (hw _ (List.mem_of_getElem? (i := 11) rfl)) (hw _ (List.mem_of_getElem? (i := 12) rfl)) (hb hby d_method_4_5) (pc' := 8) rfl (by decide) (by decide) ?_
    intro T20 h20 b20 g20 K20 E20 X20 D20 U20
    have A20 := own_here K20
    have F_value_b20 := D20 (Or.inr (hw _ (List.mem_of_getElem? (i := 39) rfl))) (ty := (.array .byte)) (by decide)
    have F_coder_b20 := D20 (Or.inr (hw _ (List.mem_of_getElem? (i := 37) rfl))) (ty := .byte) (by decide)
    refine own_dup A20 hx (pc' := 9) (hb hby d_method_4_8) rfl rfl ?_
    refine own_iconst A20 hx (pc' := 10) (hb hby d_method_4_9) (z := (1 : Int32)) (by decide) rfl ?_
    refine own_newarr K20 hx (hw _ (List.mem_of_getElem? (i := 13) rfl)) (hb hby d_method_4_10) (pc' := 12) rfl (by decide) 1 (by decide) (by decide) (by decide) (by decide) ?_
    intro T21 h21 b21 k21 g21 K21 E21 V21
    have ne_b20_b21 : b20 ≠ b21 := by rw [g21]; exact Nat.ne_of_lt X20.lt
    have X20 := X20.ext E21
    have F_value_b20 := F_value_b20.ext E21
    have F_coder_b20 := F_coder_b20.ext E21
    have A21 := own_here K21
    have V21 : Arv Z h21 b21 k21 .char (1 : Int32) [(.int (0 : Int32))] (.int (0 : Int32)) := V21.pad (pad_rep [] (.int (0 : Int32)) 1)
    refine own_dup A21 hx (pc' := 13) (hb hby d_method_4_12) rfl rfl ?_
    refine own_iconst A21 hx (pc' := 14) (hb hby d_method_4_13) (z := (0 : Int32)) (by decide) rfl ?_
    refine own_iloadN A21 hx (pc' := 15) (hb hby d_method_4_14) rfl rfl ?_
    refine own_stC K21 hx V21 (List.mem_of_getElem? (i := 0) rfl) (by decide) 0 rfl (Nat.le_of_ble_eq_true rfl) (hb hby d_method_4_15) (pc' := 16) rfl ?_
    intro T22 h22 K22 W22 V22
    have X20 := X20.wr W22
    have F_value_b20 := F_value_b20.other W22 (Or.inl ne_b20_b21)
    have F_coder_b20 := F_coder_b20.other W22 (Or.inl ne_b20_b21)
    have A22 := own_here K22
    have V22 : Arv Z h22 b21 k21 .char (1 : Int32) [(.int (nar .char c0))] (.int (0 : Int32)) := V22
    have hp23 : ∀ c ∈ ([(nar .char c0)] : List Int32), ¬ c < 0 ∧ ¬ (255 : Int32) < c := by
      intro c hc
      simp only [List.mem_cons, List.not_mem_nil, or_false] at hc
      subst hc; (first | exact q0.1 | exact q1.1 | exact q2.1 | exact q3.1)
    refine own_strNew K22 hx (by rw [hml]; rfl) (hw _ (List.mem_of_getElem? (i := 14) rfl)) (hw _ (List.mem_of_getElem? (i := 15) rfl)) (hw _ (List.mem_of_getElem? (i := 16) rfl)) (own_wn hw) (hw _ (List.mem_of_getElem? (i := 11) rfl)) (List.mem_of_getElem? (i := 1) rfl) X20 F_value_b20 F_coder_b20 V22 O2 P5 (cs := [(nar .char c0)]) (n := 1) rfl rfl (by decide) (by decide) hp23 (lenOf pd_1 rfl) 1 (Nat.le_of_eq rfl) (hb hby d_method_4_16) (pc' := 19) rfl (by decide) (by decide) (by decide) (by decide) ?_
    intro T23 h23 K23 Kp23 Z23
    have V22 := V22.keep Kp23 (ninS (Ne.symm ne_b20_b21) nin0)
    have A23 := own_here K23
    exact own_retR K23 hx hlk hret rfl rfl (hb hby d_method_4_19) (by decide) (by decide) ⟨_, rfl, by rw [own_txt, if_pos hc2]; exact Z23⟩
theorem own_q {c : Int32} (h : own_AY c) : (¬ nar .char c < 0 ∧ ¬ (255 : Int32) < nar .char c) ∧ nar .char c = c := by have q := own_ayR h; rw [q.2]; exact ⟨q.1, rfl⟩
theorem d_prog_2_method_2_0 : decode prog_2_method_2_code 0 = .ok (.iload_n 0, 1) := by decide +kernel
theorem d_prog_2_method_2_1 : decode prog_2_method_2_code 1 = .ok (.bipush 97, 2) := by decide +kernel
theorem d_prog_2_method_2_3 : decode prog_2_method_2_code 3 = .ok (.if_icmp .lt 9, 3) := by decide +kernel
theorem d_prog_2_method_2_12 : decode prog_2_method_2_code 12 = .ok (.iload_n 0, 1) := by decide +kernel
theorem d_prog_2_method_2_13 : decode prog_2_method_2_code 13 = .ok (.bipush 48, 2) := by decide +kernel
theorem d_prog_2_method_2_15 : decode prog_2_method_2_code 15 = .ok (.if_icmp .lt 13, 3) := by decide +kernel
theorem d_prog_2_method_2_28 : decode prog_2_method_2_code 28 = .ok (.iconst 0, 1) := by decide +kernel
theorem d_prog_2_method_2_29 : decode prog_2_method_2_code 29 = .ok (.ireturn, 1) := by decide +kernel
theorem d_prog_2_method_2_18 : decode prog_2_method_2_code 18 = .ok (.iload_n 0, 1) := by decide +kernel
theorem d_prog_2_method_2_19 : decode prog_2_method_2_code 19 = .ok (.bipush 57, 2) := by decide +kernel
theorem d_prog_2_method_2_21 : decode prog_2_method_2_code 21 = .ok (.if_icmp .gt 7, 3) := by decide +kernel
theorem d_prog_2_method_2_24 : decode prog_2_method_2_code 24 = .ok (.iconst 1, 1) := by decide +kernel
theorem d_prog_2_method_2_25 : decode prog_2_method_2_code 25 = .ok (.goto 4, 3) := by decide +kernel
theorem d_prog_2_method_2_6 : decode prog_2_method_2_code 6 = .ok (.iload_n 0, 1) := by decide +kernel
theorem d_prog_2_method_2_7 : decode prog_2_method_2_code 7 = .ok (.bipush 122, 2) := by decide +kernel
theorem d_prog_2_method_2_9 : decode prog_2_method_2_code 9 = .ok (.if_icmp .le 15, 3) := by decide +kernel
theorem ef_rm_ld (m : MethodId) (p1 : Int32)  : entryFrame m #[(.int p1)] 1 = mkF m 0 #[.val (.int p1)] [] := by  first | (simp [entryFrame, mkF, argsToLocals, Value.category]; done) | rfl
theorem pn_1 : plainName "com/example/kustody/kustody/DatasetName" = true := by first | (simp [plainName, overriddenIn]; done) | decide +kernel
set_option maxRecDepth 65536 in
set_option maxHeartbeats 40000000 in
theorem rm_ld (l : Launch) (Z : State) (a0 : Array Value) (hw : ∀ d ∈ tables_1, d.before a0 Z = true) (more : List Jvm.Cond) (h0 : Heap) (p1 : Int32)   :
    own_Met true false [] l Z a0 (⟨"com/example/kustody/kustody/DatasetName", "isLetterOrDigit", "(I)Z"⟩ : MethodName) prog_2_method_2_code 1 (some .boolean) more ({ frames := 0, cells := 0, slots := 0, locals := 0 } : Room) #[(.int p1)] h0 [] (fun v h => v = some (.int (if own_LD p1 then 1 else 0)) ∧ h = h0) := by
  refine own_enter (own := "com/example/kustody/kustody/DatasetName") rfl (plainFor_of_name pn_1) ?_
  intro p e s m below meth c T hx hby hml hret hlk hnm K
  rw [ef_rm_ld m p1]
  have A := own_here K
  refine own_iloadN A hx (pc' := 1) (hb hby d_prog_2_method_2_0) rfl rfl ?_
  refine own_bipush A hx (pc' := 3) (hb hby d_prog_2_method_2_1) (z := (97 : Int32)) (by decide) rfl ?_
  refine own_icmp_lt A hx 12 6 (hb hby d_prog_2_method_2_3) (by decide) (by decide) rfl (fun hc3 => ?_) (fun hc3 => ?_)
  · refine own_iloadN A hx (pc' := 13) (hb hby d_prog_2_method_2_12) rfl rfl ?_
    refine own_bipush A hx (pc' := 15) (hb hby d_prog_2_method_2_13) (z := (48 : Int32)) (by decide) rfl ?_
    refine own_icmp_lt A hx 28 18 (hb hby d_prog_2_method_2_15) (by decide) (by decide) rfl (fun hc15 => ?_) (fun hc15 => ?_)
    · refine own_iconst A hx (pc' := 29) (hb hby d_prog_2_method_2_28) (z := (0 : Int32)) (by decide) rfl ?_
      exact own_retN K hx hlk hret (by simp) (hb hby d_prog_2_method_2_29) (by decide) (by decide) ⟨by rw [show (if own_LD p1 then (1 : Int32) else 0) = 0 from (by simp only [own_LD]; simp [hc3, hc15])]; rfl, rfl⟩
    · refine own_iloadN A hx (pc' := 19) (hb hby d_prog_2_method_2_18) rfl rfl ?_
      refine own_bipush A hx (pc' := 21) (hb hby d_prog_2_method_2_19) (z := (57 : Int32)) (by decide) rfl ?_
      refine own_icmp_gt A hx 28 24 (hb hby d_prog_2_method_2_21) (by decide) (by decide) rfl (fun hc21 => ?_) (fun hc21 => ?_)
      · refine own_iconst A hx (pc' := 29) (hb hby d_prog_2_method_2_28) (z := (0 : Int32)) (by decide) rfl ?_
        exact own_retN K hx hlk hret (by simp) (hb hby d_prog_2_method_2_29) (by decide) (by decide) ⟨by rw [show (if own_LD p1 then (1 : Int32) else 0) = 0 from (by simp only [own_LD]; simp [hc3, hc15, hc21])]; rfl, rfl⟩
      · refine own_iconst A hx (pc' := 25) (hb hby d_prog_2_method_2_24) (z := (1 : Int32)) (by decide) rfl ?_
        refine own_goto A hx 29 (hb hby d_prog_2_method_2_25) (by decide) (by decide) ?_
        exact own_retN K hx hlk hret (by simp) (hb hby d_prog_2_method_2_29) (by decide) (by decide) ⟨by rw [show (if own_LD p1 then (1 : Int32) else 0) = 1 from (by simp only [own_LD]; simp [hc3, hc15, hc21])]; rfl, rfl⟩
  · refine own_iloadN A hx (pc' := 7) (hb hby d_prog_2_method_2_6) rfl rfl ?_
    refine own_bipush A hx (pc' := 9) (hb hby d_prog_2_method_2_7) (z := (122 : Int32)) (by decide) rfl ?_
    refine own_icmp_le A hx 24 12 (hb hby d_prog_2_method_2_9) (by decide) (by decide) rfl (fun hc9 => ?_) (fun hc9 => ?_)
    · refine own_iconst A hx (pc' := 25) (hb hby d_prog_2_method_2_24) (z := (1 : Int32)) (by decide) rfl ?_
      refine own_goto A hx 29 (hb hby d_prog_2_method_2_25) (by decide) (by decide) ?_
      exact own_retN K hx hlk hret (by simp) (hb hby d_prog_2_method_2_29) (by decide) (by decide) ⟨by rw [show (if own_LD p1 then (1 : Int32) else 0) = 1 from (by simp only [own_LD]; simp [hc3, hc9])]; rfl, rfl⟩
    · refine own_iloadN A hx (pc' := 13) (hb hby d_prog_2_method_2_12) rfl rfl ?_
      refine own_bipush A hx (pc' := 15) (hb hby d_prog_2_method_2_13) (z := (48 : Int32)) (by decide) rfl ?_
      refine own_icmp_lt A hx 28 18 (hb hby d_prog_2_method_2_15) (by decide) (by decide) rfl (fun hc15 => ?_) (fun hc15 => ?_)
      · refine own_iconst A hx (pc' := 29) (hb hby d_prog_2_method_2_28) (z := (0 : Int32)) (by decide) rfl ?_
        exact own_retN K hx hlk hret (by simp) (hb hby d_prog_2_method_2_29) (by decide) (by decide) ⟨by rw [show (if own_LD p1 then (1 : Int32) else 0) = 0 from (by simp only [own_LD]; simp [hc3, hc9, hc15])]; rfl, rfl⟩
      · refine own_iloadN A hx (pc' := 19) (hb hby d_prog_2_method_2_18) rfl rfl ?_
        refine own_bipush A hx (pc' := 21) (hb hby d_prog_2_method_2_19) (z := (57 : Int32)) (by decide) rfl ?_
        refine own_icmp_gt A hx 28 24 (hb hby d_prog_2_method_2_21) (by decide) (by decide) rfl (fun hc21 => ?_) (fun hc21 => ?_)
        · refine own_iconst A hx (pc' := 29) (hb hby d_prog_2_method_2_28) (z := (0 : Int32)) (by decide) rfl ?_
          exact own_retN K hx hlk hret (by simp) (hb hby d_prog_2_method_2_29) (by decide) (by decide) ⟨by rw [show (if own_LD p1 then (1 : Int32) else 0) = 0 from (by simp only [own_LD]; simp [hc3, hc9, hc15, hc21])]; rfl, rfl⟩
        · refine own_iconst A hx (pc' := 25) (hb hby d_prog_2_method_2_24) (z := (1 : Int32)) (by decide) rfl ?_
          refine own_goto A hx 29 (hb hby d_prog_2_method_2_25) (by decide) (by decide) ?_
          exact own_retN K hx hlk hret (by simp) (hb hby d_prog_2_method_2_29) (by decide) (by decide) ⟨by rw [show (if own_LD p1 then (1 : Int32) else 0) = 1 from (by simp only [own_LD]; simp [hc3, hc9, hc15, hc21])]; rfl, rfl⟩
theorem d_jdk_31_method_11_0 : decode jdk_31_method_11_code 0 = .ok (.aload_n 0, 1) := by decide +kernel
theorem d_jdk_31_method_11_1 : decode jdk_31_method_11_code 1 = .ok (.ifnonnull 12, 3) := by decide +kernel
theorem d_jdk_31_method_11_13 : decode jdk_31_method_11_code 13 = .ok (.aload_n 0, 1) := by decide +kernel
theorem d_jdk_31_method_11_14 : decode jdk_31_method_11_code 14 = .ok (.areturn, 1) := by decide +kernel
theorem ef_rm_rnn (m : MethodId) (o : Addr) (t : Addr)  : entryFrame m #[(.ref o), (.ref t)] 2 = mkF m 0 #[.val (.ref o), .val (.ref t)] [] := by  first | (simp [entryFrame, mkF, argsToLocals, Value.category]; done) | rfl
theorem pn_2 : plainName "java/util/Objects" = true := by first | (simp [plainName, overriddenIn]; done) | decide +kernel
set_option maxRecDepth 65536 in
set_option maxHeartbeats 40000000 in
theorem rm_rnn (l : Launch) (Z : State) (a0 : Array Value) (hw : ∀ d ∈ tables_1, d.before a0 Z = true) (more : List Jvm.Cond) (h0 : Heap) (o : Addr) (t : Addr)   :
    own_Met true false [] l Z a0 (⟨"java/util/Objects", "requireNonNull", "(Ljava/lang/Object;Ljava/lang/String;)Ljava/lang/Object;"⟩ : MethodName) jdk_31_method_11_code 2 (some (.object "java/lang/Object")) more ({ frames := 0, cells := 0, slots := 0, locals := 0 } : Room) #[(.ref o), (.ref t)] h0 [] (fun v h => v = some (.ref o) ∧ h = h0) := by
  refine own_enter (own := "java/util/Objects") rfl (plainFor_of_name pn_2) ?_
  intro p e s m below meth c T hx hby hml hret hlk hnm K
  rw [ef_rm_rnn m o t]
  have A := own_here K
  refine own_aloadN A hx (pc' := 1) (hb hby d_jdk_31_method_11_0) rfl rfl rfl ?_
  refine own_ifnonnull_t A hx 13 (hb hby d_jdk_31_method_11_1) (by decide) (by decide) ?_
  refine own_aloadN A hx (pc' := 14) (hb hby d_jdk_31_method_11_13) rfl rfl rfl ?_
  exact own_retR K hx hlk hret rfl rfl (hb hby d_jdk_31_method_11_14) (by decide) (by decide) ⟨rfl, rfl⟩
theorem own_pos {cs : List Int32} (h : cs ≠ []) : 0 < cs.length := by
  cases cs with
  | nil => exact absurd rfl h
  | cons a r => exact Nat.succ_pos _
theorem own_getD {cs : List Int32} {k : Nat} (h : k < cs.length) : cs.getD k 0 ∈ cs := by rw [List.getD_eq_getElem?_getD, List.getElem?_eq_getElem h]; exact List.getElem_mem h
theorem d_prog_2_method_1_0 : decode prog_2_method_1_code 0 = .ok (.aload_n 0, 1) := by decide +kernel
theorem d_prog_2_method_1_1 : decode prog_2_method_1_code 1 = .ok (.invokespecial 1, 3) := by decide +kernel
theorem d_prog_2_method_1_4 : decode prog_2_method_1_code 4 = .ok (.aload_n 1, 1) := by decide +kernel
theorem d_prog_2_method_1_5 : decode prog_2_method_1_code 5 = .ok (.ldc 7, 2) := by decide +kernel
theorem pd_2 : parseMethodDescriptor "(Ljava/lang/Object;Ljava/lang/String;)Ljava/lang/Object;" = some ⟨[(.object "java/lang/Object"), (.object "java/lang/String")], some (.object "java/lang/Object")⟩ := by decide +kernel
theorem d_prog_2_method_1_7 : decode prog_2_method_1_code 7 = .ok (.invokestatic 9, 3) := by decide +kernel
theorem d_prog_2_method_1_10 : decode prog_2_method_1_code 10 = .ok (.pop, 1) := by decide +kernel
theorem d_prog_2_method_1_11 : decode prog_2_method_1_code 11 = .ok (.aload_n 1, 1) := by decide +kernel
theorem pd_3 : parseMethodDescriptor "()Z" = some ⟨[], some .boolean⟩ := by decide +kernel
theorem d_prog_2_method_1_12 : decode prog_2_method_1_code 12 = .ok (.invokevirtual 15, 3) := by decide +kernel
theorem d_prog_2_method_1_15 : decode prog_2_method_1_code 15 = .ok (.ifCond .eq 13, 3) := by decide +kernel
theorem d_prog_2_method_1_28 : decode prog_2_method_1_code 28 = .ok (.iconst 0, 1) := by decide +kernel
theorem d_prog_2_method_1_29 : decode prog_2_method_1_code 29 = .ok (.istore_n 2, 1) := by decide +kernel
theorem d_prog_2_method_1_30 : decode prog_2_method_1_code 30 = .ok (.iload_n 2, 1) := by decide +kernel
theorem d_prog_2_method_1_31 : decode prog_2_method_1_code 31 = .ok (.aload_n 1, 1) := by decide +kernel
theorem pd_4 : parseMethodDescriptor "()I" = some ⟨[], some .int⟩ := by decide +kernel
theorem d_prog_2_method_1_32 : decode prog_2_method_1_code 32 = .ok (.invokevirtual 28, 3) := by decide +kernel
theorem d_prog_2_method_1_35 : decode prog_2_method_1_code 35 = .ok (.if_icmp .ge 56, 3) := by decide +kernel
theorem d_prog_2_method_1_91 : decode prog_2_method_1_code 91 = .ok (.aload_n 1, 1) := by decide +kernel
theorem d_prog_2_method_1_92 : decode prog_2_method_1_code 92 = .ok (.invokevirtual 28, 3) := by decide +kernel
theorem d_prog_2_method_1_95 : decode prog_2_method_1_code 95 = .ok (.bipush 64, 2) := by decide +kernel
theorem d_prog_2_method_1_97 : decode prog_2_method_1_code 97 = .ok (.if_icmp .le 20, 3) := by decide +kernel
theorem d_prog_2_method_1_117 : decode prog_2_method_1_code 117 = .ok (.aload_n 1, 1) := by decide +kernel
theorem d_prog_2_method_1_118 : decode prog_2_method_1_code 118 = .ok (.iconst 0, 1) := by decide +kernel
theorem d_prog_2_method_1_119 : decode prog_2_method_1_code 119 = .ok (.invokevirtual 32, 3) := by decide +kernel
theorem pd_5 : parseMethodDescriptor "(I)Z" = some ⟨[.int], some .boolean⟩ := by decide +kernel
theorem d_prog_2_method_1_122 : decode prog_2_method_1_code 122 = .ok (.invokestatic 36, 3) := by decide +kernel
theorem d_prog_2_method_1_125 : decode prog_2_method_1_code 125 = .ok (.ifCond .ne 13, 3) := by decide +kernel
theorem d_prog_2_method_1_138 : decode prog_2_method_1_code 138 = .ok (.aload_n 0, 1) := by decide +kernel
theorem d_prog_2_method_1_139 : decode prog_2_method_1_code 139 = .ok (.aload_n 1, 1) := by decide +kernel
theorem d_prog_2_method_1_140 : decode prog_2_method_1_code 140 = .ok (.putfield 58, 3) := by decide +kernel
theorem d_prog_2_method_1_143 : decode prog_2_method_1_code 143 = .ok (.return_, 1) := by decide +kernel
theorem d_prog_2_method_1_38 : decode prog_2_method_1_code 38 = .ok (.aload_n 1, 1) := by decide +kernel
theorem d_prog_2_method_1_39 : decode prog_2_method_1_code 39 = .ok (.iload_n 2, 1) := by decide +kernel
theorem d_prog_2_method_1_40 : decode prog_2_method_1_code 40 = .ok (.invokevirtual 32, 3) := by decide +kernel
theorem d_prog_2_method_1_43 : decode prog_2_method_1_code 43 = .ok (.istore_n 3, 1) := by decide +kernel
theorem d_prog_2_method_1_44 : decode prog_2_method_1_code 44 = .ok (.iload_n 3, 1) := by decide +kernel
theorem d_prog_2_method_1_45 : decode prog_2_method_1_code 45 = .ok (.invokestatic 36, 3) := by decide +kernel
theorem d_prog_2_method_1_48 : decode prog_2_method_1_code 48 = .ok (.ifCond .ne 37, 3) := by decide +kernel
theorem d_prog_2_method_1_85 : decode prog_2_method_1_code 85 = .ok (.iinc 2 1, 3) := by decide +kernel
theorem d_prog_2_method_1_88 : decode prog_2_method_1_code 88 = .ok (.goto (-58), 3) := by decide +kernel
theorem d_prog_2_method_1_51 : decode prog_2_method_1_code 51 = .ok (.iload_n 3, 1) := by decide +kernel
theorem d_prog_2_method_1_52 : decode prog_2_method_1_code 52 = .ok (.bipush 45, 2) := by decide +kernel
theorem d_prog_2_method_1_54 : decode prog_2_method_1_code 54 = .ok (.if_icmp .eq 31, 3) := by decide +kernel
theorem ef_rm_dn (m : MethodId) (x : Addr) (t : Addr)  : entryFrame m #[(.ref x), (.ref t)] 5 = mkF m 0 #[.val (.ref x), .val (.ref t), .unset, .unset, .unset] [] := by  first | (simp [entryFrame, mkF, argsToLocals, Value.category]; done) | rfl
set_option maxRecDepth 65536 in
set_option maxHeartbeats 40000000 in
theorem rm_dn (l : Launch) (Z : State) (a0 : Array Value) (hw : ∀ d ∈ tables_1, d.before a0 Z = true) (more : List Jvm.Cond) (h0 : Heap) (x : Addr) (t : Addr) (v1 : Value) (cs : List Int32) (G1 : Int32) (O2 : Sta Z Z.heap "java/lang/String" "COMPACT_STRINGS" "Z" (.int G1)) (P5 : ¬ (G1 = (0 : Int32))) (G3 : Value) (O4 : Sta Z Z.heap "jdk/internal/util/Preconditions" "SIOOBE_FORMATTER" "Ljava/util/function/BiFunction;" G3) (rG3 : G3.isRef = true) (S : own_Str Z h0 t cs) (E : Exa Z h0 x "com/example/kustody/kustody/DatasetName") (F : Fld Z h0 x "com/example/kustody/kustody/DatasetName" "text" "Ljava/lang/String;" v1) (hne : cs ≠ []) (hall : ∀ c ∈ cs, own_AY c) (hld : own_LD (cs.getD 0 0)) (hlen : cs.length ≤ 64) (hlat : ∀ c ∈ cs, ¬ (255 : Int32) < c) :
    own_Met true false [] l Z a0 (⟨"com/example/kustody/kustody/DatasetName", "<init>", "(Ljava/lang/String;)V"⟩ : MethodName) prog_2_method_1_code 5 none more ({ frames := 4, cells := 2, slots := 20, locals := 53 } : Room) #[(.ref x), (.ref t)] h0 [x] (fun v h => v = none ∧ Fld Z h x "com/example/kustody/kustody/DatasetName" "text" "Ljava/lang/String;" (.ref t)) := by
  refine own_enter (own := "com/example/kustody/kustody/DatasetName") rfl (plainFor_of_name pn_1) ?_
  intro p e s m below meth c T hx hby hml hret hlk hnm K
  rw [ef_rm_dn m x t]
  have A := own_here K
  refine own_aloadN A hx (pc' := 1) (hb hby d_prog_2_method_1_0) rfl rfl rfl ?_
  refine own_initO K hx (hw _ (List.mem_of_getElem? (i := 46) rfl)) (hw _ (List.mem_of_getElem? (i := 22) rfl)) (hw _ (List.mem_of_getElem? (i := 23) rfl)) (by rw [hml]; rfl) 0 (Nat.le_of_eq rfl) (by decide) (by decide) (hb hby d_prog_2_method_1_1) (pc' := 4) rfl ?_
  intro T24 K24
  have A24 := own_here K24
  refine own_aloadN A24 hx (pc' := 5) (hb hby d_prog_2_method_1_4) rfl rfl rfl ?_
  refine own_ldc (n := 16) K24 hx (hw _ (List.mem_of_getElem? (i := 47) rfl)) (own_sa hw) (hb hby d_prog_2_method_1_5) (pc' := 7) rfl (by decide +kernel) (by decide) (by decide) (by decide) ?_
  intro b25 T25 h25 K25 E25
  have S := S.ext E25
  have E := E.ext E25
  have F := F.ext E25
  have A25 := own_here K25
  refine own_callS K25 hx (by rw [hml]; rfl) (hw _ (List.mem_of_getElem? (i := 50) rfl)) (hw _ (List.mem_of_getElem? (i := 51) rfl)) (hw _ (List.mem_of_getElem? (i := 52) rfl)) (hw _ (List.mem_of_getElem? (i := 53) rfl)) (by decide) (rm_rnn l Z a0 hw [] h25 t b25) (fun _ q => nomatch q) (argsL := [(.ref t), (.ref b25)]) (rest := []) (lenOf pd_2 rfl) rfl 0 (Nat.le_of_eq rfl) (hb hby d_prog_2_method_1_7) (pc' := 10) rfl (by decide) (by decide) (by decide) (by decide) ?_
  intro v26 T26 h26 K26 Kp26 Q26
  obtain ⟨rfl, -⟩ := Q26
  have S := S.keep Kp26 own_off0
  have E := E.keep Kp26
  have F := F.keep Kp26 nin0
  have A26 := own_here K26
  show own_Go p.tables e below _ T26 (mkF m 10 #[.val (.ref x), .val (.ref t), .unset, .unset, .unset] [(.ref t)])
  refine own_pop A26 hx (pc' := 11) (hb hby d_prog_2_method_1_10) rfl rfl ?_
  refine own_aloadN A26 hx (pc' := 12) (hb hby d_prog_2_method_1_11) rfl rfl rfl ?_
  refine own_strEmp K26 hx (by rw [hml]; rfl) (hw _ (List.mem_of_getElem? (i := 54) rfl)) (hw _ (List.mem_of_getElem? (i := 55) rfl)) (hw _ (List.mem_of_getElem? (i := 57) rfl)) (hw _ (List.mem_of_getElem? (i := 56) rfl)) (own_wp hw) (hw _ (List.mem_of_getElem? (i := 11) rfl)) S (lenOf pd_3 rfl) 0 (Nat.le_of_eq rfl) (hb hby d_prog_2_method_1_12) (pc' := 15) rfl (by decide) (by decide) (by decide) (by decide) ?_
  intro T27 K27
  have A27 := own_here K27
  refine own_if_eq A27 hx 28 18 (hb hby d_prog_2_method_1_15) (by decide) (by decide) rfl (fun hc15 => ?_) (fun hc15 => ?_)
  rotate_left
  · exact absurd (own_if1 hc15) (fun q => hne (List.eq_nil_of_length_eq_zero q))
  refine own_iconst A27 hx (pc' := 29) (hb hby d_prog_2_method_1_28) (z := (0 : Int32)) (by decide) rfl ?_
  refine own_istoreN A27 hx (pc' := 30) #[.val (.ref x), .val (.ref t), .val (.int (0 : Int32)), .unset, .unset] (hb hby d_prog_2_method_1_29) rfl rfl ?_
  have loop : ∀ (n k : Nat) (s3 : Slot) (Tl28 : State), k + n = cs.length → (s3 = .unset ∨ ∃ z, s3 = .val (.int z)) → own_S true false [] p l e ({ frames := 4, cells := 2, slots := 20, locals := 53 } : Room) s m #[(.ref x), (.ref t)] below meth c Z a0 "com/example/kustody/kustody/DatasetName" h0 [x] Tl28 h26 [x] 2 20 → own_Go p.tables e below (own_Post true [] Z ({ frames := 4, cells := 2, slots := 20, locals := 53 } : Room) h0 [x] (fun v h => v = none ∧ Fld Z h x "com/example/kustody/kustody/DatasetName" "text" "Ljava/lang/String;" (.ref t)) s) Tl28 (mkF m 30 #[.val (.ref x), .val (.ref t), .val (.int (Int32.ofNat k)), s3, .unset] []) := by
    intro n
    induction n with
    | zero =>
      intro k s3 Tl28 hk hs3 Kl28
      have Al28 := own_here Kl28
      refine own_iloadN Al28 hx (pc' := 31) (hb hby d_prog_2_method_1_30) rfl rfl ?_
      refine own_aloadN Al28 hx (pc' := 32) (hb hby d_prog_2_method_1_31) rfl rfl rfl ?_
      refine own_strLen Kl28 hx (by rw [hml]; rfl) (hw _ (List.mem_of_getElem? (i := 59) rfl)) (hw _ (List.mem_of_getElem? (i := 60) rfl)) (hw _ (List.mem_of_getElem? (i := 62) rfl)) (hw _ (List.mem_of_getElem? (i := 61) rfl)) (own_wl hw) (hw _ (List.mem_of_getElem? (i := 11) rfl)) S O2 P5 (lenOf pd_4 rfl) 1 (Nat.le_of_eq rfl) (hb hby d_prog_2_method_1_32) (pc' := 35) rfl (by decide) (by decide) (by decide) (by decide) ?_
      intro T29 K29
      have A29 := own_here K29
      refine own_icmp_ge A29 hx 91 38 (hb hby d_prog_2_method_1_35) (by decide) (by decide) rfl (fun hc35 => ?_) (fun hc35 => ?_)
      rotate_left
      · exact absurd hc35 (by rw [show k = cs.length by omega]; exact fun q => Int32.lt_irrefl q)
      refine own_aloadN A29 hx (pc' := 92) (hb hby d_prog_2_method_1_91) rfl rfl rfl ?_
      refine own_strLen K29 hx (by rw [hml]; rfl) (hw _ (List.mem_of_getElem? (i := 59) rfl)) (hw _ (List.mem_of_getElem? (i := 60) rfl)) (hw _ (List.mem_of_getElem? (i := 62) rfl)) (hw _ (List.mem_of_getElem? (i := 61) rfl)) (own_wl hw) (hw _ (List.mem_of_getElem? (i := 11) rfl)) S O2 P5 (lenOf pd_4 rfl) 0 (Nat.le_of_eq rfl) (hb hby d_prog_2_method_1_92) (pc' := 95) rfl (by decide) (by decide) (by decide) (by decide) ?_
      intro T30 K30
      have A30 := own_here K30
      refine own_bipush A30 hx (pc' := 97) (hb hby d_prog_2_method_1_95) (z := (64 : Int32)) (by decide) rfl ?_
      refine own_icmp_le A30 hx 117 100 (hb hby d_prog_2_method_1_97) (by decide) (by decide) rfl (fun hc97 => ?_) (fun hc97 => ?_)
      rotate_left
      · exact absurd hc97 (by have e : (Int32.ofNat cs.length).toInt = cs.length := Int32.toInt_ofNat_small (by omega); rw [Int32.lt_iff_toInt_lt, e]; have : (64 : Int32).toInt = 64 := rfl; omega)
      refine own_aloadN A30 hx (pc' := 118) (hb hby d_prog_2_method_1_117) rfl rfl rfl ?_
      refine own_iconst A30 hx (pc' := 119) (hb hby d_prog_2_method_1_118) (z := (0 : Int32)) (by decide) rfl ?_
      refine own_strCh K30 hx (by rw [hml]; rfl) (hw _ (List.mem_of_getElem? (i := 69) rfl)) (hw _ (List.mem_of_getElem? (i := 70) rfl)) (hw _ (List.mem_of_getElem? (i := 72) rfl)) (hw _ (List.mem_of_getElem? (i := 71) rfl)) (own_wc hw) (hw _ (List.mem_of_getElem? (i := 11) rfl)) S hlat O2 P5 O4 rG3 (i := 0) (own_pos hne) rfl (lenOf pd_0 rfl) 0 (Nat.le_of_eq rfl) (hb hby d_prog_2_method_1_119) (pc' := 122) rfl (by decide) (by decide) (by decide) (by decide) ?_
      intro T31 K31
      have A31 := own_here K31
      refine own_callS K31 hx (by rw [hml]; rfl) (hw _ (List.mem_of_getElem? (i := 91) rfl)) (hw _ (List.mem_of_getElem? (i := 92) rfl)) (hw _ (List.mem_of_getElem? (i := 42) rfl)) (hw _ (List.mem_of_getElem? (i := 93) rfl)) (by decide) (rm_ld l Z a0 hw [] h26 (cs.getD 0 0)) (fun _ q => nomatch q) (argsL := [(.int (cs.getD 0 0))]) (rest := []) (lenOf pd_5 rfl) rfl 0 (Nat.le_of_eq rfl) (hb hby d_prog_2_method_1_122) (pc' := 125) rfl (by decide) (by decide) (by decide) (by decide) ?_
      intro v32 T32 h32 K32 Kp32 Q32
      obtain ⟨rfl, -⟩ := Q32
      have S := S.keep Kp32 own_off0
      have E := E.keep Kp32
      have F := F.keep Kp32 nin0
      have A32 := own_here K32
      show own_Go p.tables e below _ T32 (mkF m 125 #[.val (.ref x), .val (.ref t), .val (.int (Int32.ofNat k)), s3, .unset] [(.int (if own_LD (cs.getD 0 0) then (1 : Int32) else 0))])
      refine own_if_ne A32 hx 138 128 (hb hby d_prog_2_method_1_125) (by decide) (by decide) rfl (fun hc125 => ?_) (fun hc125 => ?_)
      rotate_left
      · exact absurd hld (own_if0 hc125)
      refine own_aloadN A32 hx (pc' := 139) (hb hby d_prog_2_method_1_138) rfl rfl rfl ?_
      refine own_aloadN A32 hx (pc' := 140) (hb hby d_prog_2_method_1_139) rfl rfl rfl ?_
      refine own_putF K32 hx (host := "") (Or.inl (hw _ (List.mem_of_getElem? (i := 94) rfl))) Via.refl F E (Or.inr ⟨(hw _ (List.mem_of_getElem? (i := 95) rfl)), rfl, hnm⟩) (hw _ (List.mem_of_getElem? (i := 41) rfl)) (ty := (.object "java/lang/String")) (by decide) rfl rfl (List.mem_of_getElem? (i := 0) rfl) (hb hby d_prog_2_method_1_140) (pc' := 143) rfl ?_
      intro T33 h33 K33 W33
      have off_W33 := (own_Off.exa E (hw _ (List.mem_of_getElem? (i := 41) rfl)) (by decide))
      have S := S.wr W33 off_W33
      have E := E.wr W33
      have F := F.same W33
      have A33 := own_here K33
      exact own_retV K33 hx hlk hret (hb hby d_prog_2_method_1_143) (by decide) (by decide) ⟨rfl, F⟩
    | succ n ih =>
      intro k s3 Tl28 hk hs3 Kl28
      have Al28 := own_here Kl28
      have hkl : k < cs.length := by omega
      refine own_iloadN Al28 hx (pc' := 31) (hb hby d_prog_2_method_1_30) rfl rfl ?_
      refine own_aloadN Al28 hx (pc' := 32) (hb hby d_prog_2_method_1_31) rfl rfl rfl ?_
      refine own_strLen Kl28 hx (by rw [hml]; rfl) (hw _ (List.mem_of_getElem? (i := 59) rfl)) (hw _ (List.mem_of_getElem? (i := 60) rfl)) (hw _ (List.mem_of_getElem? (i := 62) rfl)) (hw _ (List.mem_of_getElem? (i := 61) rfl)) (own_wl hw) (hw _ (List.mem_of_getElem? (i := 11) rfl)) S O2 P5 (lenOf pd_4 rfl) 1 (Nat.le_of_eq rfl) (hb hby d_prog_2_method_1_32) (pc' := 35) rfl (by decide) (by decide) (by decide) (by decide) ?_
      intro T34 K34
      have A34 := own_here K34
      refine own_icmp_ge A34 hx 91 38 (hb hby d_prog_2_method_1_35) (by decide) (by decide) rfl (fun hc35 => ?_) (fun hc35 => ?_)
      · exact absurd (own_small (by omega) hkl) hc35
      refine own_aloadN A34 hx (pc' := 39) (hb hby d_prog_2_method_1_38) rfl rfl rfl ?_
      refine own_iloadN A34 hx (pc' := 40) (hb hby d_prog_2_method_1_39) rfl rfl ?_
      refine own_strCh K34 hx (by rw [hml]; rfl) (hw _ (List.mem_of_getElem? (i := 69) rfl)) (hw _ (List.mem_of_getElem? (i := 70) rfl)) (hw _ (List.mem_of_getElem? (i := 72) rfl)) (hw _ (List.mem_of_getElem? (i := 71) rfl)) (own_wc hw) (hw _ (List.mem_of_getElem? (i := 11) rfl)) S hlat O2 P5 O4 rG3 (i := k) hkl rfl (lenOf pd_0 rfl) 0 (Nat.le_of_eq rfl) (hb hby d_prog_2_method_1_40) (pc' := 43) rfl (by decide) (by decide) (by decide) (by decide) ?_
      intro T35 K35
      have A35 := own_here K35
      refine own_istoreN A35 hx (pc' := 44) #[.val (.ref x), .val (.ref t), .val (.int (Int32.ofNat k)), .val (.int (cs.getD k 0)), .unset] (hb hby d_prog_2_method_1_43) (by rcases hs3 with rfl | ⟨_, rfl⟩ <;> rfl) rfl ?_
      refine own_iloadN A35 hx (pc' := 45) (hb hby d_prog_2_method_1_44) rfl rfl ?_
      refine own_callS K35 hx (by rw [hml]; rfl) (hw _ (List.mem_of_getElem? (i := 91) rfl)) (hw _ (List.mem_of_getElem? (i := 92) rfl)) (hw _ (List.mem_of_getElem? (i := 42) rfl)) (hw _ (List.mem_of_getElem? (i := 93) rfl)) (by decide) (rm_ld l Z a0 hw [] h26 (cs.getD k 0)) (fun _ q => nomatch q) (argsL := [(.int (cs.getD k 0))]) (rest := []) (lenOf pd_5 rfl) rfl 0 (Nat.le_of_eq rfl) (hb hby d_prog_2_method_1_45) (pc' := 48) rfl (by decide) (by decide) (by decide) (by decide) ?_
      intro v36 T36 h36 K36 Kp36 Q36
      obtain ⟨rfl, e36⟩ := Q36
      have S := S.keep Kp36 own_off0
      have E := E.keep Kp36
      have F := F.keep Kp36 nin0
      have A36 := own_here K36
      show own_Go p.tables e below _ T36 (mkF m 48 #[.val (.ref x), .val (.ref t), .val (.int (Int32.ofNat k)), .val (.int (cs.getD k 0)), .unset] [(.int (if own_LD (cs.getD k 0) then (1 : Int32) else 0))])
      subst e36
      refine own_if_ne A36 hx 85 51 (hb hby d_prog_2_method_1_48) (by decide) (by decide) rfl (fun hc48 => ?_) (fun hc48 => ?_)
      · refine own_iinc A36 hx (pc' := 88) #[.val (.ref x), .val (.ref t), .val (.int (Int32.ofNat (k + 1))), .val (.int (cs.getD k 0)), .unset] (hb hby d_prog_2_method_1_85) rfl (by rw [own_inc]; rfl) rfl ?_
        refine own_goto A36 hx 30 (hb hby d_prog_2_method_1_88) (by decide) (by decide) ?_
        exact ih (k + 1) _ T36 (by omega) (Or.inr ⟨_, rfl⟩) K36
      · refine own_iloadN A36 hx (pc' := 52) (hb hby d_prog_2_method_1_51) rfl rfl ?_
        refine own_bipush A36 hx (pc' := 54) (hb hby d_prog_2_method_1_52) (z := (45 : Int32)) (by decide) rfl ?_
        refine own_icmp_eq A36 hx 85 57 (hb hby d_prog_2_method_1_54) (by decide) (by decide) rfl (fun hc54 => ?_) (fun hc54 => ?_)
        rotate_left
        · exact absurd (hall _ (own_getD hkl)) (fun q => q.elim (own_if0 hc48) hc54)
        refine own_iinc A36 hx (pc' := 88) #[.val (.ref x), .val (.ref t), .val (.int (Int32.ofNat (k + 1))), .val (.int (cs.getD k 0)), .unset] (hb hby d_prog_2_method_1_85) rfl (by rw [own_inc]; rfl) rfl ?_
        refine own_goto A36 hx 30 (hb hby d_prog_2_method_1_88) (by decide) (by decide) ?_
        exact ih (k + 1) _ T36 (by omega) (Or.inr ⟨_, rfl⟩) K36
  exact loop cs.length 0 _ T27 (by omega) (Or.inl rfl) K27
theorem d_prog_2_method_4_0 : decode prog_2_method_4_code 0 = .ok (.aload_n 1, 1) := by decide +kernel
theorem d_prog_2_method_4_1 : decode prog_2_method_4_code 1 = .ok (.instanceof 37, 3) := by decide +kernel
theorem d_prog_2_method_4_4 : decode prog_2_method_4_code 4 = .ok (.ifCond .eq 26, 3) := by decide +kernel
theorem d_prog_2_method_4_30 : decode prog_2_method_4_code 30 = .ok (.iconst 0, 1) := by decide +kernel
theorem d_prog_2_method_4_31 : decode prog_2_method_4_code 31 = .ok (.ireturn, 1) := by decide +kernel
theorem ef_rm_eqN (m : MethodId) (x : Addr)  : entryFrame m #[(.ref x), .null] 3 = mkF m 0 #[.val (.ref x), .val .null, .unset] [] := by  first | (simp [entryFrame, mkF, argsToLocals, Value.category]; done) | rfl
set_option maxRecDepth 65536 in
set_option maxHeartbeats 40000000 in
theorem rm_eqN (l : Launch) (Z : State) (a0 : Array Value) (hw : ∀ d ∈ tables_1, d.before a0 Z = true) (more : List Jvm.Cond) (h0 : Heap) (x : Addr)   :
    own_Met true false [] l Z a0 (⟨"com/example/kustody/kustody/DatasetName", "equals", "(Ljava/lang/Object;)Z"⟩ : MethodName) prog_2_method_4_code 3 (some .boolean) more ({ frames := 0, cells := 0, slots := 0, locals := 0 } : Room) #[(.ref x), .null] h0 [] (fun v h => v = some (.int 0) ∧ h = h0) := by
  refine own_enter (own := "com/example/kustody/kustody/DatasetName") rfl (plainFor_of_name pn_1) ?_
  intro p e s m below meth c T hx hby hml hret hlk hnm K
  rw [ef_rm_eqN m x]
  have A := own_here K
  refine own_aloadN A hx (pc' := 1) (hb hby d_prog_2_method_4_0) rfl rfl rfl ?_
  refine own_instNull K hx (hb hby d_prog_2_method_4_1) (pc' := 4) rfl ?_
  refine own_if_eq A hx 30 7 (hb hby d_prog_2_method_4_4) (by decide) (by decide) rfl (fun hc4 => ?_) (fun hc4 => ?_)
  rotate_left
  · exact absurd rfl hc4
  refine own_iconst A hx (pc' := 31) (hb hby d_prog_2_method_4_30) (z := (0 : Int32)) (by decide) rfl ?_
  exact own_retN K hx hlk hret (by simp) (hb hby d_prog_2_method_4_31) (by decide) (by decide) ⟨rfl, rfl⟩
theorem ef_rm_eqS (m : MethodId) (x : Addr) (y : Addr)  : entryFrame m #[(.ref x), (.ref y)] 3 = mkF m 0 #[.val (.ref x), .val (.ref y), .unset] [] := by  first | (simp [entryFrame, mkF, argsToLocals, Value.category]; done) | rfl
set_option maxRecDepth 65536 in
set_option maxHeartbeats 40000000 in
theorem rm_eqS (l : Launch) (Z : State) (a0 : Array Value) (hw : ∀ d ∈ tables_1, d.before a0 Z = true) (more : List Jvm.Cond) (h0 : Heap) (x : Addr) (y : Addr)  (E : Exa Z h0 y "java/lang/String") :
    own_Met true false [] l Z a0 (⟨"com/example/kustody/kustody/DatasetName", "equals", "(Ljava/lang/Object;)Z"⟩ : MethodName) prog_2_method_4_code 3 (some .boolean) more ({ frames := 0, cells := 0, slots := 0, locals := 0 } : Room) #[(.ref x), (.ref y)] h0 [] (fun v h => v = some (.int 0) ∧ h = h0) := by
  refine own_enter (own := "com/example/kustody/kustody/DatasetName") rfl (plainFor_of_name pn_1) ?_
  intro p e s m below meth c T hx hby hml hret hlk hnm K
  rw [ef_rm_eqS m x y]
  have A := own_here K
  refine own_aloadN A hx (pc' := 1) (hb hby d_prog_2_method_4_0) rfl rfl rfl ?_
  refine own_instN K hx (hw _ (List.mem_of_getElem? (i := 101) rfl)) E (own_notSub (hw _ (List.mem_of_getElem? (i := 112) rfl)) (hw _ (List.mem_of_getElem? (i := 113) rfl)) (hw _ (List.mem_of_getElem? (i := 41) rfl)) (by decide) (by decide)) (hb hby d_prog_2_method_4_1) (pc' := 4) rfl ?_
  intro T38 K38
  have A38 := own_here K38
  refine own_if_eq A38 hx 30 7 (hb hby d_prog_2_method_4_4) (by decide) (by decide) rfl (fun hc4 => ?_) (fun hc4 => ?_)
  rotate_left
  · exact absurd rfl hc4
  refine own_iconst A38 hx (pc' := 31) (hb hby d_prog_2_method_4_30) (z := (0 : Int32)) (by decide) rfl ?_
  exact own_retN K38 hx hlk hret (by simp) (hb hby d_prog_2_method_4_31) (by decide) (by decide) ⟨rfl, rfl⟩
theorem d_prog_2_method_4_7 : decode prog_2_method_4_code 7 = .ok (.aload_n 1, 1) := by decide +kernel
theorem d_prog_2_method_4_8 : decode prog_2_method_4_code 8 = .ok (.checkcast 37, 3) := by decide +kernel
theorem d_prog_2_method_4_11 : decode prog_2_method_4_code 11 = .ok (.astore_n 2, 1) := by decide +kernel
theorem d_prog_2_method_4_12 : decode prog_2_method_4_code 12 = .ok (.aload_n 0, 1) := by decide +kernel
theorem d_prog_2_method_4_13 : decode prog_2_method_4_code 13 = .ok (.getfield 58, 3) := by decide +kernel
theorem d_prog_2_method_4_16 : decode prog_2_method_4_code 16 = .ok (.aload_n 2, 1) := by decide +kernel
theorem d_prog_2_method_4_17 : decode prog_2_method_4_code 17 = .ok (.getfield 58, 3) := by decide +kernel
theorem pd_6 : parseMethodDescriptor "(Ljava/lang/Object;)Z" = some ⟨[(.object "java/lang/Object")], some .boolean⟩ := by decide +kernel
theorem d_prog_2_method_4_20 : decode prog_2_method_4_code 20 = .ok (.invokevirtual 76, 3) := by decide +kernel
theorem d_prog_2_method_4_23 : decode prog_2_method_4_code 23 = .ok (.ifCond .eq 7, 3) := by decide +kernel
theorem d_prog_2_method_4_26 : decode prog_2_method_4_code 26 = .ok (.iconst 1, 1) := by decide +kernel
theorem d_prog_2_method_4_27 : decode prog_2_method_4_code 27 = .ok (.goto 4, 3) := by decide +kernel
theorem ef_rm_eqQ (m : MethodId) (x : Addr) (y : Addr)  : entryFrame m #[(.ref x), (.ref y)] 3 = mkF m 0 #[.val (.ref x), .val (.ref y), .unset] [] := by  first | (simp [entryFrame, mkF, argsToLocals, Value.category]; done) | rfl
set_option maxRecDepth 65536 in
set_option maxHeartbeats 40000000 in
theorem rm_eqQ (l : Launch) (Z : State) (a0 : Array Value) (hw : ∀ d ∈ tables_1, d.before a0 Z = true) (more : List Jvm.Cond) (h0 : Heap) (x : Addr) (y : Addr) (t u : Addr) (cs ds : List Int32) (G1 : Int32) (O2 : Sta Z Z.heap "java/lang/String" "COMPACT_STRINGS" "Z" (.int G1)) (P5 : ¬ (G1 = (0 : Int32))) (Ey : Exa Z h0 y "com/example/kustody/kustody/DatasetName") (Fx : Fld Z h0 x "com/example/kustody/kustody/DatasetName" "text" "Ljava/lang/String;" (.ref t)) (Fy : Fld Z h0 y "com/example/kustody/kustody/DatasetName" "text" "Ljava/lang/String;" (.ref u)) (S1 : own_Str Z h0 t cs) (S2 : own_Str Z h0 u ds) :
    own_Met true false [] l Z a0 (⟨"com/example/kustody/kustody/DatasetName", "equals", "(Ljava/lang/Object;)Z"⟩ : MethodName) prog_2_method_4_code 3 (some .boolean) more ({ frames := 2, cells := 0, slots := 0, locals := 28 } : Room) #[(.ref x), (.ref y)] h0 [] (fun v h => v = some (.int (if cs = ds then 1 else 0)) ∧ h = h0) := by
  refine own_enter (own := "com/example/kustody/kustody/DatasetName") rfl (plainFor_of_name pn_1) ?_
  intro p e s m below meth c T hx hby hml hret hlk hnm K
  rw [ef_rm_eqQ m x y]
  have A := own_here K
  refine own_aloadN A hx (pc' := 1) (hb hby d_prog_2_method_4_0) rfl rfl rfl ?_
  refine own_instY K hx (hw _ (List.mem_of_getElem? (i := 101) rfl)) (Ins.self Ey) (hb hby d_prog_2_method_4_1) (pc' := 4) rfl ?_
  intro T39 K39
  have A39 := own_here K39
  refine own_if_eq A39 hx 30 7 (hb hby d_prog_2_method_4_4) (by decide) (by decide) rfl (fun hc4 => ?_) (fun hc4 => ?_)
  · exact absurd hc4 (by decide)
  refine own_aloadN A39 hx (pc' := 8) (hb hby d_prog_2_method_4_7) rfl rfl rfl ?_
  refine own_cast K39 hx (hw _ (List.mem_of_getElem? (i := 101) rfl)) (Ins.self Ey) (hb hby d_prog_2_method_4_8) (pc' := 11) rfl ?_
  intro T40 K40
  have A40 := own_here K40
  refine own_astoreN A40 hx (pc' := 12) #[.val (.ref x), .val (.ref y), .val (.ref y)] (hb hby d_prog_2_method_4_11) rfl rfl rfl ?_
  refine own_aloadN A40 hx (pc' := 13) (hb hby d_prog_2_method_4_12) rfl rfl rfl ?_
  refine own_getF K40 hx (host := "") (Or.inl (hw _ (List.mem_of_getElem? (i := 94) rfl))) Via.refl Fx (hb hby d_prog_2_method_4_13) (pc' := 16) rfl ?_
  intro T41 K41
  have A41 := own_here K41
  refine own_aloadN A41 hx (pc' := 17) (hb hby d_prog_2_method_4_16) rfl rfl rfl ?_
  refine own_getF K41 hx (host := "") (Or.inl (hw _ (List.mem_of_getElem? (i := 94) rfl))) Via.refl Fy (hb hby d_prog_2_method_4_17) (pc' := 20) rfl ?_
  intro T42 K42
  have A42 := own_here K42
  refine own_strEq K42 hx (by rw [hml]; rfl) (hw _ (List.mem_of_getElem? (i := 103) rfl)) (hw _ (List.mem_of_getElem? (i := 104) rfl)) (hw _ (List.mem_of_getElem? (i := 106) rfl)) (hw _ (List.mem_of_getElem? (i := 105) rfl)) (own_we hw) (hw _ (List.mem_of_getElem? (i := 11) rfl)) S1 S2 O2 P5 (lenOf pd_6 rfl) 0 (Nat.le_of_eq rfl) (hb hby d_prog_2_method_4_20) (pc' := 23) rfl (by decide) (by decide) (by decide) (by decide) ?_
  intro T43 K43
  have A43 := own_here K43
  refine own_if_eq A43 hx 30 26 (hb hby d_prog_2_method_4_23) (by decide) (by decide) rfl (fun hc23 => ?_) (fun hc23 => ?_)
  · refine own_iconst A43 hx (pc' := 31) (hb hby d_prog_2_method_4_30) (z := (0 : Int32)) (by decide) rfl ?_
    exact own_retN K43 hx hlk hret (by simp) (hb hby d_prog_2_method_4_31) (by decide) (by decide) ⟨by rw [if_neg (own_if0 hc23)]; rfl, rfl⟩
  · refine own_iconst A43 hx (pc' := 27) (hb hby d_prog_2_method_4_26) (z := (1 : Int32)) (by decide) rfl ?_
    refine own_goto A43 hx 31 (hb hby d_prog_2_method_4_27) (by decide) (by decide) ?_
    exact own_retN K43 hx hlk hret (by simp) (hb hby d_prog_2_method_4_31) (by decide) (by decide) ⟨by rw [if_pos (own_if1 hc23)]; rfl, rfl⟩
theorem own_sm {nA nB a0 a1 a2 a3 b0 b1 b2 b3 : Int32} (hA : nA = 1 ∨ nA = 2 ∨ nA = 3 ∨ nA = 4) (hB : nB = 1 ∨ nB = 2 ∨ nB = 3 ∨ nB = 4) : (if own_txt nA a0 a1 a2 a3 = own_txt nB b0 b1 b2 b3 then (1 : Int32) else 0) = if nA = nB ∧ a0 = b0 ∧ (nA < 2 ∨ a1 = b1) ∧ (nA < 3 ∨ a2 = b2) ∧ (nA < 4 ∨ a3 = b3) then 1 else 0 := by
  rcases hA with rfl | rfl | rfl | rfl <;> rcases hB with rfl | rfl | rfl | rfl <;> simp [own_txt]
theorem own_and3 (x : Int32) : (x &&& 3) = 0 ∨ (x &&& 3) = 1 ∨ (x &&& 3) = 2 ∨ (x &&& 3) = 3 := by
  have t : ∀ k : Fin 4, (Int32.ofNat k.val) = 0 ∨ (Int32.ofNat k.val) = 1 ∨ (Int32.ofNat k.val) = 2 ∨ (Int32.ofNat k.val) = 3 := by decide +kernel
  have h : (x &&& 3).toBitVec.toNat < 4 := by
    simp only [Int32.toBitVec_and, BitVec.toNat_and]
    exact Nat.lt_succ_of_le Nat.and_le_right
  have e : (x &&& 3) = Int32.ofNat (x &&& 3).toBitVec.toNat := by
    apply Int32.toBitVec_inj.mp
    show _ = BitVec.ofNat 32 _
    rw [BitVec.ofNat_toNat]; simp
  rw [e]
  exact t ⟨_, h⟩
theorem own_len4 (x : Int32) : ((1 : Int32) + (x &&& 3)) = 1 ∨ ((1 : Int32) + (x &&& 3)) = 2 ∨ ((1 : Int32) + (x &&& 3)) = 3 ∨ ((1 : Int32) + (x &&& 3)) = 4 := by
  rcases own_and3 x with q | q | q | q <;> rw [q] <;> decide
theorem pd_7 : parseMethodDescriptor "(ICCCC)Ljava/lang/String;" = some ⟨[.int, .char, .char, .char, .char], some (.object "java/lang/String")⟩ := by decide +kernel
theorem pd_8 : parseMethodDescriptor "(Ljava/lang/String;)V" = some ⟨[(.object "java/lang/String")], none⟩ := by decide +kernel
theorem ef_rm_law (m : MethodId) (i0 : Int32) (i1 : Int32) (i2 : Int32)  : entryFrame m #[(.int i0), (.int i1), (.int i2)] maxLocals = mkF m 0 #[.val (.int i0), .val (.int i1), .val (.int i2), .unset, .unset, .unset, .unset, .unset, .unset, .unset, .unset, .unset, .unset, .unset, .unset, .unset, .unset, .unset, .unset] [] := by  first | (simp [entryFrame, mkF, argsToLocals, Value.category, maxLocals]; done) | rfl
set_option maxRecDepth 65536 in
set_option maxHeartbeats 40000000 in
theorem rm_law (l : Launch) (Z : State) (a0 : Array Value) (hw : ∀ d ∈ tables_1, d.before a0 Z = true) (more : List Jvm.Cond) (h0 : Heap) (i0 : Int32) (i1 : Int32) (i2 : Int32)  (G1 : Int32) (O2 : Sta Z Z.heap "java/lang/String" "COMPACT_STRINGS" "Z" (.int G1)) (P5 : ¬ (G1 = (0 : Int32))) (G3 : Value) (O4 : Sta Z Z.heap "jdk/internal/util/Preconditions" "SIOOBE_FORMATTER" "Ljava/util/function/BiFunction;" G3) (rG3 : G3.isRef = true) :
    own_Met true false [] l Z a0 x code maxLocals ret more room_1 #[(.int i0), (.int i1), (.int i2)] h0 [] (fun v h => v = some (.int 1)) := by
  refine own_enter (own := "com/example/kustody/kustody/DatasetNameEqualsPinLaw") rfl (plainFor_of_name pn_0) ?_
  intro p e s m below meth c T hx hby hml hret hlk hnm K
  rw [ef_rm_law m i0 i1 i2]
  have A := own_here K
  refine own_iconst A hx (pc' := 1) (hb hby at_0) (z := (1 : Int32)) (by decide) rfl ?_
  refine own_iloadN A hx (pc' := 2) (hb hby at_1) rfl rfl ?_
  refine own_iconst A hx (pc' := 3) (hb hby at_2) (z := (3 : Int32)) (by decide) rfl ?_
  refine own_iand A hx (pc' := 4) (hb hby at_3) (z := (i2 &&& (3 : Int32))) rfl rfl ?_
  refine own_iadd A hx (pc' := 5) (hb hby at_4) (z := ((1 : Int32) + (i2 &&& (3 : Int32)))) rfl rfl ?_
  refine own_istoreN A hx (pc' := 6) #[.val (.int i0), .val (.int i1), .val (.int i2), .val (.int ((1 : Int32) + (i2 &&& (3 : Int32)))), .unset, .unset, .unset, .unset, .unset, .unset, .unset, .unset, .unset, .unset, .unset, .unset, .unset, .unset, .unset] (hb hby at_5) rfl rfl ?_
  obtain ⟨nA, hnA⟩ : ∃ z, z = ((1 : Int32) + (i2 &&& (3 : Int32))) := ⟨_, rfl⟩
  rw [← hnA]
  refine own_iconst A hx (pc' := 7) (hb hby at_6) (z := (1 : Int32)) (by decide) rfl ?_
  refine own_iloadN A hx (pc' := 8) (hb hby at_7) rfl rfl ?_
  refine own_iconst A hx (pc' := 9) (hb hby at_8) (z := (2 : Int32)) (by decide) rfl ?_
  refine own_iushr A hx (pc' := 10) (hb hby at_9) (z := ((i2.toUInt32 >>> ((2 : Int32) &&& 31).toUInt32).toInt32)) rfl rfl ?_
  refine own_iconst A hx (pc' := 11) (hb hby at_10) (z := (3 : Int32)) (by decide) rfl ?_
  refine own_iand A hx (pc' := 12) (hb hby at_11) (z := (((i2.toUInt32 >>> ((2 : Int32) &&& 31).toUInt32).toInt32) &&& (3 : Int32))) rfl rfl ?_
  refine own_iadd A hx (pc' := 13) (hb hby at_12) (z := ((1 : Int32) + (((i2.toUInt32 >>> ((2 : Int32) &&& 31).toUInt32).toInt32) &&& (3 : Int32)))) rfl rfl ?_
  refine own_istore A hx (pc' := 15) #[.val (.int i0), .val (.int i1), .val (.int i2), .val (.int nA), .val (.int ((1 : Int32) + (((i2.toUInt32 >>> ((2 : Int32) &&& 31).toUInt32).toInt32) &&& (3 : Int32)))), .unset, .unset, .unset, .unset, .unset, .unset, .unset, .unset, .unset, .unset, .unset, .unset, .unset, .unset] (hb hby at_13) rfl rfl ?_
  obtain ⟨nB, hnB⟩ : ∃ z, z = ((1 : Int32) + (((i2.toUInt32 >>> ((2 : Int32) &&& 31).toUInt32).toInt32) &&& (3 : Int32))) := ⟨_, rfl⟩
  rw [← hnB]
  have hnA4 : nA = 1 ∨ nA = 2 ∨ nA = 3 ∨ nA = 4 := by rw [hnA]; exact own_len4 _
  have hnB4 : nB = 1 ∨ nB = 2 ∨ nB = 3 ∨ nB = 4 := by rw [hnB]; exact own_len4 _
  refine own_iloadN A hx (pc' := 16) (hb hby at_15) rfl rfl ?_
  refine own_sipush A hx (pc' := 19) (hb hby at_16) (z := (255 : Int32)) (by decide) rfl ?_
  refine own_iand A hx (pc' := 20) (hb hby at_19) (z := (i0 &&& (255 : Int32))) rfl rfl ?_
  refine own_callS K hx (by rw [hml]; rfl) (hw _ (List.mem_of_getElem? (i := 0) rfl)) (hw _ (List.mem_of_getElem? (i := 1) rfl)) (hw _ (List.mem_of_getElem? (i := 2) rfl)) (hw _ (List.mem_of_getElem? (i := 3) rfl)) (by decide) (rm_lead l Z a0 hw [] h0 (i0 &&& (255 : Int32)) (own_m255 _).1) (fun _ q => nomatch q) (argsL := [(.int (i0 &&& (255 : Int32)))]) (rest := []) (lenOf pd_0 rfl) rfl 0 (Nat.le_of_eq rfl) (hb hby at_20) (pc' := 23) rfl (by decide) (by decide) (by decide) (by decide) ?_
  intro v44 T44 h44 K44 Kp44 Q44
  obtain ⟨r44, rfl, hr44, -⟩ := Q44
  have A44 := own_here K44
  show own_Go p.tables e below _ T44 (mkF m 23 #[.val (.int i0), .val (.int i1), .val (.int i2), .val (.int nA), .val (.int nB), .unset, .unset, .unset, .unset, .unset, .unset, .unset, .unset, .unset, .unset, .unset, .unset, .unset, .unset] [(.int r44)])
  refine own_istore A44 hx (pc' := 25) #[.val (.int i0), .val (.int i1), .val (.int i2), .val (.int nA), .val (.int nB), .val (.int r44), .unset, .unset, .unset, .unset, .unset, .unset, .unset, .unset, .unset, .unset, .unset, .unset, .unset] (hb hby at_23) rfl rfl ?_
  refine own_iloadN A44 hx (pc' := 26) (hb hby at_25) rfl rfl ?_
  refine own_bipush A44 hx (pc' := 28) (hb hby at_26) (z := (8 : Int32)) (by decide) rfl ?_
  refine own_iushr A44 hx (pc' := 29) (hb hby at_28) (z := ((i0.toUInt32 >>> ((8 : Int32) &&& 31).toUInt32).toInt32)) rfl rfl ?_
  refine own_sipush A44 hx (pc' := 32) (hb hby at_29) (z := (255 : Int32)) (by decide) rfl ?_
  refine own_iand A44 hx (pc' := 33) (hb hby at_32) (z := (((i0.toUInt32 >>> ((8 : Int32) &&& 31).toUInt32).toInt32) &&& (255 : Int32))) rfl rfl ?_
  refine own_callS K44 hx (by rw [hml]; rfl) (hw _ (List.mem_of_getElem? (i := 4) rfl)) (hw _ (List.mem_of_getElem? (i := 5) rfl)) (hw _ (List.mem_of_getElem? (i := 2) rfl)) (hw _ (List.mem_of_getElem? (i := 6) rfl)) (by decide) (rm_any l Z a0 hw [] h44 (((i0.toUInt32 >>> ((8 : Int32) &&& 31).toUInt32).toInt32) &&& (255 : Int32)) (own_m255 _).1) (fun _ q => nomatch q) (argsL := [(.int (((i0.toUInt32 >>> ((8 : Int32) &&& 31).toUInt32).toInt32) &&& (255 : Int32)))]) (rest := []) (lenOf pd_0 rfl) rfl 0 (Nat.le_of_eq rfl) (hb hby at_33) (pc' := 36) rfl (by decide) (by decide) (by decide) (by decide) ?_
  intro v45 T45 h45 K45 Kp45 Q45
  obtain ⟨r45, rfl, hr45⟩ := Q45
  have A45 := own_here K45
  show own_Go p.tables e below _ T45 (mkF m 36 #[.val (.int i0), .val (.int i1), .val (.int i2), .val (.int nA), .val (.int nB), .val (.int r44), .unset, .unset, .unset, .unset, .unset, .unset, .unset, .unset, .unset, .unset, .unset, .unset, .unset] [(.int r45)])
  refine own_istore A45 hx (pc' := 38) #[.val (.int i0), .val (.int i1), .val (.int i2), .val (.int nA), .val (.int nB), .val (.int r44), .val (.int r45), .unset, .unset, .unset, .unset, .unset, .unset, .unset, .unset, .unset, .unset, .unset, .unset] (hb hby at_36) rfl rfl ?_
  refine own_iloadN A45 hx (pc' := 39) (hb hby at_38) rfl rfl ?_
  refine own_bipush A45 hx (pc' := 41) (hb hby at_39) (z := (16 : Int32)) (by decide) rfl ?_
  refine own_iushr A45 hx (pc' := 42) (hb hby at_41) (z := ((i0.toUInt32 >>> ((16 : Int32) &&& 31).toUInt32).toInt32)) rfl rfl ?_
  refine own_sipush A45 hx (pc' := 45) (hb hby at_42) (z := (255 : Int32)) (by decide) rfl ?_
  refine own_iand A45 hx (pc' := 46) (hb hby at_45) (z := (((i0.toUInt32 >>> ((16 : Int32) &&& 31).toUInt32).toInt32) &&& (255 : Int32))) rfl rfl ?_
  refine own_callS K45 hx (by rw [hml]; rfl) (hw _ (List.mem_of_getElem? (i := 4) rfl)) (hw _ (List.mem_of_getElem? (i := 5) rfl)) (hw _ (List.mem_of_getElem? (i := 2) rfl)) (hw _ (List.mem_of_getElem? (i := 6) rfl)) (by decide) (rm_any l Z a0 hw [] h45 (((i0.toUInt32 >>> ((16 : Int32) &&& 31).toUInt32).toInt32) &&& (255 : Int32)) (own_m255 _).1) (fun _ q => nomatch q) (argsL := [(.int (((i0.toUInt32 >>> ((16 : Int32) &&& 31).toUInt32).toInt32) &&& (255 : Int32)))]) (rest := []) (lenOf pd_0 rfl) rfl 0 (Nat.le_of_eq rfl) (hb hby at_46) (pc' := 49) rfl (by decide) (by decide) (by decide) (by decide) ?_
  intro v46 T46 h46 K46 Kp46 Q46
  obtain ⟨r46, rfl, hr46⟩ := Q46
  have A46 := own_here K46
  show own_Go p.tables e below _ T46 (mkF m 49 #[.val (.int i0), .val (.int i1), .val (.int i2), .val (.int nA), .val (.int nB), .val (.int r44), .val (.int r45), .unset, .unset, .unset, .unset, .unset, .unset, .unset, .unset, .unset, .unset, .unset, .unset] [(.int r46)])
  refine own_istore A46 hx (pc' := 51) #[.val (.int i0), .val (.int i1), .val (.int i2), .val (.int nA), .val (.int nB), .val (.int r44), .val (.int r45), .val (.int r46), .unset, .unset, .unset, .unset, .unset, .unset, .unset, .unset, .unset, .unset, .unset] (hb hby at_49) rfl rfl ?_
  refine own_iloadN A46 hx (pc' := 52) (hb hby at_51) rfl rfl ?_
  refine own_bipush A46 hx (pc' := 54) (hb hby at_52) (z := (24 : Int32)) (by decide) rfl ?_
  refine own_iushr A46 hx (pc' := 55) (hb hby at_54) (z := ((i0.toUInt32 >>> ((24 : Int32) &&& 31).toUInt32).toInt32)) rfl rfl ?_
  refine own_sipush A46 hx (pc' := 58) (hb hby at_55) (z := (255 : Int32)) (by decide) rfl ?_
  refine own_iand A46 hx (pc' := 59) (hb hby at_58) (z := (((i0.toUInt32 >>> ((24 : Int32) &&& 31).toUInt32).toInt32) &&& (255 : Int32))) rfl rfl ?_
  refine own_callS K46 hx (by rw [hml]; rfl) (hw _ (List.mem_of_getElem? (i := 4) rfl)) (hw _ (List.mem_of_getElem? (i := 5) rfl)) (hw _ (List.mem_of_getElem? (i := 2) rfl)) (hw _ (List.mem_of_getElem? (i := 6) rfl)) (by decide) (rm_any l Z a0 hw [] h46 (((i0.toUInt32 >>> ((24 : Int32) &&& 31).toUInt32).toInt32) &&& (255 : Int32)) (own_m255 _).1) (fun _ q => nomatch q) (argsL := [(.int (((i0.toUInt32 >>> ((24 : Int32) &&& 31).toUInt32).toInt32) &&& (255 : Int32)))]) (rest := []) (lenOf pd_0 rfl) rfl 0 (Nat.le_of_eq rfl) (hb hby at_59) (pc' := 62) rfl (by decide) (by decide) (by decide) (by decide) ?_
  intro v47 T47 h47 K47 Kp47 Q47
  obtain ⟨r47, rfl, hr47⟩ := Q47
  have A47 := own_here K47
  show own_Go p.tables e below _ T47 (mkF m 62 #[.val (.int i0), .val (.int i1), .val (.int i2), .val (.int nA), .val (.int nB), .val (.int r44), .val (.int r45), .val (.int r46), .unset, .unset, .unset, .unset, .unset, .unset, .unset, .unset, .unset, .unset, .unset] [(.int r47)])
  refine own_istore A47 hx (pc' := 64) #[.val (.int i0), .val (.int i1), .val (.int i2), .val (.int nA), .val (.int nB), .val (.int r44), .val (.int r45), .val (.int r46), .val (.int r47), .unset, .unset, .unset, .unset, .unset, .unset, .unset, .unset, .unset, .unset] (hb hby at_62) rfl rfl ?_
  refine own_iloadN A47 hx (pc' := 65) (hb hby at_64) rfl rfl ?_
  refine own_iconst A47 hx (pc' := 66) (hb hby at_65) (z := (4 : Int32)) (by decide) rfl ?_
  refine own_iushr A47 hx (pc' := 67) (hb hby at_66) (z := ((i2.toUInt32 >>> ((4 : Int32) &&& 31).toUInt32).toInt32)) rfl rfl ?_
  refine own_iconst A47 hx (pc' := 68) (hb hby at_67) (z := (1 : Int32)) (by decide) rfl ?_
  refine own_iand A47 hx (pc' := 69) (hb hby at_68) (z := (((i2.toUInt32 >>> ((4 : Int32) &&& 31).toUInt32).toInt32) &&& (1 : Int32))) rfl rfl ?_
  have J85_48 : ∀ (T48 : State) (h48 : Heap) (b0 : Int32), own_S true false [] p l e room_1 s m #[(.int i0), (.int i1), (.int i2)] below meth c Z a0 "com/example/kustody/kustody/DatasetNameEqualsPinLaw" h0 [] T48 h48 [] 0 0 → own_LD b0 → own_Go p.tables e below (own_Post true [] Z room_1 h0 [] (fun v h => v = some (.int 1)) s) T48 (mkF m 85 #[.val (.int i0), .val (.int i1), .val (.int i2), .val (.int nA), .val (.int nB), .val (.int r44), .val (.int r45), .val (.int r46), .val (.int r47), .unset, .unset, .unset, .unset, .unset, .unset, .unset, .unset, .unset, .unset] [(.int b0)]) := by
    intro T48 h48 b0 K48 hb0
    have A48 := own_here K48
    refine own_istore A48 hx (pc' := 87) #[.val (.int i0), .val (.int i1), .val (.int i2), .val (.int nA), .val (.int nB), .val (.int r44), .val (.int r45), .val (.int r46), .val (.int r47), .val (.int b0), .unset, .unset, .unset, .unset, .unset, .unset, .unset, .unset, .unset] (hb hby at_85) rfl rfl ?_
    refine own_iloadN A48 hx (pc' := 88) (hb hby at_87) rfl rfl ?_
    refine own_iconst A48 hx (pc' := 89) (hb hby at_88) (z := (5 : Int32)) (by decide) rfl ?_
    refine own_iushr A48 hx (pc' := 90) (hb hby at_89) (z := ((i2.toUInt32 >>> ((5 : Int32) &&& 31).toUInt32).toInt32)) rfl rfl ?_
    refine own_iconst A48 hx (pc' := 91) (hb hby at_90) (z := (1 : Int32)) (by decide) rfl ?_
    refine own_iand A48 hx (pc' := 92) (hb hby at_91) (z := (((i2.toUInt32 >>> ((5 : Int32) &&& 31).toUInt32).toInt32) &&& (1 : Int32))) rfl rfl ?_
    have J111_49 : ∀ (T49 : State) (h49 : Heap) (b1 : Int32), own_S true false [] p l e room_1 s m #[(.int i0), (.int i1), (.int i2)] below meth c Z a0 "com/example/kustody/kustody/DatasetNameEqualsPinLaw" h0 [] T49 h49 [] 0 0 → own_AY b1 → own_Go p.tables e below (own_Post true [] Z room_1 h0 [] (fun v h => v = some (.int 1)) s) T49 (mkF m 111 #[.val (.int i0), .val (.int i1), .val (.int i2), .val (.int nA), .val (.int nB), .val (.int r44), .val (.int r45), .val (.int r46), .val (.int r47), .val (.int b0), .unset, .unset, .unset, .unset, .unset, .unset, .unset, .unset, .unset] [(.int b1)]) := by
      intro T49 h49 b1 K49 hb1
      have A49 := own_here K49
      refine own_istore A49 hx (pc' := 113) #[.val (.int i0), .val (.int i1), .val (.int i2), .val (.int nA), .val (.int nB), .val (.int r44), .val (.int r45), .val (.int r46), .val (.int r47), .val (.int b0), .val (.int b1), .unset, .unset, .unset, .unset, .unset, .unset, .unset, .unset] (hb hby at_111) rfl rfl ?_
      refine own_iloadN A49 hx (pc' := 114) (hb hby at_113) rfl rfl ?_
      refine own_bipush A49 hx (pc' := 116) (hb hby at_114) (z := (6 : Int32)) (by decide) rfl ?_
      refine own_iushr A49 hx (pc' := 117) (hb hby at_116) (z := ((i2.toUInt32 >>> ((6 : Int32) &&& 31).toUInt32).toInt32)) rfl rfl ?_
      refine own_iconst A49 hx (pc' := 118) (hb hby at_117) (z := (1 : Int32)) (by decide) rfl ?_
      refine own_iand A49 hx (pc' := 119) (hb hby at_118) (z := (((i2.toUInt32 >>> ((6 : Int32) &&& 31).toUInt32).toInt32) &&& (1 : Int32))) rfl rfl ?_
      have J138_50 : ∀ (T50 : State) (h50 : Heap) (b2 : Int32), own_S true false [] p l e room_1 s m #[(.int i0), (.int i1), (.int i2)] below meth c Z a0 "com/example/kustody/kustody/DatasetNameEqualsPinLaw" h0 [] T50 h50 [] 0 0 → own_AY b2 → own_Go p.tables e below (own_Post true [] Z room_1 h0 [] (fun v h => v = some (.int 1)) s) T50 (mkF m 138 #[.val (.int i0), .val (.int i1), .val (.int i2), .val (.int nA), .val (.int nB), .val (.int r44), .val (.int r45), .val (.int r46), .val (.int r47), .val (.int b0), .val (.int b1), .unset, .unset, .unset, .unset, .unset, .unset, .unset, .unset] [(.int b2)]) := by
        intro T50 h50 b2 K50 hb2
        have A50 := own_here K50
        refine own_istore A50 hx (pc' := 140) #[.val (.int i0), .val (.int i1), .val (.int i2), .val (.int nA), .val (.int nB), .val (.int r44), .val (.int r45), .val (.int r46), .val (.int r47), .val (.int b0), .val (.int b1), .val (.int b2), .unset, .unset, .unset, .unset, .unset, .unset, .unset] (hb hby at_138) rfl rfl ?_
        refine own_iloadN A50 hx (pc' := 141) (hb hby at_140) rfl rfl ?_
        refine own_bipush A50 hx (pc' := 143) (hb hby at_141) (z := (7 : Int32)) (by decide) rfl ?_
        refine own_iushr A50 hx (pc' := 144) (hb hby at_143) (z := ((i2.toUInt32 >>> ((7 : Int32) &&& 31).toUInt32).toInt32)) rfl rfl ?_
        refine own_iconst A50 hx (pc' := 145) (hb hby at_144) (z := (1 : Int32)) (by decide) rfl ?_
        refine own_iand A50 hx (pc' := 146) (hb hby at_145) (z := (((i2.toUInt32 >>> ((7 : Int32) &&& 31).toUInt32).toInt32) &&& (1 : Int32))) rfl rfl ?_
        have J165_51 : ∀ (T51 : State) (h51 : Heap) (b3 : Int32), own_S true false [] p l e room_1 s m #[(.int i0), (.int i1), (.int i2)] below meth c Z a0 "com/example/kustody/kustody/DatasetNameEqualsPinLaw" h0 [] T51 h51 [] 0 0 → own_AY b3 → own_Go p.tables e below (own_Post true [] Z room_1 h0 [] (fun v h => v = some (.int 1)) s) T51 (mkF m 165 #[.val (.int i0), .val (.int i1), .val (.int i2), .val (.int nA), .val (.int nB), .val (.int r44), .val (.int r45), .val (.int r46), .val (.int r47), .val (.int b0), .val (.int b1), .val (.int b2), .unset, .unset, .unset, .unset, .unset, .unset, .unset] [(.int b3)]) := by
          intro T51 h51 b3 K51 hb3
          have A51 := own_here K51
          refine own_istore A51 hx (pc' := 167) #[.val (.int i0), .val (.int i1), .val (.int i2), .val (.int nA), .val (.int nB), .val (.int r44), .val (.int r45), .val (.int r46), .val (.int r47), .val (.int b0), .val (.int b1), .val (.int b2), .val (.int b3), .unset, .unset, .unset, .unset, .unset, .unset] (hb hby at_165) rfl rfl ?_
          refine own_iloadN A51 hx (pc' := 168) (hb hby at_167) rfl rfl ?_
          refine own_iload A51 hx (pc' := 170) (hb hby at_168) rfl rfl ?_
          refine own_iload A51 hx (pc' := 172) (hb hby at_170) rfl rfl ?_
          refine own_iload A51 hx (pc' := 174) (hb hby at_172) rfl rfl ?_
          refine own_iload A51 hx (pc' := 176) (hb hby at_174) rfl rfl ?_
          refine own_callS K51 hx (by rw [hml]; rfl) (hw _ (List.mem_of_getElem? (i := 7) rfl)) (hw _ (List.mem_of_getElem? (i := 8) rfl)) (hw _ (List.mem_of_getElem? (i := 2) rfl)) (hw _ (List.mem_of_getElem? (i := 9) rfl)) (by decide) (rm_text l Z a0 hw [] h51 nA r44 r45 r46 r47 G1 O2 P5 (own_q (Or.inl hr44)) (own_q hr45) (own_q hr46) (own_q hr47)) (fun _ q => nomatch q) (argsL := [(.int nA), (.int r44), (.int r45), (.int r46), (.int r47)]) (rest := []) (lenOf pd_7 rfl) rfl 0 (Nat.le_of_eq rfl) (hb hby at_176) (pc' := 179) rfl (by decide) (by decide) (by decide) (by decide) ?_
          intro v52 T52 h52 K52 Kp52 Q52
          obtain ⟨a52, rfl, S52⟩ := Q52
          have A52 := own_here K52
          show own_Go p.tables e below _ T52 (mkF m 179 #[.val (.int i0), .val (.int i1), .val (.int i2), .val (.int nA), .val (.int nB), .val (.int r44), .val (.int r45), .val (.int r46), .val (.int r47), .val (.int b0), .val (.int b1), .val (.int b2), .val (.int b3), .unset, .unset, .unset, .unset, .unset, .unset] [(.ref a52)])
          rw [(own_q (Or.inl hr44)).2, (own_q hr45).2, (own_q hr46).2, (own_q hr47).2] at S52
          refine own_astore A52 hx (pc' := 181) #[.val (.int i0), .val (.int i1), .val (.int i2), .val (.int nA), .val (.int nB), .val (.int r44), .val (.int r45), .val (.int r46), .val (.int r47), .val (.int b0), .val (.int b1), .val (.int b2), .val (.int b3), .val (.ref a52), .unset, .unset, .unset, .unset, .unset] (hb hby at_179) rfl rfl rfl ?_
          refine own_iload A52 hx (pc' := 183) (hb hby at_181) rfl rfl ?_
          refine own_iload A52 hx (pc' := 185) (hb hby at_183) rfl rfl ?_
          refine own_iload A52 hx (pc' := 187) (hb hby at_185) rfl rfl ?_
          refine own_iload A52 hx (pc' := 189) (hb hby at_187) rfl rfl ?_
          refine own_iload A52 hx (pc' := 191) (hb hby at_189) rfl rfl ?_
          refine own_callS K52 hx (by rw [hml]; rfl) (hw _ (List.mem_of_getElem? (i := 7) rfl)) (hw _ (List.mem_of_getElem? (i := 8) rfl)) (hw _ (List.mem_of_getElem? (i := 2) rfl)) (hw _ (List.mem_of_getElem? (i := 9) rfl)) (by decide) (rm_text l Z a0 hw [] h52 nB b0 b1 b2 b3 G1 O2 P5 (own_q (Or.inl hb0)) (own_q hb1) (own_q hb2) (own_q hb3)) (fun _ q => nomatch q) (argsL := [(.int nB), (.int b0), (.int b1), (.int b2), (.int b3)]) (rest := []) (lenOf pd_7 rfl) rfl 0 (Nat.le_of_eq rfl) (hb hby at_191) (pc' := 194) rfl (by decide) (by decide) (by decide) (by decide) ?_
          intro v53 T53 h53 K53 Kp53 Q53
          obtain ⟨a53, rfl, S53⟩ := Q53
          have S52 := S52.keep Kp53 own_off0
          have A53 := own_here K53
          show own_Go p.tables e below _ T53 (mkF m 194 #[.val (.int i0), .val (.int i1), .val (.int i2), .val (.int nA), .val (.int nB), .val (.int r44), .val (.int r45), .val (.int r46), .val (.int r47), .val (.int b0), .val (.int b1), .val (.int b2), .val (.int b3), .val (.ref a52), .unset, .unset, .unset, .unset, .unset] [(.ref a53)])
          rw [(own_q (Or.inl hb0)).2, (own_q hb1).2, (own_q hb2).2, (own_q hb3).2] at S53
          refine own_astore A53 hx (pc' := 196) #[.val (.int i0), .val (.int i1), .val (.int i2), .val (.int nA), .val (.int nB), .val (.int r44), .val (.int r45), .val (.int r46), .val (.int r47), .val (.int b0), .val (.int b1), .val (.int b2), .val (.int b3), .val (.ref a52), .val (.ref a53), .unset, .unset, .unset, .unset] (hb hby at_194) rfl rfl rfl ?_
          refine own_iloadN A53 hx (pc' := 197) (hb hby at_196) rfl rfl ?_
          refine own_iload A53 hx (pc' := 199) (hb hby at_197) rfl rfl ?_
          refine own_iload A53 hx (pc' := 201) (hb hby at_199) rfl rfl ?_
          refine own_iload A53 hx (pc' := 203) (hb hby at_201) rfl rfl ?_
          refine own_iload A53 hx (pc' := 205) (hb hby at_203) rfl rfl ?_
          refine own_callS K53 hx (by rw [hml]; rfl) (hw _ (List.mem_of_getElem? (i := 7) rfl)) (hw _ (List.mem_of_getElem? (i := 8) rfl)) (hw _ (List.mem_of_getElem? (i := 2) rfl)) (hw _ (List.mem_of_getElem? (i := 9) rfl)) (by decide) (rm_text l Z a0 hw [] h53 nA r44 r45 r46 r47 G1 O2 P5 (own_q (Or.inl hr44)) (own_q hr45) (own_q hr46) (own_q hr47)) (fun _ q => nomatch q) (argsL := [(.int nA), (.int r44), (.int r45), (.int r46), (.int r47)]) (rest := []) (lenOf pd_7 rfl) rfl 0 (Nat.le_of_eq rfl) (hb hby at_205) (pc' := 208) rfl (by decide) (by decide) (by decide) (by decide) ?_
          intro v54 T54 h54 K54 Kp54 Q54
          obtain ⟨a54, rfl, S54⟩ := Q54
          have S52 := S52.keep Kp54 own_off0
          have S53 := S53.keep Kp54 own_off0
          have A54 := own_here K54
          show own_Go p.tables e below _ T54 (mkF m 208 #[.val (.int i0), .val (.int i1), .val (.int i2), .val (.int nA), .val (.int nB), .val (.int r44), .val (.int r45), .val (.int r46), .val (.int r47), .val (.int b0), .val (.int b1), .val (.int b2), .val (.int b3), .val (.ref a52), .val (.ref a53), .unset, .unset, .unset, .unset] [(.ref a54)])
          rw [(own_q (Or.inl hr44)).2, (own_q hr45).2, (own_q hr46).2, (own_q hr47).2] at S54
          refine own_astore A54 hx (pc' := 210) #[.val (.int i0), .val (.int i1), .val (.int i2), .val (.int nA), .val (.int nB), .val (.int r44), .val (.int r45), .val (.int r46), .val (.int r47), .val (.int b0), .val (.int b1), .val (.int b2), .val (.int b3), .val (.ref a52), .val (.ref a53), .val (.ref a54), .unset, .unset, .unset] (hb hby at_208) rfl rfl rfl ?_
          refine own_new K54 hx (hw _ (List.mem_of_getElem? (i := 40) rfl)) (hw _ (List.mem_of_getElem? (i := 41) rfl)) (hw _ (List.mem_of_getElem? (i := 42) rfl)) (hb hby at_210) (pc' := 213) rfl (by decide) (by decide) ?_
          intro T55 h55 b55 g55 K55 E55 X55 D55 U55
          have ne_a52_b55 : a52 ≠ b55 := by rw [g55]; exact Nat.ne_of_lt S52.lt
          have ne_a53_b55 : a53 ≠ b55 := by rw [g55]; exact Nat.ne_of_lt S53.lt
          have ne_a54_b55 : a54 ≠ b55 := by rw [g55]; exact Nat.ne_of_lt S54.lt
          have S52 := S52.ext E55
          have S53 := S53.ext E55
          have S54 := S54.ext E55
          have A55 := own_here K55
          have F_text_b55 := D55 (Or.inr (hw _ (List.mem_of_getElem? (i := 95) rfl))) (ty := (.object "java/lang/String")) (by decide)
          refine own_dup A55 hx (pc' := 214) (hb hby at_213) rfl rfl ?_
          refine own_aload A55 hx (pc' := 216) (hb hby at_214) rfl rfl rfl ?_
          refine own_callSp K55 hx (by rw [hml]; rfl) rfl (hw _ (List.mem_of_getElem? (i := 43) rfl)) (hw _ (List.mem_of_getElem? (i := 44) rfl)) (hw _ (List.mem_of_getElem? (i := 42) rfl)) (hw _ (List.mem_of_getElem? (i := 45) rfl)) (by decide) (rm_dn l Z a0 hw [] h55 b55 a52 _ (own_txt nA r44 r45 r46 r47) G1 O2 P5 G3 O4 rG3 S52 X55 F_text_b55 (own_txt_ok (n := nA) hr44 hr45 hr46 hr47).1 (own_txt_ok (n := nA) hr44 hr45 hr46 hr47).2.1 (own_txt_ok (n := nA) hr44 hr45 hr46 hr47).2.2.1 (own_txt_ok (n := nA) hr44 hr45 hr46 hr47).2.2.2 (fun c hc => (own_ayR ((own_txt_ok (n := nA) hr44 hr45 hr46 hr47).2.1 c hc)).1.2)) (own_mem1 (List.mem_of_getElem? (i := 0) rfl)) (argsL := [(.ref a52)]) (rest := [(.ref b55)]) (lenOf pd_8 rfl) rfl 1 (Nat.le_of_eq rfl) (hb hby at_216) (pc' := 219) rfl (by decide) (by decide) (by decide) (by decide) ?_
          intro v56 T56 h56 K56 Kp56 Q56
          obtain ⟨rfl, F56⟩ := Q56
          have off_Kp56 := own_off1 (own_Off.exa X55 (hw _ (List.mem_of_getElem? (i := 41) rfl)) (by decide))
          have S52 := S52.keep Kp56 off_Kp56
          have S53 := S53.keep Kp56 off_Kp56
          have S54 := S54.keep Kp56 off_Kp56
          have X55 := X55.keep Kp56
          have A56 := own_here K56
          show own_Go p.tables e below _ T56 (mkF m 219 #[.val (.int i0), .val (.int i1), .val (.int i2), .val (.int nA), .val (.int nB), .val (.int r44), .val (.int r45), .val (.int r46), .val (.int r47), .val (.int b0), .val (.int b1), .val (.int b2), .val (.int b3), .val (.ref a52), .val (.ref a53), .val (.ref a54), .unset, .unset, .unset] [(.ref b55)])
          refine own_astore A56 hx (pc' := 221) #[.val (.int i0), .val (.int i1), .val (.int i2), .val (.int nA), .val (.int nB), .val (.int r44), .val (.int r45), .val (.int r46), .val (.int r47), .val (.int b0), .val (.int b1), .val (.int b2), .val (.int b3), .val (.ref a52), .val (.ref a53), .val (.ref a54), .val (.ref b55), .unset, .unset] (hb hby at_219) rfl rfl rfl ?_
          refine own_new K56 hx (hw _ (List.mem_of_getElem? (i := 40) rfl)) (hw _ (List.mem_of_getElem? (i := 41) rfl)) (hw _ (List.mem_of_getElem? (i := 42) rfl)) (hb hby at_221) (pc' := 224) rfl (by decide) (by decide) ?_
          intro T57 h57 b57 g57 K57 E57 X57 D57 U57
          have ne_a52_b57 : a52 ≠ b57 := by rw [g57]; exact Nat.ne_of_lt S52.lt
          have ne_a53_b57 : a53 ≠ b57 := by rw [g57]; exact Nat.ne_of_lt S53.lt
          have ne_a54_b57 : a54 ≠ b57 := by rw [g57]; exact Nat.ne_of_lt S54.lt
          have ne_b55_b57 : b55 ≠ b57 := by rw [g57]; exact Nat.ne_of_lt X55.lt
          have S52 := S52.ext E57
          have S53 := S53.ext E57
          have S54 := S54.ext E57
          have X55 := X55.ext E57
          have F56 := F56.ext E57
          have A57 := own_here K57
          have F_text_b57 := D57 (Or.inr (hw _ (List.mem_of_getElem? (i := 95) rfl))) (ty := (.object "java/lang/String")) (by decide)
          refine own_dup A57 hx (pc' := 225) (hb hby at_224) rfl rfl ?_
          refine own_aload A57 hx (pc' := 227) (hb hby at_225) rfl rfl rfl ?_
          refine own_callSp K57 hx (by rw [hml]; rfl) rfl (hw _ (List.mem_of_getElem? (i := 43) rfl)) (hw _ (List.mem_of_getElem? (i := 44) rfl)) (hw _ (List.mem_of_getElem? (i := 42) rfl)) (hw _ (List.mem_of_getElem? (i := 45) rfl)) (by decide) (rm_dn l Z a0 hw [] h57 b57 a53 _ (own_txt nB b0 b1 b2 b3) G1 O2 P5 G3 O4 rG3 S53 X57 F_text_b57 (own_txt_ok (n := nB) hb0 hb1 hb2 hb3).1 (own_txt_ok (n := nB) hb0 hb1 hb2 hb3).2.1 (own_txt_ok (n := nB) hb0 hb1 hb2 hb3).2.2.1 (own_txt_ok (n := nB) hb0 hb1 hb2 hb3).2.2.2 (fun c hc => (own_ayR ((own_txt_ok (n := nB) hb0 hb1 hb2 hb3).2.1 c hc)).1.2)) (own_mem1 (List.mem_of_getElem? (i := 0) rfl)) (argsL := [(.ref a53)]) (rest := [(.ref b57)]) (lenOf pd_8 rfl) rfl 1 (Nat.le_of_eq rfl) (hb hby at_227) (pc' := 230) rfl (by decide) (by decide) (by decide) (by decide) ?_
          intro v58 T58 h58 K58 Kp58 Q58
          obtain ⟨rfl, F58⟩ := Q58
          have off_Kp58 := own_off1 (own_Off.exa X57 (hw _ (List.mem_of_getElem? (i := 41) rfl)) (by decide))
          have S52 := S52.keep Kp58 off_Kp58
          have S53 := S53.keep Kp58 off_Kp58
          have S54 := S54.keep Kp58 off_Kp58
          have X55 := X55.keep Kp58
          have F56 := F56.keep Kp58 (ninS ne_b55_b57 nin0)
          have X57 := X57.keep Kp58
          have A58 := own_here K58
          show own_Go p.tables e below _ T58 (mkF m 230 #[.val (.int i0), .val (.int i1), .val (.int i2), .val (.int nA), .val (.int nB), .val (.int r44), .val (.int r45), .val (.int r46), .val (.int r47), .val (.int b0), .val (.int b1), .val (.int b2), .val (.int b3), .val (.ref a52), .val (.ref a53), .val (.ref a54), .val (.ref b55), .unset, .unset] [(.ref b57)])
          refine own_astore A58 hx (pc' := 232) #[.val (.int i0), .val (.int i1), .val (.int i2), .val (.int nA), .val (.int nB), .val (.int r44), .val (.int r45), .val (.int r46), .val (.int r47), .val (.int b0), .val (.int b1), .val (.int b2), .val (.int b3), .val (.ref a52), .val (.ref a53), .val (.ref a54), .val (.ref b55), .val (.ref b57), .unset] (hb hby at_230) rfl rfl rfl ?_
          have J300_59 : ∀ (T59 : State) (h59 : Heap) (sm : Int32), own_S true false [] p l e room_1 s m #[(.int i0), (.int i1), (.int i2)] below meth c Z a0 "com/example/kustody/kustody/DatasetNameEqualsPinLaw" h0 [] T59 h59 [b57, b55] 15 78 → own_Str Z h59 a52 (own_txt nA r44 r45 r46 r47) → own_Str Z h59 a53 (own_txt nB b0 b1 b2 b3) → own_Str Z h59 a54 (own_txt nA r44 r45 r46 r47) → Exa Z h59 b55 "com/example/kustody/kustody/DatasetName" → Fld Z h59 b55 "com/example/kustody/kustody/DatasetName" "text" "Ljava/lang/String;" (.ref a52) → Exa Z h59 b57 "com/example/kustody/kustody/DatasetName" → Fld Z h59 b57 "com/example/kustody/kustody/DatasetName" "text" "Ljava/lang/String;" (.ref a53) → (if ((own_txt nA r44 r45 r46 r47) : List Int32) = (own_txt nB b0 b1 b2 b3) then (1 : Int32) else 0) = sm → own_Go p.tables e below (own_Post true [] Z room_1 h0 [] (fun v h => v = some (.int 1)) s) T59 (mkF m 300 #[.val (.int i0), .val (.int i1), .val (.int i2), .val (.int nA), .val (.int nB), .val (.int r44), .val (.int r45), .val (.int r46), .val (.int r47), .val (.int b0), .val (.int b1), .val (.int b2), .val (.int b3), .val (.ref a52), .val (.ref a53), .val (.ref a54), .val (.ref b55), .val (.ref b57), .val (.int sm)] []) := by
            intro T59 h59 sm K59 S52 S53 S54 X55 F56 X57 F58 hsm
            have A59 := own_here K59
            refine own_aload A59 hx (pc' := 302) (hb hby at_300) rfl rfl rfl ?_
            refine own_aload A59 hx (pc' := 304) (hb hby at_302) rfl rfl rfl ?_
            refine own_callV K59 hx (by rw [hml]; rfl) (hw _ (List.mem_of_getElem? (i := 96) rfl)) (hw _ (List.mem_of_getElem? (i := 97) rfl)) (fun U hU => notFace_of_selects (args := #[]) (mvT hU (hw _ (List.mem_of_getElem? (i := 99) rfl)))) (hw _ (List.mem_of_getElem? (i := 99) rfl)) (hw _ (List.mem_of_getElem? (i := 98) rfl)) (hw _ (List.mem_of_getElem? (i := 42) rfl)) (hw _ (List.mem_of_getElem? (i := 100) rfl)) (by decide) X55 (rm_eqQ l Z a0 hw [] h59 b55 b57 a52 a53 (own_txt nA r44 r45 r46 r47) (own_txt nB b0 b1 b2 b3) G1 O2 P5 X57 F56 F58 S52 S53) (fun _ q => nomatch q) (argsL := [(.ref b57)]) (rest := []) (lenOf pd_6 rfl) rfl 0 (Nat.le_of_eq rfl) (hb hby at_304) (pc' := 307) rfl (by decide) (by decide) (by decide) (by decide) ?_
            intro v60 T60 h60 K60 Kp60 Q60
            obtain ⟨rfl, -⟩ := Q60
            have S52 := S52.keep Kp60 own_off0
            have S53 := S53.keep Kp60 own_off0
            have S54 := S54.keep Kp60 own_off0
            have X55 := X55.keep Kp60
            have F56 := F56.keep Kp60 nin0
            have X57 := X57.keep Kp60
            have F58 := F58.keep Kp60 nin0
            have A60 := own_here K60
            show own_Go p.tables e below _ T60 (mkF m 307 #[.val (.int i0), .val (.int i1), .val (.int i2), .val (.int nA), .val (.int nB), .val (.int r44), .val (.int r45), .val (.int r46), .val (.int r47), .val (.int b0), .val (.int b1), .val (.int b2), .val (.int b3), .val (.ref a52), .val (.ref a53), .val (.ref a54), .val (.ref b55), .val (.ref b57), .val (.int sm)] [(.int (if ((own_txt nA r44 r45 r46 r47) : List Int32) = (own_txt nB b0 b1 b2 b3) then (1 : Int32) else 0))])
            refine own_iload A60 hx (pc' := 309) (hb hby at_307) rfl rfl ?_
            have hq309 : (if ((own_txt nA r44 r45 r46 r47) : List Int32) = (own_txt nB b0 b1 b2 b3) then (1 : Int32) else 0) = sm := by rw [← hsm]
            refine own_icmp_ne A60 hx 357 312 (hb hby at_309) (by decide) (by decide) rfl (fun hc309 => ?_) (fun hc309 => ?_)
            · exact absurd hq309 hc309
            refine own_aload A60 hx (pc' := 314) (hb hby at_312) rfl rfl rfl ?_
            refine own_aload A60 hx (pc' := 316) (hb hby at_314) rfl rfl rfl ?_
            refine own_callV K60 hx (by rw [hml]; rfl) (hw _ (List.mem_of_getElem? (i := 96) rfl)) (hw _ (List.mem_of_getElem? (i := 97) rfl)) (fun U hU => notFace_of_selects (args := #[]) (mvT hU (hw _ (List.mem_of_getElem? (i := 99) rfl)))) (hw _ (List.mem_of_getElem? (i := 99) rfl)) (hw _ (List.mem_of_getElem? (i := 98) rfl)) (hw _ (List.mem_of_getElem? (i := 42) rfl)) (hw _ (List.mem_of_getElem? (i := 100) rfl)) (by decide) X57 (rm_eqQ l Z a0 hw [] h60 b57 b55 a53 a52 (own_txt nB b0 b1 b2 b3) (own_txt nA r44 r45 r46 r47) G1 O2 P5 X55 F58 F56 S53 S52) (fun _ q => nomatch q) (argsL := [(.ref b55)]) (rest := []) (lenOf pd_6 rfl) rfl 0 (Nat.le_of_eq rfl) (hb hby at_316) (pc' := 319) rfl (by decide) (by decide) (by decide) (by decide) ?_
            intro v61 T61 h61 K61 Kp61 Q61
            obtain ⟨rfl, -⟩ := Q61
            have S52 := S52.keep Kp61 own_off0
            have S53 := S53.keep Kp61 own_off0
            have S54 := S54.keep Kp61 own_off0
            have X55 := X55.keep Kp61
            have F56 := F56.keep Kp61 nin0
            have X57 := X57.keep Kp61
            have F58 := F58.keep Kp61 nin0
            have A61 := own_here K61
            show own_Go p.tables e below _ T61 (mkF m 319 #[.val (.int i0), .val (.int i1), .val (.int i2), .val (.int nA), .val (.int nB), .val (.int r44), .val (.int r45), .val (.int r46), .val (.int r47), .val (.int b0), .val (.int b1), .val (.int b2), .val (.int b3), .val (.ref a52), .val (.ref a53), .val (.ref a54), .val (.ref b55), .val (.ref b57), .val (.int sm)] [(.int (if ((own_txt nB b0 b1 b2 b3) : List Int32) = (own_txt nA r44 r45 r46 r47) then (1 : Int32) else 0))])
            refine own_iload A61 hx (pc' := 321) (hb hby at_319) rfl rfl ?_
            have hq321 : (if ((own_txt nB b0 b1 b2 b3) : List Int32) = (own_txt nA r44 r45 r46 r47) then (1 : Int32) else 0) = sm := by rw [← hsm]; simp only [eq_comm]
            refine own_icmp_ne A61 hx 357 324 (hb hby at_321) (by decide) (by decide) rfl (fun hc321 => ?_) (fun hc321 => ?_)
            · exact absurd hq321 hc321
            refine own_aload A61 hx (pc' := 326) (hb hby at_324) rfl rfl rfl ?_
            refine own_aload A61 hx (pc' := 328) (hb hby at_326) rfl rfl rfl ?_
            refine own_callV K61 hx (by rw [hml]; rfl) (hw _ (List.mem_of_getElem? (i := 96) rfl)) (hw _ (List.mem_of_getElem? (i := 97) rfl)) (fun U hU => notFace_of_selects (args := #[]) (mvT hU (hw _ (List.mem_of_getElem? (i := 99) rfl)))) (hw _ (List.mem_of_getElem? (i := 99) rfl)) (hw _ (List.mem_of_getElem? (i := 98) rfl)) (hw _ (List.mem_of_getElem? (i := 42) rfl)) (hw _ (List.mem_of_getElem? (i := 100) rfl)) (by decide) X55 (rm_eqQ l Z a0 hw [] h61 b55 b55 a52 a52 (own_txt nA r44 r45 r46 r47) (own_txt nA r44 r45 r46 r47) G1 O2 P5 X55 F56 F56 S52 S52) (fun _ q => nomatch q) (argsL := [(.ref b55)]) (rest := []) (lenOf pd_6 rfl) rfl 0 (Nat.le_of_eq rfl) (hb hby at_328) (pc' := 331) rfl (by decide) (by decide) (by decide) (by decide) ?_
            intro v62 T62 h62 K62 Kp62 Q62
            obtain ⟨rfl, -⟩ := Q62
            have S52 := S52.keep Kp62 own_off0
            have S53 := S53.keep Kp62 own_off0
            have S54 := S54.keep Kp62 own_off0
            have X55 := X55.keep Kp62
            have F56 := F56.keep Kp62 nin0
            have X57 := X57.keep Kp62
            have F58 := F58.keep Kp62 nin0
            have A62 := own_here K62
            show own_Go p.tables e below _ T62 (mkF m 331 #[.val (.int i0), .val (.int i1), .val (.int i2), .val (.int nA), .val (.int nB), .val (.int r44), .val (.int r45), .val (.int r46), .val (.int r47), .val (.int b0), .val (.int b1), .val (.int b2), .val (.int b3), .val (.ref a52), .val (.ref a53), .val (.ref a54), .val (.ref b55), .val (.ref b57), .val (.int sm)] [(.int (if ((own_txt nA r44 r45 r46 r47) : List Int32) = (own_txt nA r44 r45 r46 r47) then (1 : Int32) else 0))])
            refine own_if_eq A62 hx 357 334 (hb hby at_331) (by decide) (by decide) rfl (fun hc331 => ?_) (fun hc331 => ?_)
            · exact absurd hc331 (by rw [if_pos rfl]; decide)
            refine own_aload A62 hx (pc' := 336) (hb hby at_334) rfl rfl rfl ?_
            refine own_null A62 hx (pc' := 337) (hb hby at_336) rfl ?_
            refine own_callV K62 hx (by rw [hml]; rfl) (hw _ (List.mem_of_getElem? (i := 96) rfl)) (hw _ (List.mem_of_getElem? (i := 97) rfl)) (fun U hU => notFace_of_selects (args := #[]) (mvT hU (hw _ (List.mem_of_getElem? (i := 99) rfl)))) (hw _ (List.mem_of_getElem? (i := 99) rfl)) (hw _ (List.mem_of_getElem? (i := 98) rfl)) (hw _ (List.mem_of_getElem? (i := 42) rfl)) (hw _ (List.mem_of_getElem? (i := 100) rfl)) (by decide) X55 (rm_eqN l Z a0 hw [] h62 b55) (fun _ q => nomatch q) (argsL := [.null]) (rest := []) (lenOf pd_6 rfl) rfl 0 (Nat.le_of_eq rfl) (hb hby at_337) (pc' := 340) rfl (by decide) (by decide) (by decide) (by decide) ?_
            intro v63 T63 h63 K63 Kp63 Q63
            obtain ⟨rfl, -⟩ := Q63
            have S52 := S52.keep Kp63 own_off0
            have S53 := S53.keep Kp63 own_off0
            have S54 := S54.keep Kp63 own_off0
            have X55 := X55.keep Kp63
            have F56 := F56.keep Kp63 nin0
            have X57 := X57.keep Kp63
            have F58 := F58.keep Kp63 nin0
            have A63 := own_here K63
            show own_Go p.tables e below _ T63 (mkF m 340 #[.val (.int i0), .val (.int i1), .val (.int i2), .val (.int nA), .val (.int nB), .val (.int r44), .val (.int r45), .val (.int r46), .val (.int r47), .val (.int b0), .val (.int b1), .val (.int b2), .val (.int b3), .val (.ref a52), .val (.ref a53), .val (.ref a54), .val (.ref b55), .val (.ref b57), .val (.int sm)] [(.int (0 : Int32))])
            refine own_if_ne A63 hx 357 343 (hb hby at_340) (by decide) (by decide) rfl (fun hc340 => ?_) (fun hc340 => ?_)
            · exact absurd rfl hc340
            refine own_aload A63 hx (pc' := 345) (hb hby at_343) rfl rfl rfl ?_
            refine own_aload A63 hx (pc' := 347) (hb hby at_345) rfl rfl rfl ?_
            refine own_callV K63 hx (by rw [hml]; rfl) (hw _ (List.mem_of_getElem? (i := 96) rfl)) (hw _ (List.mem_of_getElem? (i := 97) rfl)) (fun U hU => notFace_of_selects (args := #[]) (mvT hU (hw _ (List.mem_of_getElem? (i := 99) rfl)))) (hw _ (List.mem_of_getElem? (i := 99) rfl)) (hw _ (List.mem_of_getElem? (i := 98) rfl)) (hw _ (List.mem_of_getElem? (i := 42) rfl)) (hw _ (List.mem_of_getElem? (i := 100) rfl)) (by decide) X55 (rm_eqS l Z a0 hw [] h63 b55 a54 S54.exa) (fun _ q => nomatch q) (argsL := [(.ref a54)]) (rest := []) (lenOf pd_6 rfl) rfl 0 (Nat.le_of_eq rfl) (hb hby at_347) (pc' := 350) rfl (by decide) (by decide) (by decide) (by decide) ?_
            intro v64 T64 h64 K64 Kp64 Q64
            obtain ⟨rfl, -⟩ := Q64
            have S52 := S52.keep Kp64 own_off0
            have S53 := S53.keep Kp64 own_off0
            have S54 := S54.keep Kp64 own_off0
            have X55 := X55.keep Kp64
            have F56 := F56.keep Kp64 nin0
            have X57 := X57.keep Kp64
            have F58 := F58.keep Kp64 nin0
            have A64 := own_here K64
            show own_Go p.tables e below _ T64 (mkF m 350 #[.val (.int i0), .val (.int i1), .val (.int i2), .val (.int nA), .val (.int nB), .val (.int r44), .val (.int r45), .val (.int r46), .val (.int r47), .val (.int b0), .val (.int b1), .val (.int b2), .val (.int b3), .val (.ref a52), .val (.ref a53), .val (.ref a54), .val (.ref b55), .val (.ref b57), .val (.int sm)] [(.int (0 : Int32))])
            refine own_if_ne A64 hx 357 353 (hb hby at_350) (by decide) (by decide) rfl (fun hc350 => ?_) (fun hc350 => ?_)
            · exact absurd rfl hc350
            refine own_iconst A64 hx (pc' := 354) (hb hby at_353) (z := (1 : Int32)) (by decide) rfl ?_
            refine own_goto A64 hx 358 (hb hby at_354) (by decide) (by decide) ?_
            exact own_retN K64 hx hlk hret (by simp) (hb hby at_358) (by decide) (by decide) rfl
          refine own_iloadN A58 hx (pc' := 233) (hb hby at_232) rfl rfl ?_
          refine own_iload A58 hx (pc' := 235) (hb hby at_233) rfl rfl ?_
          refine own_icmp_ne A58 hx 242 238 (hb hby at_235) (by decide) (by decide) rfl (fun hc235 => ?_) (fun hc235 => ?_)
          · refine own_iconst A58 hx (pc' := 243) (hb hby at_242) (z := (0 : Int32)) (by decide) rfl ?_
            refine own_istore A58 hx (pc' := 245) #[.val (.int i0), .val (.int i1), .val (.int i2), .val (.int nA), .val (.int nB), .val (.int r44), .val (.int r45), .val (.int r46), .val (.int r47), .val (.int b0), .val (.int b1), .val (.int b2), .val (.int b3), .val (.ref a52), .val (.ref a53), .val (.ref a54), .val (.ref b55), .val (.ref b57), .val (.int (0 : Int32))] (hb hby at_243) rfl rfl ?_
            refine own_iload A58 hx (pc' := 247) (hb hby at_245) rfl rfl ?_
            refine own_if_eq A58 hx 300 250 (hb hby at_247) (by decide) (by decide) rfl (fun hc247 => ?_) (fun hc247 => ?_)
            rotate_left
            · exact absurd rfl hc247
            exact J300_59 T58 h58 (0 : Int32) (own_more K58 (by decide) (by decide)) S52 S53 S54 X55 F56 X57 F58 (by rw [own_sm hnA4 hnB4]; exact if_neg (fun q => hc235 q.1))
          · refine own_iconst A58 hx (pc' := 239) (hb hby at_238) (z := (1 : Int32)) (by decide) rfl ?_
            refine own_goto A58 hx 243 (hb hby at_239) (by decide) (by decide) ?_
            refine own_istore A58 hx (pc' := 245) #[.val (.int i0), .val (.int i1), .val (.int i2), .val (.int nA), .val (.int nB), .val (.int r44), .val (.int r45), .val (.int r46), .val (.int r47), .val (.int b0), .val (.int b1), .val (.int b2), .val (.int b3), .val (.ref a52), .val (.ref a53), .val (.ref a54), .val (.ref b55), .val (.ref b57), .val (.int (1 : Int32))] (hb hby at_243) rfl rfl ?_
            refine own_iload A58 hx (pc' := 247) (hb hby at_245) rfl rfl ?_
            refine own_if_eq A58 hx 300 250 (hb hby at_247) (by decide) (by decide) rfl (fun hc247 => ?_) (fun hc247 => ?_)
            · exact absurd hc247 (by decide)
            refine own_iload A58 hx (pc' := 252) (hb hby at_250) rfl rfl ?_
            refine own_iload A58 hx (pc' := 254) (hb hby at_252) rfl rfl ?_
            refine own_icmp_ne A58 hx 297 257 (hb hby at_254) (by decide) (by decide) rfl (fun hc254 => ?_) (fun hc254 => ?_)
            · refine own_iconst A58 hx (pc' := 298) (hb hby at_297) (z := (0 : Int32)) (by decide) rfl ?_
              refine own_istore A58 hx (pc' := 300) #[.val (.int i0), .val (.int i1), .val (.int i2), .val (.int nA), .val (.int nB), .val (.int r44), .val (.int r45), .val (.int r46), .val (.int r47), .val (.int b0), .val (.int b1), .val (.int b2), .val (.int b3), .val (.ref a52), .val (.ref a53), .val (.ref a54), .val (.ref b55), .val (.ref b57), .val (.int (0 : Int32))] (hb hby at_298) rfl rfl ?_
              exact J300_59 T58 h58 (0 : Int32) (own_more K58 (by decide) (by decide)) S52 S53 S54 X55 F56 X57 F58 (by rw [own_sm hnA4 hnB4]; exact if_neg (fun q => hc254 q.2.1))
            · refine own_iloadN A58 hx (pc' := 258) (hb hby at_257) rfl rfl ?_
              refine own_iconst A58 hx (pc' := 259) (hb hby at_258) (z := (2 : Int32)) (by decide) rfl ?_
              refine own_icmp_lt A58 hx 269 262 (hb hby at_259) (by decide) (by decide) rfl (fun hc259 => ?_) (fun hc259 => ?_)
              · refine own_iloadN A58 hx (pc' := 270) (hb hby at_269) rfl rfl ?_
                refine own_iconst A58 hx (pc' := 271) (hb hby at_270) (z := (3 : Int32)) (by decide) rfl ?_
                refine own_icmp_lt A58 hx 281 274 (hb hby at_271) (by decide) (by decide) rfl (fun hc271 => ?_) (fun hc271 => ?_)
                · refine own_iloadN A58 hx (pc' := 282) (hb hby at_281) rfl rfl ?_
                  refine own_iconst A58 hx (pc' := 283) (hb hby at_282) (z := (4 : Int32)) (by decide) rfl ?_
                  refine own_icmp_lt A58 hx 293 286 (hb hby at_283) (by decide) (by decide) rfl (fun hc283 => ?_) (fun hc283 => ?_)
                  · refine own_iconst A58 hx (pc' := 294) (hb hby at_293) (z := (1 : Int32)) (by decide) rfl ?_
                    refine own_goto A58 hx 298 (hb hby at_294) (by decide) (by decide) ?_
                    refine own_istore A58 hx (pc' := 300) #[.val (.int i0), .val (.int i1), .val (.int i2), .val (.int nA), .val (.int nB), .val (.int r44), .val (.int r45), .val (.int r46), .val (.int r47), .val (.int b0), .val (.int b1), .val (.int b2), .val (.int b3), .val (.ref a52), .val (.ref a53), .val (.ref a54), .val (.ref b55), .val (.ref b57), .val (.int (1 : Int32))] (hb hby at_298) rfl rfl ?_
                    exact J300_59 T58 h58 (1 : Int32) (own_more K58 (by decide) (by decide)) S52 S53 S54 X55 F56 X57 F58 (by rw [own_sm hnA4 hnB4]; exact if_pos ⟨hc235, hc254, Or.inl hc259, Or.inl hc271, Or.inl hc283⟩)
                  · refine own_iload A58 hx (pc' := 288) (hb hby at_286) rfl rfl ?_
                    refine own_iload A58 hx (pc' := 290) (hb hby at_288) rfl rfl ?_
                    refine own_icmp_ne A58 hx 297 293 (hb hby at_290) (by decide) (by decide) rfl (fun hc290 => ?_) (fun hc290 => ?_)
                    · refine own_iconst A58 hx (pc' := 298) (hb hby at_297) (z := (0 : Int32)) (by decide) rfl ?_
                      refine own_istore A58 hx (pc' := 300) #[.val (.int i0), .val (.int i1), .val (.int i2), .val (.int nA), .val (.int nB), .val (.int r44), .val (.int r45), .val (.int r46), .val (.int r47), .val (.int b0), .val (.int b1), .val (.int b2), .val (.int b3), .val (.ref a52), .val (.ref a53), .val (.ref a54), .val (.ref b55), .val (.ref b57), .val (.int (0 : Int32))] (hb hby at_298) rfl rfl ?_
                      exact J300_59 T58 h58 (0 : Int32) (own_more K58 (by decide) (by decide)) S52 S53 S54 X55 F56 X57 F58 (by rw [own_sm hnA4 hnB4]; exact if_neg (fun q => q.2.2.2.2.elim hc283 hc290))
                    · refine own_iconst A58 hx (pc' := 294) (hb hby at_293) (z := (1 : Int32)) (by decide) rfl ?_
                      refine own_goto A58 hx 298 (hb hby at_294) (by decide) (by decide) ?_
                      refine own_istore A58 hx (pc' := 300) #[.val (.int i0), .val (.int i1), .val (.int i2), .val (.int nA), .val (.int nB), .val (.int r44), .val (.int r45), .val (.int r46), .val (.int r47), .val (.int b0), .val (.int b1), .val (.int b2), .val (.int b3), .val (.ref a52), .val (.ref a53), .val (.ref a54), .val (.ref b55), .val (.ref b57), .val (.int (1 : Int32))] (hb hby at_298) rfl rfl ?_
                      exact J300_59 T58 h58 (1 : Int32) (own_more K58 (by decide) (by decide)) S52 S53 S54 X55 F56 X57 F58 (by rw [own_sm hnA4 hnB4]; exact if_pos ⟨hc235, hc254, Or.inl hc259, Or.inl hc271, Or.inr hc290⟩)
                · refine own_iload A58 hx (pc' := 276) (hb hby at_274) rfl rfl ?_
                  refine own_iload A58 hx (pc' := 278) (hb hby at_276) rfl rfl ?_
                  refine own_icmp_ne A58 hx 297 281 (hb hby at_278) (by decide) (by decide) rfl (fun hc278 => ?_) (fun hc278 => ?_)
                  · refine own_iconst A58 hx (pc' := 298) (hb hby at_297) (z := (0 : Int32)) (by decide) rfl ?_
                    refine own_istore A58 hx (pc' := 300) #[.val (.int i0), .val (.int i1), .val (.int i2), .val (.int nA), .val (.int nB), .val (.int r44), .val (.int r45), .val (.int r46), .val (.int r47), .val (.int b0), .val (.int b1), .val (.int b2), .val (.int b3), .val (.ref a52), .val (.ref a53), .val (.ref a54), .val (.ref b55), .val (.ref b57), .val (.int (0 : Int32))] (hb hby at_298) rfl rfl ?_
                    exact J300_59 T58 h58 (0 : Int32) (own_more K58 (by decide) (by decide)) S52 S53 S54 X55 F56 X57 F58 (by rw [own_sm hnA4 hnB4]; exact if_neg (fun q => q.2.2.2.1.elim hc271 hc278))
                  · refine own_iloadN A58 hx (pc' := 282) (hb hby at_281) rfl rfl ?_
                    refine own_iconst A58 hx (pc' := 283) (hb hby at_282) (z := (4 : Int32)) (by decide) rfl ?_
                    refine own_icmp_lt A58 hx 293 286 (hb hby at_283) (by decide) (by decide) rfl (fun hc283 => ?_) (fun hc283 => ?_)
                    · refine own_iconst A58 hx (pc' := 294) (hb hby at_293) (z := (1 : Int32)) (by decide) rfl ?_
                      refine own_goto A58 hx 298 (hb hby at_294) (by decide) (by decide) ?_
                      refine own_istore A58 hx (pc' := 300) #[.val (.int i0), .val (.int i1), .val (.int i2), .val (.int nA), .val (.int nB), .val (.int r44), .val (.int r45), .val (.int r46), .val (.int r47), .val (.int b0), .val (.int b1), .val (.int b2), .val (.int b3), .val (.ref a52), .val (.ref a53), .val (.ref a54), .val (.ref b55), .val (.ref b57), .val (.int (1 : Int32))] (hb hby at_298) rfl rfl ?_
                      exact J300_59 T58 h58 (1 : Int32) (own_more K58 (by decide) (by decide)) S52 S53 S54 X55 F56 X57 F58 (by rw [own_sm hnA4 hnB4]; exact if_pos ⟨hc235, hc254, Or.inl hc259, Or.inr hc278, Or.inl hc283⟩)
                    · refine own_iload A58 hx (pc' := 288) (hb hby at_286) rfl rfl ?_
                      refine own_iload A58 hx (pc' := 290) (hb hby at_288) rfl rfl ?_
                      refine own_icmp_ne A58 hx 297 293 (hb hby at_290) (by decide) (by decide) rfl (fun hc290 => ?_) (fun hc290 => ?_)
                      · refine own_iconst A58 hx (pc' := 298) (hb hby at_297) (z := (0 : Int32)) (by decide) rfl ?_
                        refine own_istore A58 hx (pc' := 300) #[.val (.int i0), .val (.int i1), .val (.int i2), .val (.int nA), .val (.int nB), .val (.int r44), .val (.int r45), .val (.int r46), .val (.int r47), .val (.int b0), .val (.int b1), .val (.int b2), .val (.int b3), .val (.ref a52), .val (.ref a53), .val (.ref a54), .val (.ref b55), .val (.ref b57), .val (.int (0 : Int32))] (hb hby at_298) rfl rfl ?_
                        exact J300_59 T58 h58 (0 : Int32) (own_more K58 (by decide) (by decide)) S52 S53 S54 X55 F56 X57 F58 (by rw [own_sm hnA4 hnB4]; exact if_neg (fun q => q.2.2.2.2.elim hc283 hc290))
                      · refine own_iconst A58 hx (pc' := 294) (hb hby at_293) (z := (1 : Int32)) (by decide) rfl ?_
                        refine own_goto A58 hx 298 (hb hby at_294) (by decide) (by decide) ?_
                        refine own_istore A58 hx (pc' := 300) #[.val (.int i0), .val (.int i1), .val (.int i2), .val (.int nA), .val (.int nB), .val (.int r44), .val (.int r45), .val (.int r46), .val (.int r47), .val (.int b0), .val (.int b1), .val (.int b2), .val (.int b3), .val (.ref a52), .val (.ref a53), .val (.ref a54), .val (.ref b55), .val (.ref b57), .val (.int (1 : Int32))] (hb hby at_298) rfl rfl ?_
                        exact J300_59 T58 h58 (1 : Int32) (own_more K58 (by decide) (by decide)) S52 S53 S54 X55 F56 X57 F58 (by rw [own_sm hnA4 hnB4]; exact if_pos ⟨hc235, hc254, Or.inl hc259, Or.inr hc278, Or.inr hc290⟩)
              · refine own_iload A58 hx (pc' := 264) (hb hby at_262) rfl rfl ?_
                refine own_iload A58 hx (pc' := 266) (hb hby at_264) rfl rfl ?_
                refine own_icmp_ne A58 hx 297 269 (hb hby at_266) (by decide) (by decide) rfl (fun hc266 => ?_) (fun hc266 => ?_)
                · refine own_iconst A58 hx (pc' := 298) (hb hby at_297) (z := (0 : Int32)) (by decide) rfl ?_
                  refine own_istore A58 hx (pc' := 300) #[.val (.int i0), .val (.int i1), .val (.int i2), .val (.int nA), .val (.int nB), .val (.int r44), .val (.int r45), .val (.int r46), .val (.int r47), .val (.int b0), .val (.int b1), .val (.int b2), .val (.int b3), .val (.ref a52), .val (.ref a53), .val (.ref a54), .val (.ref b55), .val (.ref b57), .val (.int (0 : Int32))] (hb hby at_298) rfl rfl ?_
                  exact J300_59 T58 h58 (0 : Int32) (own_more K58 (by decide) (by decide)) S52 S53 S54 X55 F56 X57 F58 (by rw [own_sm hnA4 hnB4]; exact if_neg (fun q => q.2.2.1.elim hc259 hc266))
                · refine own_iloadN A58 hx (pc' := 270) (hb hby at_269) rfl rfl ?_
                  refine own_iconst A58 hx (pc' := 271) (hb hby at_270) (z := (3 : Int32)) (by decide) rfl ?_
                  refine own_icmp_lt A58 hx 281 274 (hb hby at_271) (by decide) (by decide) rfl (fun hc271 => ?_) (fun hc271 => ?_)
                  · refine own_iloadN A58 hx (pc' := 282) (hb hby at_281) rfl rfl ?_
                    refine own_iconst A58 hx (pc' := 283) (hb hby at_282) (z := (4 : Int32)) (by decide) rfl ?_
                    refine own_icmp_lt A58 hx 293 286 (hb hby at_283) (by decide) (by decide) rfl (fun hc283 => ?_) (fun hc283 => ?_)
                    · refine own_iconst A58 hx (pc' := 294) (hb hby at_293) (z := (1 : Int32)) (by decide) rfl ?_
                      refine own_goto A58 hx 298 (hb hby at_294) (by decide) (by decide) ?_
                      refine own_istore A58 hx (pc' := 300) #[.val (.int i0), .val (.int i1), .val (.int i2), .val (.int nA), .val (.int nB), .val (.int r44), .val (.int r45), .val (.int r46), .val (.int r47), .val (.int b0), .val (.int b1), .val (.int b2), .val (.int b3), .val (.ref a52), .val (.ref a53), .val (.ref a54), .val (.ref b55), .val (.ref b57), .val (.int (1 : Int32))] (hb hby at_298) rfl rfl ?_
                      exact J300_59 T58 h58 (1 : Int32) (own_more K58 (by decide) (by decide)) S52 S53 S54 X55 F56 X57 F58 (by rw [own_sm hnA4 hnB4]; exact if_pos ⟨hc235, hc254, Or.inr hc266, Or.inl hc271, Or.inl hc283⟩)
                    · refine own_iload A58 hx (pc' := 288) (hb hby at_286) rfl rfl ?_
                      refine own_iload A58 hx (pc' := 290) (hb hby at_288) rfl rfl ?_
                      refine own_icmp_ne A58 hx 297 293 (hb hby at_290) (by decide) (by decide) rfl (fun hc290 => ?_) (fun hc290 => ?_)
                      · refine own_iconst A58 hx (pc' := 298) (hb hby at_297) (z := (0 : Int32)) (by decide) rfl ?_
                        refine own_istore A58 hx (pc' := 300) #[.val (.int i0), .val (.int i1), .val (.int i2), .val (.int nA), .val (.int nB), .val (.int r44), .val (.int r45), .val (.int r46), .val (.int r47), .val (.int b0), .val (.int b1), .val (.int b2), .val (.int b3), .val (.ref a52), .val (.ref a53), .val (.ref a54), .val (.ref b55), .val (.ref b57), .val (.int (0 : Int32))] (hb hby at_298) rfl rfl ?_
                        exact J300_59 T58 h58 (0 : Int32) (own_more K58 (by decide) (by decide)) S52 S53 S54 X55 F56 X57 F58 (by rw [own_sm hnA4 hnB4]; exact if_neg (fun q => q.2.2.2.2.elim hc283 hc290))
                      · refine own_iconst A58 hx (pc' := 294) (hb hby at_293) (z := (1 : Int32)) (by decide) rfl ?_
                        refine own_goto A58 hx 298 (hb hby at_294) (by decide) (by decide) ?_
                        refine own_istore A58 hx (pc' := 300) #[.val (.int i0), .val (.int i1), .val (.int i2), .val (.int nA), .val (.int nB), .val (.int r44), .val (.int r45), .val (.int r46), .val (.int r47), .val (.int b0), .val (.int b1), .val (.int b2), .val (.int b3), .val (.ref a52), .val (.ref a53), .val (.ref a54), .val (.ref b55), .val (.ref b57), .val (.int (1 : Int32))] (hb hby at_298) rfl rfl ?_
                        exact J300_59 T58 h58 (1 : Int32) (own_more K58 (by decide) (by decide)) S52 S53 S54 X55 F56 X57 F58 (by rw [own_sm hnA4 hnB4]; exact if_pos ⟨hc235, hc254, Or.inr hc266, Or.inl hc271, Or.inr hc290⟩)
                  · refine own_iload A58 hx (pc' := 276) (hb hby at_274) rfl rfl ?_
                    refine own_iload A58 hx (pc' := 278) (hb hby at_276) rfl rfl ?_
                    refine own_icmp_ne A58 hx 297 281 (hb hby at_278) (by decide) (by decide) rfl (fun hc278 => ?_) (fun hc278 => ?_)
                    · refine own_iconst A58 hx (pc' := 298) (hb hby at_297) (z := (0 : Int32)) (by decide) rfl ?_
                      refine own_istore A58 hx (pc' := 300) #[.val (.int i0), .val (.int i1), .val (.int i2), .val (.int nA), .val (.int nB), .val (.int r44), .val (.int r45), .val (.int r46), .val (.int r47), .val (.int b0), .val (.int b1), .val (.int b2), .val (.int b3), .val (.ref a52), .val (.ref a53), .val (.ref a54), .val (.ref b55), .val (.ref b57), .val (.int (0 : Int32))] (hb hby at_298) rfl rfl ?_
                      exact J300_59 T58 h58 (0 : Int32) (own_more K58 (by decide) (by decide)) S52 S53 S54 X55 F56 X57 F58 (by rw [own_sm hnA4 hnB4]; exact if_neg (fun q => q.2.2.2.1.elim hc271 hc278))
                    · refine own_iloadN A58 hx (pc' := 282) (hb hby at_281) rfl rfl ?_
                      refine own_iconst A58 hx (pc' := 283) (hb hby at_282) (z := (4 : Int32)) (by decide) rfl ?_
                      refine own_icmp_lt A58 hx 293 286 (hb hby at_283) (by decide) (by decide) rfl (fun hc283 => ?_) (fun hc283 => ?_)
                      · refine own_iconst A58 hx (pc' := 294) (hb hby at_293) (z := (1 : Int32)) (by decide) rfl ?_
                        refine own_goto A58 hx 298 (hb hby at_294) (by decide) (by decide) ?_
                        refine own_istore A58 hx (pc' := 300) #[.val (.int i0), .val (.int i1), .val (.int i2), .val (.int nA), .val (.int nB), .val (.int r44), .val (.int r45), .val (.int r46), .val (.int r47), .val (.int b0), .val (.int b1), .val (.int b2), .val (.int b3), .val (.ref a52), .val (.ref a53), .val (.ref a54), .val (.ref b55), .val (.ref b57), .val (.int (1 : Int32))] (hb hby at_298) rfl rfl ?_
                        exact J300_59 T58 h58 (1 : Int32) (own_more K58 (by decide) (by decide)) S52 S53 S54 X55 F56 X57 F58 (by rw [own_sm hnA4 hnB4]; exact if_pos ⟨hc235, hc254, Or.inr hc266, Or.inr hc278, Or.inl hc283⟩)
                      · refine own_iload A58 hx (pc' := 288) (hb hby at_286) rfl rfl ?_
                        refine own_iload A58 hx (pc' := 290) (hb hby at_288) rfl rfl ?_
                        refine own_icmp_ne A58 hx 297 293 (hb hby at_290) (by decide) (by decide) rfl (fun hc290 => ?_) (fun hc290 => ?_)
                        · refine own_iconst A58 hx (pc' := 298) (hb hby at_297) (z := (0 : Int32)) (by decide) rfl ?_
                          refine own_istore A58 hx (pc' := 300) #[.val (.int i0), .val (.int i1), .val (.int i2), .val (.int nA), .val (.int nB), .val (.int r44), .val (.int r45), .val (.int r46), .val (.int r47), .val (.int b0), .val (.int b1), .val (.int b2), .val (.int b3), .val (.ref a52), .val (.ref a53), .val (.ref a54), .val (.ref b55), .val (.ref b57), .val (.int (0 : Int32))] (hb hby at_298) rfl rfl ?_
                          exact J300_59 T58 h58 (0 : Int32) (own_more K58 (by decide) (by decide)) S52 S53 S54 X55 F56 X57 F58 (by rw [own_sm hnA4 hnB4]; exact if_neg (fun q => q.2.2.2.2.elim hc283 hc290))
                        · refine own_iconst A58 hx (pc' := 294) (hb hby at_293) (z := (1 : Int32)) (by decide) rfl ?_
                          refine own_goto A58 hx 298 (hb hby at_294) (by decide) (by decide) ?_
                          refine own_istore A58 hx (pc' := 300) #[.val (.int i0), .val (.int i1), .val (.int i2), .val (.int nA), .val (.int nB), .val (.int r44), .val (.int r45), .val (.int r46), .val (.int r47), .val (.int b0), .val (.int b1), .val (.int b2), .val (.int b3), .val (.ref a52), .val (.ref a53), .val (.ref a54), .val (.ref b55), .val (.ref b57), .val (.int (1 : Int32))] (hb hby at_298) rfl rfl ?_
                          exact J300_59 T58 h58 (1 : Int32) (own_more K58 (by decide) (by decide)) S52 S53 S54 X55 F56 X57 F58 (by rw [own_sm hnA4 hnB4]; exact if_pos ⟨hc235, hc254, Or.inr hc266, Or.inr hc278, Or.inr hc290⟩)
        refine own_if_eq A50 hx 154 149 (hb hby at_146) (by decide) (by decide) rfl (fun hc146 => ?_) (fun hc146 => ?_)
        · refine own_iloadN A50 hx (pc' := 155) (hb hby at_154) rfl rfl ?_
          refine own_bipush A50 hx (pc' := 157) (hb hby at_155) (z := (24 : Int32)) (by decide) rfl ?_
          refine own_iushr A50 hx (pc' := 158) (hb hby at_157) (z := ((i1.toUInt32 >>> ((24 : Int32) &&& 31).toUInt32).toInt32)) rfl rfl ?_
          refine own_sipush A50 hx (pc' := 161) (hb hby at_158) (z := (255 : Int32)) (by decide) rfl ?_
          refine own_iand A50 hx (pc' := 162) (hb hby at_161) (z := (((i1.toUInt32 >>> ((24 : Int32) &&& 31).toUInt32).toInt32) &&& (255 : Int32))) rfl rfl ?_
          refine own_callS K50 hx (by rw [hml]; rfl) (hw _ (List.mem_of_getElem? (i := 4) rfl)) (hw _ (List.mem_of_getElem? (i := 5) rfl)) (hw _ (List.mem_of_getElem? (i := 2) rfl)) (hw _ (List.mem_of_getElem? (i := 6) rfl)) (by decide) (rm_any l Z a0 hw [] h50 (((i1.toUInt32 >>> ((24 : Int32) &&& 31).toUInt32).toInt32) &&& (255 : Int32)) (own_m255 _).1) (fun _ q => nomatch q) (argsL := [(.int (((i1.toUInt32 >>> ((24 : Int32) &&& 31).toUInt32).toInt32) &&& (255 : Int32)))]) (rest := []) (lenOf pd_0 rfl) rfl 0 (Nat.le_of_eq rfl) (hb hby at_162) (pc' := 165) rfl (by decide) (by decide) (by decide) (by decide) ?_
          intro v65 T65 h65 K65 Kp65 Q65
          obtain ⟨r65, rfl, hr65⟩ := Q65
          have A65 := own_here K65
          show own_Go p.tables e below _ T65 (mkF m 165 #[.val (.int i0), .val (.int i1), .val (.int i2), .val (.int nA), .val (.int nB), .val (.int r44), .val (.int r45), .val (.int r46), .val (.int r47), .val (.int b0), .val (.int b1), .val (.int b2), .unset, .unset, .unset, .unset, .unset, .unset, .unset] [(.int r65)])
          exact J165_51 T65 h65 r65 (own_sub (own_more K65 (by decide) (by decide)) (by simp))  hr65
        · refine own_iload A50 hx (pc' := 151) (hb hby at_149) rfl rfl ?_
          refine own_goto A50 hx 165 (hb hby at_151) (by decide) (by decide) ?_
          exact J165_51 T50 h50 r47 (own_sub (own_more K50 (by decide) (by decide)) (by simp))  hr47
      refine own_if_eq A49 hx 127 122 (hb hby at_119) (by decide) (by decide) rfl (fun hc119 => ?_) (fun hc119 => ?_)
      · refine own_iloadN A49 hx (pc' := 128) (hb hby at_127) rfl rfl ?_
        refine own_bipush A49 hx (pc' := 130) (hb hby at_128) (z := (16 : Int32)) (by decide) rfl ?_
        refine own_iushr A49 hx (pc' := 131) (hb hby at_130) (z := ((i1.toUInt32 >>> ((16 : Int32) &&& 31).toUInt32).toInt32)) rfl rfl ?_
        refine own_sipush A49 hx (pc' := 134) (hb hby at_131) (z := (255 : Int32)) (by decide) rfl ?_
        refine own_iand A49 hx (pc' := 135) (hb hby at_134) (z := (((i1.toUInt32 >>> ((16 : Int32) &&& 31).toUInt32).toInt32) &&& (255 : Int32))) rfl rfl ?_
        refine own_callS K49 hx (by rw [hml]; rfl) (hw _ (List.mem_of_getElem? (i := 4) rfl)) (hw _ (List.mem_of_getElem? (i := 5) rfl)) (hw _ (List.mem_of_getElem? (i := 2) rfl)) (hw _ (List.mem_of_getElem? (i := 6) rfl)) (by decide) (rm_any l Z a0 hw [] h49 (((i1.toUInt32 >>> ((16 : Int32) &&& 31).toUInt32).toInt32) &&& (255 : Int32)) (own_m255 _).1) (fun _ q => nomatch q) (argsL := [(.int (((i1.toUInt32 >>> ((16 : Int32) &&& 31).toUInt32).toInt32) &&& (255 : Int32)))]) (rest := []) (lenOf pd_0 rfl) rfl 0 (Nat.le_of_eq rfl) (hb hby at_135) (pc' := 138) rfl (by decide) (by decide) (by decide) (by decide) ?_
        intro v66 T66 h66 K66 Kp66 Q66
        obtain ⟨r66, rfl, hr66⟩ := Q66
        have A66 := own_here K66
        show own_Go p.tables e below _ T66 (mkF m 138 #[.val (.int i0), .val (.int i1), .val (.int i2), .val (.int nA), .val (.int nB), .val (.int r44), .val (.int r45), .val (.int r46), .val (.int r47), .val (.int b0), .val (.int b1), .unset, .unset, .unset, .unset, .unset, .unset, .unset, .unset] [(.int r66)])
        exact J138_50 T66 h66 r66 (own_more K66 (by decide) (by decide))  hr66
      · refine own_iload A49 hx (pc' := 124) (hb hby at_122) rfl rfl ?_
        refine own_goto A49 hx 138 (hb hby at_124) (by decide) (by decide) ?_
        exact J138_50 T49 h49 r46 (own_more K49 (by decide) (by decide))  hr46
    refine own_if_eq A48 hx 100 95 (hb hby at_92) (by decide) (by decide) rfl (fun hc92 => ?_) (fun hc92 => ?_)
    · refine own_iloadN A48 hx (pc' := 101) (hb hby at_100) rfl rfl ?_
      refine own_bipush A48 hx (pc' := 103) (hb hby at_101) (z := (8 : Int32)) (by decide) rfl ?_
      refine own_iushr A48 hx (pc' := 104) (hb hby at_103) (z := ((i1.toUInt32 >>> ((8 : Int32) &&& 31).toUInt32).toInt32)) rfl rfl ?_
      refine own_sipush A48 hx (pc' := 107) (hb hby at_104) (z := (255 : Int32)) (by decide) rfl ?_
      refine own_iand A48 hx (pc' := 108) (hb hby at_107) (z := (((i1.toUInt32 >>> ((8 : Int32) &&& 31).toUInt32).toInt32) &&& (255 : Int32))) rfl rfl ?_
      refine own_callS K48 hx (by rw [hml]; rfl) (hw _ (List.mem_of_getElem? (i := 4) rfl)) (hw _ (List.mem_of_getElem? (i := 5) rfl)) (hw _ (List.mem_of_getElem? (i := 2) rfl)) (hw _ (List.mem_of_getElem? (i := 6) rfl)) (by decide) (rm_any l Z a0 hw [] h48 (((i1.toUInt32 >>> ((8 : Int32) &&& 31).toUInt32).toInt32) &&& (255 : Int32)) (own_m255 _).1) (fun _ q => nomatch q) (argsL := [(.int (((i1.toUInt32 >>> ((8 : Int32) &&& 31).toUInt32).toInt32) &&& (255 : Int32)))]) (rest := []) (lenOf pd_0 rfl) rfl 0 (Nat.le_of_eq rfl) (hb hby at_108) (pc' := 111) rfl (by decide) (by decide) (by decide) (by decide) ?_
      intro v67 T67 h67 K67 Kp67 Q67
      obtain ⟨r67, rfl, hr67⟩ := Q67
      have A67 := own_here K67
      show own_Go p.tables e below _ T67 (mkF m 111 #[.val (.int i0), .val (.int i1), .val (.int i2), .val (.int nA), .val (.int nB), .val (.int r44), .val (.int r45), .val (.int r46), .val (.int r47), .val (.int b0), .unset, .unset, .unset, .unset, .unset, .unset, .unset, .unset, .unset] [(.int r67)])
      exact J111_49 T67 h67 r67 (own_more K67 (by decide) (by decide))  hr67
    · refine own_iload A48 hx (pc' := 97) (hb hby at_95) rfl rfl ?_
      refine own_goto A48 hx 111 (hb hby at_97) (by decide) (by decide) ?_
      exact J111_49 T48 h48 r45 (own_more K48 (by decide) (by decide))  hr45
  refine own_if_eq A47 hx 77 72 (hb hby at_69) (by decide) (by decide) rfl (fun hc69 => ?_) (fun hc69 => ?_)
  · refine own_iloadN A47 hx (pc' := 78) (hb hby at_77) rfl rfl ?_
    refine own_sipush A47 hx (pc' := 81) (hb hby at_78) (z := (255 : Int32)) (by decide) rfl ?_
    refine own_iand A47 hx (pc' := 82) (hb hby at_81) (z := (i1 &&& (255 : Int32))) rfl rfl ?_
    refine own_callS K47 hx (by rw [hml]; rfl) (hw _ (List.mem_of_getElem? (i := 0) rfl)) (hw _ (List.mem_of_getElem? (i := 1) rfl)) (hw _ (List.mem_of_getElem? (i := 2) rfl)) (hw _ (List.mem_of_getElem? (i := 3) rfl)) (by decide) (rm_lead l Z a0 hw [] h47 (i1 &&& (255 : Int32)) (own_m255 _).1) (fun _ q => nomatch q) (argsL := [(.int (i1 &&& (255 : Int32)))]) (rest := []) (lenOf pd_0 rfl) rfl 0 (Nat.le_of_eq rfl) (hb hby at_82) (pc' := 85) rfl (by decide) (by decide) (by decide) (by decide) ?_
    intro v68 T68 h68 K68 Kp68 Q68
    obtain ⟨r68, rfl, hr68, -⟩ := Q68
    have A68 := own_here K68
    show own_Go p.tables e below _ T68 (mkF m 85 #[.val (.int i0), .val (.int i1), .val (.int i2), .val (.int nA), .val (.int nB), .val (.int r44), .val (.int r45), .val (.int r46), .val (.int r47), .unset, .unset, .unset, .unset, .unset, .unset, .unset, .unset, .unset, .unset] [(.int r68)])
    exact J85_48 T68 h68 r68 (own_more K68 (by decide) (by decide))  hr68
  · refine own_iload A47 hx (pc' := 74) (hb hby at_72) rfl rfl ?_
    refine own_goto A47 hx 85 (hb hby at_74) (by decide) (by decide) ?_
    exact J85_48 T47 h47 r44 (own_more K47 (by decide) (by decide))  hr44
set_option maxRecDepth 65536 in
set_option maxHeartbeats 40000000 in
theorem comes_1 {Post : Tables → Env → Array Value → State → Outcome → State → Prop} (hpost : ∀ tb e args s v u, (limb_1_1.after args s (.returned v) u = true ∧ limb_1_2.after args s (.returned v) u = true ∧ True) → own_End true s (.returned v) u (Jvm.fieldLocs frame_1_writes args s ++ Jvm.arrayLocs frame_1_arrays args s ++ Jvm.staticLocs frame_1_statics s) 32 1216 → Post tb e args s (.returned v) u) :
    ArmFor flags0 classFile x code maxLocals ret World_1 tables_1 room_1 Calls_1 rest_1 Pre_1 Post := by
  intro l hfl _ _ p e ha hc hk s m args below hf hA hF happ hP
  obtain ⟨hcalls, hrest, hpre⟩ := hP
  obtain ⟨-, -, -, hnamed, -, -, -, hat⟩ := (Spec.applies_iff hf).mp happ
  obtain ⟨hg, hn⟩ := and_e (Cond.before_iff.mp (show (Jvm.Cond.and given_1 narrow_1).before args s = true from hpre))
  obtain ⟨g_c, g_r0⟩ := and_e hg
  obtain ⟨g_0, g_r1⟩ := and_e g_r0
  obtain ⟨g_1, g_r2⟩ := and_e g_r1
  obtain ⟨w0, w1, w2, rfl⟩ : ∃ w0 w1 w2 : Value, args = #[w0, w1, w2] := by
    have hs : args.size = 3 := by simpa [Cond.value, given_1] using g_c
    obtain ⟨L⟩ := args
    match L, hs with
    | [w0, w1, w2], _ => exact ⟨w0, w1, w2, rfl⟩
  have hw := fun d (hd : d ∈ tables_1) => atoms_spec (ws := Jvm.Cond.code x code maxLocals ret :: tables_1) hat d (List.mem_cons_of_mem _ hd)
  have hfit : Fit s := fun {y c} hc i hi => by
    obtain ⟨ha, rfl⟩ := Array.getElem?_eq_some_iff.mp hc
    have q := List.all_eq_true.mp ((Array.all_eq_true_iff_forall_mem.mp hF) _ (Array.getElem_mem ha)) i (List.mem_range.mpr hi)
    simpa [Array.getElem?_eq_getElem hi] using q
  obtain ⟨hsets, hown0⟩ := atoms_of _ (rest_1_c_eq ▸ (show rest_1_c.before _ s = true from hrest))
  obtain ⟨i0, ei0⟩ := is_v g_0
  obtain rfl : w0 = (.int i0) := Option.some.inj ei0
  obtain ⟨i1, ei1⟩ := is_v g_1
  obtain rfl : w1 = (.int i1) := Option.some.inj ei1
  obtain ⟨i2, ei2⟩ := is_v g_r2
  obtain rfl : w2 = (.int i2) := Option.some.inj ei2
  have n5 := not_v (Cond.before_iff.mp (hsets _ (List.mem_of_getElem? (i := 2) rfl)))
  obtain ⟨z1, ez1⟩ := is_v (Cond.before_iff.mp (hsets _ (List.mem_of_getElem? (i := 1) rfl)))
  have S12 : Sta s s.heap "java/lang/String" "COMPACT_STRINGS" "Z" (.int z1) := Sta.start ez1 (Or.inl (hsets _ (List.mem_of_getElem? (i := 0) rfl)))
  have c17 : ¬ (z1 = (0 : Int32)) := gotF (Cond.eq_ints ez1 (Term.int_eval (0))) n5
  obtain ⟨v13, e14, r15⟩ := isR_v (Cond.before_iff.mp (hsets _ (List.mem_of_getElem? (i := 8) rfl)))
  have S16 : Sta s s.heap "jdk/internal/util/Preconditions" "SIOOBE_FORMATTER" "Ljava/util/function/BiFunction;" v13 := Sta.start e14 (Or.inl (hsets _ (List.mem_of_getElem? (i := 7) rfl)))
  obtain ⟨n, o, h1, h2, h3, v, L, rfl, rfl, hKp, N, hCH, hE⟩ := rm_law l s _ hw tables_1 s.heap i0 i1 i2 z1 S12 c17 v13 S16 r15 p e ha hc hk s m _ below hf ((Spec.applies_iff_loose hf).mp happ).1 ⟨rfl, State.Warmed39.refl s, rfl, ⟨Nat.le_refl _, fun _ _ q => q⟩, EW.nil, (fun _ q => nomatch q), fun _ q => nomatch q⟩ (fun q => by cases q)
  refine ⟨n, _, h1, h2, h3, hpost _ _ _ _ _ _ ⟨Cond.after_iff.mpr rfl, Cond.after_iff.mpr (eq_i res_at (Term.int_eval (1)) rfl), trivial⟩ ⟨fun _ => ⟨(hE.1 rfl).1, (hE.1 rfl).2.1, (hE.1 rfl).2.2.1, ((hE.1 rfl).2.2.2.sift fun y hy => Or.inr (N y hy)).mono (by decide) (by decide)⟩, (fun q => by cases q)⟩⟩
theorem main_1_1 : Claimed_1_1 := comes_1 fun _ _ _ _ _ _ h hF => ⟨h.1, hF.1 rfl⟩
theorem main_1_2 : Claimed_1_2 := comes_1 fun _ _ _ _ _ _ h hF => ⟨h.2.1, hF.1 rfl⟩

end Jvm.Pilot.@@N@@
namespace Jvm.Pilot.@@N@@
open Jvm Jvm.ClassFile Sem Op Lib Jvm.Free Jvm.Stand Jvm.Pilot.@@N@@.Jvm.D
/-! MADE BY PROGRAM (witnessworld.py) out of the Statement's table words and the real class files: 21 classes; the members and pool entries that the words name. The judged class is class 1, her method 4. -/
namespace start1
open Jvm.ClassFile
def u (s : String) : CpInfo := .utf8 (stringToUtf16 s)
/-- a pool by its gaps: so many unusable entries, then the entry; so many at the end -/
def gap : Nat → List CpInfo → List CpInfo
  | 0, r => r
  | n + 1, r => .unusable :: gap n r
def poolList (es : List (Nat × CpInfo)) (last : Nat) : List CpInfo := es.foldr (fun e r => gap e.1 (e.2 :: r)) (gap last [])
def pool (es : List (Nat × CpInfo)) (last : Nat) : Array CpInfo := ⟨poolList es last⟩
def fileOf (pool : Array CpInfo) (this : Nat) (attrs : Array Attribute := #[]) (ms : Array MethodInfo := #[]) (fl : Nat := 33) (sup : Nat := 0) (ifs : Array Nat := #[]) (fds : Array FieldInfo := #[]) : ClassFile where
  minorVersion := 0
  majorVersion := 65
  constantPool := pool
  accessFlags := fl
  thisClass := this
  superClass := sup
  interfaces := ifs
  fields := fds
  methods := ms
  attributes := attrs
def plain (name : String) (sup : Option ClassId) : Class where
  name := name
  kind := .ordinary
  loader := none
  accessFlags := 33
  super := sup
  interfaces := #[]
  cf := none
  fields := #[]
  methods := #[]
  instanceTypes := #[]
  staticTypes := #[]
  resolved := #[]
  callSites := []
  init := .initialized
  statics := none
  mirror := none

def pool0 : Array CpInfo := pool [(5, u "<init>"), (0, u "()V"), (1, .class_ 10), (1, u "java/lang/Object")] 113

def k0c0 : Code := { maxStack := 0, maxLocals := 1, code := object_method_1_code, exceptionTable := #[], attributes := #[] }
def k0m0 : Method := { name := "<init>", desc := "()V", sig := { parameters := [], returnType := none }, accessFlags := 1, code := some k0c0 }
/-- java/lang/Object -/
def k0 : Class := { plain "java/lang/Object" none with
  accessFlags := 33
  interfaces := #[]
  cf := some (fileOf pool0 8 #[] #[{ accessFlags := 1, nameIndex := 5, descriptorIndex := 6, attributes := #[] }] 33 0 #[] #[])
  fields := #[]
  methods := #[k0m0]
  instanceTypes := #[]
  staticTypes := #[]
  resolved := Array.replicate 124 none
  statics := none }

def pool1 : Array CpInfo := pool [(2, .class_ 4), (1, u "java/lang/Object"), (0, u "<init>"), (0, u "()V"), (0, .methodref 8 9), (0, .class_ 10), (0, .nameAndType 11 12), (0, u "com/example/kustody/kustody/DatasetNameEqualsPinLaw"), (0, u "lead"), (0, u "(I)C"), (0, .class_ 14), (0, u "java/lang/String"), (0, .methodref 13 16), (0, .nameAndType 5 17), (0, u "([C)V"), (0, .methodref 8 19), (0, .nameAndType 20 12), (0, u "any"), (0, .methodref 8 22), (0, .nameAndType 23 24), (0, u "text"), (0, u "(ICCCC)Ljava/lang/String;"), (0, .class_ 26), (0, u "com/example/kustody/kustody/DatasetName"), (0, .methodref 25 28), (0, .nameAndType 5 29), (0, u "(Ljava/lang/String;)V"), (0, .methodref 25 31), (0, .nameAndType 32 33), (0, u "equals"), (0, u "(Ljava/lang/Object;)Z"), (3, u "law"), (0, u "(III)Z")] 2

def k1m0 : Method := { name := "<init>", desc := "()V", sig := { parameters := [], returnType := none }, accessFlags := 1, code := none }
def k1c1 : Code := { maxStack := 3, maxLocals := 2, code := method_2_code, exceptionTable := #[], attributes := #[] }
def k1m1 : Method := { name := "lead", desc := "(I)C", sig := { parameters := [.int], returnType := some .char }, accessFlags := 10, code := some k1c1 }
def k1c2 : Code := { maxStack := 2, maxLocals := 2, code := method_3_code, exceptionTable := #[], attributes := #[] }
def k1m2 : Method := { name := "any", desc := "(I)C", sig := { parameters := [.int], returnType := some .char }, accessFlags := 10, code := some k1c2 }
def k1c3 : Code := { maxStack := 6, maxLocals := 5, code := method_4_code, exceptionTable := #[], attributes := #[] }
def k1m3 : Method := { name := "text", desc := "(ICCCC)Ljava/lang/String;", sig := { parameters := [.int, .char, .char, .char, .char], returnType := some (.object "java/lang/String") }, accessFlags := 10, code := some k1c3 }
def k1c4 : Code := { maxStack := 5, maxLocals := 19, code := code, exceptionTable := #[], attributes := #[] }
def k1m4 : Method := { name := "law", desc := "(III)Z", sig := { parameters := [.int, .int, .int], returnType := some .boolean }, accessFlags := 9, code := some k1c4 }
/-- com/example/kustody/kustody/DatasetNameEqualsPinLaw -/
def k1 : Class := { plain "com/example/kustody/kustody/DatasetNameEqualsPinLaw" (some 0) with
  accessFlags := 49
  interfaces := #[]
  cf := some (fileOf pool1 8 #[] #[{ accessFlags := 1, nameIndex := 5, descriptorIndex := 6, attributes := #[] }, { accessFlags := 10, nameIndex := 11, descriptorIndex := 12, attributes := #[] }, { accessFlags := 10, nameIndex := 20, descriptorIndex := 12, attributes := #[] }, { accessFlags := 10, nameIndex := 23, descriptorIndex := 24, attributes := #[] }, { accessFlags := 9, nameIndex := 37, descriptorIndex := 38, attributes := #[] }] 49 2 #[] #[])
  fields := #[]
  methods := #[k1m0, k1m1, k1m2, k1m3, k1m4]
  instanceTypes := #[]
  staticTypes := #[]
  resolved := Array.replicate 41 none
  statics := none }

def pool2 : Array CpInfo := pool [(1, .class_ 2), (0, u "java/io/Serializable"), (0, .class_ 4), (0, u "java/lang/Object")] 2

/-- java/io/Serializable -/
def k2 : Class := { plain "java/io/Serializable" (some 0) with
  accessFlags := 1537
  interfaces := #[]
  cf := some (fileOf pool2 1 #[] #[] 1537 3 #[] #[])
  fields := #[]
  methods := #[]
  instanceTypes := #[]
  staticTypes := #[]
  resolved := Array.replicate 7 none
  statics := none }

def pool3 : Array CpInfo := pool [(1, .class_ 2), (0, u "java/lang/Comparable"), (0, .class_ 4), (0, u "java/lang/Object")] 7

/-- java/lang/Comparable -/
def k3 : Class := { plain "java/lang/Comparable" (some 0) with
  accessFlags := 1537
  interfaces := #[]
  cf := some (fileOf pool3 1 #[] #[] 1537 3 #[] #[])
  fields := #[]
  methods := #[]
  instanceTypes := #[]
  staticTypes := #[]
  resolved := Array.replicate 12 none
  statics := none }

def pool4 : Array CpInfo := pool [(2, .class_ 4), (1, u "java/lang/CharSequence"), (42, .class_ 48), (0, u "java/lang/CharSequence$1CodePointIterator"), (10, .class_ 60), (0, u "java/lang/CharSequence$1CharIterator"), (5, .class_ 67), (0, u "java/lang/Object")] 63

/-- java/lang/CharSequence -/
def k4 : Class := { plain "java/lang/CharSequence" (some 0) with
  accessFlags := 1537
  interfaces := #[]
  cf := some (fileOf pool4 2 #[.nestMembers #[47, 59]] #[] 1537 66 #[] #[])
  fields := #[]
  methods := #[]
  instanceTypes := #[]
  staticTypes := #[]
  resolved := Array.replicate 131 none
  statics := none }

def pool5 : Array CpInfo := pool [(1, .class_ 2), (0, u "java/lang/constant/Constable"), (0, .class_ 4), (0, u "java/lang/Object")] 6

/-- java/lang/constant/Constable -/
def k5 : Class := { plain "java/lang/constant/Constable" (some 0) with
  accessFlags := 1537
  interfaces := #[]
  cf := some (fileOf pool5 1 #[] #[] 1537 3 #[] #[])
  fields := #[]
  methods := #[]
  instanceTypes := #[]
  staticTypes := #[]
  resolved := Array.replicate 11 none
  statics := none }

def pool6 : Array CpInfo := pool [(1, .class_ 2), (0, u "java/lang/constant/ConstantDesc"), (0, .class_ 4), (0, u "java/lang/Object")] 32

/-- java/lang/constant/ConstantDesc -/
def k6 : Class := { plain "java/lang/constant/ConstantDesc" (some 0) with
  accessFlags := 1537
  interfaces := #[]
  cf := some (fileOf pool6 1 #[] #[] 1537 3 #[] #[])
  fields := #[]
  methods := #[]
  instanceTypes := #[]
  staticTypes := #[]
  resolved := Array.replicate 37 none
  statics := none }

def pool7 : Array CpInfo := pool [(1, .methodref 2 3), (0, .class_ 4), (0, .nameAndType 5 6), (0, u "java/lang/Object"), (0, u "<init>"), (0, u "()V"), (2, .fieldref 10 11), (0, .class_ 12), (0, .nameAndType 13 14), (0, u "java/lang/String"), (0, u "value"), (0, u "[B"), (0, .fieldref 10 16), (0, .nameAndType 17 18), (0, u "coder"), (0, u "B"), (2, u "hash"), (0, u "I"), (2, u "hashIsZero"), (0, u "Z"), (0, .methodref 10 28), (0, .nameAndType 5 29), (0, u "([CIILjava/lang/Void;)V"), (8, .fieldref 10 39), (0, .nameAndType 40 26), (0, u "COMPACT_STRINGS"), (1, .class_ 44), (1, u "java/lang/StringUTF16"), (0, u "compress"), (1, .methodref 42 48), (0, .nameAndType 49 50), (0, u "coderFromArrayLen"), (0, u "([BI)B"), (56, .class_ 109), (1, u "java/lang/StringLatin1"), (32, u "()Z"), (34, .methodref 42 178), (0, .nameAndType 45 179), (0, u "([CII)[B"), (154, u "()I"), (0, .methodref 10 336), (0, .nameAndType 17 337), (0, u "()B"), (25, u "([BI)C"), (27, u "(II)V"), (35, u "(I)C"), (64, .methodref 10 493), (0, .nameAndType 494 142), (0, u "isLatin1"), (0, .methodref 107 496), (0, .nameAndType 497 363), (0, u "charAt"), (3, u "checkIndex"), (5, u "length"), (33, .methodref 107 542), (0, .nameAndType 543 544), (0, u "equals"), (0, u "([B[B)Z"), (28, u "(Ljava/lang/Object;)Z"), (1, .class_ 576), (0, u "java/lang/CharSequence"), (22, u "CASE_INSENSITIVE_ORDER"), (0, u "Ljava/util/Comparator;"), (91, u "isEmpty"), (317, u "([C)V"), (42, .fieldref 1054 1055), (0, .class_ 1056), (0, .nameAndType 1057 1058), (0, u "jdk/internal/util/Preconditions"), (0, u "SIOOBE_FORMATTER"), (0, u "Ljava/util/function/BiFunction;"), (0, .methodref 1054 1060), (0, .nameAndType 501 1061), (0, u "(IILjava/util/function/BiFunction;)I"), (39, u "serialPersistentFields"), (0, u "[Ljava/io/ObjectStreamField;"), (0, .class_ 1104), (0, u "java/lang/String$CaseInsensitiveComparator"), (1, .class_ 1107), (0, u "java/io/Serializable"), (0, .class_ 1109), (0, u "java/lang/Comparable"), (0, .class_ 1111), (0, u "java/lang/constant/Constable"), (0, .class_ 1113), (0, u "java/lang/constant/ConstantDesc"), (2, u "serialVersionUID"), (0, u "J"), (3, u "REPL"), (0, u "C"), (2, u "LATIN1"), (1, u "UTF16")] 323

def k7m0 : Method := { name := "<init>", desc := "()V", sig := { parameters := [], returnType := none }, accessFlags := 1, code := none }
def k7c1 : Code := { maxStack := 5, maxLocals := 2, code := jdk_42_method_3_code, exceptionTable := #[], attributes := #[] }
def k7m1 : Method := { name := "<init>", desc := "([C)V", sig := { parameters := [(.array .char)], returnType := none }, accessFlags := 1, code := some k7c1 }
def k7c2 : Code := { maxStack := 2, maxLocals := 1, code := jdk_42_method_54_code, exceptionTable := #[], attributes := #[] }
def k7m2 : Method := { name := "length", desc := "()I", sig := { parameters := [], returnType := some .int }, accessFlags := 1, code := some k7c2 }
def k7c3 : Code := { maxStack := 1, maxLocals := 1, code := jdk_42_method_55_code, exceptionTable := #[], attributes := #[] }
def k7m3 : Method := { name := "isEmpty", desc := "()Z", sig := { parameters := [], returnType := some .boolean }, accessFlags := 1, code := some k7c3 }
def k7c4 : Code := { maxStack := 2, maxLocals := 2, code := jdk_42_method_56_code, exceptionTable := #[], attributes := #[] }
def k7m4 : Method := { name := "charAt", desc := "(I)C", sig := { parameters := [.int], returnType := some .char }, accessFlags := 1, code := some k7c4 }
def k7c5 : Code := { maxStack := 2, maxLocals := 3, code := jdk_42_method_66_code, exceptionTable := #[], attributes := #[] }
def k7m5 : Method := { name := "equals", desc := "(Ljava/lang/Object;)Z", sig := { parameters := [(.object "java/lang/Object")], returnType := some .boolean }, accessFlags := 1, code := some k7c5 }
def k7c6 : Code := { maxStack := 4, maxLocals := 6, code := jdk_42_method_149_code, exceptionTable := #[], attributes := #[] }
def k7m6 : Method := { name := "<init>", desc := "([CIILjava/lang/Void;)V", sig := { parameters := [(.array .char), .int, .int, (.object "java/lang/Void")], returnType := none }, accessFlags := 2, code := some k7c6 }
def k7c7 : Code := { maxStack := 1, maxLocals := 1, code := jdk_42_method_152_code, exceptionTable := #[], attributes := #[] }
def k7m7 : Method := { name := "coder", desc := "()B", sig := { parameters := [], returnType := some .byte }, accessFlags := 0, code := some k7c7 }
def k7c8 : Code := { maxStack := 1, maxLocals := 1, code := jdk_42_method_154_code, exceptionTable := #[], attributes := #[] }
def k7m8 : Method := { name := "isLatin1", desc := "()Z", sig := { parameters := [], returnType := some .boolean }, accessFlags := 0, code := some k7c8 }
def k7c9 : Code := { maxStack := 3, maxLocals := 2, code := jdk_42_method_155_code, exceptionTable := #[], attributes := #[] }
def k7m9 : Method := { name := "checkIndex", desc := "(II)V", sig := { parameters := [.int, .int], returnType := none }, accessFlags := 8, code := some k7c9 }
/-- java/lang/String -/
def k7 : Class := { plain "java/lang/String" (some 0) with
  accessFlags := 49
  interfaces := #[2, 3, 4, 5, 6]
  cf := some (fileOf pool7 10 #[.nestMembers #[1103]] #[{ accessFlags := 1, nameIndex := 5, descriptorIndex := 6, attributes := #[] }, { accessFlags := 1, nameIndex := 5, descriptorIndex := 1010, attributes := #[] }, { accessFlags := 1, nameIndex := 507, descriptorIndex := 334, attributes := #[] }, { accessFlags := 1, nameIndex := 692, descriptorIndex := 142, attributes := #[] }, { accessFlags := 1, nameIndex := 497, descriptorIndex := 427, attributes := #[] }, { accessFlags := 1, nameIndex := 543, descriptorIndex := 573, attributes := #[] }, { accessFlags := 2, nameIndex := 5, descriptorIndex := 29, attributes := #[] }, { accessFlags := 0, nameIndex := 17, descriptorIndex := 337, attributes := #[] }, { accessFlags := 0, nameIndex := 494, descriptorIndex := 142, attributes := #[] }, { accessFlags := 8, nameIndex := 501, descriptorIndex := 391, attributes := #[] }] 49 2 #[1106, 1108, 575, 1110, 1112] #[{ accessFlags := 18, nameIndex := 13, descriptorIndex := 14, attributes := #[] }, { accessFlags := 18, nameIndex := 17, descriptorIndex := 18, attributes := #[] }, { accessFlags := 2, nameIndex := 21, descriptorIndex := 22, attributes := #[] }, { accessFlags := 2, nameIndex := 25, descriptorIndex := 26, attributes := #[] }, { accessFlags := 26, nameIndex := 1116, descriptorIndex := 1117, attributes := #[] }, { accessFlags := 24, nameIndex := 40, descriptorIndex := 26, attributes := #[] }, { accessFlags := 26, nameIndex := 1101, descriptorIndex := 1102, attributes := #[] }, { accessFlags := 26, nameIndex := 1121, descriptorIndex := 1122, attributes := #[] }, { accessFlags := 25, nameIndex := 599, descriptorIndex := 600, attributes := #[] }, { accessFlags := 24, nameIndex := 1125, descriptorIndex := 18, attributes := #[] }, { accessFlags := 24, nameIndex := 1127, descriptorIndex := 18, attributes := #[] }])
  fields := #[{ name := "value", type := (.array .byte), accessFlags := 18, slot := 0, constantValue := 0 }, { name := "coder", type := .byte, accessFlags := 18, slot := 1, constantValue := 0 }, { name := "hash", type := .int, accessFlags := 2, slot := 2, constantValue := 0 }, { name := "hashIsZero", type := .boolean, accessFlags := 2, slot := 3, constantValue := 0 }, { name := "serialVersionUID", type := .long, accessFlags := 26, slot := 0, constantValue := 0 }, { name := "COMPACT_STRINGS", type := .boolean, accessFlags := 24, slot := 1, constantValue := 0 }, { name := "serialPersistentFields", type := (.array (.object "java/io/ObjectStreamField")), accessFlags := 26, slot := 2, constantValue := 0 }, { name := "REPL", type := .char, accessFlags := 26, slot := 3, constantValue := 0 }, { name := "CASE_INSENSITIVE_ORDER", type := (.object "java/util/Comparator"), accessFlags := 25, slot := 4, constantValue := 0 }, { name := "LATIN1", type := .byte, accessFlags := 24, slot := 5, constantValue := 0 }, { name := "UTF16", type := .byte, accessFlags := 24, slot := 6, constantValue := 0 }]
  methods := #[k7m0, k7m1, k7m2, k7m3, k7m4, k7m5, k7m6, k7m7, k7m8, k7m9]
  instanceTypes := #[(.array .byte), .byte, .int, .boolean]
  staticTypes := #[.long, .boolean, (.array (.object "java/io/ObjectStreamField")), .char, (.object "java/util/Comparator"), .byte, .byte]
  resolved := Array.replicate 1451 none
  statics := some 0 }

def pool8 : Array CpInfo := pool [(6, .class_ 8), (1, u "java/lang/Object"), (0, u "<init>"), (0, u "()V"), (1, .class_ 14), (1, u "java/lang/StringUTF16"), (31, u "$assertionsDisabled"), (0, u "Z"), (13, u "HI_BYTE_SHIFT"), (0, u "I"), (2, u "LO_BYTE_SHIFT"), (49, .methodref 12 116), (0, .nameAndType 117 118), (0, u "compress"), (0, u "([CI[BII)I"), (3, u "([CII)[B"), (138, u "coderFromArrayLen"), (0, u "([BI)B"), (106, .class_ 371), (1, u "java/lang/StringUTF16$LinesSpliterator"), (58, u "MAX_LENGTH"), (196, .class_ 628), (0, u "java/lang/StringUTF16$CodePointsSpliterator"), (0, .class_ 630), (0, u "java/lang/StringUTF16$CharsSpliterator")] 4

def k8m0 : Method := { name := "<init>", desc := "()V", sig := { parameters := [], returnType := none }, accessFlags := 0, code := none }
def k8c1 : Code := { maxStack := 2, maxLocals := 2, code := jdk_52_method_15_code, exceptionTable := #[], attributes := #[] }
def k8m1 : Method := { name := "coderFromArrayLen", desc := "([BI)B", sig := { parameters := [(.array .byte), .int], returnType := some .byte }, accessFlags := 8, code := some k8c1 }
def k8c2 : Code := { maxStack := 5, maxLocals := 6, code := jdk_52_method_16_code, exceptionTable := #[], attributes := #[] }
def k8m2 : Method := { name := "compress", desc := "([CII)[B", sig := { parameters := [(.array .char), .int, .int], returnType := some (.array .byte) }, accessFlags := 9, code := some k8c2 }
def k8c3 : Code := { maxStack := 3, maxLocals := 7, code := jdk_52_method_21_code, exceptionTable := #[], attributes := #[] }
def k8m3 : Method := { name := "compress", desc := "([CI[BII)I", sig := { parameters := [(.array .char), .int, (.array .byte), .int, .int], returnType := some .int }, accessFlags := 9, code := some k8c3 }
/-- java/lang/StringUTF16 -/
def k8 : Class := { plain "java/lang/StringUTF16" (some 0) with
  accessFlags := 48
  interfaces := #[]
  cf := some (fileOf pool8 12 #[.nestMembers #[627, 629, 369]] #[{ accessFlags := 0, nameIndex := 9, descriptorIndex := 10, attributes := #[] }, { accessFlags := 8, nameIndex := 261, descriptorIndex := 262, attributes := #[] }, { accessFlags := 9, nameIndex := 117, descriptorIndex := 122, attributes := #[] }, { accessFlags := 9, nameIndex := 117, descriptorIndex := 118, attributes := #[] }] 48 6 #[] #[{ accessFlags := 26, nameIndex := 61, descriptorIndex := 62, attributes := #[] }, { accessFlags := 26, nameIndex := 65, descriptorIndex := 62, attributes := #[] }, { accessFlags := 24, nameIndex := 430, descriptorIndex := 62, attributes := #[] }, { accessFlags := 4120, nameIndex := 46, descriptorIndex := 47, attributes := #[] }])
  fields := #[{ name := "HI_BYTE_SHIFT", type := .int, accessFlags := 26, slot := 0, constantValue := 0 }, { name := "LO_BYTE_SHIFT", type := .int, accessFlags := 26, slot := 1, constantValue := 0 }, { name := "MAX_LENGTH", type := .int, accessFlags := 24, slot := 2, constantValue := 0 }, { name := "$assertionsDisabled", type := .boolean, accessFlags := 4120, slot := 3, constantValue := 0 }]
  methods := #[k8m0, k8m1, k8m2, k8m3]
  instanceTypes := #[]
  staticTypes := #[.int, .int, .int, .boolean]
  resolved := Array.replicate 635 none
  statics := none }

def pool9 : Array CpInfo := pool [(1, .methodref 2 3), (0, .class_ 4), (0, .nameAndType 5 6), (0, u "java/lang/Object"), (0, u "<init>"), (0, u "()V"), (0, .string 8), (0, u "text"), (0, .methodref 10 11), (0, .class_ 12), (0, .nameAndType 13 14), (0, u "java/util/Objects"), (0, u "requireNonNull"), (0, u "(Ljava/lang/Object;Ljava/lang/String;)Ljava/lang/Object;"), (0, .methodref 16 17), (0, .class_ 18), (0, .nameAndType 19 20), (0, u "java/lang/String"), (0, u "isEmpty"), (0, u "()Z"), (6, u "(Ljava/lang/String;)V"), (0, .methodref 16 29), (0, .nameAndType 30 31), (0, u "length"), (0, u "()I"), (0, .methodref 16 33), (0, .nameAndType 34 35), (0, u "charAt"), (0, u "(I)C"), (0, .methodref 37 38), (0, .class_ 39), (0, .nameAndType 40 41), (0, u "com/example/kustody/kustody/DatasetName"), (0, u "isLetterOrDigit"), (0, u "(I)Z"), (16, .fieldref 37 59), (0, .nameAndType 8 60), (0, u "Ljava/lang/String;"), (15, .methodref 16 77), (0, .nameAndType 78 79), (0, u "equals"), (0, u "(Ljava/lang/Object;)Z"), (3, u "MAX_LENGTH"), (0, u "I")] 28

def k9c0 : Code := { maxStack := 5, maxLocals := 5, code := prog_2_method_1_code, exceptionTable := #[], attributes := #[] }
def k9m0 : Method := { name := "<init>", desc := "(Ljava/lang/String;)V", sig := { parameters := [(.object "java/lang/String")], returnType := none }, accessFlags := 1, code := some k9c0 }
def k9c1 : Code := { maxStack := 2, maxLocals := 1, code := prog_2_method_2_code, exceptionTable := #[], attributes := #[] }
def k9m1 : Method := { name := "isLetterOrDigit", desc := "(I)Z", sig := { parameters := [.int], returnType := some .boolean }, accessFlags := 10, code := some k9c1 }
def k9c2 : Code := { maxStack := 2, maxLocals := 3, code := prog_2_method_4_code, exceptionTable := #[], attributes := #[] }
def k9m2 : Method := { name := "equals", desc := "(Ljava/lang/Object;)Z", sig := { parameters := [(.object "java/lang/Object")], returnType := some .boolean }, accessFlags := 1, code := some k9c2 }
/-- com/example/kustody/kustody/DatasetName -/
def k9 : Class := { plain "com/example/kustody/kustody/DatasetName" (some 0) with
  accessFlags := 49
  interfaces := #[]
  cf := some (fileOf pool9 37 #[] #[{ accessFlags := 1, nameIndex := 5, descriptorIndex := 27, attributes := #[] }, { accessFlags := 10, nameIndex := 40, descriptorIndex := 41, attributes := #[] }, { accessFlags := 1, nameIndex := 78, descriptorIndex := 79, attributes := #[] }] 49 2 #[] #[{ accessFlags := 25, nameIndex := 83, descriptorIndex := 84, attributes := #[] }, { accessFlags := 18, nameIndex := 8, descriptorIndex := 60, attributes := #[] }])
  fields := #[{ name := "MAX_LENGTH", type := .int, accessFlags := 25, slot := 0, constantValue := 0 }, { name := "text", type := (.object "java/lang/String"), accessFlags := 18, slot := 0, constantValue := 0 }]
  methods := #[k9m0, k9m1, k9m2]
  instanceTypes := #[(.object "java/lang/String")]
  staticTypes := #[.int]
  resolved := Array.replicate 113 none
  statics := none }

def pool10 : Array CpInfo := pool [(2, .class_ 4), (1, u "java/lang/Object"), (0, u "<init>"), (0, u "()V"), (35, .class_ 44), (1, u "java/util/Objects"), (0, u "requireNonNull"), (48, u "(Ljava/lang/Object;Ljava/lang/String;)Ljava/lang/Object;")] 89

def k10m0 : Method := { name := "<init>", desc := "()V", sig := { parameters := [], returnType := none }, accessFlags := 2, code := none }
def k10c1 : Code := { maxStack := 3, maxLocals := 2, code := jdk_31_method_11_code, exceptionTable := #[], attributes := #[] }
def k10m1 : Method := { name := "requireNonNull", desc := "(Ljava/lang/Object;Ljava/lang/String;)Ljava/lang/Object;", sig := { parameters := [(.object "java/lang/Object"), (.object "java/lang/String")], returnType := some (.object "java/lang/Object") }, accessFlags := 9, code := some k10c1 }
/-- java/util/Objects -/
def k10 : Class := { plain "java/util/Objects" (some 0) with
  accessFlags := 49
  interfaces := #[]
  cf := some (fileOf pool10 42 #[] #[{ accessFlags := 2, nameIndex := 5, descriptorIndex := 6, attributes := #[] }, { accessFlags := 9, nameIndex := 45, descriptorIndex := 94, attributes := #[] }] 49 2 #[] #[])
  fields := #[]
  methods := #[k10m0, k10m1]
  instanceTypes := #[]
  staticTypes := #[]
  resolved := Array.replicate 184 none
  statics := none }

def pool11 : Array CpInfo := pool [(1, .class_ 2), (0, u "java/lang/String"), (1, .class_ 6), (1, u "java/lang/Object"), (0, u "<init>"), (0, u "()V"), (0, .methodref 1 10), (0, .nameAndType 11 12), (0, u "checkIndex"), (0, u "(II)V"), (1, .class_ 16), (1, u "java/lang/StringLatin1"), (36, u "([BI)C"), (67, u "$assertionsDisabled"), (0, u "Z"), (98, .class_ 223), (1, u "java/lang/StringLatin1$LinesSpliterator"), (28, u "charAt"), (28, u "equals"), (0, u "([B[B)Z"), (107, .class_ 391), (0, u "java/lang/StringLatin1$CharsSpliterator")] 3

def k11m0 : Method := { name := "<init>", desc := "()V", sig := { parameters := [], returnType := none }, accessFlags := 0, code := none }
def k11c1 : Code := { maxStack := 2, maxLocals := 2, code := jdk_43_method_2_code, exceptionTable := #[], attributes := #[] }
def k11m1 : Method := { name := "charAt", desc := "([BI)C", sig := { parameters := [(.array .byte), .int], returnType := some .char }, accessFlags := 9, code := some k11c1 }
def k11c2 : Code := { maxStack := 3, maxLocals := 3, code := jdk_43_method_13_code, exceptionTable := #[], attributes := #[] }
def k11m2 : Method := { name := "equals", desc := "([B[B)Z", sig := { parameters := [(.array .byte), (.array .byte)], returnType := some .boolean }, accessFlags := 9, code := some k11c2 }
/-- java/lang/StringLatin1 -/
def k11 : Class := { plain "java/lang/StringLatin1" (some 0) with
  accessFlags := 48
  interfaces := #[]
  cf := some (fileOf pool11 14 #[.nestMembers #[390, 221]] #[{ accessFlags := 0, nameIndex := 7, descriptorIndex := 8, attributes := #[] }, { accessFlags := 9, nameIndex := 252, descriptorIndex := 53, attributes := #[] }, { accessFlags := 9, nameIndex := 281, descriptorIndex := 282, attributes := #[] }] 48 4 #[] #[{ accessFlags := 4120, nameIndex := 121, descriptorIndex := 122, attributes := #[] }])
  fields := #[{ name := "$assertionsDisabled", type := .boolean, accessFlags := 4120, slot := 0, constantValue := 0 }]
  methods := #[k11m0, k11m1, k11m2]
  instanceTypes := #[]
  staticTypes := #[.boolean]
  resolved := Array.replicate 395 none
  statics := none }

def pool12 : Array CpInfo := pool [(2, .class_ 4), (1, u "java/lang/Object"), (0, u "<init>"), (0, u "()V"), (17, .class_ 26), (1, u "jdk/internal/util/Preconditions"), (6, u "checkIndex"), (21, .class_ 56), (0, u "jdk/internal/util/Preconditions$4"), (57, .class_ 115), (0, u "jdk/internal/util/Preconditions$1"), (7, u "SIOOBE_FORMATTER"), (0, u "Ljava/util/function/BiFunction;"), (0, .class_ 126), (0, u "jdk/internal/util/Preconditions$2"), (3, u "AIOOBE_FORMATTER"), (0, .class_ 132), (0, u "jdk/internal/util/Preconditions$3"), (3, u "IOOBE_FORMATTER"), (41, u "(IILjava/util/function/BiFunction;)I")] 15

def k12m0 : Method := { name := "<init>", desc := "()V", sig := { parameters := [], returnType := none }, accessFlags := 1, code := none }
def k12c1 : Code := { maxStack := 3, maxLocals := 3, code := jdk_41_method_11_code, exceptionTable := #[], attributes := #[] }
def k12m1 : Method := { name := "checkIndex", desc := "(IILjava/util/function/BiFunction;)I", sig := { parameters := [.int, .int, (.object "java/util/function/BiFunction")], returnType := some .int }, accessFlags := 9, code := some k12c1 }
/-- jdk/internal/util/Preconditions -/
def k12 : Class := { plain "jdk/internal/util/Preconditions" (some 0) with
  accessFlags := 33
  interfaces := #[]
  cf := some (fileOf pool12 24 #[.nestMembers #[55, 131, 125, 114]] #[{ accessFlags := 1, nameIndex := 5, descriptorIndex := 6, attributes := #[] }, { accessFlags := 9, nameIndex := 33, descriptorIndex := 178, attributes := #[] }] 33 2 #[] #[{ accessFlags := 25, nameIndex := 123, descriptorIndex := 124, attributes := #[] }, { accessFlags := 25, nameIndex := 130, descriptorIndex := 124, attributes := #[] }, { accessFlags := 25, nameIndex := 136, descriptorIndex := 124, attributes := #[] }])
  fields := #[{ name := "SIOOBE_FORMATTER", type := (.object "java/util/function/BiFunction"), accessFlags := 25, slot := 0, constantValue := 0 }, { name := "AIOOBE_FORMATTER", type := (.object "java/util/function/BiFunction"), accessFlags := 25, slot := 1, constantValue := 0 }, { name := "IOOBE_FORMATTER", type := (.object "java/util/function/BiFunction"), accessFlags := 25, slot := 2, constantValue := 0 }]
  methods := #[k12m0, k12m1]
  instanceTypes := #[]
  staticTypes := #[(.object "java/util/function/BiFunction"), (.object "java/util/function/BiFunction"), (.object "java/util/function/BiFunction")]
  resolved := Array.replicate 194 none
  statics := some 1 }

def pool13 : Array CpInfo := pool [(9, u "<init>"), (6, .class_ 18), (1, u "java/lang/Object"), (0, u "()V"), (1, .class_ 23), (1, u "jdk/internal/util/ArraysSupport"), (0, u "LOG2_ARRAY_LONG_INDEX_SCALE"), (0, u "I"), (2, u "U"), (0, u "Ljdk/internal/misc/Unsafe;"), (8, u "BIG_ENDIAN"), (0, u "Z"), (8, u "LOG2_BYTE_BIT_SIZE"), (4, u "LOG2_ARRAY_INT_INDEX_SCALE"), (54, u "JLA"), (0, u "Ljdk/internal/access/JavaLangAccess;"), (11, u "LOG2_ARRAY_BOOLEAN_INDEX_SCALE"), (9, u "LOG2_ARRAY_BYTE_INDEX_SCALE"), (5, u "LOG2_ARRAY_CHAR_INDEX_SCALE"), (5, u "LOG2_ARRAY_SHORT_INDEX_SCALE"), (18, u "LOG2_ARRAY_FLOAT_INDEX_SCALE"), (24, u "LOG2_ARRAY_DOUBLE_INDEX_SCALE"), (89, u "T_BOOLEAN"), (2, u "T_CHAR"), (1, u "T_FLOAT"), (1, u "T_DOUBLE"), (1, u "T_BYTE"), (1, u "T_SHORT"), (1, u "T_INT"), (1, u "T_LONG"), (1, u "SOFT_MAX_ARRAY_LENGTH")] 83

def k13m0 : Method := { name := "<init>", desc := "()V", sig := { parameters := [], returnType := none }, accessFlags := 2, code := none }
/-- jdk/internal/util/ArraysSupport -/
def k13 : Class := { plain "jdk/internal/util/ArraysSupport" (some 0) with
  accessFlags := 33
  interfaces := #[]
  cf := some (fileOf pool13 21 #[] #[{ accessFlags := 2, nameIndex := 9, descriptorIndex := 19, attributes := #[] }] 33 16 #[] #[{ accessFlags := 24, nameIndex := 28, descriptorIndex := 29, attributes := #[] }, { accessFlags := 26, nameIndex := 38, descriptorIndex := 39, attributes := #[] }, { accessFlags := 25, nameIndex := 121, descriptorIndex := 25, attributes := #[] }, { accessFlags := 25, nameIndex := 131, descriptorIndex := 25, attributes := #[] }, { accessFlags := 25, nameIndex := 137, descriptorIndex := 25, attributes := #[] }, { accessFlags := 25, nameIndex := 143, descriptorIndex := 25, attributes := #[] }, { accessFlags := 25, nameIndex := 53, descriptorIndex := 25, attributes := #[] }, { accessFlags := 25, nameIndex := 24, descriptorIndex := 25, attributes := #[] }, { accessFlags := 25, nameIndex := 162, descriptorIndex := 25, attributes := #[] }, { accessFlags := 25, nameIndex := 187, descriptorIndex := 25, attributes := #[] }, { accessFlags := 26, nameIndex := 48, descriptorIndex := 25, attributes := #[] }, { accessFlags := 25, nameIndex := 277, descriptorIndex := 25, attributes := #[] }, { accessFlags := 25, nameIndex := 280, descriptorIndex := 25, attributes := #[] }, { accessFlags := 25, nameIndex := 282, descriptorIndex := 25, attributes := #[] }, { accessFlags := 25, nameIndex := 284, descriptorIndex := 25, attributes := #[] }, { accessFlags := 25, nameIndex := 286, descriptorIndex := 25, attributes := #[] }, { accessFlags := 25, nameIndex := 288, descriptorIndex := 25, attributes := #[] }, { accessFlags := 25, nameIndex := 290, descriptorIndex := 25, attributes := #[] }, { accessFlags := 25, nameIndex := 292, descriptorIndex := 25, attributes := #[] }, { accessFlags := 26, nameIndex := 108, descriptorIndex := 109, attributes := #[] }, { accessFlags := 25, nameIndex := 294, descriptorIndex := 25, attributes := #[] }])
  fields := #[{ name := "U", type := (.object "jdk/internal/misc/Unsafe"), accessFlags := 24, slot := 0, constantValue := 0 }, { name := "BIG_ENDIAN", type := .boolean, accessFlags := 26, slot := 1, constantValue := 0 }, { name := "LOG2_ARRAY_BOOLEAN_INDEX_SCALE", type := .int, accessFlags := 25, slot := 2, constantValue := 0 }, { name := "LOG2_ARRAY_BYTE_INDEX_SCALE", type := .int, accessFlags := 25, slot := 3, constantValue := 0 }, { name := "LOG2_ARRAY_CHAR_INDEX_SCALE", type := .int, accessFlags := 25, slot := 4, constantValue := 0 }, { name := "LOG2_ARRAY_SHORT_INDEX_SCALE", type := .int, accessFlags := 25, slot := 5, constantValue := 0 }, { name := "LOG2_ARRAY_INT_INDEX_SCALE", type := .int, accessFlags := 25, slot := 6, constantValue := 0 }, { name := "LOG2_ARRAY_LONG_INDEX_SCALE", type := .int, accessFlags := 25, slot := 7, constantValue := 0 }, { name := "LOG2_ARRAY_FLOAT_INDEX_SCALE", type := .int, accessFlags := 25, slot := 8, constantValue := 0 }, { name := "LOG2_ARRAY_DOUBLE_INDEX_SCALE", type := .int, accessFlags := 25, slot := 9, constantValue := 0 }, { name := "LOG2_BYTE_BIT_SIZE", type := .int, accessFlags := 26, slot := 10, constantValue := 0 }, { name := "T_BOOLEAN", type := .int, accessFlags := 25, slot := 11, constantValue := 0 }, { name := "T_CHAR", type := .int, accessFlags := 25, slot := 12, constantValue := 0 }, { name := "T_FLOAT", type := .int, accessFlags := 25, slot := 13, constantValue := 0 }, { name := "T_DOUBLE", type := .int, accessFlags := 25, slot := 14, constantValue := 0 }, { name := "T_BYTE", type := .int, accessFlags := 25, slot := 15, constantValue := 0 }, { name := "T_SHORT", type := .int, accessFlags := 25, slot := 16, constantValue := 0 }, { name := "T_INT", type := .int, accessFlags := 25, slot := 17, constantValue := 0 }, { name := "T_LONG", type := .int, accessFlags := 25, slot := 18, constantValue := 0 }, { name := "JLA", type := (.object "jdk/internal/access/JavaLangAccess"), accessFlags := 26, slot := 19, constantValue := 0 }, { name := "SOFT_MAX_ARRAY_LENGTH", type := .int, accessFlags := 25, slot := 20, constantValue := 0 }]
  methods := #[k13m0]
  instanceTypes := #[]
  staticTypes := #[(.object "jdk/internal/misc/Unsafe"), .boolean, .int, .int, .int, .int, .int, .int, .int, .int, .int, .int, .int, .int, .int, .int, .int, .int, .int, (.object "jdk/internal/access/JavaLangAccess"), .int]
  resolved := Array.replicate 378 none
  statics := none }

def pool14 : Array CpInfo := pool [(1, u "java/lang/Cloneable"), (0, .class_ 1), (0, u "java/lang/Object"), (0, .class_ 3)] 3

/-- java/lang/Cloneable -/
def k14 : Class := { plain "java/lang/Cloneable" (some 0) with
  accessFlags := 1537
  interfaces := #[]
  cf := some (fileOf pool14 2 #[] #[] 1537 4 #[] #[])
  fields := #[]
  methods := #[]
  instanceTypes := #[]
  staticTypes := #[]
  resolved := Array.replicate 8 none
  statics := none }

/-- the primitive byte -/
def k15 : Class := { plain "byte" none with kind := .primitive 'B', accessFlags := 0x411 }
/-- [B -/
def k16 : Class := { plain "[B" (some 0) with kind := .array 15 .byte, interfaces := #[14, 2], accessFlags := 1041 }

/-- the primitive char -/
def k17 : Class := { plain "char" none with kind := .primitive 'C', accessFlags := 0x411 }
/-- [C -/
def k18 : Class := { plain "[C" (some 0) with kind := .array 17 .char, interfaces := #[14, 2], accessFlags := 1041 }

/-- the primitive int -/
def k19 : Class := { plain "int" none with kind := .primitive 'I', accessFlags := 0x411 }
/-- [I -/
def k20 : Class := { plain "[I" (some 0) with kind := .array 19 .int, interfaces := #[14, 2], accessFlags := 1041 }

def heap : Heap := #[{ cls := 7, slots := #[.long 0, .int 1, .null, .int 0, .null, .int 0, .int 0], vm := .statics 7 },
  { cls := 12, slots := #[.null, .null, .null], vm := .statics 12 }]
def classes : Array Class := #[k0, k1, k2, k3, k4, k5, k6, k7, k8, k9, k10, k11, k12, k13, k14, k15, k16, k17, k18, k19, k20]
def interned : List (Array UInt16 × Addr) := []
def slotsUsed : Nat := 10
def theMethod : MethodId := ⟨1, 4⟩
def args0 : Array Value := #[.int 5, .int 7, .int 3]
def aboutOver (below : List Frame) : State where
  vm := { classes := classes, interned := interned.toArray }
  heap := heap
  slotsUsed := slotsUsed
  threads := #[{ frames := .invoking theMethod args0 :: below }]
def below0 : List Frame := [.native { method := ⟨0, 0⟩, args := #[] }]
def about1 : State := aboutOver below0
def p0 : Program := .bare "" "" ""
def e0 : Env := launch0.env 0 0 0
theorem w_frames : about1.frames = Frame.invoking theMethod args0 :: below0 := rfl
set_option maxRecDepth 65536 in
theorem w_args : argsFit about1.vm theMethod args0 = true := by decide +kernel
set_option maxRecDepth 65536 in
theorem w_heap : heapFits about1 = true := by decide +kernel
set_option maxRecDepth 65536 in
theorem w_runnable : about1.curStatus? = some .runnable := by decide +kernel
set_option maxRecDepth 65536 in
theorem w_alone : about1.alone = true := by decide +kernel
set_option maxRecDepth 65536 in
theorem w_named : about1.methodNamed? x = some theMethod := by decide +kernel
set_option maxRecDepth 65536 in
theorem w_hears : about1.hears theMethod below0 = true := by decide +kernel
set_option maxRecDepth 65536 in
theorem w_ripe : about1.ripe theMethod args0 below0 = true := by decide +kernel
theorem w_running : about1.status = .running := rfl
set_option maxRecDepth 65536 in
theorem w_room : about1.hasRoom e0.platform room_1 = true :=
  launch0.hasRoom_least _ room_1 (by decide +kernel) (by decide +kernel) (by decide +kernel) (by decide +kernel) (by decide +kernel) (by decide +kernel)
theorem allAtoms_all (ts : List Jvm.Cond) (a : Array Jvm.Value) (st : Jvm.State) : (allAtoms ts).before a st = ts.all (fun c => c.before a st) := by
  induction ts with
  | nil => rfl
  | cons c t ih =>
    show (Jvm.Cond.and c (allAtoms t)).before a st = _
    rw [Jvm.Cond.before_and, ih, List.all_cons]
def words1 : List Jvm.Cond := Jvm.Cond.code x code maxLocals ret :: tables_1
/-- a 'code' word, met by the world's own term for the bytes: nothing is compared byte by byte -/
theorem code_word {y : MethodName} {bytes : ByteArray} {mx : Nat} {rt : Option FieldType} {a : Array Value} {s : State} {m : MethodId} {meth : Method} {c : Code} (h1 : s.methodNamed? y = some m) (h2 : s.vm.method? m = some meth) (h3 : meth.code = some c) (h4 : c.code = bytes)
    (h5 : (c.maxLocals == mx && c.exceptionTable.isEmpty && decide (c.maxStack ≤ mostOperands) && decide (meth.sig.returnType = rt) && !meth.locks && decide (parseMethodDescriptor y.desc = some meth.sig)) = true) : (Jvm.Cond.code y bytes mx rt).before a s = true := by
  simp only [Bool.and_eq_true, beq_iff_eq, Bool.not_eq_true', decide_eq_true_eq] at h5
  obtain ⟨⟨⟨⟨⟨g1, g2⟩, g3⟩, g4⟩, g5⟩, g6⟩ := h5
  simp [Cond.before, Cond.holds, Cond.value, h1, h2, h3, h4, g1, g2, g3, g4, g5, g6]
def isCode : Jvm.Cond → Bool
  | .code _ _ _ _ => true
  | _ => false
theorem all_split {L : List Jvm.Cond} {P : Jvm.Cond → Bool} (h1 : L.all (fun c => isCode c || P c) = true) (h2 : ∀ c ∈ L.filter isCode, P c = true) : L.all P = true := by
  refine List.all_eq_true.mpr fun c hc => ?_
  have h := List.all_eq_true.mp h1 c hc
  rcases Bool.eq_false_or_eq_true (isCode c) with hi | hi
  · exact h2 c (List.mem_filter.mpr ⟨hc, hi⟩)
  · simpa [hi] using h
set_option maxRecDepth 65536 in
theorem w_c0 : (Jvm.Cond.code x code maxLocals ret).before args0 about1 = true := code_word (m := ⟨1, 4⟩) (meth := k1m4) (c := k1c4) (by decide +kernel) rfl rfl rfl (by decide +kernel)
set_option maxRecDepth 65536 in
theorem w_c1 : (Jvm.Cond.code ({ cls := "com/example/kustody/kustody/DatasetNameEqualsPinLaw", name := "lead", desc := "(I)C" } : Jvm.MethodName) method_2_code (2 : Nat) (Option.some Jvm.ClassFile.FieldType.char)).before args0 about1 = true := code_word (m := ⟨1, 1⟩) (meth := k1m1) (c := k1c1) (by decide +kernel) rfl rfl rfl (by decide +kernel)
set_option maxRecDepth 65536 in
theorem w_c2 : (Jvm.Cond.code ({ cls := "com/example/kustody/kustody/DatasetNameEqualsPinLaw", name := "any", desc := "(I)C" } : Jvm.MethodName) method_3_code (2 : Nat) (Option.some Jvm.ClassFile.FieldType.char)).before args0 about1 = true := code_word (m := ⟨1, 2⟩) (meth := k1m2) (c := k1c2) (by decide +kernel) rfl rfl rfl (by decide +kernel)
set_option maxRecDepth 65536 in
theorem w_c3 : (Jvm.Cond.code ({ cls := "com/example/kustody/kustody/DatasetNameEqualsPinLaw", name := "text", desc := "(ICCCC)Ljava/lang/String;" } : Jvm.MethodName) method_4_code (5 : Nat) (Option.some (Jvm.ClassFile.FieldType.object "java/lang/String"))).before args0 about1 = true := code_word (m := ⟨1, 3⟩) (meth := k1m3) (c := k1c3) (by decide +kernel) rfl rfl rfl (by decide +kernel)
set_option maxRecDepth 65536 in
theorem w_c4 : (Jvm.Cond.code ({ cls := "java/lang/String", name := "<init>", desc := "([C)V" } : Jvm.MethodName) jdk_42_method_3_code (2 : Nat) (Option.none : Option Jvm.ClassFile.FieldType)).before args0 about1 = true := code_word (m := ⟨7, 1⟩) (meth := k7m1) (c := k7c1) (by decide +kernel) rfl rfl rfl (by decide +kernel)
set_option maxRecDepth 65536 in
theorem w_c5 : (Jvm.Cond.code ({ cls := "java/lang/String", name := "<init>", desc := "([CIILjava/lang/Void;)V" } : Jvm.MethodName) jdk_42_method_149_code (6 : Nat) (Option.none : Option Jvm.ClassFile.FieldType)).before args0 about1 = true := code_word (m := ⟨7, 6⟩) (meth := k7m6) (c := k7c6) (by decide +kernel) rfl rfl rfl (by decide +kernel)
set_option maxRecDepth 65536 in
theorem w_c6 : (Jvm.Cond.code ({ cls := "java/lang/Object", name := "<init>", desc := "()V" } : Jvm.MethodName) object_method_1_code (1 : Nat) (Option.none : Option Jvm.ClassFile.FieldType)).before args0 about1 = true := code_word (m := ⟨0, 0⟩) (meth := k0m0) (c := k0c0) (by decide +kernel) rfl rfl rfl (by decide +kernel)
set_option maxRecDepth 65536 in
theorem w_c7 : (Jvm.Cond.code ({ cls := "java/lang/StringUTF16", name := "compress", desc := "([CII)[B" } : Jvm.MethodName) jdk_52_method_16_code (6 : Nat) (Option.some (Jvm.ClassFile.FieldType.array Jvm.ClassFile.FieldType.byte))).before args0 about1 = true := code_word (m := ⟨8, 2⟩) (meth := k8m2) (c := k8c2) (by decide +kernel) rfl rfl rfl (by decide +kernel)
set_option maxRecDepth 65536 in
theorem w_c8 : (Jvm.Cond.code ({ cls := "java/lang/StringUTF16", name := "compress", desc := "([CI[BII)I" } : Jvm.MethodName) jdk_52_method_21_code (7 : Nat) (Option.some Jvm.ClassFile.FieldType.int)).before args0 about1 = true := code_word (m := ⟨8, 3⟩) (meth := k8m3) (c := k8c3) (by decide +kernel) rfl rfl rfl (by decide +kernel)
set_option maxRecDepth 65536 in
theorem w_c9 : (Jvm.Cond.code ({ cls := "java/lang/StringUTF16", name := "coderFromArrayLen", desc := "([BI)B" } : Jvm.MethodName) jdk_52_method_15_code (2 : Nat) (Option.some Jvm.ClassFile.FieldType.byte)).before args0 about1 = true := code_word (m := ⟨8, 1⟩) (meth := k8m1) (c := k8c1) (by decide +kernel) rfl rfl rfl (by decide +kernel)
set_option maxRecDepth 65536 in
theorem w_c10 : (Jvm.Cond.code ({ cls := "com/example/kustody/kustody/DatasetName", name := "<init>", desc := "(Ljava/lang/String;)V" } : Jvm.MethodName) prog_2_method_1_code (5 : Nat) (Option.none : Option Jvm.ClassFile.FieldType)).before args0 about1 = true := code_word (m := ⟨9, 0⟩) (meth := k9m0) (c := k9c0) (by decide +kernel) rfl rfl rfl (by decide +kernel)
set_option maxRecDepth 65536 in
theorem w_c11 : (Jvm.Cond.code ({ cls := "java/util/Objects", name := "requireNonNull", desc := "(Ljava/lang/Object;Ljava/lang/String;)Ljava/lang/Object;" } : Jvm.MethodName) jdk_31_method_11_code (2 : Nat) (Option.some (Jvm.ClassFile.FieldType.object "java/lang/Object"))).before args0 about1 = true := code_word (m := ⟨10, 1⟩) (meth := k10m1) (c := k10c1) (by decide +kernel) rfl rfl rfl (by decide +kernel)
set_option maxRecDepth 65536 in
theorem w_c12 : (Jvm.Cond.code ({ cls := "java/lang/String", name := "isEmpty", desc := "()Z" } : Jvm.MethodName) jdk_42_method_55_code (1 : Nat) (Option.some Jvm.ClassFile.FieldType.boolean)).before args0 about1 = true := code_word (m := ⟨7, 3⟩) (meth := k7m3) (c := k7c3) (by decide +kernel) rfl rfl rfl (by decide +kernel)
set_option maxRecDepth 65536 in
theorem w_c13 : (Jvm.Cond.code ({ cls := "java/lang/String", name := "length", desc := "()I" } : Jvm.MethodName) jdk_42_method_54_code (1 : Nat) (Option.some Jvm.ClassFile.FieldType.int)).before args0 about1 = true := code_word (m := ⟨7, 2⟩) (meth := k7m2) (c := k7c2) (by decide +kernel) rfl rfl rfl (by decide +kernel)
set_option maxRecDepth 65536 in
theorem w_c14 : (Jvm.Cond.code ({ cls := "java/lang/String", name := "coder", desc := "()B" } : Jvm.MethodName) jdk_42_method_152_code (1 : Nat) (Option.some Jvm.ClassFile.FieldType.byte)).before args0 about1 = true := code_word (m := ⟨7, 7⟩) (meth := k7m7) (c := k7c7) (by decide +kernel) rfl rfl rfl (by decide +kernel)
set_option maxRecDepth 65536 in
theorem w_c15 : (Jvm.Cond.code ({ cls := "java/lang/String", name := "charAt", desc := "(I)C" } : Jvm.MethodName) jdk_42_method_56_code (2 : Nat) (Option.some Jvm.ClassFile.FieldType.char)).before args0 about1 = true := code_word (m := ⟨7, 4⟩) (meth := k7m4) (c := k7c4) (by decide +kernel) rfl rfl rfl (by decide +kernel)
set_option maxRecDepth 65536 in
theorem w_c16 : (Jvm.Cond.code ({ cls := "java/lang/String", name := "isLatin1", desc := "()Z" } : Jvm.MethodName) jdk_42_method_154_code (1 : Nat) (Option.some Jvm.ClassFile.FieldType.boolean)).before args0 about1 = true := code_word (m := ⟨7, 8⟩) (meth := k7m8) (c := k7c8) (by decide +kernel) rfl rfl rfl (by decide +kernel)
set_option maxRecDepth 65536 in
theorem w_c17 : (Jvm.Cond.code ({ cls := "java/lang/StringLatin1", name := "charAt", desc := "([BI)C" } : Jvm.MethodName) jdk_43_method_2_code (2 : Nat) (Option.some Jvm.ClassFile.FieldType.char)).before args0 about1 = true := code_word (m := ⟨11, 1⟩) (meth := k11m1) (c := k11c1) (by decide +kernel) rfl rfl rfl (by decide +kernel)
set_option maxRecDepth 65536 in
theorem w_c18 : (Jvm.Cond.code ({ cls := "java/lang/String", name := "checkIndex", desc := "(II)V" } : Jvm.MethodName) jdk_42_method_155_code (2 : Nat) (Option.none : Option Jvm.ClassFile.FieldType)).before args0 about1 = true := code_word (m := ⟨7, 9⟩) (meth := k7m9) (c := k7c9) (by decide +kernel) rfl rfl rfl (by decide +kernel)
set_option maxRecDepth 65536 in
theorem w_c19 : (Jvm.Cond.code ({ cls := "jdk/internal/util/Preconditions", name := "checkIndex", desc := "(IILjava/util/function/BiFunction;)I" } : Jvm.MethodName) jdk_41_method_11_code (3 : Nat) (Option.some Jvm.ClassFile.FieldType.int)).before args0 about1 = true := code_word (m := ⟨12, 1⟩) (meth := k12m1) (c := k12c1) (by decide +kernel) rfl rfl rfl (by decide +kernel)
set_option maxRecDepth 65536 in
theorem w_c20 : (Jvm.Cond.code ({ cls := "com/example/kustody/kustody/DatasetName", name := "isLetterOrDigit", desc := "(I)Z" } : Jvm.MethodName) prog_2_method_2_code (1 : Nat) (Option.some Jvm.ClassFile.FieldType.boolean)).before args0 about1 = true := code_word (m := ⟨9, 1⟩) (meth := k9m1) (c := k9c1) (by decide +kernel) rfl rfl rfl (by decide +kernel)
set_option maxRecDepth 65536 in
theorem w_c21 : (Jvm.Cond.code ({ cls := "com/example/kustody/kustody/DatasetName", name := "equals", desc := "(Ljava/lang/Object;)Z" } : Jvm.MethodName) prog_2_method_4_code (3 : Nat) (Option.some Jvm.ClassFile.FieldType.boolean)).before args0 about1 = true := code_word (m := ⟨9, 2⟩) (meth := k9m2) (c := k9c2) (by decide +kernel) rfl rfl rfl (by decide +kernel)
set_option maxRecDepth 65536 in
theorem w_c22 : (Jvm.Cond.code ({ cls := "java/lang/String", name := "equals", desc := "(Ljava/lang/Object;)Z" } : Jvm.MethodName) jdk_42_method_66_code (3 : Nat) (Option.some Jvm.ClassFile.FieldType.boolean)).before args0 about1 = true := code_word (m := ⟨7, 5⟩) (meth := k7m5) (c := k7c5) (by decide +kernel) rfl rfl rfl (by decide +kernel)
set_option maxRecDepth 65536 in
theorem w_c23 : (Jvm.Cond.code ({ cls := "java/lang/StringLatin1", name := "equals", desc := "([B[B)Z" } : Jvm.MethodName) jdk_43_method_13_code (3 : Nat) (Option.some Jvm.ClassFile.FieldType.boolean)).before args0 about1 = true := code_word (m := ⟨11, 2⟩) (meth := k11m2) (c := k11c2) (by decide +kernel) rfl rfl rfl (by decide +kernel)
def codes1 : List Jvm.Cond := [Jvm.Cond.code x code maxLocals ret, Jvm.Cond.code ({ cls := "com/example/kustody/kustody/DatasetNameEqualsPinLaw", name := "lead", desc := "(I)C" } : Jvm.MethodName) method_2_code (2 : Nat) (Option.some Jvm.ClassFile.FieldType.char), Jvm.Cond.code ({ cls := "com/example/kustody/kustody/DatasetNameEqualsPinLaw", name := "any", desc := "(I)C" } : Jvm.MethodName) method_3_code (2 : Nat) (Option.some Jvm.ClassFile.FieldType.char), Jvm.Cond.code ({ cls := "com/example/kustody/kustody/DatasetNameEqualsPinLaw", name := "text", desc := "(ICCCC)Ljava/lang/String;" } : Jvm.MethodName) method_4_code (5 : Nat) (Option.some (Jvm.ClassFile.FieldType.object "java/lang/String")), Jvm.Cond.code ({ cls := "java/lang/String", name := "<init>", desc := "([C)V" } : Jvm.MethodName) jdk_42_method_3_code (2 : Nat) (Option.none : Option Jvm.ClassFile.FieldType), Jvm.Cond.code ({ cls := "java/lang/String", name := "<init>", desc := "([CIILjava/lang/Void;)V" } : Jvm.MethodName) jdk_42_method_149_code (6 : Nat) (Option.none : Option Jvm.ClassFile.FieldType), Jvm.Cond.code ({ cls := "java/lang/Object", name := "<init>", desc := "()V" } : Jvm.MethodName) object_method_1_code (1 : Nat) (Option.none : Option Jvm.ClassFile.FieldType), Jvm.Cond.code ({ cls := "java/lang/StringUTF16", name := "compress", desc := "([CII)[B" } : Jvm.MethodName) jdk_52_method_16_code (6 : Nat) (Option.some (Jvm.ClassFile.FieldType.array Jvm.ClassFile.FieldType.byte)), Jvm.Cond.code ({ cls := "java/lang/StringUTF16", name := "compress", desc := "([CI[BII)I" } : Jvm.MethodName) jdk_52_method_21_code (7 : Nat) (Option.some Jvm.ClassFile.FieldType.int), Jvm.Cond.code ({ cls := "java/lang/StringUTF16", name := "coderFromArrayLen", desc := "([BI)B" } : Jvm.MethodName) jdk_52_method_15_code (2 : Nat) (Option.some Jvm.ClassFile.FieldType.byte), Jvm.Cond.code ({ cls := "com/example/kustody/kustody/DatasetName", name := "<init>", desc := "(Ljava/lang/String;)V" } : Jvm.MethodName) prog_2_method_1_code (5 : Nat) (Option.none : Option Jvm.ClassFile.FieldType), Jvm.Cond.code ({ cls := "java/util/Objects", name := "requireNonNull", desc := "(Ljava/lang/Object;Ljava/lang/String;)Ljava/lang/Object;" } : Jvm.MethodName) jdk_31_method_11_code (2 : Nat) (Option.some (Jvm.ClassFile.FieldType.object "java/lang/Object")), Jvm.Cond.code ({ cls := "java/lang/String", name := "isEmpty", desc := "()Z" } : Jvm.MethodName) jdk_42_method_55_code (1 : Nat) (Option.some Jvm.ClassFile.FieldType.boolean), Jvm.Cond.code ({ cls := "java/lang/String", name := "length", desc := "()I" } : Jvm.MethodName) jdk_42_method_54_code (1 : Nat) (Option.some Jvm.ClassFile.FieldType.int), Jvm.Cond.code ({ cls := "java/lang/String", name := "coder", desc := "()B" } : Jvm.MethodName) jdk_42_method_152_code (1 : Nat) (Option.some Jvm.ClassFile.FieldType.byte), Jvm.Cond.code ({ cls := "java/lang/String", name := "charAt", desc := "(I)C" } : Jvm.MethodName) jdk_42_method_56_code (2 : Nat) (Option.some Jvm.ClassFile.FieldType.char), Jvm.Cond.code ({ cls := "java/lang/String", name := "isLatin1", desc := "()Z" } : Jvm.MethodName) jdk_42_method_154_code (1 : Nat) (Option.some Jvm.ClassFile.FieldType.boolean), Jvm.Cond.code ({ cls := "java/lang/StringLatin1", name := "charAt", desc := "([BI)C" } : Jvm.MethodName) jdk_43_method_2_code (2 : Nat) (Option.some Jvm.ClassFile.FieldType.char), Jvm.Cond.code ({ cls := "java/lang/String", name := "checkIndex", desc := "(II)V" } : Jvm.MethodName) jdk_42_method_155_code (2 : Nat) (Option.none : Option Jvm.ClassFile.FieldType), Jvm.Cond.code ({ cls := "jdk/internal/util/Preconditions", name := "checkIndex", desc := "(IILjava/util/function/BiFunction;)I" } : Jvm.MethodName) jdk_41_method_11_code (3 : Nat) (Option.some Jvm.ClassFile.FieldType.int), Jvm.Cond.code ({ cls := "com/example/kustody/kustody/DatasetName", name := "isLetterOrDigit", desc := "(I)Z" } : Jvm.MethodName) prog_2_method_2_code (1 : Nat) (Option.some Jvm.ClassFile.FieldType.boolean), Jvm.Cond.code ({ cls := "com/example/kustody/kustody/DatasetName", name := "equals", desc := "(Ljava/lang/Object;)Z" } : Jvm.MethodName) prog_2_method_4_code (3 : Nat) (Option.some Jvm.ClassFile.FieldType.boolean), Jvm.Cond.code ({ cls := "java/lang/String", name := "equals", desc := "(Ljava/lang/Object;)Z" } : Jvm.MethodName) jdk_42_method_66_code (3 : Nat) (Option.some Jvm.ClassFile.FieldType.boolean), Jvm.Cond.code ({ cls := "java/lang/StringLatin1", name := "equals", desc := "([B[B)Z" } : Jvm.MethodName) jdk_43_method_13_code (3 : Nat) (Option.some Jvm.ClassFile.FieldType.boolean)]
set_option maxRecDepth 65536 in
theorem codes_eq : words1.filter isCode = codes1 := rfl
theorem w_codes : ∀ c ∈ words1.filter isCode, c.before args0 about1 = true := by
  rw [codes_eq]
  intro c hc
  simp only [codes1, List.mem_cons, List.not_mem_nil, or_false] at hc
  rcases hc with rfl | rfl | rfl | rfl | rfl | rfl | rfl | rfl | rfl | rfl | rfl | rfl | rfl | rfl | rfl | rfl | rfl | rfl | rfl | rfl | rfl | rfl | rfl | rfl
  · exact w_c0
  · exact w_c1
  · exact w_c2
  · exact w_c3
  · exact w_c4
  · exact w_c5
  · exact w_c6
  · exact w_c7
  · exact w_c8
  · exact w_c9
  · exact w_c10
  · exact w_c11
  · exact w_c12
  · exact w_c13
  · exact w_c14
  · exact w_c15
  · exact w_c16
  · exact w_c17
  · exact w_c18
  · exact w_c19
  · exact w_c20
  · exact w_c21
  · exact w_c22
  · exact w_c23
set_option maxRecDepth 65536 in
theorem w_t1 : (words1.take 24).all (fun c => isCode c || c.before args0 about1) = true := by decide +kernel
set_option maxRecDepth 65536 in
theorem w_t2 : ((words1.drop 24).take 24).all (fun c => isCode c || c.before args0 about1) = true := by decide +kernel
set_option maxRecDepth 65536 in
theorem w_t3 : (((words1.drop 24).drop 24).take 24).all (fun c => isCode c || c.before args0 about1) = true := by decide +kernel
set_option maxRecDepth 65536 in
theorem w_t4 : ((((words1.drop 24).drop 24).drop 24).take 24).all (fun c => isCode c || c.before args0 about1) = true := by decide +kernel
set_option maxRecDepth 65536 in
theorem w_t5 : ((((words1.drop 24).drop 24).drop 24).drop 24).all (fun c => isCode c || c.before args0 about1) = true := by decide +kernel
theorem w_tables : (allAtoms (Jvm.Cond.code x code maxLocals ret :: tables_1)).before args0 about1 = true := by
  rw [allAtoms_all]
  show words1.all (fun c => c.before args0 about1) = true
  refine all_split ?_ w_codes
  rw [← List.take_append_drop 24 words1, List.all_append, w_t1, ← List.take_append_drop 24 (words1.drop 24), List.all_append, w_t2, ← List.take_append_drop 24 ((words1.drop 24).drop 24), List.all_append, w_t3, ← List.take_append_drop 24 (((words1.drop 24).drop 24).drop 24), List.all_append, w_t4, w_t5]
  rfl
set_option maxRecDepth 65536 in
theorem w_rest : rest_1_c.before args0 about1 = true := by decide +kernel
set_option maxRecDepth 65536 in
theorem w_case : (Jvm.Cond.and given_1 narrow_1).before args0 about1 = true := by decide +kernel
theorem w_applies : (headSpec (Jvm.Cond.code x code maxLocals ret :: tables_1) room_1).applies x e0.platform about1 = true :=
  (Spec.applies_iff w_frames).mpr ⟨w_running, w_runnable, w_alone, w_named, w_hears, w_ripe, w_room, w_tables⟩
theorem atStart : AtStart classFile x code maxLocals ret World_1 tables_1 room_1 Calls_1 rest_1 Pre_1 launch0 p0 e0 about1 theMethod args0 below0 :=
  ⟨lists_1, trivial, launch0.admits_env _ _ _, launch0.least_env, fairChoices_fair.cas, fairChoices_fair.clock, w_frames, w_args, w_heap, w_applies, trivial, w_rest, w_case⟩
end start1
theorem witness_1 : WitnessClaimed_1 := ⟨start1.p0, start1.e0, start1.about1, start1.theMethod, start1.args0, start1.below0, start1.atStart⟩
end Jvm.Pilot.@@N@@
