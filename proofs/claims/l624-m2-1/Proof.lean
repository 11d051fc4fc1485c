import JvmDerived
import JvmDerived.Pilot.@@N@@Statement
import JvmDerived.Pilot.@@N@@Code
set_option linter.unusedVariables false
set_option linter.unusedSimpArgs false
/- laws to paste: Road.backV, Road.lenW, Road.codOf, narrow_ch, lo8_mask (cut by pick.py; bodies as the Statement names them) -/
namespace Jvm.Pilot.@@N@@
namespace StrChars
open Jvm Sem ClassFile Op Lib Jvm.Stand Jvm.Free.XT Jvm.Free.ALB Jvm.Free.JM Jvm.Free
open Jvm.Lib.Cold (StaticIs)
/-- a char array whose places are chars -/
def Ch (a : Addr) (A : Cell) (U : State) : Prop := Arr .char a A U ∧ Typed .char A
theorem Ch.mv {a : Addr} {A : Cell} {U U' : State} (h : Ch a A U) (hal : U.vm.Alike U'.vm) (hh : U'.heap = U.heap) : Ch a A U' := ⟨h.1.mv hal hh, h.2⟩
theorem Ch.keep {a : Addr} {A : Cell} {U U' : State} (h : Ch a A U) (hal : U.vm.Alike U'.vm) (hk : U'.heap[a]? = some A) : Ch a A U' := ⟨h.1.keep hal hk, h.2⟩
/-- what place i of a char[]'s cell holds -/
def cv (A : Cell) (i : Nat) : Int32 := match A.slots[i]? with | some (.int x) => x | _ => 0
theorem Ch.get {a : Addr} {A : Cell} {U : State} (h : Ch a A U) {i : Nat} (hi : i < A.slots.size) : A.slots[i]? = some (.int (cv A i)) := by
  have e := Array.getElem?_eq_getElem hi
  have f := h.2 i _ e
  unfold cv; rw [e]
  generalize A.slots[i] = v at f
  cases v <;> simp [fits] at f ⊢
/-- the byte that i2b leaves of a char -/
def lo8 (x : Int32) : Int32 := x.toInt8.toInt32
theorem fits_lo8 (y : Int32) : fits .byte (.int (lo8 y)) = true := by
  have h1 := y.toInt8.le_toInt
  have h2 := y.toInt8.toInt_lt
  simp only [lo8, fits, Bool.and_eq_true, decide_eq_true_eq, Int32.le_iff_toInt_le, Int8.toInt_toInt32, show (-128 : Int32).toInt = -128 from by decide, show (127 : Int32).toInt = 127 from by decide]
  omega
/-- A' is A but that each place j of lo .. hi - 1 holds f j -/
def Laid (A A' : Cell) (lo hi : Nat) (f : Nat → Value) : Prop := A'.cls = A.cls ∧ A'.vm = A.vm ∧ A'.slots.size = A.slots.size ∧ ∀ i, A'.slots[i]? = if lo ≤ i ∧ i < hi then some (f i) else A.slots[i]?
theorem Laid.zero (A : Cell) (lo : Nat) (f : Nat → Value) : Laid A A lo (lo + 0) f := ⟨rfl, rfl, rfl, fun i => by rw [if_neg (by omega)]⟩
theorem Laid.step {A Ak : Cell} {lo k : Nat} {f : Nat → Value} {v : Value} (h : Laid A Ak lo k f) (hlo : lo ≤ k) (hk : k < Ak.slots.size) (hv : v = f k) : Laid A (Ak.setSlot k v) lo (k + 1) f := by
  refine ⟨h.1, h.2.1, by simpa [Cell.setSlot] using h.2.2.1, fun i => ?_⟩
  by_cases e : k = i
  · subst e; rw [Cell.slots_setSlot_self v hk, if_pos (by omega), hv]
  · rw [Cell.slots_setSlot_ne v e, h.2.2.2 i]
    by_cases q : lo ≤ i ∧ i < k
    · rw [if_pos q, if_pos (by omega)]
    · rw [if_neg q, if_neg (by omega)]
def U16 : String := "java/lang/StringUTF16"
namespace Cmp5
def yN : MethodName := ⟨"java/lang/StringUTF16", "compress", "([CI[BII)I"⟩
abbrev yB : ByteArray := jdk_52_method_21_code
theorem d0 : decode yB 0 = .ok (.iconst 0, 1) := by decide +kernel
theorem d1 : decode yB 1 = .ok (.istore 5, 2) := by decide +kernel
theorem d3 : decode yB 3 = .ok (.iload 5, 2) := by decide +kernel
theorem d5 : decode yB 5 = .ok (.iload 4, 2) := by decide +kernel
theorem d7 : decode yB 7 = .ok (.if_icmp (.ge) 37, 3) := by decide +kernel
theorem d10 : decode yB 10 = .ok (.aload_n 0, 1) := by decide +kernel
theorem d11 : decode yB 11 = .ok (.iload_n 1, 1) := by decide +kernel
theorem d12 : decode yB 12 = .ok (.caload, 1) := by decide +kernel
theorem d13 : decode yB 13 = .ok (.istore 6, 2) := by decide +kernel
theorem d15 : decode yB 15 = .ok (.iload 6, 2) := by decide +kernel
theorem d17 : decode yB 17 = .ok (.sipush 255, 3) := by decide +kernel
theorem d20 : decode yB 20 = .ok (.if_icmp (.le) 6, 3) := by decide +kernel
theorem d26 : decode yB 26 = .ok (.aload_n 2, 1) := by decide +kernel
theorem d27 : decode yB 27 = .ok (.iload_n 3, 1) := by decide +kernel
theorem d28 : decode yB 28 = .ok (.iload 6, 2) := by decide +kernel
theorem d30 : decode yB 30 = .ok (.i2b, 1) := by decide +kernel
theorem d31 : decode yB 31 = .ok (.bastore, 1) := by decide +kernel
theorem d32 : decode yB 32 = .ok (.iinc 1 1, 3) := by decide +kernel
theorem d35 : decode yB 35 = .ok (.iinc 3 1, 3) := by decide +kernel
theorem d38 : decode yB 38 = .ok (.iinc 5 1, 3) := by decide +kernel
theorem d41 : decode yB 41 = .ok (.goto (-38), 3) := by decide +kernel
theorem d44 : decode yB 44 = .ok (.iload 4, 2) := by decide +kernel
theorem d46 : decode yB 46 = .ok (.ireturn, 1) := by decide +kernel
def site : List Cond := []
def tab : Cond := tabOf yN yB 7 (some .int) site
def P (b : Addr) (A : Cell) (d : Addr) (B : Cell) (o q len : Nat) (args : Array Value) (s : State) : Prop := args = #[.ref b, .int (Int32.ofNat o), .ref d, .int (Int32.ofNat q), .int (Int32.ofNat len)] ∧ Ch b A s ∧ Arr .byte d B s ∧ b ≠ d ∧ o + len ≤ A.slots.size ∧ q + len ≤ B.slots.size ∧ ∀ i, i < len → ¬ 255 < cv A (o + i)
def E (b : Addr) (A : Cell) (d : Addr) (B : Cell) (o q len : Nat) (r : Option Value) (s u : State) : Prop := r = some (.int (Int32.ofNat len)) ∧ ∃ B', Put d B' s u ∧ Laid B B' q (q + len) (fun j => Value.int (lo8 (cv A (o + (j - q)))))
/-- no char of the range above 255: len; the places written hold each char's low byte -/
theorem law (l : Launch) (b : Addr) (A : Cell) (d : Addr) (B : Cell) (o q len : Nat) : Law l yN 5 5 0 0 yB 7 (some .int) site (P b A d B o q len) (E b A d B o q len) (copyLocs d q len) 0 0 := by
  refine Law.of_walk (plainFor_of_name (by decide +kernel)) (by decide +kernel) (by decide +kernel) (by decide) (fun _ _ h => by rw [h.1]; rfl) (fun _ U U' hal hh h => ⟨h.1, h.2.1.mv hal hh, h.2.2.1.mv hal hh, h.2.2.2⟩) (fun r U U' V V' h1 hal h2 h => ⟨h.1, h.2.elim fun B' q => ⟨B', q.1.mv h1 h2, q.2⟩⟩) ?_
  intro p e s m args below meth c s₁ X0 hexec hbytes hml hret hlk hnm hown hh0 W hP
  obtain ⟨rfl, hA, hB, hne, l1, l2, hp⟩ := hP
  have c1 : Steps p.tables e below (s₁.setTop (entryFrame m #[.ref b, .int (Int32.ofNat o), .ref d, .int (Int32.ofNat q), .int (Int32.ofNat len)] 7)) (s₁.setTop (mkF m 0 #[.val (.ref b), .val (.int (Int32.ofNat o)), .val (.ref d), .val (.int (Int32.ofNat q)), .val (.int (Int32.ofNat len)), .unset, .unset] [])) := entry rfl
  have hA0 := hA.1.mv X0.warmed.alike hh0
  have hB0 := hB.mv X0.warmed.alike hh0
  have a31 := hA.1.2.2.2
  have c2 : Steps p.tables e below (s₁.setTop (entryFrame m #[.ref b, .int (Int32.ofNat o), .ref d, .int (Int32.ofNat q), .int (Int32.ofNat len)] 7)) (s₁.setTop (mkF m 3 #[.val (.ref b), .val (.int (Int32.ofNat o)), .val (.ref d), .val (.int (Int32.ofNat q)), .val (.int (Int32.ofNat len)), .val (.int 0), .unset] [])) := c1.trans (by
    refine iconstV X0.here hexec rfl 0 (hb hbytes d0) (by decide) ?_
    refine XS.istore X0.here hexec rfl (hb hbytes d1) rfl rfl ?_
    exact Steps.refl _)
  have loop : ∀ (r i : Nat), i + r = len → ∀ (z : Slot), (z = .unset ∨ ∃ w, z = .val w ∧ w.category = 1) → ∀ (Tl : State) (Bk : Cell), Stand p l e { frames := 0, locals := 0, cells := 0, slots := 0 } s m #[.ref b, .int (Int32.ofNat o), .ref d, .int (Int32.ofNat q), .int (Int32.ofNat len)] below meth c Tl ([] ++ copyLocs d q i) 0 0 → Put d Bk s₁ Tl → Laid B Bk q (q + i) (fun j => Value.int (lo8 (cv A (o + (j - q))))) →
      Steps p.tables e below (s₁.setTop (entryFrame m #[.ref b, .int (Int32.ofNat o), .ref d, .int (Int32.ofNat q), .int (Int32.ofNat len)] 7)) (Tl.setTop (mkF m 3 #[.val (.ref b), .val (.int (Int32.ofNat (o + i))), .val (.ref d), .val (.int (Int32.ofNat (q + i))), .val (.int (Int32.ofNat len)), .val (.int (Int32.ofNat i)), z] [])) → ∃ (T' : State) (B' : Cell) (z' : Slot), Stand p l e { frames := 0, locals := 0, cells := 0, slots := 0 } s m #[.ref b, .int (Int32.ofNat o), .ref d, .int (Int32.ofNat q), .int (Int32.ofNat len)] below meth c T' ([] ++ copyLocs d q len) 0 0 ∧ Put d B' s₁ T' ∧ Laid B B' q (q + len) (fun j => Value.int (lo8 (cv A (o + (j - q))))) ∧
      Steps p.tables e below (s₁.setTop (entryFrame m #[.ref b, .int (Int32.ofNat o), .ref d, .int (Int32.ofNat q), .int (Int32.ofNat len)] 7)) (T'.setTop (mkF m 3 #[.val (.ref b), .val (.int (Int32.ofNat (o + len))), .val (.ref d), .val (.int (Int32.ofNat (q + len))), .val (.int (Int32.ofNat len)), .val (.int (Int32.ofNat len)), z'] [])) := by
    intro r
    induction r with
    | zero =>
      intro i hi z hz Tl Bk Xl pl fl cl
      have hil : i = len := by omega
      rw [hil] at Xl fl cl
      exact ⟨Tl, Bk, z, Xl, pl, fl, cl⟩
    | succ r ih =>
      intro i hi z hz Tl Bk Xl pl fl cl
      have all := X0.warmed.alike.symm.trans Xl.warmed.alike
      have hAl := hA0.keep all (pl.other hne hA0.1)
      have hBk := hB0.like all pl.1 fl.1 fl.2.1 fl.2.2.1
      have hlt : q + i < Bk.slots.size := by rw [fl.2.2.1]; omega
      have c3 : Steps p.tables e below (s₁.setTop (entryFrame m #[.ref b, .int (Int32.ofNat o), .ref d, .int (Int32.ofNat q), .int (Int32.ofNat len)] 7)) (Tl.setTop (mkF m 12 #[.val (.ref b), .val (.int (Int32.ofNat (o + i))), .val (.ref d), .val (.int (Int32.ofNat (q + i))), .val (.int (Int32.ofNat len)), .val (.int (Int32.ofNat i)), z] [.int (Int32.ofNat (o + i)), .ref b])) := cl.trans (by
        refine XS.iload Xl.here hexec rfl (hb hbytes d3) rfl ?_
        refine XS.iload Xl.here hexec rfl (hb hbytes d5) rfl ?_
        refine XS.icmpNo Xl.here hexec rfl (hb hbytes d7) rfl (ii_ge_f (lt32 (by omega) (by omega))) ?_
        refine XS.aloadN Xl.here hexec rfl (hb hbytes d10) rfl rfl ?_
        refine XS.iloadN Xl.here hexec rfl (hb hbytes d11) rfl ?_
        exact Steps.refl _)
      have c4 : Steps p.tables e below (s₁.setTop (entryFrame m #[.ref b, .int (Int32.ofNat o), .ref d, .int (Int32.ofNat q), .int (Int32.ofNat len)] 7)) (Tl.setTop (mkF m 13 #[.val (.ref b), .val (.int (Int32.ofNat (o + i))), .val (.ref d), .val (.int (Int32.ofNat (q + i))), .val (.int (Int32.ofNat len)), .val (.int (Int32.ofNat i)), z] [.int (cv A (o + i))])) := c3.trans (by
        refine Xl.aget hexec hAl rfl (hA.get (i := o + i) (by omega)) rfl rfl (hb hbytes d12) ?_
        exact Steps.refl _)
      have c5 : Steps p.tables e below (s₁.setTop (entryFrame m #[.ref b, .int (Int32.ofNat o), .ref d, .int (Int32.ofNat q), .int (Int32.ofNat len)] 7)) (Tl.setTop (mkF m 15 #[.val (.ref b), .val (.int (Int32.ofNat (o + i))), .val (.ref d), .val (.int (Int32.ofNat (q + i))), .val (.int (Int32.ofNat len)), .val (.int (Int32.ofNat i)), .val (.int (cv A (o + i)))] [])) := c4.trans (by
        refine XS.istoreS Xl.here hexec rfl (hb hbytes d13) rfl rfl hz ?_
        exact Steps.refl _)
      have c6 : Steps p.tables e below (s₁.setTop (entryFrame m #[.ref b, .int (Int32.ofNat o), .ref d, .int (Int32.ofNat q), .int (Int32.ofNat len)] 7)) (Tl.setTop (mkF m 31 #[.val (.ref b), .val (.int (Int32.ofNat (o + i))), .val (.ref d), .val (.int (Int32.ofNat (q + i))), .val (.int (Int32.ofNat len)), .val (.int (Int32.ofNat i)), .val (.int (cv A (o + i)))] [.int (lo8 (cv A (o + i))), .int (Int32.ofNat (q + i)), .ref d])) := c5.trans (by
        refine XS.iload Xl.here hexec rfl (hb hbytes d15) rfl ?_
        refine sipushV Xl.here hexec rfl 255 (hb hbytes d17) (by decide) ?_
        refine XS.icmpYes Xl.here hexec rfl (pc0 := 20) rfl (hb hbytes d20) rfl (ii_le_t (hp i (by omega))) (by decide) rfl ?_
        refine XS.aloadN Xl.here hexec rfl (hb hbytes d26) rfl rfl ?_
        refine XS.iloadN Xl.here hexec rfl (hb hbytes d27) rfl ?_
        refine XS.iload Xl.here hexec rfl (hb hbytes d28) rfl ?_
        refine i2b Xl.here hexec rfl (hb hbytes d30) rfl ?_
        exact Steps.refl _)
      obtain ⟨T7, X7, p7, st7⟩ := Xl.aput hexec hBk rfl hlt rfl (fits_lo8 (cv A (o + i))) (g := (mkF m 31 #[.val (.ref b), .val (.int (Int32.ofNat (o + i))), .val (.ref d), .val (.int (Int32.ofNat (q + i))), .val (.int (Int32.ofNat len)), .val (.int (Int32.ofNat i)), .val (.int (cv A (o + i)))] [.int (lo8 (cv A (o + i))), .int (Int32.ofNat (q + i)), .ref d])) rfl (rest := []) rfl (hb hbytes d31)
      have c8 : Steps p.tables e below (s₁.setTop (entryFrame m #[.ref b, .int (Int32.ofNat o), .ref d, .int (Int32.ofNat q), .int (Int32.ofNat len)] 7)) (T7.setTop (mkF m 32 #[.val (.ref b), .val (.int (Int32.ofNat (o + i))), .val (.ref d), .val (.int (Int32.ofNat (q + i))), .val (.int (Int32.ofNat len)), .val (.int (Int32.ofNat i)), .val (.int (cv A (o + i)))] [])) := c6.trans (st7 _ (Steps.refl _))
      have c9 : Steps p.tables e below (s₁.setTop (entryFrame m #[.ref b, .int (Int32.ofNat o), .ref d, .int (Int32.ofNat q), .int (Int32.ofNat len)] 7)) (T7.setTop (mkF m 3 #[.val (.ref b), .val (.int (Int32.ofNat (o + i) + 1)), .val (.ref d), .val (.int (Int32.ofNat (q + i) + 1)), .val (.int (Int32.ofNat len)), .val (.int (Int32.ofNat i + 1)), .val (.int (cv A (o + i)))] [])) := c8.trans (by
        refine iincV X7.here hexec rfl 1 (hb hbytes d32) (by decide) rfl rfl ?_
        refine iincV X7.here hexec rfl 1 (hb hbytes d35) (by decide) rfl rfl ?_
        refine iincV X7.here hexec rfl 1 (hb hbytes d38) (by decide) rfl rfl ?_
        refine XS.goto X7.here hexec rfl (pc0 := 41) rfl (hb hbytes d41) (by decide) rfl ?_
        exact Steps.refl _)
      have c10 : Steps p.tables e below (s₁.setTop (entryFrame m #[.ref b, .int (Int32.ofNat o), .ref d, .int (Int32.ofNat q), .int (Int32.ofNat len)] 7)) (T7.setTop (mkF m 3 #[.val (.ref b), .val (.int (Int32.ofNat (o + (i + 1)))), .val (.ref d), .val (.int (Int32.ofNat (q + (i + 1)))), .val (.int (Int32.ofNat len)), .val (.int (Int32.ofNat (i + 1))), .val (.int (cv A (o + i)))] [])) := by
        have := c9
        rw [succ32, succ32, succ32] at this
        exact this
      exact ih (i + 1) (by omega) _ (Or.inr ⟨_, rfl, rfl⟩) T7 _ (by rw [copyLocs_step, ← List.append_assoc]; exact X7) (pl.trans p7) (fl.step (by omega) hlt (by simp)) c10
  obtain ⟨T9, B9, z9, X9, p9, f9, g9⟩ := loop len 0 (by omega) .unset (Or.inl rfl) s₁ B (by simpa [copyLocs] using X0) ⟨hB0.1, fun _ _ => rfl, rfl⟩ (Laid.zero _ _ _) c2
  have c11 : Steps p.tables e below (s₁.setTop (entryFrame m #[.ref b, .int (Int32.ofNat o), .ref d, .int (Int32.ofNat q), .int (Int32.ofNat len)] 7)) (T9.setTop (mkF m 46 #[.val (.ref b), .val (.int (Int32.ofNat (o + len))), .val (.ref d), .val (.int (Int32.ofNat (q + len))), .val (.int (Int32.ofNat len)), .val (.int (Int32.ofNat len)), z9] [.int (Int32.ofNat len)])) := g9.trans (by
    refine XS.iload X9.here hexec rfl (hb hbytes d3) rfl ?_
    refine XS.iload X9.here hexec rfl (hb hbytes d5) rfl ?_
    refine XS.icmpYes X9.here hexec rfl (pc0 := 7) rfl (hb hbytes d7) rfl (ii_ge_t (nlt32 (by omega) (Nat.le_refl _))) (by decide) rfl ?_
    refine XS.iload X9.here hexec rfl (hb hbytes d44) rfl ?_
    exact Steps.refl _)
  exact ⟨T9, some (.int (Int32.ofNat len)), _, _, _, X9, by simp, rfl, rfl, (fun h => by cases h), ⟨rfl, B9, p9.from hh0, f9⟩, fun fs hl => c11.trans (X9.ireturnOut hexec hret rfl (Or.inl rfl) (hb hbytes d46) hl)⟩
end Cmp5
namespace Cmp3
def yN : MethodName := ⟨"java/lang/StringUTF16", "compress", "([CII)[B"⟩
abbrev yB : ByteArray := jdk_52_method_16_code
theorem d0 : decode yB 0 = .ok (.iload_n 2, 1) := by decide +kernel
theorem d1 : decode yB 1 = .ok (.newarray .byte, 2) := by decide +kernel
theorem d3 : decode yB 3 = .ok (.astore_n 3, 1) := by decide +kernel
theorem d4 : decode yB 4 = .ok (.aload_n 0, 1) := by decide +kernel
theorem d5 : decode yB 5 = .ok (.iload_n 1, 1) := by decide +kernel
theorem d6 : decode yB 6 = .ok (.aload_n 3, 1) := by decide +kernel
theorem d7 : decode yB 7 = .ok (.iconst 0, 1) := by decide +kernel
theorem d8 : decode yB 8 = .ok (.iload_n 2, 1) := by decide +kernel
theorem d9 : decode yB 9 = .ok (.invokestatic 115, 3) := by decide +kernel
theorem d12 : decode yB 12 = .ok (.istore 4, 2) := by decide +kernel
theorem d14 : decode yB 14 = .ok (.iload 4, 2) := by decide +kernel
theorem d16 : decode yB 16 = .ok (.iload_n 2, 1) := by decide +kernel
theorem d17 : decode yB 17 = .ok (.if_icmp (.eq) 40, 3) := by decide +kernel
theorem d57 : decode yB 57 = .ok (.aload_n 3, 1) := by decide +kernel
theorem d58 : decode yB 58 = .ok (.areturn, 1) := by decide +kernel
def site : List Cond := [.arrayClass .byte, Cmp5.tab] ++ staticW U16 115 Cmp5.yN
def tab : Cond := tabOf yN yB 6 (some (.array .byte)) site
def P (b : Addr) (A : Cell) (o len : Nat) (args : Array Value) (s : State) : Prop := args = #[.ref b, .int (Int32.ofNat o), .int (Int32.ofNat len)] ∧ Ch b A s ∧ o + len ≤ A.slots.size ∧ len ≤ 536870912 ∧ ∀ i, i < len → ¬ 255 < cv A (o + i)
def E (b : Addr) (A : Cell) (o len : Nat) (r : Option Value) (s u : State) : Prop := NewArr .byte "[B" len (fun j => .int (lo8 (cv A (o + j)))) r s u ∧ u.heap.size = s.heap.size + 1
/-- no char of the range above 255: a new byte[] of their low bytes -/
theorem law (l : Launch) (b : Addr) (A : Cell) (o len : Nat) : Law l yN 3 3 1 18 yB 6 (some (.array .byte)) site (P b A o len) (E b A o len) [] 1 len := by
  refine Law.of_walk (plainFor_of_name (by decide +kernel)) (by decide +kernel) (by decide +kernel) (by decide) (fun _ _ h => by rw [h.1]; rfl) (fun _ U U' hal hh h => ⟨h.1, h.2.1.mv hal hh, h.2.2⟩) (fun r U U' V V' h1 hal h2 h => ⟨NewArr.mv r U U' V V' h1 hal h2 h.1, by rw [h1, h2]; exact h.2⟩) ?_
  intro p e s m args below meth c s₁ X0 hexec hbytes hml hret hlk hnm hown hh0 W hP
  obtain ⟨rfl, hA, l1, l2, hp⟩ := hP
  have a31 := hA.1.2.2.2
  have c1 : Steps p.tables e below (s₁.setTop (entryFrame m #[.ref b, .int (Int32.ofNat o), .int (Int32.ofNat len)] 6)) (s₁.setTop (mkF m 0 #[.val (.ref b), .val (.int (Int32.ofNat o)), .val (.int (Int32.ofNat len)), .unset, .unset, .unset] [])) := entry rfl
  have c2 : Steps p.tables e below (s₁.setTop (entryFrame m #[.ref b, .int (Int32.ofNat o), .int (Int32.ofNat len)] 6)) (s₁.setTop (mkF m 1 #[.val (.ref b), .val (.int (Int32.ofNat o)), .val (.int (Int32.ofNat len)), .unset, .unset, .unset] [.int (Int32.ofNat len)])) := c1.trans (by
    refine XS.iloadN X0.here hexec rfl (hb hbytes d0) rfl ?_
    exact Steps.refl _)
  obtain ⟨T3, B3, X3, ba3, bs3, bv3, bh3, bf3, st3⟩ := X0.anew hexec (atype := .byte) (wk W (.arrayClass .byte)) rfl (by show len * 1 ≤ _; omega) (by omega) (g := (mkF m 1 #[.val (.ref b), .val (.int (Int32.ofNat o)), .val (.int (Int32.ofNat len)), .unset, .unset, .unset] [.int (Int32.ofNat len)])) rfl (hb hbytes d1) (rest := []) rfl (Nat.le_refl _) (by show 0 + len ≤ len; omega)
  rw [hh0] at ba3 st3
  have kp3 : XT.Kept s T3 := (XT.Kept.of_eq hh0).push bh3
  have hA3 := hA.keep X3.warmed.alike (kp3 _ _ hA.1.1)
  have hne : b ≠ s.heap.size := hA.1.ne
  have c4 : Steps p.tables e below (s₁.setTop (entryFrame m #[.ref b, .int (Int32.ofNat o), .int (Int32.ofNat len)] 6)) (T3.setTop (mkF m 3 #[.val (.ref b), .val (.int (Int32.ofNat o)), .val (.int (Int32.ofNat len)), .unset, .unset, .unset] [.ref s.heap.size])) := c2.trans (st3 _ (Steps.refl _))
  have c5 : Steps p.tables e below (s₁.setTop (entryFrame m #[.ref b, .int (Int32.ofNat o), .int (Int32.ofNat len)] 6)) (T3.setTop (mkF m 9 #[.val (.ref b), .val (.int (Int32.ofNat o)), .val (.int (Int32.ofNat len)), .val (.ref s.heap.size), .unset, .unset] [.int (Int32.ofNat len), .int 0, .ref s.heap.size, .int (Int32.ofNat o), .ref b])) := c4.trans (by
    refine XS.astoreN X3.here hexec rfl (hb hbytes d3) rfl rfl rfl ?_
    refine XS.aloadN X3.here hexec rfl (hb hbytes d4) rfl rfl ?_
    refine XS.iloadN X3.here hexec rfl (hb hbytes d5) rfl ?_
    refine XS.aloadN X3.here hexec rfl (hb hbytes d6) rfl rfl ?_
    refine iconstV X3.here hexec rfl 0 (hb hbytes d7) (by decide) ?_
    refine XS.iloadN X3.here hexec rfl (hb hbytes d8) rfl ?_
    exact Steps.refl _)
  obtain ⟨v6, T6, X6, E6, g6⟩ := X3.callS hexec (Cmp5.law l b A s.heap.size B3 o 0 len) hown (wks W (staticW U16 115 Cmp5.yN)) (wk W Cmp5.tab) (W := 0) (Nat.le_of_ble_eq_true rfl) (Nat.le_of_ble_eq_true rfl) (Nat.le_refl _) (by show 0 + len + 0 ≤ len; omega) (g := (mkF m 9 #[.val (.ref b), .val (.int (Int32.ofNat o)), .val (.int (Int32.ofNat len)), .val (.ref s.heap.size), .unset, .unset] [.int (Int32.ofNat len), .int (Int32.ofNat 0), .ref s.heap.size, .int (Int32.ofNat o), .ref b])) rfl (by rw [hml]; rfl) c5 (argsL := [.ref b, .int (Int32.ofNat o), .ref s.heap.size, .int (Int32.ofNat 0), .int (Int32.ofNat len)]) (rest := []) rfl rfl (by show 2 * 0 + 0 ≤ _; decide) (hb hbytes d9) (⟨rfl, hA3, ba3, hne, l1, by rw [bs3]; simp, hp⟩)
  obtain ⟨rfl, B6, p6, f6⟩ := E6
  have c7 : Steps p.tables e below (s₁.setTop (entryFrame m #[.ref b, .int (Int32.ofNat o), .int (Int32.ofNat len)] 6)) (T6.setTop (mkF m 12 #[.val (.ref b), .val (.int (Int32.ofNat o)), .val (.int (Int32.ofNat len)), .val (.ref s.heap.size), .unset, .unset] [.int (Int32.ofNat len)])) := g6
  have c8 : Steps p.tables e below (s₁.setTop (entryFrame m #[.ref b, .int (Int32.ofNat o), .int (Int32.ofNat len)] 6)) (T6.setTop (mkF m 58 #[.val (.ref b), .val (.int (Int32.ofNat o)), .val (.int (Int32.ofNat len)), .val (.ref s.heap.size), .val (.int (Int32.ofNat len)), .unset] [.ref s.heap.size])) := c7.trans (by
    refine XS.istore X6.here hexec rfl (hb hbytes d12) rfl rfl ?_
    refine XS.iload X6.here hexec rfl (hb hbytes d14) rfl ?_
    refine XS.iloadN X6.here hexec rfl (hb hbytes d16) rfl ?_
    refine XS.icmpYes X6.here hexec rfl (pc0 := 17) rfl (hb hbytes d17) rfl (ii_eq_t rfl) (by decide) rfl ?_
    refine XS.aloadN X6.here hexec rfl (hb hbytes d57) rfl rfl ?_
    exact Steps.refl _)
  have X8 := X6.wide (L' := []) (cells' := 1) (slots' := len) (fun x hx hlt => by
    simp only [List.nil_append, copyLocs, List.mem_map, List.mem_range] at hx
    obtain ⟨i, -, rfl⟩ := hx
    exact absurd hlt (Nat.lt_irrefl _)) (Nat.le_refl _) (by omega)
  exact ⟨T6, some (.ref s.heap.size), _, _, _, X8, rfl, rfl, rfl, (fun h => by cases h), ⟨⟨rfl, B6, ba3.like (X3.warmed.alike.symm.trans X6.warmed.alike) p6.1 f6.1 f6.2.1 f6.2.2.1, f6.2.1.trans bv3, by rw [X6.warmed.alike.findClass, f6.1]; exact bf3, by rw [f6.2.2.1, bs3]; simp, fun j hj => by rw [f6.2.2.2 j, if_pos (by omega)]; rfl, kp3.put p6 (Nat.le_refl _)⟩, by rw [p6.2.2, bh3, hh0]; simp⟩, fun fs hl => c8.trans (X8.areturnOut hexec rfl hret rfl (hb hbytes d58) hl)⟩
end Cmp3
namespace CodL
def yN : MethodName := ⟨"java/lang/StringUTF16", "coderFromArrayLen", "([BI)B"⟩
abbrev yB : ByteArray := jdk_52_method_15_code
theorem d0 : decode yB 0 = .ok (.iload_n 1, 1) := by decide +kernel
theorem d1 : decode yB 1 = .ok (.aload_n 0, 1) := by decide +kernel
theorem d2 : decode yB 2 = .ok (.arraylength, 1) := by decide +kernel
theorem d3 : decode yB 3 = .ok (.isub, 1) := by decide +kernel
theorem d4 : decode yB 4 = .ok (.bipush 31, 2) := by decide +kernel
theorem d6 : decode yB 6 = .ok (.iushr, 1) := by decide +kernel
theorem d7 : decode yB 7 = .ok (.i2b, 1) := by decide +kernel
theorem d8 : decode yB 8 = .ok (.ireturn, 1) := by decide +kernel
def site : List Cond := []
def tab : Cond := tabOf yN yB 2 (some .byte) site
def P (d : Addr) (B : Cell) (args : Array Value) (s : State) : Prop := args = #[.ref d, .int (Int32.ofNat B.slots.size)] ∧ Arr .byte d B s
def E (r : Option Value) (s u : State) : Prop := XT.PureE (some (.int 0)) r s u
/-- an array as long as the number of chars: LATIN1 -/
theorem law (l : Launch) (d : Addr) (B : Cell) : Law l yN 2 2 0 0 yB 2 (some .byte) site (P d B) E [] 0 0 := by
  refine Law.of_walk (plainFor_of_name (by decide +kernel)) (by decide +kernel) (by decide +kernel) (by decide) (fun _ _ h => by rw [h.1]; rfl) (fun _ U U' hal hh h => ⟨h.1, h.2.mv hal hh⟩) (fun r U U' V V' h1 hal h2 h => XT.PureE.mv r U U' V V' h1 hal h2 h) ?_
  intro p e s m args below meth c s₁ X0 hexec hbytes hml hret hlk hnm hown hh0 W hP
  obtain ⟨rfl, hB⟩ := hP
  have hB0 := hB.mv X0.warmed.alike hh0
  have c1 : Steps p.tables e below (s₁.setTop (entryFrame m #[.ref d, .int (Int32.ofNat B.slots.size)] 2)) (s₁.setTop (mkF m 0 #[.val (.ref d), .val (.int (Int32.ofNat B.slots.size))] [])) := entry rfl
  have c2 : Steps p.tables e below (s₁.setTop (entryFrame m #[.ref d, .int (Int32.ofNat B.slots.size)] 2)) (s₁.setTop (mkF m 2 #[.val (.ref d), .val (.int (Int32.ofNat B.slots.size))] [.ref d, .int (Int32.ofNat B.slots.size)])) := c1.trans (by
    refine XS.iloadN X0.here hexec rfl (hb hbytes d0) rfl ?_
    refine XS.aloadN X0.here hexec rfl (hb hbytes d1) rfl rfl ?_
    exact Steps.refl _)
  have c3 : Steps p.tables e below (s₁.setTop (entryFrame m #[.ref d, .int (Int32.ofNat B.slots.size)] 2)) (s₁.setTop (mkF m 8 #[.val (.ref d), .val (.int (Int32.ofNat B.slots.size))] [.int (lo8 (ushr (Int32.ofNat B.slots.size - Int32.ofNat B.slots.size) 31))])) := c2.trans (by
    refine X0.alen hexec hB0 rfl rfl (hb hbytes d2) ?_
    refine XS.isub X0.here hexec rfl (hb hbytes d3) rfl ?_
    refine bipushV X0.here hexec rfl 31 (hb hbytes d4) (by decide) ?_
    refine iushr X0.here hexec rfl (hb hbytes d6) rfl ?_
    refine i2b X0.here hexec rfl (hb hbytes d7) rfl ?_
    exact Steps.refl _)
  have e0 : lo8 (ushr (Int32.ofNat B.slots.size - Int32.ofNat B.slots.size) 31) = 0 := by rw [Int32.sub_self]; decide
  rw [e0] at c3
  exact ⟨s₁, some (.int 0), _, _, _, X0, rfl, rfl, rfl, (fun h => by cases h), ⟨rfl, hh0⟩, fun fs hl => c3.trans (X0.ireturnOut hexec hret rfl (Or.inr (Or.inr (Or.inl rfl))) (hb hbytes d8) hl)⟩
end CodL
/-- the String at a is Latin-1 over a new byte[] (the heap's one new cell): the low bytes of the len chars of A from o on; every cell but a is kept -/
def Got (a : Addr) (D : Cell) (fV fC : Field) (A : Cell) (o len : Nat) (r : Option Value) (s u : State) : Prop := r = none ∧ ∃ D' V : Cell, Blank "java/lang/String" a D' u ∧ Same D D' [fV.slot, fC.slot] ∧ D'.slots[fV.slot]? = some (.ref s.heap.size) ∧ D'.slots[fC.slot]? = some (.int 0) ∧ Arr .byte s.heap.size V u ∧ V.vm = .none ∧ u.vm.findClass "[B" = some V.cls ∧ V.slots.size = len ∧ (∀ j, j < len → V.slots[j]? = some (.int (lo8 (cv A (o + j))))) ∧ (∀ (y : Addr) (c : Cell), y ≠ a → s.heap[y]? = some c → u.heap[y]? = some c) ∧ u.heap.size = s.heap.size + 1
theorem Got.mv {a : Addr} {D A : Cell} {fV fC : Field} {o len : Nat} : ∀ r (U U' V V' : State), U'.heap = U.heap → V.vm.Alike V'.vm → V'.heap = V.heap → Got a D fV fC A o len r U V → Got a D fV fC A o len r U' V' :=
  fun r U U' V V' h1 hal h2 ⟨e0, D', X, a1, a2, a3, a4, a5, a6, a7, a8, a9, a10, a11⟩ => ⟨e0, D', X, a1.mv hal h2, a2, by rw [h1]; exact a3, a4, by rw [h1]; exact a5.mv hal h2, a6, by rw [hal.findClass]; exact a7, a8, a9, by rw [h1, h2]; exact a10, by rw [h1, h2]; exact a11⟩
namespace New4
def yN : MethodName := ⟨"java/lang/String", "<init>", "([CIILjava/lang/Void;)V"⟩
abbrev yB : ByteArray := jdk_42_method_149_code
theorem d0 : decode yB 0 = .ok (.aload_n 0, 1) := by decide +kernel
theorem d1 : decode yB 1 = .ok (.invokespecial 1, 3) := by decide +kernel
theorem d4 : decode yB 4 = .ok (.iload_n 3, 1) := by decide +kernel
theorem d5 : decode yB 5 = .ok (.ifCond (.ne) 22, 3) := by decide +kernel
theorem d27 : decode yB 27 = .ok (.getstatic 38, 3) := by decide +kernel
theorem d30 : decode yB 30 = .ok (.ifCond (.eq) 28, 3) := by decide +kernel
theorem d33 : decode yB 33 = .ok (.aload_n 1, 1) := by decide +kernel
theorem d34 : decode yB 34 = .ok (.iload_n 2, 1) := by decide +kernel
theorem d35 : decode yB 35 = .ok (.iload_n 3, 1) := by decide +kernel
theorem d36 : decode yB 36 = .ok (.invokestatic 177, 3) := by decide +kernel
theorem d39 : decode yB 39 = .ok (.astore 5, 2) := by decide +kernel
theorem d41 : decode yB 41 = .ok (.aload_n 0, 1) := by decide +kernel
theorem d42 : decode yB 42 = .ok (.aload 5, 2) := by decide +kernel
theorem d44 : decode yB 44 = .ok (.iload_n 3, 1) := by decide +kernel
theorem d45 : decode yB 45 = .ok (.invokestatic 47, 3) := by decide +kernel
theorem d48 : decode yB 48 = .ok (.putfield 15, 3) := by decide +kernel
theorem d51 : decode yB 51 = .ok (.aload_n 0, 1) := by decide +kernel
theorem d52 : decode yB 52 = .ok (.aload 5, 2) := by decide +kernel
theorem d54 : decode yB 54 = .ok (.putfield 9, 3) := by decide +kernel
theorem d57 : decode yB 57 = .ok (.return_, 1) := by decide +kernel
def site : List Cond := [.fieldLink "java/lang/String" 38 "java/lang/String" "COMPACT_STRINGS" "Z", Cmp3.tab, CodL.tab, .laysFinal "java/lang/String" "java/lang/String" "value" "[B", .fieldLink "java/lang/String" 9 "java/lang/String" "value" "[B", .laysFinal "java/lang/String" "java/lang/String" "coder" "B", .fieldLink "java/lang/String" 15 "java/lang/String" "coder" "B"] ++ objW "java/lang/String" 1 ++ staticW "java/lang/String" 177 Cmp3.yN ++ staticW "java/lang/String" 47 CodL.yN
def tab : Cond := tabOf yN yB 6 none site
def P (a : Addr) (D : Cell) (fV fC : Field) (b : Addr) (A : Cell) (z : Int32) (o len : Nat) (args : Array Value) (s : State) : Prop := args = #[.ref a, .ref b, .int (Int32.ofNat o), .int (Int32.ofNat len), .null] ∧ Blank "java/lang/String" a D s ∧ Found "java/lang/String" "value" "[B" fV s ∧ Found "java/lang/String" "coder" "B" fC s ∧ Ch b A s ∧ StaticIs s "java/lang/String" "COMPACT_STRINGS" "Z" (.int z) ∧ ¬ z = 0 ∧ 0 < len ∧ o + len ≤ A.slots.size ∧ len ≤ 536870912 ∧ ∀ i, i < len → ¬ 255 < cv A (o + i)
def E (a : Addr) (D : Cell) (fV fC : Field) (A : Cell) (o len : Nat) (r : Option Value) (s u : State) : Prop := Got a D fV fC A o len r s u
/-- len > 0, no char of the range above 255: a Latin-1 String of their low bytes -/
theorem law (l : Launch) (a : Addr) (D : Cell) (fV fC : Field) (b : Addr) (A : Cell) (z : Int32) (o len : Nat) : Law l yN 5 4 2 35 yB 6 none site (P a D fV fC b A z o len) (E a D fV fC A o len) [⟨a, fC.slot⟩, ⟨a, fV.slot⟩] 1 len := by
  refine Law.of_walk (plainFor_of_name (by decide +kernel)) (by decide +kernel) (by decide +kernel) (by decide) (fun _ _ h => by rw [h.1]; rfl) (fun _ U U' hal hh h => ⟨h.1, h.2.1.mv hal hh, h.2.2.1.al hal, h.2.2.2.1.al hal, h.2.2.2.2.1.mv hal hh, h.2.2.2.2.2.1.there hal hh, h.2.2.2.2.2.2⟩) (fun r U U' V V' h1 hal h2 h => Got.mv r U U' V V' h1 hal h2 h) ?_
  intro p e s m args below meth c s₁ X0 hexec hbytes hml hret hlk hnm hown hh0 W hP
  obtain ⟨rfl, hB, f1, f2, hA, s1, hz, l0, l1, l2, hp⟩ := hP
  have a31 := hA.1.2.2.2
  have c1 : Steps p.tables e below (s₁.setTop (entryFrame m #[.ref a, .ref b, .int (Int32.ofNat o), .int (Int32.ofNat len), .null] 6)) (s₁.setTop (mkF m 0 #[.val (.ref a), .val (.ref b), .val (.int (Int32.ofNat o)), .val (.int (Int32.ofNat len)), .val .null, .unset] [])) := entry rfl
  have c2 : Steps p.tables e below (s₁.setTop (entryFrame m #[.ref a, .ref b, .int (Int32.ofNat o), .int (Int32.ofNat len), .null] 6)) (s₁.setTop (mkF m 1 #[.val (.ref a), .val (.ref b), .val (.int (Int32.ofNat o)), .val (.int (Int32.ofNat len)), .val .null, .unset] [.ref a])) := c1.trans (by
    refine XS.aloadN X0.here hexec rfl (hb hbytes d0) rfl rfl ?_
    exact Steps.refl _)
  obtain ⟨T3, X3, q3, st3⟩ := X0.oinit hexec hown (wks W (objW "java/lang/String" 1)) (g := (mkF m 1 #[.val (.ref a), .val (.ref b), .val (.int (Int32.ofNat o)), .val (.int (Int32.ofNat len)), .val .null, .unset] [.ref a])) rfl (by rw [hml]; rfl) (rest := []) rfl (hb hbytes d1) (W := 0) (by show 2 * 0 + 0 ≤ _; decide) (Nat.le_of_ble_eq_true rfl) (Nat.le_of_ble_eq_true rfl)
  have hh3 := q3.trans hh0
  have c4 : Steps p.tables e below (s₁.setTop (entryFrame m #[.ref a, .ref b, .int (Int32.ofNat o), .int (Int32.ofNat len), .null] 6)) (T3.setTop (mkF m 27 #[.val (.ref a), .val (.ref b), .val (.int (Int32.ofNat o)), .val (.int (Int32.ofNat len)), .val .null, .unset] [])) := (c2.trans (st3 _ (Steps.refl _))).trans (by
    refine XS.iloadN X3.here hexec rfl (hb hbytes d4) rfl ?_
    refine XS.ifYes X3.here hexec rfl (pc0 := 5) rfl (hb hbytes d5) rfl (i0_ne_t (nz32 (by omega) l0)) (by decide) rfl ?_
    exact Steps.refl _)
  obtain ⟨T5, X5, q5, st5⟩ := X3.sget hexec hown (wk W (.fieldLink "java/lang/String" 38 "java/lang/String" "COMPACT_STRINGS" "Z")) s1 (fun _ _ h => by rw [hh3]; exact h) (g := (mkF m 27 #[.val (.ref a), .val (.ref b), .val (.int (Int32.ofNat o)), .val (.int (Int32.ofNat len)), .val .null, .unset] [])) rfl (hb hbytes d27)
  have hh5 := q5.trans hh3
  have c6 : Steps p.tables e below (s₁.setTop (entryFrame m #[.ref a, .ref b, .int (Int32.ofNat o), .int (Int32.ofNat len), .null] 6)) (T5.setTop (mkF m 30 #[.val (.ref a), .val (.ref b), .val (.int (Int32.ofNat o)), .val (.int (Int32.ofNat len)), .val .null, .unset] [.int z])) := c4.trans (st5 _ (Steps.refl _))
  have c7 : Steps p.tables e below (s₁.setTop (entryFrame m #[.ref a, .ref b, .int (Int32.ofNat o), .int (Int32.ofNat len), .null] 6)) (T5.setTop (mkF m 36 #[.val (.ref a), .val (.ref b), .val (.int (Int32.ofNat o)), .val (.int (Int32.ofNat len)), .val .null, .unset] [.int (Int32.ofNat len), .int (Int32.ofNat o), .ref b])) := c6.trans (by
    refine XS.ifNo X5.here hexec rfl (hb hbytes d30) rfl (i0_eq_f hz) ?_
    refine XS.aloadN X5.here hexec rfl (hb hbytes d33) rfl rfl ?_
    refine XS.iloadN X5.here hexec rfl (hb hbytes d34) rfl ?_
    refine XS.iloadN X5.here hexec rfl (hb hbytes d35) rfl ?_
    exact Steps.refl _)
  obtain ⟨v8, T8, X8, E8, g8⟩ := X5.callS hexec (Cmp3.law l b A o len) hown (wks W (staticW "java/lang/String" 177 Cmp3.yN)) (wk W Cmp3.tab) (W := 0) (Nat.le_of_ble_eq_true rfl) (Nat.le_of_ble_eq_true rfl) (Nat.le_refl _) (by show 0 + len ≤ len; omega) (g := (mkF m 36 #[.val (.ref a), .val (.ref b), .val (.int (Int32.ofNat o)), .val (.int (Int32.ofNat len)), .val .null, .unset] [.int (Int32.ofNat len), .int (Int32.ofNat o), .ref b])) rfl (by rw [hml]; rfl) c7 (argsL := [.ref b, .int (Int32.ofNat o), .int (Int32.ofNat len)]) (rest := []) rfl rfl (by show 2 * 0 + 0 ≤ _; decide) (hb hbytes d36) (⟨rfl, hA.mv X5.warmed.alike hh5, l1, l2, hp⟩)
  obtain ⟨e8, z8⟩ := E8
  obtain ⟨rfl, N, n1, n2, n3, n4, n5, n6⟩ := NewArr.mv _ T5 s _ _ hh5.symm (Vm.Alike.refl _) rfl e8
  rw [hh5] at z8
  have hB1 := hB.keep X8.warmed.alike (n6 _ _ hB.1)
  have hne : s.heap.size ≠ a := (Nat.ne_of_lt (Array.getElem?_eq_some_iff.mp hB.1).1).symm
  have c9 : Steps p.tables e below (s₁.setTop (entryFrame m #[.ref a, .ref b, .int (Int32.ofNat o), .int (Int32.ofNat len), .null] 6)) (T8.setTop (mkF m 39 #[.val (.ref a), .val (.ref b), .val (.int (Int32.ofNat o)), .val (.int (Int32.ofNat len)), .val .null, .unset] [.ref s.heap.size])) := g8
  have c10 : Steps p.tables e below (s₁.setTop (entryFrame m #[.ref a, .ref b, .int (Int32.ofNat o), .int (Int32.ofNat len), .null] 6)) (T8.setTop (mkF m 45 #[.val (.ref a), .val (.ref b), .val (.int (Int32.ofNat o)), .val (.int (Int32.ofNat len)), .val .null, .val (.ref s.heap.size)] [.int (Int32.ofNat N.slots.size), .ref s.heap.size, .ref a])) := by
    have hc : Steps p.tables e below (s₁.setTop (entryFrame m #[.ref a, .ref b, .int (Int32.ofNat o), .int (Int32.ofNat len), .null] 6)) (T8.setTop (mkF m 45 #[.val (.ref a), .val (.ref b), .val (.int (Int32.ofNat o)), .val (.int (Int32.ofNat len)), .val .null, .val (.ref s.heap.size)] [.int (Int32.ofNat len), .ref s.heap.size, .ref a])) := c9.trans (by
      refine XS.astore X8.here hexec rfl (hb hbytes d39) rfl rfl rfl ?_
      refine XS.aloadN X8.here hexec rfl (hb hbytes d41) rfl rfl ?_
      refine XS.aload X8.here hexec rfl (hb hbytes d42) rfl rfl ?_
      refine XS.iloadN X8.here hexec rfl (hb hbytes d44) rfl ?_
      exact Steps.refl _)
    rw [n4]; exact hc
  obtain ⟨v11, T11, X11, E11, g11⟩ := X8.callS hexec (CodL.law l s.heap.size N) hown (wks W (staticW "java/lang/String" 47 CodL.yN)) (wk W CodL.tab) (W := 1) (Nat.le_of_ble_eq_true rfl) (Nat.le_of_ble_eq_true rfl) (Nat.le_refl _) (by show 0 + len + 0 ≤ len; omega) (g := (mkF m 45 #[.val (.ref a), .val (.ref b), .val (.int (Int32.ofNat o)), .val (.int (Int32.ofNat len)), .val .null, .val (.ref s.heap.size)] [.int (Int32.ofNat N.slots.size), .ref s.heap.size, .ref a])) rfl (by rw [hml]; rfl) c10 (argsL := [.ref s.heap.size, .int (Int32.ofNat N.slots.size)]) (rest := [.ref a]) rfl rfl (by show 2 * 0 + (1 + 0) ≤ _; decide) (hb hbytes d45) (⟨rfl, n1⟩)
  obtain ⟨rfl, q11⟩ := E11
  have hB11 := hB1.mv (X8.warmed.alike.symm.trans X11.warmed.alike) q11
  have c12 : Steps p.tables e below (s₁.setTop (entryFrame m #[.ref a, .ref b, .int (Int32.ofNat o), .int (Int32.ofNat len), .null] 6)) (T11.setTop (mkF m 48 #[.val (.ref a), .val (.ref b), .val (.int (Int32.ofNat o)), .val (.int (Int32.ofNat len)), .val .null, .val (.ref s.heap.size)] [.int 0, .ref a])) := g11
  obtain ⟨T13, X13, p13, bl13, sl13, st13⟩ := X11.finit hexec hown (wk W (.fieldLink "java/lang/String" 15 "java/lang/String" "coder" "B")) (Or.inr ⟨_, (wk W (.laysFinal "java/lang/String" "java/lang/String" "coder" "B"))⟩) (Or.inl ⟨rfl, hnm⟩) f2 (Or.inl rfl) hB11 (t := .byte) (by decide +kernel) rfl (g := (mkF m 48 #[.val (.ref a), .val (.ref b), .val (.int (Int32.ofNat o)), .val (.int (Int32.ofNat len)), .val .null, .val (.ref s.heap.size)] [.int 0, .ref a])) rfl (rest := []) rfl (hb hbytes d48)
  have c14 : Steps p.tables e below (s₁.setTop (entryFrame m #[.ref a, .ref b, .int (Int32.ofNat o), .int (Int32.ofNat len), .null] 6)) (T13.setTop (mkF m 54 #[.val (.ref a), .val (.ref b), .val (.int (Int32.ofNat o)), .val (.int (Int32.ofNat len)), .val .null, .val (.ref s.heap.size)] [.ref s.heap.size, .ref a])) := (c12.trans (st13 _ (Steps.refl _))).trans (by
    refine XS.aloadN X13.here hexec rfl (hb hbytes d51) rfl rfl ?_
    refine XS.aload X13.here hexec rfl (hb hbytes d52) rfl rfl ?_
    exact Steps.refl _)
  obtain ⟨T15, X15, p15, bl15, sl15, st15⟩ := X13.finit hexec hown (wk W (.fieldLink "java/lang/String" 9 "java/lang/String" "value" "[B")) (Or.inr ⟨_, (wk W (.laysFinal "java/lang/String" "java/lang/String" "value" "[B"))⟩) (Or.inl ⟨rfl, hnm⟩) f1 (Or.inl rfl) bl13 (t := (.array .byte)) (by decide +kernel) rfl (g := (mkF m 54 #[.val (.ref a), .val (.ref b), .val (.int (Int32.ofNat o)), .val (.int (Int32.ofNat len)), .val .null, .val (.ref s.heap.size)] [.ref s.heap.size, .ref a])) rfl (rest := []) rfl (hb hbytes d54)
  have c16 : Steps p.tables e below (s₁.setTop (entryFrame m #[.ref a, .ref b, .int (Int32.ofNat o), .int (Int32.ofNat len), .null] 6)) (T15.setTop (mkF m 57 #[.val (.ref a), .val (.ref b), .val (.int (Int32.ofNat o)), .val (.int (Int32.ofNat len)), .val .null, .val (.ref s.heap.size)] [])) := c14.trans (st15 _ (Steps.refl _))
  have ap := apart (Or.inr ⟨_, (wk W (.laysFinal "java/lang/String" "java/lang/String" "value" "[B"))⟩) (Or.inr ⟨_, (wk W (.laysFinal "java/lang/String" "java/lang/String" "coder" "B"))⟩) f1 f2 (t₁ := .array .byte) (t₂ := .byte) (by decide +kernel) (by decide +kernel) (by decide)
  have al := X8.warmed.alike.symm.trans X15.warmed.alike
  have n7 : T11.heap[s.heap.size]? = some N := by rw [q11]; exact n1.1
  exact ⟨T15, none, _, _, _, X15, by simp, rfl, by omega, (fun _ => rfl), ⟨rfl, _, N, bl15, ((Same.refl D _).set _ (by simp)).set _ (by simp), sl15, (Cell.slots_setSlot_ne _ ap).trans sl13, n1.keep al (p15.other hne (p13.other hne n7)), n2, by rw [al.findClass]; exact n3, n4, n5, fun y c h1 h2 => p15.other h1 (p13.other h1 (by rw [q11]; exact n6 y c h2)), by rw [p15.2.2, p13.2.2, q11]; exact z8⟩, fun fs hl => c16.trans (X15.returnOut hexec hret (hb hbytes d57) hl)⟩
end New4
namespace New1
def yN : MethodName := ⟨"java/lang/String", "<init>", "([C)V"⟩
abbrev yB : ByteArray := jdk_42_method_3_code
theorem d0 : decode yB 0 = .ok (.aload_n 0, 1) := by decide +kernel
theorem d1 : decode yB 1 = .ok (.aload_n 1, 1) := by decide +kernel
theorem d2 : decode yB 2 = .ok (.iconst 0, 1) := by decide +kernel
theorem d3 : decode yB 3 = .ok (.aload_n 1, 1) := by decide +kernel
theorem d4 : decode yB 4 = .ok (.arraylength, 1) := by decide +kernel
theorem d5 : decode yB 5 = .ok (.aconst_null, 1) := by decide +kernel
theorem d6 : decode yB 6 = .ok (.invokespecial 27, 3) := by decide +kernel
theorem d9 : decode yB 9 = .ok (.return_, 1) := by decide +kernel
def site : List Cond := [New4.tab] ++ initW "java/lang/String" 27 New4.yN
def tab : Cond := tabOf yN yB 2 none site
def P (a : Addr) (D : Cell) (fV fC : Field) (b : Addr) (A : Cell) (z : Int32) (args : Array Value) (s : State) : Prop := args = #[.ref a, .ref b] ∧ Blank "java/lang/String" a D s ∧ Found "java/lang/String" "value" "[B" fV s ∧ Found "java/lang/String" "coder" "B" fC s ∧ Ch b A s ∧ StaticIs s "java/lang/String" "COMPACT_STRINGS" "Z" (.int z) ∧ ¬ z = 0 ∧ 0 < A.slots.size ∧ A.slots.size ≤ 536870912 ∧ ∀ i, i < A.slots.size → ¬ 255 < cv A i
def E (a : Addr) (D : Cell) (fV fC : Field) (A : Cell) (r : Option Value) (s u : State) : Prop := Got a D fV fC A 0 A.slots.size r s u
/-- new String(chars), not empty, no char above 255: a Latin-1 String of their low bytes -/
theorem law (l : Launch) (a : Addr) (D : Cell) (fV fC : Field) (b : Addr) (A : Cell) (z : Int32) : Law l yN 2 1 3 52 yB 2 none site (P a D fV fC b A z) (E a D fV fC A) [⟨a, fC.slot⟩, ⟨a, fV.slot⟩] 1 A.slots.size := by
  refine Law.of_walk (plainFor_of_name (by decide +kernel)) (by decide +kernel) (by decide +kernel) (by decide) (fun _ _ h => by rw [h.1]; rfl) (fun _ U U' hal hh h => ⟨h.1, h.2.1.mv hal hh, h.2.2.1.al hal, h.2.2.2.1.al hal, h.2.2.2.2.1.mv hal hh, h.2.2.2.2.2.1.there hal hh, h.2.2.2.2.2.2⟩) (fun r U U' V V' h1 hal h2 h => Got.mv r U U' V V' h1 hal h2 h) ?_
  intro p e s m args below meth c s₁ X0 hexec hbytes hml hret hlk hnm hown hh0 W hP
  obtain ⟨rfl, hB, f1, f2, hA, s1, hz, l0, l2, hp⟩ := hP
  have c1 : Steps p.tables e below (s₁.setTop (entryFrame m #[.ref a, .ref b] 2)) (s₁.setTop (mkF m 0 #[.val (.ref a), .val (.ref b)] [])) := entry rfl
  have c2 : Steps p.tables e below (s₁.setTop (entryFrame m #[.ref a, .ref b] 2)) (s₁.setTop (mkF m 6 #[.val (.ref a), .val (.ref b)] [.null, .int (Int32.ofNat A.slots.size), .int 0, .ref b, .ref a])) := c1.trans (by
    refine XS.aloadN X0.here hexec rfl (hb hbytes d0) rfl rfl ?_
    refine XS.aloadN X0.here hexec rfl (hb hbytes d1) rfl rfl ?_
    refine iconstV X0.here hexec rfl 0 (hb hbytes d2) (by decide) ?_
    refine XS.aloadN X0.here hexec rfl (hb hbytes d3) rfl rfl ?_
    refine X0.alen hexec (hA.1.mv X0.warmed.alike hh0) rfl rfl (hb hbytes d4) ?_
    refine XS.aconstNull X0.here hexec rfl (hb hbytes d5) ?_
    exact Steps.refl _)
  obtain ⟨v3, T3, X3, E3, g3⟩ := X0.callN hexec (New4.law l a D fV fC b A z 0 A.slots.size) rfl hown (wks W (initW "java/lang/String" 27 New4.yN)) (W New4.tab (by simp only [site, List.mem_cons, List.mem_append, true_or, or_true])) (W := 0) (Nat.le_of_ble_eq_true rfl) (Nat.le_of_ble_eq_true rfl) (Nat.le_refl _) (by show 0 + A.slots.size ≤ A.slots.size; omega) (g := (mkF m 6 #[.val (.ref a), .val (.ref b)] [.null, .int (Int32.ofNat A.slots.size), .int (Int32.ofNat 0), .ref b, .ref a])) rfl (by rw [hml]; rfl) c2 (argsL := [.ref b, .int (Int32.ofNat 0), .int (Int32.ofNat A.slots.size), .null]) (rest := []) rfl rfl (by show 2 * 0 + 0 ≤ _; decide) (hb hbytes d6) (⟨rfl, hB.mv X0.warmed.alike hh0, f1.al X0.warmed.alike, f2.al X0.warmed.alike, hA.mv X0.warmed.alike hh0, s1.there X0.warmed.alike hh0, hz, l0, by omega, l2, fun i hi => by rw [Nat.zero_add]; exact hp i hi⟩)
  have e0 := Got.mv _ s₁ s _ _ hh0.symm (Vm.Alike.refl _) rfl E3
  obtain rfl := e0.1
  have c4 : Steps p.tables e below (s₁.setTop (entryFrame m #[.ref a, .ref b] 2)) (T3.setTop (mkF m 9 #[.val (.ref a), .val (.ref b)] [])) := g3
  exact ⟨T3, none, _, _, _, X3, by simp, rfl, by omega, (fun _ => rfl), e0, fun fs hl => c4.trans (X3.returnOut hexec hret (hb hbytes d9) hl)⟩
theorem pays {l : Launch} {R : Room} {p : Program} {e : Env} {below : List Frame} {s : State} {sargs : Array Value} {len W : Nat} (a : Addr) (D : Cell) (fV fC : Field) (b : Addr) (A : Cell) (z : Int32) (htab : tab.before sargs s = true) (hfr : 4 ≤ R.frames) (hlo : W + 65 ≤ R.locals) :
    Back l R p e below s sargs yN len W (fun A₁ a₁ => A₁.cells + 1 ≤ R.cells ∧ A₁.slots + A.slots.size ≤ R.slots ∧ P a D fV fC b A z a₁ A₁.U) (fun A₁ _ v₁ B₁ => E a D fV fC A v₁ A₁.U B₁.U ∧ B₁.locs = A₁.locs ++ [⟨a, fC.slot⟩, ⟨a, fV.slot⟩] ∧ B₁.cells = A₁.cells + 1 ∧ B₁.slots = A₁.slots + A.slots.size) :=
  (law l a D fV fC b A z).pays htab hfr (by omega)
end New1
/-- the byte, read back as charAt reads it, is the char -/
theorem lo8_mask {x : Int32} (h0 : ¬ x < 0) (h1 : ¬ 255 < x) : lo8 x &&& 255 = x := by
  have t : ∀ k : Fin 256, lo8 (Int32.ofNat k.val) &&& 255 = Int32.ofNat k.val := by decide +kernel
  rw [Int32.lt_iff_toInt_lt] at h0 h1
  have e0 : (0 : Int32).toInt = 0 := rfl
  have e1 : (255 : Int32).toInt = 255 := rfl
  obtain ⟨k, hk⟩ : ∃ k : Nat, x.toInt = k := ⟨x.toInt.toNat, by omega⟩
  have hx : x = Int32.ofNat k := Int32.toInt_inj.mp (by rw [hk, Int32.toInt_ofNat_small (by omega)])
  rw [hx]
  exact t ⟨k, by omega⟩
end StrChars
namespace StrChars.Road
open Jvm Sem ClassFile Op Lib Jvm.Stand Jvm.Free Jvm.Free.XT
open Jvm.Lib.Cold (StaticIs)
abbrev ST : String := "java/lang/String"
/-- every table word that New1's law asks, flat -/
abbrev words : List Jvm.Cond := [.code New1.yN New1.yB 2 none, .initialized ST, .methodLink ST 27 New4.yN, .instanceMethod New4.yN,
  .code New4.yN New4.yB 6 none, .fieldLink ST 38 ST "COMPACT_STRINGS" "Z", .laysFinal ST ST "value" "[B", .fieldLink ST 9 ST "value" "[B", .laysFinal ST ST "coder" "B", .fieldLink ST 15 ST "coder" "B",
  .methodLink ST 1 Lib.objectInit, .instanceMethod Lib.objectInit, .code Lib.objectInit ⟨#[0xb1]⟩ 1 none, .methodLink ST 177 Cmp3.yN, .static Cmp3.yN, .methodLink ST 47 CodL.yN, .static CodL.yN,
  .code Cmp3.yN Cmp3.yB 6 (some (.array .byte)), .initialized U16, .arrayClass .byte, .methodLink U16 115 Cmp5.yN, .static Cmp5.yN, .code Cmp5.yN Cmp5.yB 7 (some .int), .code CodL.yN CodL.yB 2 (some .byte)]
theorem tab_of {a : Array Value} {s : State} (h : ∀ w ∈ words, w.before a s = true) : New1.tab.before a s = true := by
  have h5 : Cmp5.tab.before a s = true := unparts (wk h (.code Cmp5.yN Cmp5.yB 7 (some .int))) (wks h (.initialized Cmp5.yN.cls :: Cmp5.site))
  have hc : CodL.tab.before a s = true := unparts (wk h (.code CodL.yN CodL.yB 2 (some .byte))) (wks h (.initialized CodL.yN.cls :: CodL.site))
  have q5 : ∀ w ∈ Cmp5.tab :: words, w.before a s = true := fun w hw => (List.mem_cons.mp hw).elim (fun e => e ▸ h5) (h w)
  have h3 : Cmp3.tab.before a s = true := unparts (wk q5 (.code Cmp3.yN Cmp3.yB 6 (some (.array .byte)))) (wks q5 (.initialized Cmp3.yN.cls :: Cmp3.site))
  have q3 : ∀ w ∈ Cmp3.tab :: CodL.tab :: words, w.before a s = true := fun w hw => (List.mem_cons.mp hw).elim (fun e => e ▸ h3) fun hw => (List.mem_cons.mp hw).elim (fun e => e ▸ hc) (h w)
  have h4 : New4.tab.before a s = true := unparts (wk q3 (.code New4.yN New4.yB 6 none)) (wks q3 (.initialized New4.yN.cls :: New4.site))
  have q4 : ∀ w ∈ New4.tab :: words, w.before a s = true := fun w hw => (List.mem_cons.mp hw).elim (fun e => e ▸ h4) (h w)
  exact unparts (wk q4 (.code New1.yN New1.yB 2 none)) (wks q4 (.initialized New1.yN.cls :: New1.site))
/-- the words ride from the start Z to the walk's own state -/
theorem moved {Z s : State} {a0 args : Array Value} (hZ : Z.Warmed39 s.vm) (hw : ∀ d ∈ words, d.before a0 Z = true) : ∀ d ∈ words, d.before args s = true := fun d hd => by
  have q := hw d hd
  have t : ∀ d ∈ words, d = .arrayClass .byte ∨ (d.onTables && d.keepsFace) = true := by decide +kernel
  rcases t d hd with rfl | t
  · exact RoadKit.mvA hZ q
  · exact RoadKit.mv hZ q t
/-- WHAT COMES BACK, over the tables of the start Z: h the heap at the call, h' behind it -/
def Q (Z : State) (x : Addr) (A : Cell) (h : Heap) (v : Option Value) (h' : Heap) (L : List Loc) : Prop := v = none ∧ (∀ y ∈ L, y.base = x) ∧ RoadKit.Keep h h' [x] ∧ h'.size = h.size + 1 ∧ RoadKit.Exa Z h' x ST ∧ RoadKit.Fld Z h' x ST "value" "[B" (.ref h.size) ∧ RoadKit.Fld Z h' x ST "coder" "B" (.int 0) ∧
  (∃ V : Cell, RoadKit.Arr Z h' h.size V .byte ∧ V.vm = .none ∧ Z.vm.findClass "[B" = some V.cls ∧ V.slots.size = A.slots.size ∧ ∀ j, j < A.slots.size → V.slots[j]? = some (.int (lo8 (cv A j)))) ∧
  ∀ (O n d : String) (w : Value), RoadKit.Fld Z h x O n d w → RoadKit.slotOf Z O n d ≠ RoadKit.slotOf Z ST "value" "[B" → RoadKit.slotOf Z O n d ≠ RoadKit.slotOf Z ST "coder" "B" → RoadKit.Fld Z h' x O n d w
/-- **new String(chars) AT A CALL, IN THE ROAD'S FORM**: for specialBack behind newO: x the fresh String, b the char[] with the cell A -/
theorem back {p : Program} {l : Launch} {e : Env} {R : Room} {s : State} {args : Array Value} {below : List Frame} {len W : Nat} {Z : State} {a0 : Array Value} {h : Heap} (hZ : Z.Warmed39 s.vm) (hw : ∀ d ∈ words, d.before a0 Z = true) {kI : Nat} (wi : (Jvm.Cond.instantiable ST kI).before a0 Z = true)
    {x b : Addr} {A : Cell} {z : Int32} {v0 c0 : Value} (E : RoadKit.Exa Z h x ST) (V : RoadKit.Fld Z h x ST "value" "[B" v0) (C : RoadKit.Fld Z h x ST "coder" "B" c0) (K : RoadKit.Arr Z h b A .char) (hty : Typed .char A) (S : RoadKit.Sta Z h ST "COMPACT_STRINGS" "Z" (.int z)) (hz : ¬ z = 0)
    (l0 : 0 < A.slots.size) (l2 : A.slots.size ≤ 536870912) (hp : ∀ i, i < A.slots.size → ¬ 255 < cv A i) (hfr : 4 ≤ R.frames) (hlo : W + 65 ≤ R.locals) :
    Back l R p e below s args New1.yN len W (fun P a => a = #[.ref x, .ref b] ∧ P.U.heap = h ∧ P.cells + 1 ≤ R.cells ∧ P.slots + A.slots.size ≤ R.slots)
      (fun P _ v B => ∃ L, Q Z x A h v B.U.heap L ∧ B.locs = P.locs ++ L ∧ B.cells = P.cells + 1 ∧ B.slots = P.slots + A.slots.size) := by
  intro m meth c P g ig mk a X hg hsize hdg hW hn hp'
  obtain ⟨rfl, rfl, r1, r2⟩ := hp'
  have al : Z.vm.Alike P.U.vm := hZ.alike.trans X.warmed.alike
  obtain ⟨D, cfV, kV, iV, fV, hD, gV, stV, knV, obV, asV, slV⟩ := id V
  obtain ⟨D', cfC, kC, iC, fC, hD', gC, stC, -, -, asC, slC⟩ := id C
  cases hD.symm.trans hD'
  obtain ⟨D2, kD, e1, e2, e3, e4, e5⟩ := id E
  cases hD.symm.trans e1
  obtain ⟨c2, k2, i1, i2, i3, -⟩ := Cond.instantiable_spec wi
  cases e2.symm.trans i1
  cases e3.symm.trans i2
  obtain ⟨kU, u1, u2⟩ := al.2.2 _ _ e3
  have hB : Blank ST x D P.U := ⟨hD, ⟨knV, fun q hq => by rw [hq] at obV; cases obV⟩, by rw [al.findClass]; exact e2, kU, u1, by rw [u2]; exact i3, by rw [u2]; exact e5 i3⟩
  have F1 : Found ST "value" "[B" fV P.U := ⟨SBG.found_only al ⟨cfV, kV, iV, gV⟩, stV⟩
  have F2 : Found ST "coder" "B" fC P.U := ⟨SBG.found_only al ⟨cfC, kC, iC, gC⟩, stC⟩
  have hA : Ch b A P.U := ⟨⟨K.1, State.isArrayOf_alike al K.2.1, K.2.2, by omega⟩, hty⟩
  have hS : StaticIs P.U ST "COMPACT_STRINGS" "Z" (.int z) := by
    obtain ⟨cfS, iS, kS, fS, st, cS, t1, t2, t3, t4, t5, t6, t7⟩ := S
    exact StaticIs.there (s := { Z with heap := P.U.heap }) ⟨cfS, iS, kS, fS, st, cS, t1, t2, t3, t4, t5, (fun q => by rw [q] at t6; cases t6), t7⟩ al rfl
  obtain ⟨v, B, X', ⟨⟨hv, E', V', q1, q2, q3, q4, q5, q6, q7, q8, q9, q10, q11⟩, hl, hc, hs⟩, st⟩ := New1.pays x D fV fC b A z (tab_of (moved hZ hw)) hfr hlo m meth c P g ig mk _ X hg hsize hdg hW hn ⟨r1, r2, rfl, hB, F1, F2, hA, hS, hz, l0, l2, hp⟩
  have al' : Z.vm.Alike B.U.vm := hZ.alike.trans X'.warmed.alike
  have hsz : E'.slots.size = D.slots.size := by
    obtain ⟨-, -, -, kB, w1, w2, w3⟩ := q1
    obtain ⟨kB', y1, y2⟩ := al'.2.2 _ _ e3
    rw [q2.2.1] at w1
    cases w1.symm.trans y1
    rw [w3, e5 i3, y2]
  refine ⟨v, B, X', ⟨_, ⟨hv, ?_, ⟨by omega, fun y cy hy hn' => q10 y cy (by simpa using hn') hy, fun y cy hy => ?_⟩, q11, ⟨E', _, q1.1, by rw [q2.2.1]; exact e2, by rw [q2.2.1]; exact e3, by rw [q2.1]; exact obV, fun _ => by rw [hsz]; exact e5 i3⟩,
    ⟨E', cfV, kV, iV, fV, q1.1, gV, stV, by rw [q2.1]; exact knV, by rw [q2.1]; exact obV, by rw [q2.2.1]; exact asV, q3⟩, ⟨E', cfC, kC, iC, fC, q1.1, gC, stC, by rw [q2.1]; exact knV, by rw [q2.1]; exact obV, by rw [q2.2.1]; exact asC, q4⟩,
    ⟨V', ⟨q5.1, State.isArrayOf_alike al'.symm q5.2.1, q5.2.2.1⟩, q6, by rw [← al'.findClass]; exact q7, q8, fun j hj => by have := q9 j hj; rwa [Nat.zero_add] at this⟩, fun O n d w F n1 n2 => ?_⟩, hl, hc, hs⟩, st⟩
  · intro y hy
    simp only [List.mem_cons, List.not_mem_nil, or_false] at hy
    rcases hy with rfl | rfl <;> rfl
  · by_cases q : y = x
    · subst q
      cases hD.symm.trans hy
      exact ⟨E', q1.1, q2.2.1, q2.1, hsz⟩
    · exact ⟨cy, q10 y cy q hy, rfl, rfl, rfl⟩
  · obtain ⟨D3, cf, k, i, f, g1, g2, g3, g4, g5, g6, g7⟩ := F
    cases hD.symm.trans g1
    simp only [RoadKit.slotOf, g2, gV, gC, Option.map_some, Option.getD_some] at n1 n2
    exact ⟨E', cf, k, i, f, q1.1, g2, g3, by rw [q2.1]; exact g4, by rw [q2.1]; exact g5, by rw [q2.2.1]; exact g6, by rw [q2.2.2 f.slot (by simp [n1, n2])]; exact g7⟩
end StrChars.Road
namespace StrChars.Road
open Jvm Sem ClassFile Op Lib Jvm.Stand Jvm.Free Jvm.Free.XT
/-- WHAT COMES BACK, the byte[] as a list of values -/
def QA (Z : State) (x : Addr) (zn : Int32) (cs : List Int32) (h : Heap) (v : Option Value) (h' : Heap) (L : List Loc) : Prop := v = none ∧ (∀ y ∈ L, y.base = x) ∧ RoadKit.Keep h h' [x] ∧ h'.size = h.size + 1 ∧ RoadKit.Exa Z h' x ST ∧ RoadKit.Fld Z h' x ST "value" "[B" (.ref h.size) ∧ RoadKit.Fld Z h' x ST "coder" "B" (.int 0) ∧
  (∃ kb, Z.vm.findClass "[B" = some kb ∧ RoadKit.Arv Z h' h.size kb .byte zn (cs.map fun c => .int (lo8 c)) (.int 0)) ∧
  ∀ (O n d : String) (w : Value), RoadKit.Fld Z h x O n d w → RoadKit.slotOf Z O n d ≠ RoadKit.slotOf Z ST "value" "[B" → RoadKit.slotOf Z O n d ≠ RoadKit.slotOf Z ST "coder" "B" → RoadKit.Fld Z h' x O n d w
/-- **new String(chars) AT A CALL, THE ARRAYS AS LISTS**: the char[] at b holds cs, not empty, no char above 255 -/
theorem backArv {p : Program} {l : Launch} {e : Env} {R : Room} {s : State} {args : Array Value} {below : List Frame} {len W : Nat} {Z : State} {a0 : Array Value} {h : Heap} (hZ : Z.Warmed39 s.vm) (hw : ∀ d ∈ words, d.before a0 Z = true) {kI : Nat} (wi : (Jvm.Cond.instantiable ST kI).before a0 Z = true)
    {x b : Addr} {k : ClassId} {zn z : Int32} {cs : List Int32} {dv v0 c0 : Value} (E : RoadKit.Exa Z h x ST) (V : RoadKit.Fld Z h x ST "value" "[B" v0) (C : RoadKit.Fld Z h x ST "coder" "B" c0) (K : RoadKit.Arv Z h b k .char zn (cs.map Value.int) dv) (S : RoadKit.Sta Z h ST "COMPACT_STRINGS" "Z" (.int z)) (hz : ¬ z = 0)
    (hlen : zn.toNatClampNeg = cs.length) (h0 : 0 < cs.length) (hbig : cs.length ≤ 536870912) (hall : ∀ c ∈ cs, ¬ 255 < c) (hfr : 4 ≤ R.frames) (hlo : W + 65 ≤ R.locals) :
    Back l R p e below s args New1.yN len W (fun P a => a = #[.ref x, .ref b] ∧ P.U.heap = h ∧ P.cells + 1 ≤ R.cells ∧ P.slots + cs.length ≤ R.slots)
      (fun P _ v B => ∃ L, QA Z x zn cs h v B.U.heap L ∧ B.locs = P.locs ++ L ∧ B.cells = P.cells + 1 ∧ B.slots = P.slots + cs.length) := by
  obtain ⟨A, K1, K2, K3, K4, K5, K6⟩ := K
  have e : A.slots.size = cs.length := K3.trans hlen
  have hat : ∀ (i : Nat) (hi : i < cs.length), A.slots[i]? = some (.int cs[i]) := fun i hi => by rw [K5 i (by omega)]; simp [List.getD_eq_getElem?_getD, hi]
  have hcv : ∀ (i : Nat) (hi : i < cs.length), cv A i = cs[i] := fun i hi => by unfold cv; rw [hat i hi]
  have hty : Typed .char A := fun i v hv => by
    have hi : i < A.slots.size := (Array.getElem?_eq_some_iff.mp hv).1
    have q := K5 i hi
    rw [hv] at q
    rw [Option.some.inj q]
    exact K6 i hi
  refine Back.mono (back hZ hw wi E V C K1 hty S hz (by omega) (by omega) (fun i hi => by rw [hcv i (by omega)]; exact hall _ (List.getElem_mem _)) hfr hlo) (fun P a hp => ⟨hp.1, hp.2.1, hp.2.2.1, by rw [e]; exact hp.2.2.2⟩) (fun P a v B hp hq => ?_)
  obtain ⟨L, ⟨q1, q2, q3, q4, q5, q6, q7, ⟨V', v1, v2, v3, v4, v5⟩, q9⟩, hl, hc, hs⟩ := hq
  refine ⟨L, ⟨q1, q2, q3, q4, q5, q6, q7, ⟨V'.cls, v3, V', v1, rfl, by rw [v4, e, hlen], K4, fun i hi => ?_, fun i hi => ?_⟩, q9⟩, hl, hc, by rw [hs, e]⟩
  · have hi' : i < cs.length := by omega
    rw [v5 i (by omega), hcv i hi']; simp [List.getD_eq_getElem?_getD, hi']
  · have hi' : i < cs.length := by omega
    simp only [List.getD_eq_getElem?_getD, List.getElem?_map, List.getElem?_eq_getElem hi', Option.map_some, Option.getD_some]
    exact fits_lo8 _
end StrChars.Road
namespace StrChars.Road
open Jvm Sem ClassFile Op Lib Jvm.Stand Jvm.Free Jvm.Free.XT
/-- WHAT COMES BACK, in the writer's own shape -/
def QV (Z : State) (x : Addr) (N : Int32) (bs : List Int32) (h : Heap) (n0 : Nat) (v : Option Value) (h' : Heap) (L : List Loc) : Prop := v = none ∧ RoadKit.Fr n0 L ∧ RoadKit.Keep h h' [x] ∧ RoadKit.Exa Z h' x ST ∧ RoadKit.Fld Z h' x ST "coder" "B" (.int 0) ∧
  ∃ (t : Addr) (kb : ClassId), n0 ≤ t ∧ h.size ≤ t ∧ ¬ t = x ∧ RoadKit.Fld Z h' x ST "value" "[B" (.ref t) ∧ RoadKit.Arv Z h' t kb .byte N (bs.map Value.int) (.int 0)
/-- **new String(chars) AT A CALL, FOR THE WRITER**: a char[] of n known ints, each 0 to 255 -/
theorem backV {p : Program} {l : Launch} {e : Env} {R : Room} {s : State} {args : Array Value} {below : List Frame} {len W : Nat} {Z : State} {a0 : Array Value} {h : Heap} (hZ : Z.Warmed39 s.vm) (hw : ∀ d ∈ words, d.before a0 Z = true) {kI : Nat} (wi : (Jvm.Cond.instantiable ST kI).before a0 Z = true)
    {x b : Addr} {kC : ClassId} {cs bs : List Int32} {d v0 c0 : Value} {z N : Int32} {n n0 : Nat} (hx0 : n0 ≤ x) (hh0 : n0 ≤ h.size) (E : RoadKit.Exa Z h x ST) (V : RoadKit.Fld Z h x ST "value" "[B" v0) (C : RoadKit.Fld Z h x ST "coder" "B" c0) (K : RoadKit.Arv Z h b kC .char N (cs.map Value.int) d) (S : RoadKit.Sta Z h ST "COMPACT_STRINGS" "Z" (.int z)) (hz : ¬ z = 0)
    (hn : cs.length = n) (hN : N = Int32.ofNat n) (l0 : 0 < n) (l2 : n ≤ 4000) (hp : ∀ c ∈ cs, ¬ c < 0 ∧ ¬ (255 : Int32) < c) (hb : bs = cs.map (fun c => c.toInt8.toInt32)) (hfr : 4 ≤ R.frames) (hlo : W + 65 ≤ R.locals) :
    Back l R p e below s args (⟨"java/lang/String", "<init>", "([C)V"⟩ : MethodName) len W (fun P a => a = #[.ref x, .ref b] ∧ P.U.heap = h ∧ P.cells + 1 ≤ R.cells ∧ P.slots + n ≤ R.slots)
      (fun P _ v B => ∃ L, QV Z x N bs h n0 v B.U.heap L ∧ B.locs = P.locs ++ L ∧ B.cells = P.cells + 1 ∧ B.slots = P.slots + n) := by
  subst hn hN hb
  refine Back.mono (backArv hZ hw wi E V C K S hz (n32 (by omega)) l0 (by omega) (fun c hc => (hp c hc).2) hfr hlo) (fun P a hp => hp) (fun P a v B hp hq => ?_)
  obtain ⟨L, ⟨q1, q2, q3, q4, q5, q6, q7, ⟨kb, v1, v2⟩, q9⟩, hl, hc, hs⟩ := hq
  exact ⟨L, ⟨q1, fun y hy => by rw [q2 y hy]; exact hx0, q3, q5, q7, h.size, kb, hh0, Nat.le_refl _, Nat.ne_of_gt E.lt, q6, by rw [List.map_map]; exact v2⟩, hl, hc, hs⟩
end StrChars.Road
namespace StrChars
open Jvm Sem ClassFile Op Lib Jvm.Stand Jvm.Free.XT Jvm.Free.ALB Jvm.Free.JM Jvm.Free
open Jvm.Lib.Cold (StaticIs)
def hi8 (x : Int32) : Int32 := lo8 (x >>> ((8 : Int32) &&& 31))
/-- what StringUTF16.getChar makes of two bytes -/
def pairCh (u v : Int32) : Int32 := (((u &&& 255) <<< ((0 : Int32) &&& 31)) ||| ((v &&& 255) <<< ((8 : Int32) &&& 31))).toUInt32.toUInt16.toUInt32.toInt32
theorem shr0 (c : Int32) : c >>> ((0 : Int32) &&& 31) = c := by
  have e : ((0 : Int32) &&& 31) = 0 := by decide
  rw [e]
  apply Int32.toBitVec_inj.mp
  rw [Int32.toBitVec_shiftRight]
  have e1 : ((0 : Int32).toBitVec.smod 32) = 0#32 := by decide
  rw [e1, BitVec.sshiftRight_eq']
  exact BitVec.sshiftRight_zero
theorem lo8_and (x : Int32) : (lo8 x &&& 255).toBitVec.toNat = x.toBitVec.toNat % 256 := by
  have h : (lo8 x).toBitVec = (x.toBitVec.signExtend 8).signExtend 32 := by rw [lo8, Int8.toBitVec_toInt32, Int32.toBitVec_toInt8]
  rw [Int32.toBitVec_and, BitVec.toNat_and, h]
  have e : ((x.toBitVec.signExtend 8).signExtend 32).toNat % 256 = x.toBitVec.toNat % 256 := by
    rw [BitVec.toNat_signExtend]
    have hlt := x.toBitVec.isLt
    simp only [BitVec.toNat_setWidth, BitVec.toNat_signExtend]
    split <;> split <;> omega
  rw [← e]
  exact Nat.and_two_pow_sub_one_eq_mod _ 8
theorem pair_says {c : Int32} (h0 : ¬ c < 0) (h1 : ¬ 65535 < c) : pairCh (lo8 c) (hi8 c) = c := by
  rw [Int32.lt_iff_toInt_lt] at h0 h1
  have e0 : (0 : Int32).toInt = 0 := rfl
  have e1 : (65535 : Int32).toInt = 65535 := rfl
  have hc : c.toInt = c.toBitVec.toNat := by
    have := c.toBitVec.isLt
    have e : c.toInt = c.toBitVec.toInt := rfl
    rw [e] at h0 h1
    rw [e]
    rw [BitVec.toInt_eq_toNat_cond] at h0 h1 ⊢
    split at h0 <;> split <;> omega
  have hn : c.toBitVec.toNat < 65536 := by omega
  have a1 := lo8_and c
  have a2 : (hi8 c &&& 255).toBitVec.toNat = c.toBitVec.toNat / 256 := by
    rw [hi8, lo8_and]
    have e : ((8 : Int32) &&& 31) = 8 := by decide
    rw [e, Int32.toBitVec_shiftRight]
    have e2 : ((8 : Int32).toBitVec.smod 32) = 8#32 := by decide
    rw [e2, BitVec.sshiftRight_eq', BitVec.toNat_sshiftRight_of_msb_false (by rw [BitVec.msb_eq_false_iff_two_mul_lt]; omega)]
    show c.toBitVec.toNat >>> 8 % 256 = _
    rw [Nat.shiftRight_eq_div_pow]
    omega
  unfold pairCh
  apply Int32.toBitVec_inj.mp
  apply BitVec.eq_of_toNat_eq
  have f0 : ((0 : Int32) &&& 31) = 0 := by decide
  have f8 : ((8 : Int32) &&& 31) = 8 := by decide
  rw [f0, f8]
  have g : (((lo8 c &&& 255) <<< (0 : Int32)) ||| ((hi8 c &&& 255) <<< (8 : Int32))).toBitVec.toNat = c.toBitVec.toNat := by
    rw [Int32.toBitVec_or, Int32.toBitVec_shiftLeft, Int32.toBitVec_shiftLeft]
    have s0 : ((0 : Int32).toBitVec.smod 32) = 0#32 := by decide
    have s8 : ((8 : Int32).toBitVec.smod 32) = 8#32 := by decide
    rw [s0, s8, BitVec.toNat_or]
    simp only [BitVec.shiftLeft_eq', BitVec.toNat_shiftLeft, a1, a2]
    show (c.toBitVec.toNat % 256) <<< 0 % 2 ^ 32 ||| (c.toBitVec.toNat / 256) <<< 8 % 2 ^ 32 = _
    rw [Nat.shiftLeft_zero, Nat.mod_eq_of_lt (show c.toBitVec.toNat % 256 < 2 ^ 32 by omega), Nat.mod_eq_of_lt (show (c.toBitVec.toNat / 256) <<< 8 < 2 ^ 32 by rw [Nat.shiftLeft_eq]; omega), Nat.or_comm, ← Nat.shiftLeft_add_eq_or_of_lt (by omega), Nat.shiftLeft_eq]
    omega
  show BitVec.toNat (((((lo8 c &&& 255) <<< (0 : Int32)) ||| ((hi8 c &&& 255) <<< (8 : Int32))).toBitVec.setWidth 16).setWidth 32) = _
  rw [BitVec.toNat_setWidth, BitVec.toNat_setWidth, g]
  omega
end StrChars
namespace StrChars
open Jvm Sem ClassFile Op Lib Jvm.Stand Jvm.Free.XT Jvm.Free.ALB Jvm.Free.JM Jvm.Free
open Jvm.Lib.Cold (StaticIs)
theorem shr1 {n : Nat} (h : 2 * n < 2 ^ 31) : Int32.ofNat (2 * n) >>> ((1 : Int32) &&& 31) = Int32.ofNat n := by
  have e : ((1 : Int32) &&& 31) = 1 := by decide
  rw [e]
  apply Int32.toBitVec_inj.mp
  rw [Int32.toBitVec_shiftRight]
  have e1 : ((1 : Int32).toBitVec.smod 32) = 1#32 := by decide
  have hm : (BitVec.ofNat 32 (2 * n)).toNat = 2 * n := by rw [BitVec.toNat_ofNat, Nat.mod_eq_of_lt (by omega)]
  rw [e1, BitVec.sshiftRight_eq']
  apply BitVec.eq_of_toNat_eq
  show ((BitVec.ofNat 32 (2 * n)).sshiftRight 1).toNat = (BitVec.ofNat 32 n).toNat
  rw [BitVec.toNat_sshiftRight_of_msb_false (by rw [BitVec.msb_eq_false_iff_two_mul_lt, hm]; omega), hm, BitVec.toNat_ofNat, Nat.shiftRight_eq_div_pow]
  omega
theorem narrow_ch {c : Int32} (h0 : ¬ c < 0) (h1 : ¬ 65535 < c) : narrow .char (.int c) = .int c := by
  have q : narrow .char (.int (pairCh (lo8 c) (hi8 c))) = .int (pairCh (lo8 c) (hi8 c)) := narrow_c _
  rwa [pair_says h0 h1] at q
/-- the array's cell V codes the n chars f 0 .. f (n - 1) by the coder cd, as the JDK does: coder 1 just where some char is above 255 -/
def Cod (cd : Int32) (n : Nat) (f : Nat → Int32) (V : Cell) : Prop := (cd = 0 ∧ V.slots.size = n ∧ ∀ j, j < n → V.slots[j]? = some (.int (lo8 (f j))) ∧ ¬ 255 < f j) ∨ (cd = 1 ∧ V.slots.size = 2 * n ∧ (∀ j, j < n → V.slots[2 * j]? = some (.int (lo8 (f j))) ∧ V.slots[2 * j + 1]? = some (.int (hi8 (f j)))) ∧ ∃ j, j < n ∧ 255 < f j)
theorem Cod.cd {cd : Int32} {n : Nat} {f : Nat → Int32} {V : Cell} (h : Cod cd n f V) : cd = 0 ∨ cd = 1 := h.imp (fun q => q.1) fun q => q.1
theorem Cod.len {cd : Int32} {n : Nat} {f : Nat → Int32} {V : Cell} (h : Cod cd n f V) (hs : V.slots.size < 2 ^ 31) : Int32.ofNat V.slots.size >>> (cd &&& 31) = Int32.ofNat n := by
  rcases h with ⟨rfl, h, -⟩ | ⟨rfl, h, -⟩
  · rw [shr0, h]
  · rw [h, shr1 (by omega)]
/-- **x is a String of the n chars f 0 .. f (n - 1)**, Latin-1 or UTF-16; its array at t has the cell V -/
def Txt (x t : Addr) (V : Cell) (cd : Int32) (n : Nat) (f : Nat → Int32) (U : State) : Prop := Exact "java/lang/String" x U ∧ Has x "java/lang/String" "value" "[B" (.ref t) U ∧ Has x "java/lang/String" "coder" "B" (.int cd) U ∧ XT.Arr .byte t V U ∧ Cod cd n f V ∧ ∀ j, j < n → ¬ f j < 0 ∧ ¬ 65535 < f j
theorem Txt.mv {x t : Addr} {V : Cell} {cd : Int32} {n : Nat} {f : Nat → Int32} {U U' : State} (h : Txt x t V cd n f U) (hal : U.vm.Alike U'.vm) (hh : U'.heap = U.heap) : Txt x t V cd n f U' := ⟨h.1.mv hal hh, h.2.1.mv hal hh, h.2.2.1.mv hal hh, h.2.2.2.1.mv hal hh, h.2.2.2.2⟩
namespace Cdr
def yN : MethodName := ⟨"java/lang/String", "coder", "()B"⟩
abbrev yB : ByteArray := jdk_42_method_152_code
theorem d0 : decode yB 0 = .ok (.getstatic 38, 3) := by decide +kernel
theorem d3 : decode yB 3 = .ok (.ifCond (.eq) 10, 3) := by decide +kernel
theorem d6 : decode yB 6 = .ok (.aload_n 0, 1) := by decide +kernel
theorem d7 : decode yB 7 = .ok (.getfield 15, 3) := by decide +kernel
theorem d10 : decode yB 10 = .ok (.goto 4, 3) := by decide +kernel
theorem d14 : decode yB 14 = .ok (.ireturn, 1) := by decide +kernel
def site : List Cond := [.fieldLink "java/lang/String" 38 "java/lang/String" "COMPACT_STRINGS" "Z", .fieldLink "java/lang/String" 15 "java/lang/String" "coder" "B"]
def tab : Cond := tabOf yN yB 1 (some .byte) site
def P (x : Addr) (cd z : Int32) (args : Array Value) (s : State) : Prop := args = #[.ref x] ∧ Has x "java/lang/String" "coder" "B" (.int cd) s ∧ (cd = 0 ∨ cd = 1) ∧ StaticIs s "java/lang/String" "COMPACT_STRINGS" "Z" (.int z) ∧ ¬ z = 0
def E (cd : Int32) (r : Option Value) (s u : State) : Prop := XT.PureE (some (.int cd)) r s u
theorem law (l : Launch) (x : Addr) (cd z : Int32) : Law l yN 1 0 0 0 yB 1 (some .byte) site (P x cd z) (E cd) [] 0 0 := by
  refine Law.of_walk (plainFor_of_name (by decide +kernel)) (by decide +kernel) (by decide +kernel) (by decide) (fun _ _ h => by rw [h.1]; rfl) (fun _ U U' hal hh h => ⟨h.1, h.2.1.mv hal hh, h.2.2.1, h.2.2.2.1.there hal hh, h.2.2.2.2⟩) (fun r U U' V V' h1 hal h2 h => XT.PureE.mv r U U' V V' h1 hal h2 h) ?_
  intro p e s m args below meth c s₁ X0 hexec hbytes hml hret hlk hnm hown hh0 W hP
  obtain ⟨rfl, hx, hc, s1, hz⟩ := hP
  have c1 : Steps p.tables e below (s₁.setTop (entryFrame m #[.ref x] 1)) (s₁.setTop (mkF m 0 #[.val (.ref x)] [])) := entry rfl
  obtain ⟨T2, X2, q2, st2⟩ := X0.sget hexec hown (wk W (.fieldLink "java/lang/String" 38 "java/lang/String" "COMPACT_STRINGS" "Z")) s1 (fun _ _ h => by rw [hh0]; exact h) (g := (mkF m 0 #[.val (.ref x)] [])) rfl (hb hbytes d0)
  have hh2 := q2.trans hh0
  have c3 : Steps p.tables e below (s₁.setTop (entryFrame m #[.ref x] 1)) (T2.setTop (mkF m 7 #[.val (.ref x)] [.ref x])) := (c1.trans (st2 _ (Steps.refl _))).trans (by
    refine XS.ifNo X2.here hexec rfl (hb hbytes d3) rfl (i0_eq_f hz) ?_
    refine XS.aloadN X2.here hexec rfl (hb hbytes d6) rfl rfl ?_
    exact Steps.refl _)
  obtain ⟨T4, X4, q4, st4⟩ := X2.hget hexec hown (wk W (.fieldLink "java/lang/String" 15 "java/lang/String" "coder" "B")) (hx.mv X2.warmed.alike hh2) (g := (mkF m 7 #[.val (.ref x)] [.ref x])) rfl (rest := []) rfl (hb hbytes d7)
  have c5 : Steps p.tables e below (s₁.setTop (entryFrame m #[.ref x] 1)) (T4.setTop (mkF m 14 #[.val (.ref x)] [.int cd])) := (c3.trans (st4 _ (Steps.refl _))).trans (by
    refine XS.goto X4.here hexec rfl (pc0 := 10) rfl (hb hbytes d10) (by decide) rfl ?_
    exact Steps.refl _)
  exact ⟨T4, some (.int cd), _, _, _, X4, rfl, rfl, rfl, (fun h => by cases h), ⟨rfl, q4.trans hh2⟩, fun fs hl => c5.trans (X4.ireturnOut hexec hret (by rcases hc with rfl | rfl <;> rfl) (Or.inr (Or.inr (Or.inl rfl))) (hb hbytes d14) hl)⟩
end Cdr
namespace Len
def yN : MethodName := ⟨"java/lang/String", "length", "()I"⟩
abbrev yB : ByteArray := jdk_42_method_54_code
theorem d0 : decode yB 0 = .ok (.aload_n 0, 1) := by decide +kernel
theorem d1 : decode yB 1 = .ok (.getfield 9, 3) := by decide +kernel
theorem d4 : decode yB 4 = .ok (.arraylength, 1) := by decide +kernel
theorem d5 : decode yB 5 = .ok (.aload_n 0, 1) := by decide +kernel
theorem d6 : decode yB 6 = .ok (.invokevirtual 335, 3) := by decide +kernel
theorem d9 : decode yB 9 = .ok (.ishr, 1) := by decide +kernel
theorem d10 : decode yB 10 = .ok (.ireturn, 1) := by decide +kernel
def site : List Cond := [.fieldLink "java/lang/String" 9 "java/lang/String" "value" "[B", Cdr.tab] ++ virtW "java/lang/String" 335 "java/lang/String" Cdr.yN Cdr.yN
def tab : Cond := tabOf yN yB 1 (some .int) site
def P (x t : Addr) (V : Cell) (cd : Int32) (n : Nat) (f : Nat → Int32) (z : Int32) (args : Array Value) (s : State) : Prop := args = #[.ref x] ∧ Txt x t V cd n f s ∧ StaticIs s "java/lang/String" "COMPACT_STRINGS" "Z" (.int z) ∧ ¬ z = 0
def E (n : Nat) (r : Option Value) (s u : State) : Prop := XT.PureE (some (.int (Int32.ofNat n))) r s u
/-- length() of a String of n chars, in either coding -/
theorem law (l : Launch) (x t : Addr) (V : Cell) (cd : Int32) (n : Nat) (f : Nat → Int32) (z : Int32) : Law l yN 1 0 1 13 yB 1 (some .int) site (P x t V cd n f z) (E n) [] 0 0 := by
  refine Law.of_walk (plainFor_of_name (by decide +kernel)) (by decide +kernel) (by decide +kernel) (by decide) (fun _ _ h => by rw [h.1]; rfl) (fun _ U U' hal hh h => ⟨h.1, h.2.1.mv hal hh, h.2.2.1.there hal hh, h.2.2.2⟩) (fun r U U' V V' h1 hal h2 h => XT.PureE.mv r U U' V V' h1 hal h2 h) ?_
  intro p e s m args below meth c s₁ X0 hexec hbytes hml hret hlk hnm hown hh0 W hP
  obtain ⟨rfl, hx, s1, hz⟩ := hP
  have v31 := hx.2.2.2.1.2.2.2
  have c1 : Steps p.tables e below (s₁.setTop (entryFrame m #[.ref x] 1)) (s₁.setTop (mkF m 1 #[.val (.ref x)] [.ref x])) := Steps.trans (entry rfl) (by
    show Steps p.tables e below (s₁.setTop (mkF m 0 #[.val (.ref x)] [])) _
    refine XS.aloadN X0.here hexec rfl (hb hbytes d0) rfl rfl ?_
    exact Steps.refl _)
  obtain ⟨T2, X2, q2, st2⟩ := X0.hget hexec hown (wk W (.fieldLink "java/lang/String" 9 "java/lang/String" "value" "[B")) (hx.mv X0.warmed.alike hh0).2.1 (g := (mkF m 1 #[.val (.ref x)] [.ref x])) rfl (rest := []) rfl (hb hbytes d1)
  have hh2 := q2.trans hh0
  have hx2 := hx.mv X2.warmed.alike hh2
  have c3 : Steps p.tables e below (s₁.setTop (entryFrame m #[.ref x] 1)) (T2.setTop (mkF m 6 #[.val (.ref x)] [.ref x, .int (Int32.ofNat V.slots.size)])) := (c1.trans (st2 _ (Steps.refl _))).trans (by
    refine X2.alen hexec hx2.2.2.2.1 rfl rfl (hb hbytes d4) ?_
    refine XS.aloadN X2.here hexec rfl (hb hbytes d5) rfl rfl ?_
    exact Steps.refl _)
  obtain ⟨v4, T4, X4, E4, g4⟩ := X2.callV hexec (Cdr.law l x cd z) hown (wks W (virtW "java/lang/String" 335 "java/lang/String" Cdr.yN Cdr.yN)) rfl (by decide) (wk W Cdr.tab) (W := 1) (Nat.le_of_ble_eq_true rfl) (Nat.le_of_ble_eq_true rfl) (Nat.le_refl _) (Nat.le_refl _) (hx2.1.fc X2.warmed.alike) hx2.1.is (g := (mkF m 6 #[.val (.ref x)] [.ref x, .int (Int32.ofNat V.slots.size)])) rfl (by rw [hml]; rfl) c3 (argsL := []) (rest := [.int (Int32.ofNat V.slots.size)]) rfl rfl (by show 2 * 0 + (1 + 0) ≤ _; decide) (hb hbytes d6) (⟨rfl, hx2.2.2.1, hx.2.2.2.2.1.cd, s1.there X2.warmed.alike hh2, hz⟩)
  obtain ⟨rfl, q4⟩ := E4
  have c5 : Steps p.tables e below (s₁.setTop (entryFrame m #[.ref x] 1)) (T4.setTop (mkF m 10 #[.val (.ref x)] [.int (Int32.ofNat V.slots.size >>> (cd &&& 31))])) := Steps.trans g4 (by
    refine ishr X4.here hexec rfl (hb hbytes d9) rfl ?_
    exact Steps.refl _)
  rw [hx.2.2.2.2.1.len v31] at c5
  exact ⟨T4, some (.int (Int32.ofNat n)), _, _, _, X4, rfl, rfl, rfl, (fun h => by cases h), ⟨rfl, q4.trans hh2⟩, fun fs hl => c5.trans (X4.ireturnOut hexec hret rfl (Or.inl rfl) (hb hbytes d10) hl)⟩
theorem pays {l : Launch} {R : Room} {p : Program} {e : Env} {below : List Frame} {s : State} {sargs : Array Value} {len W : Nat} (x t : Addr) (V : Cell) (cd : Int32) (n : Nat) (f : Nat → Int32) (z : Int32) (htab : tab.before sargs s = true) (hfr : 2 ≤ R.frames) (hlo : W + 25 ≤ R.locals) :
    Back l R p e below s sargs yN len W (fun A₁ a₁ => A₁.cells + 0 ≤ R.cells ∧ A₁.slots + 0 ≤ R.slots ∧ P x t V cd n f z a₁ A₁.U) (fun A₁ _ v₁ B₁ => E n v₁ A₁.U B₁.U ∧ B₁.locs = A₁.locs ++ [] ∧ B₁.cells = A₁.cells + 0 ∧ B₁.slots = A₁.slots + 0) :=
  (law l x t V cd n f z).pays htab hfr (by omega)
end Len
end StrChars
namespace StrChars.Road
open Jvm Sem ClassFile Op Lib Jvm.Stand Jvm.Free Jvm.Free.XT
open Jvm.Lib.Cold (StaticIs)
theorem consq {a : Array Value} {s : State} {c : Jvm.Cond} {L : List Jvm.Cond} (h0 : c.before a s = true) (h : ∀ w ∈ L, w.before a s = true) : ∀ w ∈ c :: L, w.before a s = true := fun w hw => (List.mem_cons.mp hw).elim (fun e => e ▸ h0) (h w)
/-- the words of String.length(), either coding -/
abbrev wordsLen : List Jvm.Cond := [.code Len.yN Len.yB 1 (some .int), .initialized ST, .fieldLink ST 9 ST "value" "[B", .fieldLink ST 38 ST "COMPACT_STRINGS" "Z", .fieldLink ST 15 ST "coder" "B", .code Cdr.yN Cdr.yB 1 (some .byte), .methodLink ST 335 Cdr.yN, .declares Cdr.yN, .selects ST Cdr.yN Cdr.yN, .instanceMethod Cdr.yN]
theorem tabLen_of {a : Array Value} {s : State} (h : ∀ w ∈ wordsLen, w.before a s = true) : Len.tab.before a s = true := by
  have hc : Cdr.tab.before a s = true := unparts (wk h (.code Cdr.yN Cdr.yB 1 (some .byte))) (wks h (.initialized Cdr.yN.cls :: Cdr.site))
  have q := consq hc h
  exact unparts (wk q (.code Len.yN Len.yB 1 (some .int))) (wks q (.initialized Len.yN.cls :: Len.site))
theorem movedLen {Z s : State} {a0 args : Array Value} (hZ : Z.Warmed39 s.vm) (hw : ∀ d ∈ wordsLen, d.before a0 Z = true) : ∀ d ∈ wordsLen, d.before args s = true := fun d hd => by
  have q := hw d hd
  have t : ∀ d ∈ wordsLen, d = .arrayClass .byte ∨ (d.onTables && d.keepsFace) = true := by decide +kernel
  rcases t d hd with rfl | t
  · exact RoadKit.mvA hZ q
  · exact RoadKit.mv hZ q t
/-- the bytes of the chars cs, low before high -/
def wideBytes : List Int32 → List Value
  | [] => []
  | c :: cs => .int (lo8 c) :: .int (hi8 c) :: wideBytes cs
theorem wide_lo (d : Value) : ∀ (cs : List Int32) (j : Nat), j < cs.length → (wideBytes cs).getD (2 * j) d = .int (lo8 (cs.getD j 0))
  | [], j, h => absurd h (Nat.not_lt_zero j)
  | c :: cs, 0, _ => rfl
  | c :: cs, j + 1, h => by
    have q := wide_lo d cs j (by simpa using h)
    rw [show 2 * (j + 1) = 2 * j + 1 + 1 from by omega]
    simpa [wideBytes] using q
theorem wide_hi (d : Value) : ∀ (cs : List Int32) (j : Nat), j < cs.length → (wideBytes cs).getD (2 * j + 1) d = .int (hi8 (cs.getD j 0))
  | [], j, h => absurd h (Nat.not_lt_zero j)
  | c :: cs, 0, _ => rfl
  | c :: cs, j + 1, h => by
    have q := wide_hi d cs j (by simpa using h)
    rw [show 2 * (j + 1) + 1 = 2 * j + 1 + 1 + 1 from by omega]
    simpa [wideBytes] using q
theorem low_at (d : Value) (cs : List Int32) (j : Nat) (h : j < cs.length) : (cs.map fun c => Value.int (lo8 c)).getD j d = .int (lo8 (cs.getD j 0)) := by
  simp [List.getD_eq_getElem?_getD, h]
/-- an array of N2 bytes vs codes the chars cs by the coder cd -/
def CodA (cs : List Int32) (cd N2 : Int32) (vs : List Value) : Prop := (cd = 0 ∧ N2 = Int32.ofNat cs.length ∧ vs = (cs.map fun c => Value.int (lo8 c)) ∧ ∀ c ∈ cs, ¬ 255 < c) ∨ (cd = 1 ∧ N2 = Int32.ofNat (2 * cs.length) ∧ vs = wideBytes cs ∧ ∃ c ∈ cs, 255 < c)
theorem CodA.cod {cs : List Int32} {cd N2 : Int32} {vs : List Value} {V : Cell} (h : CodA cs cd N2 vs) (hn : 2 * cs.length < 2 ^ 31) (hs : V.slots.size = N2.toNatClampNeg) (hv : RoadKit.Has V vs (.int 0)) : Cod cd cs.length (fun j => cs.getD j 0) V := by
  rcases h with ⟨rfl, rfl, rfl, h⟩ | ⟨rfl, rfl, rfl, c, hc, hw⟩
  · rw [n32 (by omega)] at hs
    exact Or.inl ⟨rfl, hs, fun j hj => ⟨by rw [hv j (by omega), low_at _ _ _ hj], by
      have e : cs.getD j 0 = cs[j] := by simp [List.getD_eq_getElem?_getD, hj]
      show ¬ 255 < cs.getD j 0
      rw [e]; exact h _ (List.getElem_mem _)⟩⟩
  · rw [n32 (by omega)] at hs
    obtain ⟨j, hj, rfl⟩ := List.getElem_of_mem hc
    exact Or.inr ⟨rfl, hs, fun j hj => ⟨by rw [hv _ (by omega), wide_lo _ _ _ hj], by rw [hv _ (by omega), wide_hi _ _ _ hj]⟩, j, hj, by
      have e : cs.getD j 0 = cs[j] := by simp [List.getD_eq_getElem?_getD, hj]
      show 255 < cs.getD j 0
      rw [e]; exact hw⟩
/-- an object of exactly java/lang/String, its two fields found: as the laws ask it -/
theorem strObj {Z U : State} {a0 : Array Value} {kI : Nat} (wi : (Jvm.Cond.instantiable ST kI).before a0 Z = true) (al : Z.vm.Alike U.vm) {x : Addr} {v0 c0 : Value} (E : RoadKit.Exa Z U.heap x ST) (V : RoadKit.Fld Z U.heap x ST "value" "[B" v0) (C : RoadKit.Fld Z U.heap x ST "coder" "B" c0) :
    ∃ (D : Cell) (fV fC : Field), Blank ST x D U ∧ Found ST "value" "[B" fV U ∧ Found ST "coder" "B" fC U ∧ D.slots[fV.slot]? = some v0 ∧ D.slots[fC.slot]? = some c0 ∧ RoadKit.slotOf Z ST "value" "[B" = fV.slot ∧ RoadKit.slotOf Z ST "coder" "B" = fC.slot := by
  obtain ⟨D, cfV, kV, iV, fV, hD, gV, stV, knV, obV, asV, slV⟩ := V
  obtain ⟨D', cfC, kC, iC, fC, hD', gC, stC, -, -, asC, slC⟩ := C
  cases hD.symm.trans hD'
  obtain ⟨D2, kD, e1, e2, e3, e4, e5⟩ := E
  cases hD.symm.trans e1
  obtain ⟨c2, k2, i1, i2, i3, -⟩ := Cond.instantiable_spec wi
  cases e2.symm.trans i1
  cases e3.symm.trans i2
  obtain ⟨kU, u1, u2⟩ := al.2.2 _ _ e3
  exact ⟨D, fV, fC, ⟨hD, ⟨knV, fun q hq => by rw [hq] at obV; cases obV⟩, by rw [al.findClass]; exact e2, kU, u1, by rw [u2]; exact i3, by rw [u2]; exact e5 i3⟩, ⟨SBG.found_only al ⟨cfV, kV, iV, gV⟩, stV⟩, ⟨SBG.found_only al ⟨cfC, kC, iC, gC⟩, stC⟩, slV, slC, by simp [RoadKit.slotOf, gV], by simp [RoadKit.slotOf, gC]⟩
theorem sta_is {Z U : State} (al : Z.vm.Alike U.vm) {C n d : String} {v : Value} (S : RoadKit.Sta Z U.heap C n d v) : StaticIs U C n d v := by
  obtain ⟨cfS, iS, kS, fS, st, cS, t1, t2, t3, t4, t5, t6, t7⟩ := S
  exact StaticIs.there (s := { Z with heap := U.heap }) ⟨cfS, iS, kS, fS, st, cS, t1, t2, t3, t4, t5, (fun q => by rw [q] at t6; cases t6), t7⟩ al rfl
/-- **length() OF SUCH A STRING** -/
theorem lenW {p : Program} {l : Launch} {e : Env} {R : Room} {s : State} {args : Array Value} {below : List Frame} {len W : Nat} {Z : State} {a0 : Array Value} {h : Heap} (hZ : Z.Warmed39 s.vm) (hw : ∀ d ∈ wordsLen, d.before a0 Z = true) {kI : Nat} (wi : (Jvm.Cond.instantiable ST kI).before a0 Z = true)
    {x t : Addr} {kb : ClassId} {cs : List Int32} {cd N2 z : Int32} {vs : List Value} (E : RoadKit.Exa Z h x ST) (V : RoadKit.Fld Z h x ST "value" "[B" (.ref t)) (C : RoadKit.Fld Z h x ST "coder" "B" (.int cd)) (K : RoadKit.Arv Z h t kb .byte N2 vs (.int 0)) (hc : CodA cs cd N2 vs) (hb : ∀ c ∈ cs, ¬ c < 0 ∧ ¬ (65535 : Int32) < c)
    (S : RoadKit.Sta Z h ST "COMPACT_STRINGS" "Z" (.int z)) (hz : ¬ z = 0) (l2 : cs.length ≤ 4000) (hfr : 2 ≤ R.frames) (hlo : W + 25 ≤ R.locals) :
    Back l R p e below s args (⟨"java/lang/String", "length", "()I"⟩ : MethodName) len W (fun P a => a = #[.ref x] ∧ P.U.heap = h ∧ P.cells + 0 ≤ R.cells ∧ P.slots + 0 ≤ R.slots)
      (fun P _ v B => ∃ L, (v = some (.int (Int32.ofNat cs.length)) ∧ L = [] ∧ B.U.heap = h) ∧ B.locs = P.locs ++ L ∧ B.cells = P.cells + 0 ∧ B.slots = P.slots + 0) := by
  obtain ⟨A, K1, K2, K3, K4, K5, K6⟩ := K
  have hcod := hc.cod (by omega) K3 K5
  intro m meth c P g ig mk a X hg hsize hdg hW hn hp'
  obtain ⟨rfl, rfl, r1, r2⟩ := hp'
  have al : Z.vm.Alike P.U.vm := hZ.alike.trans X.warmed.alike
  obtain ⟨D, fV, fC, hB, F1, F2, g1, g2, -, -⟩ := strObj wi al E V C
  have hx : Txt x t A cd cs.length (fun j => cs.getD j 0) P.U := ⟨⟨_, hB.2.2.1, D, hB.1, rfl, by cases q : D.vm <;> first | rfl | exact absurd q (hB.2.1.2 _)⟩, Has.of hB F1 g1, Has.of hB F2 g2, ⟨K1.1, State.isArrayOf_alike al K1.2.1, K1.2.2, by rcases hcod with ⟨-, q, -⟩ | ⟨-, q, -⟩ <;> omega⟩, hcod, fun j hj => by
    have e : cs.getD j 0 = cs[j] := by simp [List.getD_eq_getElem?_getD, hj]
    show ¬ cs.getD j 0 < 0 ∧ ¬ 65535 < cs.getD j 0
    rw [e]; exact hb _ (List.getElem_mem _)⟩
  obtain ⟨v, B, X', ⟨⟨hv, hh⟩, hl, hk, hs⟩, st⟩ := Len.pays x t A cd cs.length (fun j => cs.getD j 0) z (tabLen_of (movedLen hZ hw)) hfr hlo m meth c P g ig mk _ X hg hsize hdg hW hn ⟨r1, r2, rfl, hx, sta_is al S, hz⟩
  exact ⟨v, B, X', ⟨[], ⟨hv, rfl, hh⟩, hl, hk, hs⟩, st⟩
end StrChars.Road
namespace StrChars.Road
open Jvm Sem ClassFile Op Lib Jvm.Stand Jvm.Free Jvm.Free.XT
open Jvm.Lib.Cold (StaticIs)
/-- what backV says of its String, as the contracts of this text ask it: cs's low bytes, coder 0 -/
theorem codOf {cs : List Int32} {n : Nat} (hn : cs.length = n) (hb : ∀ c ∈ cs, ¬ 255 < c) : CodA cs 0 (Int32.ofNat n) ((cs.map lo8).map Value.int) := Or.inl ⟨rfl, by rw [hn], by simp [List.map_map, Function.comp_def], hb⟩
end StrChars.Road
end Jvm.Pilot.@@N@@
namespace Jvm.Pilot.@@N@@
namespace Own
open Jvm Jvm.ClassFile Sem Op Lib Jvm.Free Jvm.Stand Jvm.LawKit Jvm.RoadKit Bundle
/-! ## 1. The plain steps, run as a function on pc, locals and stack -/
abbrev Fm : Type := Nat × Array Slot × List Value
def i1 (S : List Value) (f : Int32 → List Value → Option Fm) : Option Fm := match S with | .int x :: S => f x S | _ => none
def i2 (S : List Value) (f : Int32 → Int32 → List Value → Option Fm) : Option Fm := match S with | .int y :: .int x :: S => f x y S | _ => none
def l1 (S : List Value) (f : Int64 → List Value → Option Fm) : Option Fm := match S with | .long x :: S => f x S | _ => none
def l2 (S : List Value) (f : Int64 → Int64 → List Value → Option Fm) : Option Fm := match S with | .long y :: .long x :: S => f x y S | _ => none
def il2 (S : List Value) (f : Int64 → Int32 → List Value → Option Fm) : Option Fm := match S with | .int y :: .long x :: S => f x y S | _ => none
def v1 (S : List Value) (f : Value → List Value → Option Fm) : Option Fm := match S with | x :: S => f x S | _ => none
def v2 (S : List Value) (f : Value → Value → List Value → Option Fm) : Option Fm := match S with | y :: x :: S => f x y S | _ => none
def gi (L : Array Slot) (k : Nat) (f : Int32 → Option Fm) : Option Fm := match L[k]? with | some (.val (.int x)) => f x | _ => none
def gl (L : Array Slot) (k : Nat) (f : Int64 → Option Fm) : Option Fm := match L[k]? with | some (.val (.long x)) => f x | _ => none
def gr (L : Array Slot) (k : Nat) (f : Value → Option Fm) : Option Fm := match L[k]? with | some (.val .null) => f .null | some (.val (.ref a)) => f (.ref a) | _ => none
def ck (P : Prop) [Decidable P] (r : Option Fm) : Option Fm := if P then r else none
def st (o : Option (Array Slot)) (f : Array Slot → Fm) : Option Fm := match o with | some L => some (f L) | none => none
theorem i1_inv {S f r} (h : i1 S f = some r) : ∃ x S', S = .int x :: S' ∧ f x S' = some r := by unfold i1 at h; split at h <;> first | exact ⟨_, _, rfl, h⟩ | exact nomatch h
theorem i2_inv {S f r} (h : i2 S f = some r) : ∃ x y S', S = .int y :: .int x :: S' ∧ f x y S' = some r := by unfold i2 at h; split at h <;> first | exact ⟨_, _, _, rfl, h⟩ | exact nomatch h
theorem l1_inv {S f r} (h : l1 S f = some r) : ∃ x S', S = .long x :: S' ∧ f x S' = some r := by unfold l1 at h; split at h <;> first | exact ⟨_, _, rfl, h⟩ | exact nomatch h
theorem l2_inv {S f r} (h : l2 S f = some r) : ∃ x y S', S = .long y :: .long x :: S' ∧ f x y S' = some r := by unfold l2 at h; split at h <;> first | exact ⟨_, _, _, rfl, h⟩ | exact nomatch h
theorem il2_inv {S f r} (h : il2 S f = some r) : ∃ x y S', S = .int y :: .long x :: S' ∧ f x y S' = some r := by unfold il2 at h; split at h <;> first | exact ⟨_, _, _, rfl, h⟩ | exact nomatch h
theorem v1_inv {S f r} (h : v1 S f = some r) : ∃ x S', S = x :: S' ∧ f x S' = some r := by unfold v1 at h; split at h <;> first | exact ⟨_, _, rfl, h⟩ | exact nomatch h
theorem v2_inv {S f r} (h : v2 S f = some r) : ∃ x y S', S = y :: x :: S' ∧ f x y S' = some r := by unfold v2 at h; split at h <;> first | exact ⟨_, _, _, rfl, h⟩ | exact nomatch h
theorem gi_inv {L k f r} (h : gi L k f = some r) : ∃ x, L[k]? = some (.val (.int x)) ∧ f x = some r := by unfold gi at h; split at h <;> first | exact ⟨_, by assumption, h⟩ | exact nomatch h
theorem gl_inv {L k f r} (h : gl L k f = some r) : ∃ x, L[k]? = some (.val (.long x)) ∧ f x = some r := by unfold gl at h; split at h <;> first | exact ⟨_, by assumption, h⟩ | exact nomatch h
theorem gr_inv {L k f r} (h : gr L k f = some r) : ∃ x, L[k]? = some (.val x) ∧ x.isRef = true ∧ f x = some r := by unfold gr at h; split at h <;> first | exact ⟨_, by assumption, rfl, h⟩ | exact ⟨_, by assumption, rfl, h⟩ | exact nomatch h
theorem ck_inv {P : Prop} [Decidable P] {r : Option Fm} {x : Fm} (h : ck P r = some x) : P ∧ r = some x := by unfold ck at h; split at h <;> first | exact ⟨by assumption, h⟩ | exact nomatch h
theorem st_inv {o f r} (h : st o f = some r) : ∃ L, o = some L ∧ f L = r := by unfold st at h; split at h <;> first | exact ⟨_, rfl, Option.some.inj h⟩ | exact nomatch h
def p1 (i : Instr) (n pc : Nat) (L : Array Slot) (S : List Value) : Option Fm := match i with
  | .iload_n k => ck (n = 1) (gi L k.val fun v => some (pc + 1, L, .int v :: S))
  | .iload k => ck (n = 2) (gi L k fun v => some (pc + 2, L, .int v :: S))
  | .lload_n k => ck (n = 1) (gl L k.val fun v => some (pc + 1, L, .long v :: S))
  | .lload k => ck (n = 2) (gl L k fun v => some (pc + 2, L, .long v :: S))
  | .aload_n k => ck (n = 1) (gr L k.val fun v => some (pc + 1, L, v :: S))
  | .aload k => ck (n = 2) (gr L k fun v => some (pc + 2, L, v :: S))
  | .iconst i => ck (n = 1) (some (pc + 1, L, .int (Int32.ofInt i) :: S))
  | .lconst k => ck (n = 1) (some (pc + 1, L, .long (Int64.ofNat k) :: S))
  | .bipush i => ck (n = 2) (some (pc + 2, L, .int (Int8.ofInt i).toInt32 :: S))
  | .sipush i => ck (n = 3) (some (pc + 3, L, .int (Int16.ofInt i).toInt32 :: S))
  | .aconst_null => ck (n = 1) (some (pc + 1, L, .null :: S))
  | .iadd => ck (n = 1) (i2 S fun x y S => some (pc + 1, L, .int (x + y) :: S))
  | .isub => ck (n = 1) (i2 S fun x y S => some (pc + 1, L, .int (x - y) :: S))
  | .imul => ck (n = 1) (i2 S fun x y S => some (pc + 1, L, .int (x * y) :: S))
  | .iand => ck (n = 1) (i2 S fun x y S => some (pc + 1, L, .int (x &&& y) :: S))
  | .ior => ck (n = 1) (i2 S fun x y S => some (pc + 1, L, .int (x ||| y) :: S))
  | .ixor => ck (n = 1) (i2 S fun x y S => some (pc + 1, L, .int (x ^^^ y) :: S))
  | .ishl => ck (n = 1) (i2 S fun x y S => some (pc + 1, L, .int (x <<< (y &&& 31)) :: S))
  | .ishr => ck (n = 1) (i2 S fun x y S => some (pc + 1, L, .int (x >>> (y &&& 31)) :: S))
  | .iushr => ck (n = 1) (i2 S fun x y S => some (pc + 1, L, .int (XT.ushr x y) :: S))
  | .irem => ck (n = 1) (i2 S fun x y S => ck (y ≠ 0) (some (pc + 1, L, .int (x % y) :: S)))
  | .idiv => ck (n = 1) (i2 S fun x y S => ck (y ≠ 0) (some (pc + 1, L, .int (x / y) :: S)))
  | .ineg => ck (n = 1) (i1 S fun x S => some (pc + 1, L, .int (-x) :: S))
  | .ladd => ck (n = 1) (l2 S fun x y S => some (pc + 1, L, .long (x + y) :: S))
  | .lsub => ck (n = 1) (l2 S fun x y S => some (pc + 1, L, .long (x - y) :: S))
  | .lmul => ck (n = 1) (l2 S fun x y S => some (pc + 1, L, .long (x * y) :: S))
  | .land => ck (n = 1) (l2 S fun x y S => some (pc + 1, L, .long (x &&& y) :: S))
  | .lor => ck (n = 1) (l2 S fun x y S => some (pc + 1, L, .long (x ||| y) :: S))
  | .lxor => ck (n = 1) (l2 S fun x y S => some (pc + 1, L, .long (x ^^^ y) :: S))
  | .lushr => ck (n = 1) (il2 S fun x y S => some (pc + 1, L, .long (XT.ushrL x y) :: S))
  | .lshr => ck (n = 1) (il2 S fun x y S => some (pc + 1, L, .long (x >>> (y.toInt64 &&& 63)) :: S))
  | .lshl => ck (n = 1) (il2 S fun x y S => some (pc + 1, L, .long (x <<< (y.toInt64 &&& 63)) :: S))
  | .ldiv => ck (n = 1) (l2 S fun x y S => ck (y ≠ 0) (some (pc + 1, L, .long (x / y) :: S)))
  | .lrem => ck (n = 1) (l2 S fun x y S => ck (y ≠ 0) (some (pc + 1, L, .long (x % y) :: S)))
  | .lcmp => ck (n = 1) (l2 S fun x y S => some (pc + 1, L, .int (XT.cmpL x y) :: S))
  | .lneg => ck (n = 1) (l1 S fun x S => some (pc + 1, L, .long (-x) :: S))
  | .i2l => ck (n = 1) (i1 S fun x S => some (pc + 1, L, .long x.toInt64 :: S))
  | .l2i => ck (n = 1) (l1 S fun x S => some (pc + 1, L, .int x.toInt32 :: S))
  | .i2b => ck (n = 1) (i1 S fun x S => some (pc + 1, L, .int x.toInt8.toInt32 :: S))
  | .i2c => ck (n = 1) (i1 S fun x S => some (pc + 1, L, .int x.toUInt32.toUInt16.toUInt32.toInt32 :: S))
  | .istore_n k => ck (n = 1) (i1 S fun x S => st (storeLocals L k.val (.int x)) fun L => (pc + 1, L, S))
  | .istore k => ck (n = 2) (i1 S fun x S => st (storeLocals L k (.int x)) fun L => (pc + 2, L, S))
  | .lstore_n k => ck (n = 1) (l1 S fun x S => st (storeLocals L k.val (.long x)) fun L => (pc + 1, L, S))
  | .lstore k => ck (n = 2) (l1 S fun x S => st (storeLocals L k (.long x)) fun L => (pc + 2, L, S))
  | .astore_n k => ck (n = 1) (v1 S fun x S => ck (x.isRef = true) (st (storeLocals L k.val x) fun L => (pc + 1, L, S)))
  | .astore k => ck (n = 2) (v1 S fun x S => ck (x.isRef = true) (st (storeLocals L k x) fun L => (pc + 2, L, S)))
  | .iinc k i => ck (n = 3) (gi L k fun v => st (storeLocals L k (.int (v + Int32.ofInt i))) fun L => (pc + 3, L, S))
  | .dup => ck (n = 1) (v1 S fun x S => ck (x.category = 1) (some (pc + 1, L, x :: x :: S)))
  | .dup_x1 => ck (n = 1) (v2 S fun y x S => ck (x.category = 1 ∧ y.category = 1) (some (pc + 1, L, x :: y :: x :: S)))
  | .pop => ck (n = 1) (v1 S fun x S => ck (x.category = 1) (some (pc + 1, L, S)))
  | .goto o => ck (n = 3 ∧ 0 ≤ (pc : Int) + o) (some (((pc : Int) + o).toNat, L, S))
  | _ => none
set_option maxHeartbeats 4000000 in
theorem p1_sound {tb : Tables} [Ours tb] {e : Env} {below : List Frame} {T target : State} {m : MethodId} {c : Code} (h : At T m c below) (hx : tb.exec = Jvm.exec) {i : Instr} {n pc : Nat} {L : Array Slot} {S : List Value} {F : Fm}
    (hd : decode c.code pc = .ok (i, n)) (hp : p1 i n pc L S = some F) (hr : Steps tb e below (T.setTop (mkF m F.1 F.2.1 F.2.2)) target) : Steps tb e below (T.setTop (mkF m pc L S)) target := by
  cases i <;> simp only [p1, reduceCtorEq] at hp
  case iload_n k => obtain ⟨rfl, hp1⟩ := ck_inv hp; obtain ⟨v, hl, hp2⟩ := gi_inv hp1; cases hp2; exact XS.iloadN h hx rfl hd hl hr
  case iload k => obtain ⟨rfl, hp1⟩ := ck_inv hp; obtain ⟨v, hl, hp2⟩ := gi_inv hp1; cases hp2; exact XS.iload h hx rfl hd hl hr
  case lload_n k => obtain ⟨rfl, hp1⟩ := ck_inv hp; obtain ⟨v, hl, hp2⟩ := gl_inv hp1; cases hp2; exact XT.lloadN h hx rfl hd hl hr
  case lload k => obtain ⟨rfl, hp1⟩ := ck_inv hp; obtain ⟨v, hl, hp2⟩ := gl_inv hp1; cases hp2; exact XT.lload h hx rfl hd hl hr
  case aload_n k => obtain ⟨rfl, hp1⟩ := ck_inv hp; obtain ⟨v, hl, hv, hp2⟩ := gr_inv hp1; cases hp2; exact XS.aloadN h hx rfl hd hl hv hr
  case aload k => obtain ⟨rfl, hp1⟩ := ck_inv hp; obtain ⟨v, hl, hv, hp2⟩ := gr_inv hp1; cases hp2; exact XS.aload h hx rfl hd hl hv hr
  case iconst i => obtain ⟨rfl, hp1⟩ := ck_inv hp; cases hp1; exact XS.iconst h hx rfl hd hr
  case lconst i => obtain ⟨rfl, hp1⟩ := ck_inv hp; cases hp1; exact XT.lconst h hx rfl hd hr
  case bipush i => obtain ⟨rfl, hp1⟩ := ck_inv hp; cases hp1; exact XS.bipush h hx rfl hd hr
  case sipush i => obtain ⟨rfl, hp1⟩ := ck_inv hp; cases hp1; exact XS.sipush h hx rfl hd hr
  case aconst_null => obtain ⟨rfl, hp1⟩ := ck_inv hp; cases hp1; exact XS.aconstNull h hx rfl hd hr
  case iadd => obtain ⟨rfl, hp1⟩ := ck_inv hp; obtain ⟨x, y, S', rfl, hp2⟩ := i2_inv hp1; cases hp2; exact XS.iadd h hx rfl hd rfl hr
  case isub => obtain ⟨rfl, hp1⟩ := ck_inv hp; obtain ⟨x, y, S', rfl, hp2⟩ := i2_inv hp1; cases hp2; exact XS.isub h hx rfl hd rfl hr
  case imul => obtain ⟨rfl, hp1⟩ := ck_inv hp; obtain ⟨x, y, S', rfl, hp2⟩ := i2_inv hp1; cases hp2; exact XS.imul h hx rfl hd rfl hr
  case iand => obtain ⟨rfl, hp1⟩ := ck_inv hp; obtain ⟨x, y, S', rfl, hp2⟩ := i2_inv hp1; cases hp2; exact XS.iand h hx rfl hd rfl hr
  case ior => obtain ⟨rfl, hp1⟩ := ck_inv hp; obtain ⟨x, y, S', rfl, hp2⟩ := i2_inv hp1; cases hp2; exact XT.ior h hx rfl hd rfl hr
  case ixor => obtain ⟨rfl, hp1⟩ := ck_inv hp; obtain ⟨x, y, S', rfl, hp2⟩ := i2_inv hp1; cases hp2; exact XT.ixor h hx rfl hd rfl hr
  case ishl => obtain ⟨rfl, hp1⟩ := ck_inv hp; obtain ⟨x, y, S', rfl, hp2⟩ := i2_inv hp1; cases hp2; exact XT.ishl h hx rfl hd rfl hr
  case ishr => obtain ⟨rfl, hp1⟩ := ck_inv hp; obtain ⟨x, y, S', rfl, hp2⟩ := i2_inv hp1; cases hp2; exact XT.ishr h hx rfl hd rfl hr
  case iushr => obtain ⟨rfl, hp1⟩ := ck_inv hp; obtain ⟨x, y, S', rfl, hp2⟩ := i2_inv hp1; cases hp2; exact XT.iushr h hx rfl hd rfl hr
  case irem => obtain ⟨rfl, hp1⟩ := ck_inv hp; obtain ⟨x, y, S', rfl, hp2⟩ := i2_inv hp1; obtain ⟨hy, hp3⟩ := ck_inv hp2; cases hp3; exact XS.irem h hx rfl hd rfl hy (by rw [irem_eq_mod]; exact hr)
  case idiv => obtain ⟨rfl, hp1⟩ := ck_inv hp; obtain ⟨x, y, S', rfl, hp2⟩ := i2_inv hp1; obtain ⟨hy, hp3⟩ := ck_inv hp2; cases hp3; exact XS.idiv h hx rfl hd rfl hy hr
  case ineg => obtain ⟨rfl, hp1⟩ := ck_inv hp; obtain ⟨x, S', rfl, hp2⟩ := i1_inv hp1; cases hp2; exact XS.ineg h hx rfl hd rfl hr
  case ladd => obtain ⟨rfl, hp1⟩ := ck_inv hp; obtain ⟨x, y, S', rfl, hp2⟩ := l2_inv hp1; cases hp2; exact XT.ladd h hx rfl hd rfl hr
  case lsub => obtain ⟨rfl, hp1⟩ := ck_inv hp; obtain ⟨x, y, S', rfl, hp2⟩ := l2_inv hp1; cases hp2; exact XT.lsub h hx rfl hd rfl hr
  case lmul => obtain ⟨rfl, hp1⟩ := ck_inv hp; obtain ⟨x, y, S', rfl, hp2⟩ := l2_inv hp1; cases hp2; exact XT.lmul h hx rfl hd rfl hr
  case land => obtain ⟨rfl, hp1⟩ := ck_inv hp; obtain ⟨x, y, S', rfl, hp2⟩ := l2_inv hp1; cases hp2; exact XT.land h hx rfl hd rfl hr
  case lor => obtain ⟨rfl, hp1⟩ := ck_inv hp; obtain ⟨x, y, S', rfl, hp2⟩ := l2_inv hp1; cases hp2; exact XT.lor h hx rfl hd rfl hr
  case lxor => obtain ⟨rfl, hp1⟩ := ck_inv hp; obtain ⟨x, y, S', rfl, hp2⟩ := l2_inv hp1; cases hp2; exact XT.lxor h hx rfl hd rfl hr
  case lushr => obtain ⟨rfl, hp1⟩ := ck_inv hp; obtain ⟨x, y, S', rfl, hp2⟩ := il2_inv hp1; cases hp2; exact XT.lushr h hx rfl hd rfl hr
  case lshr => obtain ⟨rfl, hp1⟩ := ck_inv hp; obtain ⟨x, y, S', rfl, hp2⟩ := il2_inv hp1; cases hp2; exact XT.lshr h hx rfl hd rfl hr
  case lshl => obtain ⟨rfl, hp1⟩ := ck_inv hp; obtain ⟨x, y, S', rfl, hp2⟩ := il2_inv hp1; cases hp2; exact XT.lshl h hx rfl hd rfl hr
  case ldiv => obtain ⟨rfl, hp1⟩ := ck_inv hp; obtain ⟨x, y, S', rfl, hp2⟩ := l2_inv hp1; obtain ⟨hy, hp3⟩ := ck_inv hp2; cases hp3; exact XT.ldiv h hx rfl hd rfl hy hr
  case lrem => obtain ⟨rfl, hp1⟩ := ck_inv hp; obtain ⟨x, y, S', rfl, hp2⟩ := l2_inv hp1; obtain ⟨hy, hp3⟩ := ck_inv hp2; cases hp3; exact XT.lrem h hx rfl hd rfl hy (by rw [lrem_mod]; exact hr)
  case lcmp => obtain ⟨rfl, hp1⟩ := ck_inv hp; obtain ⟨x, y, S', rfl, hp2⟩ := l2_inv hp1; cases hp2; exact XT.lcmp h hx rfl hd rfl hr
  case lneg => obtain ⟨rfl, hp1⟩ := ck_inv hp; obtain ⟨x, S', rfl, hp2⟩ := l1_inv hp1; cases hp2; exact XT.lneg h hx rfl hd rfl hr
  case i2l => obtain ⟨rfl, hp1⟩ := ck_inv hp; obtain ⟨x, S', rfl, hp2⟩ := i1_inv hp1; cases hp2; exact XT.i2l h hx rfl hd rfl hr
  case l2i => obtain ⟨rfl, hp1⟩ := ck_inv hp; obtain ⟨x, S', rfl, hp2⟩ := l1_inv hp1; cases hp2; exact XT.l2i h hx rfl hd rfl hr
  case i2b => obtain ⟨rfl, hp1⟩ := ck_inv hp; obtain ⟨x, S', rfl, hp2⟩ := i1_inv hp1; cases hp2; exact XT.i2b h hx rfl hd rfl hr
  case i2c => obtain ⟨rfl, hp1⟩ := ck_inv hp; obtain ⟨x, S', rfl, hp2⟩ := i1_inv hp1; cases hp2; exact XT.i2c h hx rfl hd rfl hr
  case istore_n k => obtain ⟨rfl, hp1⟩ := ck_inv hp; obtain ⟨x, S', rfl, hp2⟩ := i1_inv hp1; obtain ⟨L1, hl, rfl⟩ := st_inv hp2; exact XS.istoreN h hx rfl hd rfl hl hr
  case istore k => obtain ⟨rfl, hp1⟩ := ck_inv hp; obtain ⟨x, S', rfl, hp2⟩ := i1_inv hp1; obtain ⟨L1, hl, rfl⟩ := st_inv hp2; exact XS.istore h hx rfl hd rfl hl hr
  case lstore_n k => obtain ⟨rfl, hp1⟩ := ck_inv hp; obtain ⟨x, S', rfl, hp2⟩ := l1_inv hp1; obtain ⟨L1, hl, rfl⟩ := st_inv hp2; exact XT.lstoreN h hx rfl hd rfl hl hr
  case lstore k => obtain ⟨rfl, hp1⟩ := ck_inv hp; obtain ⟨x, S', rfl, hp2⟩ := l1_inv hp1; obtain ⟨L1, hl, rfl⟩ := st_inv hp2; exact XT.lstore h hx rfl hd rfl hl hr
  case astore_n k => obtain ⟨rfl, hp1⟩ := ck_inv hp; obtain ⟨x, S', rfl, hp2⟩ := v1_inv hp1; obtain ⟨hv, hp3⟩ := ck_inv hp2; obtain ⟨L1, hl, rfl⟩ := st_inv hp3; exact XS.astoreN h hx rfl hd rfl hv hl hr
  case astore k => obtain ⟨rfl, hp1⟩ := ck_inv hp; obtain ⟨x, S', rfl, hp2⟩ := v1_inv hp1; obtain ⟨hv, hp3⟩ := ck_inv hp2; obtain ⟨L1, hl, rfl⟩ := st_inv hp3; exact XS.astore h hx rfl hd rfl hv hl hr
  case iinc k i => obtain ⟨rfl, hp1⟩ := ck_inv hp; obtain ⟨v, hl, hp2⟩ := gi_inv hp1; obtain ⟨L1, hl', rfl⟩ := st_inv hp2; exact XS.iinc h hx rfl hd hl hl' hr
  case dup => obtain ⟨rfl, hp1⟩ := ck_inv hp; obtain ⟨x, S', rfl, hp2⟩ := v1_inv hp1; obtain ⟨hc, hp3⟩ := ck_inv hp2; cases hp3; exact XS.dup h hx rfl hd rfl hc hr
  case dup_x1 => obtain ⟨rfl, hp1⟩ := ck_inv hp; obtain ⟨y, x, S', rfl, hp2⟩ := v2_inv hp1; obtain ⟨hc, hp3⟩ := ck_inv hp2; cases hp3; exact XT.dupX1 h hx rfl hd rfl hc.1 hc.2 hr
  case pop => obtain ⟨rfl, hp1⟩ := ck_inv hp; obtain ⟨x, S', rfl, hp2⟩ := v1_inv hp1; obtain ⟨hc, hp3⟩ := ck_inv hp2; cases hp3; exact XT.pop h hx rfl hd rfl hc hr
  case goto o => obtain ⟨⟨rfl, ho⟩, hp1⟩ := ck_inv hp; cases hp1; exact XS.goto h hx rfl (pc0 := pc) rfl hd ho rfl hr
/-- a straight road: each row a pc, its instruction, its length -/
def run : List (Nat × Instr × Nat) → Fm → Option Fm
  | [], F => some F
  | (q, i, n) :: r, F => if q = F.1 then (p1 i n F.1 F.2.1 F.2.2).bind (run r) else none
theorem run_cons {q : Nat} {i : Instr} {n : Nat} {r : List (Nat × Instr × Nat)} {F F' : Fm} (hp : run ((q, i, n) :: r) F = some F') : q = F.1 ∧ ∃ F1, p1 i n F.1 F.2.1 F.2.2 = some F1 ∧ run r F1 = some F' := by
  have hp' : (if q = F.1 then (p1 i n F.1 F.2.1 F.2.2).bind (run r) else none) = some F' := hp
  by_cases hq : q = F.1
  · rw [if_pos hq] at hp'
    exact ⟨hq, Option.bind_eq_some_iff.mp hp'⟩
  · rw [if_neg hq] at hp'
    exact nomatch hp'
theorem run_sound {tb : Tables} [Ours tb] {e : Env} {below : List Frame} {T target : State} {m : MethodId} {c : Code} (h : At T m c below) (hx : tb.exec = Jvm.exec) : ∀ (seg : List (Nat × Instr × Nat)) (F F' : Fm),
    (∀ x ∈ seg, decode c.code x.1 = .ok x.2) → run seg F = some F' → Steps tb e below (T.setTop (mkF m F'.1 F'.2.1 F'.2.2)) target → Steps tb e below (T.setTop (mkF m F.1 F.2.1 F.2.2)) target := by
  intro seg
  induction seg with
  | nil => intro F F' _ hp hr; cases hp; exact hr
  | cons a r ih =>
    intro F F' hd hp hr
    obtain ⟨q, i, n⟩ := a
    obtain ⟨hq, F1, h1, h2⟩ := run_cons hp
    have hd0 := hd _ (List.mem_cons_self ..)
    rw [show ((q, i, n) : Nat × Instr × Nat).1 = q from rfl, hq] at hd0
    exact p1_sound h hx hd0 h1 (ih F1 F' (fun x hm => hd x (List.mem_cons_of_mem _ hm)) h2 hr)
theorem ef_of {m : MethodId} {args : Array Value} {n : Nat} {Ls : Array Slot} (h : Jvm.Sym.laidSlots args.toList ++ List.replicate (n - (Jvm.Sym.laidSlots args.toList).length) .unset = Ls.toList) : entryFrame m args n = mkF m 0 Ls [] := by
  have : argsToLocals args n = Ls := Array.toList_inj.mp (by rw [Jvm.Sym.argsToLocals_toList]; exact h)
  unfold entryFrame
  rw [this]
theorem lb {a b : Nat} (h : Nat.ble a b = true) : a ≤ b := Nat.le_of_ble_eq_true h
theorem tw {tbl : List Jvm.Cond} {c : Jvm.Cond} (i : Nat) (h : tbl[i]? = some c) : c ∈ tbl := List.mem_of_getElem? h
/-! ## 2. The walk's standing: G -/
section G
variable {l : Launch} {Z : State} {a0 : Array Value} {EL : List (String × Nat)} {tbl : List Jvm.Cond} {n0 : Nat} {code : ByteArray} {maxL : Nat} {ret : Option FieldType} {R : Room} {own mname : String} {Q : Option Value → Heap → Prop} {h h' h1 h2 : Heap} {cells slots pc : Nat} {L : Array Slot} {S : List Value}
def Pos (l : Launch) (Z : State) (a0 : Array Value) (EL : List (String × Nat)) (tbl : List Jvm.Cond) (n0 : Nat) (code : ByteArray) (maxL : Nat) (ret : Option FieldType) (R : Room) (own mname : String) (h : Heap) (cells slots : Nat)
    (p : Program) (e : Env) (s : State) (m : MethodId) (args : Array Value) (below : List Frame) (meth : Method) (c : Code) (T : State) (vm0 : Vm) (k0 : Nat) (locs : List Loc) : Prop :=
  p.tables.exec = Jvm.exec ∧ c.code = code ∧ c.maxLocals = maxL ∧ meth.sig.returnType = ret ∧ meth.locks = false ∧ meth.name = mname ∧ EW Z a0 EL ∧ (∀ d ∈ tbl, d.before a0 Z = true) ∧
  Stand p l e R (s.setVm vm0) m args below meth c T locs cells slots ∧ T.heap = h ∧ s.Since vm0 k0 ∧ k0 ≤ h.size ∧ Z.Warmed39 vm0 ∧ vm0.findClass own = some m.cls ∧ Fr n0 locs ∧ CHr Z EL s.vm s.heap vm0 h ∧ Old Z n0 h ∧ (EL = [] → s.WarmedH vm0)
def End (Z : State) (EL : List (String × Nat)) (n0 : Nat) (R : Room) (Q : Option Value → Heap → Prop) (s : State) (o : Outcome) (t : State) : Prop :=
  ∃ v L', o = .returned v ∧ (Fr n0 L' ∧ Old Z n0 t.heap ∧ Q v t.heap) ∧ CHr Z EL s.vm s.heap t.vm t.heap ∧ ReturnedEndW s o t L' R.cells R.slots ∧ (EL = [] → s.WarmedH t.vm)
/-- from here the walk comes to its end, and Q holds there -/
def G (l : Launch) (Z : State) (a0 : Array Value) (EL : List (String × Nat)) (tbl : List Jvm.Cond) (n0 : Nat) (code : ByteArray) (maxL : Nat) (ret : Option FieldType) (R : Room) (own mname : String) (Q : Option Value → Heap → Prop)
    (h : Heap) (cells slots pc : Nat) (L : Array Slot) (S : List Value) : Prop :=
  ∀ p e s m args below meth c T vm0 k0 locs, Pos l Z a0 EL tbl n0 code maxL ret R own mname h cells slots p e s m args below meth c T vm0 k0 locs →
    ∃ s₂ o, Steps p.tables e below (T.setTop (mkF m pc L S)) s₂ ∧ s₂.status = .running ∧ Ended s₂ below o ∧ End Z EL n0 R Q s o s₂
theorem back_steps {p : Program} {e : Env} {below : List Frame} {A B : State} {P : State → Outcome → Prop} (st : ∀ t, Steps p.tables e below B t → Steps p.tables e below A t)
    (k : ∃ s₂ o, Steps p.tables e below B s₂ ∧ s₂.status = .running ∧ Ended s₂ below o ∧ P s₂ o) : ∃ s₂ o, Steps p.tables e below A s₂ ∧ s₂.status = .running ∧ Ended s₂ below o ∧ P s₂ o := by
  obtain ⟨s₂, o, h1, h2⟩ := k; exact ⟨s₂, o, st _ h1, h2⟩
theorem G.seg (seg : List (Nat × Instr × Nat)) (hdec : ∀ x ∈ seg, decode code x.1 = .ok x.2) {pc' : Nat} {L' : Array Slot} {S' : List Value} (hrun : run seg (pc, L, S) = some (pc', L', S'))
    (k : G l Z a0 EL tbl n0 code maxL ret R own mname Q h cells slots pc' L' S') : G l Z a0 EL tbl n0 code maxL ret R own mname Q h cells slots pc L S := by
  intro p e s m args below meth c T vm0 k0 locs P
  obtain ⟨hx, hby, -, -, -, -, -, -, X, -⟩ := id P
  exact back_steps (fun t ht => run_sound X.here hx seg (pc, L, S) (pc', L', S') (fun x hm => hb hby (hdec x hm)) hrun ht) (k p e s m args below meth c T vm0 k0 locs P)
theorem G.more {cells' slots' : Nat} (hc : cells ≤ cells') (hs : slots ≤ slots') (k : G l Z a0 EL tbl n0 code maxL ret R own mname Q h cells' slots' pc L S) : G l Z a0 EL tbl n0 code maxL ret R own mname Q h cells slots pc L S := by
  intro p e s m args below meth c T vm0 k0 locs P
  obtain ⟨h1, h2, h3, h4, h5, h6, h7, h8, X, r⟩ := P
  exact k p e s m args below meth c T vm0 k0 locs ⟨h1, h2, h3, h4, h5, h6, h7, h8, X.mono hc hs, r⟩
/-- a place where roads meet: proved once -/
theorem G.join {α : Type} (P : α → Prop) (J : α → Heap × Nat × Nat × Nat × Array Slot × List Value)
    (k : (∀ x, P x → G l Z a0 EL tbl n0 code maxL ret R own mname Q (J x).1 (J x).2.1 (J x).2.2.1 (J x).2.2.2.1 (J x).2.2.2.2.1 (J x).2.2.2.2.2) → G l Z a0 EL tbl n0 code maxL ret R own mname Q h cells slots pc L S)
    (hj : ∀ x, P x → G l Z a0 EL tbl n0 code maxL ret R own mname Q (J x).1 (J x).2.1 (J x).2.2.1 (J x).2.2.2.1 (J x).2.2.2.2.1 (J x).2.2.2.2.2) : G l Z a0 EL tbl n0 code maxL ret R own mname Q h cells slots pc L S := k hj
/-! branches -/
theorem G.if0 {cd : ClassFile.Cond} {o : Int} {x : Int32} {pc' : Nat} (hd : decode code pc = .ok (.ifCond cd o, 3)) (ho : 0 ≤ (pc : Int) + o) (hp : ((pc : Int) + o).toNat = pc')
    (ky : ifCond.holds cd x = true → G l Z a0 EL tbl n0 code maxL ret R own mname Q h cells slots pc' L S) (kn : ifCond.holds cd x = false → G l Z a0 EL tbl n0 code maxL ret R own mname Q h cells slots (pc + 3) L S) :
    G l Z a0 EL tbl n0 code maxL ret R own mname Q h cells slots pc L (.int x :: S) := by
  intro p e s m args below meth c T vm0 k0 locs P
  obtain ⟨hx, hby, -, -, -, -, -, -, X, -⟩ := id P
  cases hc : ifCond.holds cd x
  · exact back_steps (fun t ht => XS.ifNo X.here hx rfl (hb hby hd) rfl hc ht) (kn hc p e s m args below meth c T vm0 k0 locs P)
  · exact back_steps (fun t ht => XS.ifYes X.here hx rfl (pc0 := pc) rfl (hb hby hd) rfl hc ho hp ht) (ky hc p e s m args below meth c T vm0 k0 locs P)
theorem G.icmp {cd : ClassFile.Cond} {o : Int} {x y : Int32} {pc' : Nat} (hd : decode code pc = .ok (.if_icmp cd o, 3)) (ho : 0 ≤ (pc : Int) + o) (hp : ((pc : Int) + o).toNat = pc')
    (ky : if_icmp.holds cd x y = true → G l Z a0 EL tbl n0 code maxL ret R own mname Q h cells slots pc' L S) (kn : if_icmp.holds cd x y = false → G l Z a0 EL tbl n0 code maxL ret R own mname Q h cells slots (pc + 3) L S) :
    G l Z a0 EL tbl n0 code maxL ret R own mname Q h cells slots pc L (.int y :: .int x :: S) := by
  intro p e s m args below meth c T vm0 k0 locs P
  obtain ⟨hx, hby, -, -, -, -, -, -, X, -⟩ := id P
  cases hc : if_icmp.holds cd x y
  · exact back_steps (fun t ht => XS.icmpNo X.here hx rfl (hb hby hd) rfl hc ht) (kn hc p e s m args below meth c T vm0 k0 locs P)
  · exact back_steps (fun t ht => XS.icmpYes X.here hx rfl (pc0 := pc) rfl (hb hby hd) rfl hc ho hp ht) (ky hc p e s m args below meth c T vm0 k0 locs P)
theorem G.ifeq {o : Int} {x : Int32} {pc' : Nat} (hd : decode code pc = .ok (.ifCond .eq o, 3)) (ho : 0 ≤ (pc : Int) + o) (hp : ((pc : Int) + o).toNat = pc')
    (ky : x = 0 → G l Z a0 EL tbl n0 code maxL ret R own mname Q h cells slots pc' L S) (kn : ¬ x = 0 → G l Z a0 EL tbl n0 code maxL ret R own mname Q h cells slots (pc + 3) L S) : G l Z a0 EL tbl n0 code maxL ret R own mname Q h cells slots pc L (.int x :: S) := by
  by_cases z : x = 0
  · exact G.if0 (cd := .eq) hd ho hp (fun _ => ky z) (fun q => absurd q (by rw [XT.i0_eq_t z]; decide))
  · exact G.if0 (cd := .eq) hd ho hp (fun q => absurd q (by rw [XT.i0_eq_f z]; decide)) (fun _ => kn z)
theorem G.ifne {o : Int} {x : Int32} {pc' : Nat} (hd : decode code pc = .ok (.ifCond .ne o, 3)) (ho : 0 ≤ (pc : Int) + o) (hp : ((pc : Int) + o).toNat = pc')
    (ky : ¬ x = 0 → G l Z a0 EL tbl n0 code maxL ret R own mname Q h cells slots pc' L S) (kn : x = 0 → G l Z a0 EL tbl n0 code maxL ret R own mname Q h cells slots (pc + 3) L S) : G l Z a0 EL tbl n0 code maxL ret R own mname Q h cells slots pc L (.int x :: S) := by
  by_cases z : x = 0
  · exact G.if0 (cd := .ne) hd ho hp (fun q => absurd q (by rw [XT.i0_ne_f z]; decide)) (fun _ => kn z)
  · exact G.if0 (cd := .ne) hd ho hp (fun _ => ky z) (fun q => absurd q (by rw [XT.i0_ne_t z]; decide))
theorem G.iflt {o : Int} {x : Int32} {pc' : Nat} (hd : decode code pc = .ok (.ifCond .lt o, 3)) (ho : 0 ≤ (pc : Int) + o) (hp : ((pc : Int) + o).toNat = pc')
    (ky : x < 0 → G l Z a0 EL tbl n0 code maxL ret R own mname Q h cells slots pc' L S) (kn : ¬ x < 0 → G l Z a0 EL tbl n0 code maxL ret R own mname Q h cells slots (pc + 3) L S) : G l Z a0 EL tbl n0 code maxL ret R own mname Q h cells slots pc L (.int x :: S) := by
  by_cases z : x < 0
  · exact G.if0 (cd := .lt) hd ho hp (fun _ => ky z) (fun q => absurd q (by rw [XT.i0_lt_t z]; decide))
  · exact G.if0 (cd := .lt) hd ho hp (fun q => absurd q (by rw [XT.i0_lt_f z]; decide)) (fun _ => kn z)
theorem G.ifge {o : Int} {x : Int32} {pc' : Nat} (hd : decode code pc = .ok (.ifCond .ge o, 3)) (ho : 0 ≤ (pc : Int) + o) (hp : ((pc : Int) + o).toNat = pc')
    (ky : ¬ x < 0 → G l Z a0 EL tbl n0 code maxL ret R own mname Q h cells slots pc' L S) (kn : x < 0 → G l Z a0 EL tbl n0 code maxL ret R own mname Q h cells slots (pc + 3) L S) : G l Z a0 EL tbl n0 code maxL ret R own mname Q h cells slots pc L (.int x :: S) := by
  by_cases z : x < 0
  · exact G.if0 (cd := .ge) hd ho hp (fun q => absurd q (by rw [XT.i0_ge_f z]; decide)) (fun _ => kn z)
  · exact G.if0 (cd := .ge) hd ho hp (fun _ => ky z) (fun q => absurd q (by rw [XT.i0_ge_t z]; decide))
theorem G.ifgt {o : Int} {x : Int32} {pc' : Nat} (hd : decode code pc = .ok (.ifCond .gt o, 3)) (ho : 0 ≤ (pc : Int) + o) (hp : ((pc : Int) + o).toNat = pc')
    (ky : 0 < x → G l Z a0 EL tbl n0 code maxL ret R own mname Q h cells slots pc' L S) (kn : ¬ 0 < x → G l Z a0 EL tbl n0 code maxL ret R own mname Q h cells slots (pc + 3) L S) : G l Z a0 EL tbl n0 code maxL ret R own mname Q h cells slots pc L (.int x :: S) := by
  by_cases z : 0 < x
  · exact G.if0 (cd := .gt) hd ho hp (fun _ => ky z) (fun q => absurd q (by rw [XT.i0_gt_t z]; decide))
  · exact G.if0 (cd := .gt) hd ho hp (fun q => absurd q (by rw [XT.i0_gt_f z]; decide)) (fun _ => kn z)
theorem G.ifle {o : Int} {x : Int32} {pc' : Nat} (hd : decode code pc = .ok (.ifCond .le o, 3)) (ho : 0 ≤ (pc : Int) + o) (hp : ((pc : Int) + o).toNat = pc')
    (ky : ¬ 0 < x → G l Z a0 EL tbl n0 code maxL ret R own mname Q h cells slots pc' L S) (kn : 0 < x → G l Z a0 EL tbl n0 code maxL ret R own mname Q h cells slots (pc + 3) L S) : G l Z a0 EL tbl n0 code maxL ret R own mname Q h cells slots pc L (.int x :: S) := by
  by_cases z : 0 < x
  · exact G.if0 (cd := .le) hd ho hp (fun q => absurd q (by rw [XT.i0_le_f z]; decide)) (fun _ => kn z)
  · exact G.if0 (cd := .le) hd ho hp (fun _ => ky z) (fun q => absurd q (by rw [XT.i0_le_t z]; decide))
theorem G.iceq {o : Int} {x y : Int32} {pc' : Nat} (hd : decode code pc = .ok (.if_icmp .eq o, 3)) (ho : 0 ≤ (pc : Int) + o) (hp : ((pc : Int) + o).toNat = pc')
    (ky : x = y → G l Z a0 EL tbl n0 code maxL ret R own mname Q h cells slots pc' L S) (kn : ¬ x = y → G l Z a0 EL tbl n0 code maxL ret R own mname Q h cells slots (pc + 3) L S) : G l Z a0 EL tbl n0 code maxL ret R own mname Q h cells slots pc L (.int y :: .int x :: S) := by
  by_cases z : x = y
  · exact G.icmp (cd := .eq) hd ho hp (fun _ => ky z) (fun q => absurd q (by rw [XT.ii_eq_t z]; decide))
  · exact G.icmp (cd := .eq) hd ho hp (fun q => absurd q (by rw [XT.ii_eq_f z]; decide)) (fun _ => kn z)
theorem G.icne {o : Int} {x y : Int32} {pc' : Nat} (hd : decode code pc = .ok (.if_icmp .ne o, 3)) (ho : 0 ≤ (pc : Int) + o) (hp : ((pc : Int) + o).toNat = pc')
    (ky : ¬ x = y → G l Z a0 EL tbl n0 code maxL ret R own mname Q h cells slots pc' L S) (kn : x = y → G l Z a0 EL tbl n0 code maxL ret R own mname Q h cells slots (pc + 3) L S) : G l Z a0 EL tbl n0 code maxL ret R own mname Q h cells slots pc L (.int y :: .int x :: S) := by
  by_cases z : x = y
  · exact G.icmp (cd := .ne) hd ho hp (fun q => absurd q (by rw [XT.ii_ne_f z]; decide)) (fun _ => kn z)
  · exact G.icmp (cd := .ne) hd ho hp (fun _ => ky z) (fun q => absurd q (by rw [XT.ii_ne_t z]; decide))
theorem G.iclt {o : Int} {x y : Int32} {pc' : Nat} (hd : decode code pc = .ok (.if_icmp .lt o, 3)) (ho : 0 ≤ (pc : Int) + o) (hp : ((pc : Int) + o).toNat = pc')
    (ky : x < y → G l Z a0 EL tbl n0 code maxL ret R own mname Q h cells slots pc' L S) (kn : ¬ x < y → G l Z a0 EL tbl n0 code maxL ret R own mname Q h cells slots (pc + 3) L S) : G l Z a0 EL tbl n0 code maxL ret R own mname Q h cells slots pc L (.int y :: .int x :: S) := by
  by_cases z : x < y
  · exact G.icmp (cd := .lt) hd ho hp (fun _ => ky z) (fun q => absurd q (by rw [XT.ii_lt_t z]; decide))
  · exact G.icmp (cd := .lt) hd ho hp (fun q => absurd q (by rw [XT.ii_lt_f z]; decide)) (fun _ => kn z)
theorem G.icge {o : Int} {x y : Int32} {pc' : Nat} (hd : decode code pc = .ok (.if_icmp .ge o, 3)) (ho : 0 ≤ (pc : Int) + o) (hp : ((pc : Int) + o).toNat = pc')
    (ky : ¬ x < y → G l Z a0 EL tbl n0 code maxL ret R own mname Q h cells slots pc' L S) (kn : x < y → G l Z a0 EL tbl n0 code maxL ret R own mname Q h cells slots (pc + 3) L S) : G l Z a0 EL tbl n0 code maxL ret R own mname Q h cells slots pc L (.int y :: .int x :: S) := by
  by_cases z : x < y
  · exact G.icmp (cd := .ge) hd ho hp (fun q => absurd q (by rw [XT.ii_ge_f z]; decide)) (fun _ => kn z)
  · exact G.icmp (cd := .ge) hd ho hp (fun _ => ky z) (fun q => absurd q (by rw [XT.ii_ge_t z]; decide))
theorem G.icgt {o : Int} {x y : Int32} {pc' : Nat} (hd : decode code pc = .ok (.if_icmp .gt o, 3)) (ho : 0 ≤ (pc : Int) + o) (hp : ((pc : Int) + o).toNat = pc')
    (ky : y < x → G l Z a0 EL tbl n0 code maxL ret R own mname Q h cells slots pc' L S) (kn : ¬ y < x → G l Z a0 EL tbl n0 code maxL ret R own mname Q h cells slots (pc + 3) L S) : G l Z a0 EL tbl n0 code maxL ret R own mname Q h cells slots pc L (.int y :: .int x :: S) := by
  by_cases z : y < x
  · exact G.icmp (cd := .gt) hd ho hp (fun _ => ky z) (fun q => absurd q (by rw [XT.ii_gt_t z]; decide))
  · exact G.icmp (cd := .gt) hd ho hp (fun q => absurd q (by rw [XT.ii_gt_f z]; decide)) (fun _ => kn z)
theorem G.icle {o : Int} {x y : Int32} {pc' : Nat} (hd : decode code pc = .ok (.if_icmp .le o, 3)) (ho : 0 ≤ (pc : Int) + o) (hp : ((pc : Int) + o).toNat = pc')
    (ky : ¬ y < x → G l Z a0 EL tbl n0 code maxL ret R own mname Q h cells slots pc' L S) (kn : y < x → G l Z a0 EL tbl n0 code maxL ret R own mname Q h cells slots (pc + 3) L S) : G l Z a0 EL tbl n0 code maxL ret R own mname Q h cells slots pc L (.int y :: .int x :: S) := by
  by_cases z : y < x
  · exact G.icmp (cd := .le) hd ho hp (fun q => absurd q (by rw [XT.ii_le_f z]; decide)) (fun _ => kn z)
  · exact G.icmp (cd := .le) hd ho hp (fun _ => ky z) (fun q => absurd q (by rw [XT.ii_le_t z]; decide))
theorem G.nulljmp {o : Int} {w : Value} {pc' : Nat} (hw : w.isRef = true) (hd : decode code pc = .ok (.ifnull o, 3)) (ho : 0 ≤ (pc : Int) + o) (hp : ((pc : Int) + o).toNat = pc')
    (ky : w = .null → G l Z a0 EL tbl n0 code maxL ret R own mname Q h cells slots pc' L S) (kn : ¬ w = .null → G l Z a0 EL tbl n0 code maxL ret R own mname Q h cells slots (pc + 3) L S) : G l Z a0 EL tbl n0 code maxL ret R own mname Q h cells slots pc L (w :: S) := by
  intro p e s m args below meth c T vm0 k0 locs P
  obtain ⟨hx, hby, -, -, -, -, -, -, X, -⟩ := id P
  rcases ref_cases hw with rfl | ⟨a, rfl⟩
  · exact back_steps (fun t ht => XS.ifnullYes X.here hx rfl (pc0 := pc) rfl (hb hby hd) rfl ho hp ht) (ky rfl p e s m args below meth c T vm0 k0 locs P)
  · exact back_steps (fun t ht => XS.ifnullNo X.here hx rfl (hb hby hd) rfl ht) (kn (fun q => nomatch q) p e s m args below meth c T vm0 k0 locs P)
theorem G.nonnulljmp {o : Int} {w : Value} {pc' : Nat} (hw : w.isRef = true) (hd : decode code pc = .ok (.ifnonnull o, 3)) (ho : 0 ≤ (pc : Int) + o) (hp : ((pc : Int) + o).toNat = pc')
    (ky : ¬ w = .null → G l Z a0 EL tbl n0 code maxL ret R own mname Q h cells slots pc' L S) (kn : w = .null → G l Z a0 EL tbl n0 code maxL ret R own mname Q h cells slots (pc + 3) L S) : G l Z a0 EL tbl n0 code maxL ret R own mname Q h cells slots pc L (w :: S) := by
  intro p e s m args below meth c T vm0 k0 locs P
  obtain ⟨hx, hby, -, -, -, -, -, -, X, -⟩ := id P
  rcases ref_cases hw with rfl | ⟨a, rfl⟩
  · exact back_steps (fun t ht => XT.ifnonnullNo X.here hx rfl (hb hby hd) rfl ht) (kn rfl p e s m args below meth c T vm0 k0 locs P)
  · exact back_steps (fun t ht => XT.ifnonnullYes X.here hx rfl (pc0 := pc) rfl (hb hby hd) rfl ho hp ht) (ky (fun q => nomatch q) p e s m args below meth c T vm0 k0 locs P)
theorem G.acne {o : Int} {x y : Value} {pc' : Nat} (hx1 : x.isRef = true) (hy1 : y.isRef = true) (hd : decode code pc = .ok (.if_acmp .ne o, 3)) (ho : 0 ≤ (pc : Int) + o) (hp : ((pc : Int) + o).toNat = pc')
    (ky : ¬ x = y → G l Z a0 EL tbl n0 code maxL ret R own mname Q h cells slots pc' L S) (kn : x = y → G l Z a0 EL tbl n0 code maxL ret R own mname Q h cells slots (pc + 3) L S) : G l Z a0 EL tbl n0 code maxL ret R own mname Q h cells slots pc L (y :: x :: S) := by
  intro p e s m args below meth c T vm0 k0 locs P
  obtain ⟨hx, hby, -, -, -, -, -, -, X, -⟩ := id P
  by_cases z : x = y
  · exact back_steps (fun t ht => XT.acmpNo X.here hx rfl (hb hby hd) rfl hx1 hy1 (XT.aa_ne_f z) ht) (kn z p e s m args below meth c T vm0 k0 locs P)
  · exact back_steps (fun t ht => XT.acmpYes X.here hx rfl (pc0 := pc) rfl (hb hby hd) rfl hx1 hy1 (XT.aa_ne_t z) ho hp ht) (ky z p e s m args below meth c T vm0 k0 locs P)
theorem G.aceq {o : Int} {x y : Value} {pc' : Nat} (hx1 : x.isRef = true) (hy1 : y.isRef = true) (hd : decode code pc = .ok (.if_acmp .eq o, 3)) (ho : 0 ≤ (pc : Int) + o) (hp : ((pc : Int) + o).toNat = pc')
    (ky : x = y → G l Z a0 EL tbl n0 code maxL ret R own mname Q h cells slots pc' L S) (kn : ¬ x = y → G l Z a0 EL tbl n0 code maxL ret R own mname Q h cells slots (pc + 3) L S) : G l Z a0 EL tbl n0 code maxL ret R own mname Q h cells slots pc L (y :: x :: S) := by
  intro p e s m args below meth c T vm0 k0 locs P
  obtain ⟨hx, hby, -, -, -, -, -, -, X, -⟩ := id P
  by_cases z : x = y
  · exact back_steps (fun t ht => XT.acmpYes X.here hx rfl (pc0 := pc) rfl (hb hby hd) rfl hx1 hy1 (XT.aa_eq_t z) ho hp ht) (ky z p e s m args below meth c T vm0 k0 locs P)
  · exact back_steps (fun t ht => XT.acmpNo X.here hx rfl (hb hby hd) rfl hx1 hy1 (XT.aa_eq_f z) ht) (kn z p e s m args below meth c T vm0 k0 locs P)
/-! the heap -/
theorem safe_nil {vm : Vm} {a : Addr} (q : EL = []) : Safe Z EL vm h a := fun B => by
  obtain ⟨p, hp, -⟩ := B
  rw [q] at hp; cases hp
theorem G.new {C : String} {idx n : Nat} (hd : decode code pc = .ok (.new idx, 3)) (w1 : Jvm.Cond.classLink own idx C ∈ tbl) (w2 : Jvm.Cond.instantiable C n ∈ tbl) (w3 : Jvm.Cond.initialized C ∈ tbl) (hc : cells + 1 ≤ R.cells) (hl : slots + n ≤ R.slots)
    (k : ∀ h' a, a = h.size → n0 ≤ a → Keep h h' [] → Exa Z h' a C → (∀ {O nm d : String} {ty : FieldType}, (Jvm.Cond.lays C O nm d ∈ tbl ∨ Jvm.Cond.laysFinal C O nm d ∈ tbl) → parseFieldDescriptor d = some ty → Fld Z h' a O nm d (defaultValue ty)) → G l Z a0 EL tbl n0 code maxL ret R own mname Q h' (cells + 1) (slots + n) (pc + 3) L (.ref a :: S)) :
    G l Z a0 EL tbl n0 code maxL ret R own mname Q h cells slots pc L S := by
  intro p e s m args below meth c T vm0 k0 locs P
  obtain ⟨hx, hby, hml, hret, hlk, hnm, hEL, hw, X, eT, hS, hk, hZ, hown, N, H, O, Wm⟩ := P
  obtain ⟨T', h', X', e', E, A, D, -, st⟩ := newO X hx hZ hown (hw _ w1) (hw _ w2) (hw _ w3) eT (g := mkF m pc L S) rfl (hb hby hd) hc hl
  exact back_steps st (k h' h.size rfl (O.1 ▸ O.2.1) ((Keep.refl h []).ext E) A (fun q => D (q.imp (hw _) (hw _))) p e s m args below meth c T' vm0 k0 locs ⟨hx, hby, hml, hret, hlk, hnm, hEL, hw, X', e', hS, Nat.le_trans hk E.1, hZ, hown, N, H.trans (CHr.ext E H.1), O.ext E, Wm⟩)
theorem G.newarr {aty : ArrayType} {ty : FieldType} {n : Int32} {cap : Nat} (hty : newarray.typeOf aty = ty) (hd : decode code pc = .ok (.newarray aty, 2)) (w : Jvm.Cond.arrayClass ty ∈ tbl) (hn : ¬ n < 0) (hcap : n.toNatClampNeg ≤ cap) (hb8 : cap * 8 ≤ 536870912) (hc : cells + 1 ≤ R.cells) (hl : slots + cap ≤ R.slots)
    (k : ∀ h' a kA, a = h.size → n0 ≤ a → Keep h h' [] → Arv Z h' a kA ty n (List.replicate cap (defaultValue ty)) (defaultValue ty) → G l Z a0 EL tbl n0 code maxL ret R own mname Q h' (cells + 1) (slots + cap) (pc + 2) L (.ref a :: S)) :
    G l Z a0 EL tbl n0 code maxL ret R own mname Q h cells slots pc L (.int n :: S) := by
  subst hty
  intro p e s m args below meth c T vm0 k0 locs P
  obtain ⟨hx, hby, hml, hret, hlk, hnm, hEL, hw, X, eT, hS, hk, hZ, hown, N, H, O, Wm⟩ := P
  obtain ⟨T', h', cA, X', e', E, A, st⟩ := newP X hx hZ (hw _ w) eT (g := mkF m pc L (.int n :: S)) rfl (hb hby hd) rfl hn hcap hb8 hc hl
  exact back_steps st (k h' h.size cA rfl (O.1 ▸ O.2.1) ((Keep.refl h []).ext E) ((Arv.new A hn).pad (fun i => by simpa using pad_rep [] (defaultValue (newarray.typeOf aty)) cap i)) p e s m args below meth c T' vm0 k0 locs ⟨hx, hby, hml, hret, hlk, hnm, hEL, hw, X', e', hS, Nat.le_trans hk E.1, hZ, hown, N, H.trans (CHr.ext E H.1), O.ext E, Wm⟩)
theorem G.castore {a : Addr} {kA : ClassId} {z j x x' : Int32} {vs : List Value} {dv : Value} {i : Nat} (hd : decode code pc = .ok (.castore, 1)) (A : Arv Z h a kA .char z vs dv) (ha : n0 ≤ a) (hj : ¬ j < 0 ∧ j < z) (hi : j.toNatClampNeg = i) (hlen : i < vs.length) (hx' : nar .char x = x')
    (k : ∀ h', Keep h h' [a] → Arv Z h' a kA .char z (vs.set i (.int x')) dv → G l Z a0 EL tbl n0 code maxL ret R own mname Q h' cells slots (pc + 1) L S) :
    G l Z a0 EL tbl n0 code maxL ret R own mname Q h cells slots pc L (.int x :: .int j :: .ref a :: S) := by
  subst hx'
  intro p e s m args below meth c T vm0 k0 locs P
  obtain ⟨hx, hby, hml, hret, hlk, hnm, hEL, hw, X, eT, hS, hk, hZ, hown, N, H, O, Wm⟩ := P
  obtain ⟨cl, A1, A2, A3, A4, A5, A6⟩ := A
  obtain ⟨T', h', X', e', W, st⟩ := stC X hx hZ eT A1 (inb_of A3 hj) (g := mkF m pc L (.int x :: .int j :: .ref a :: S)) rfl rfl (hb hby hd)
  have sf : Safe Z EL vm0 h a := Safe.arr (Z := Z) hZ.alike A1 (by decide)
  exact back_steps st (k h' (Keep.of_wr W) (Arv.set A1 A2 A3 A4 A5 A6 (fits_nar_char x) W i hi hlen) p e s m args below meth c T' vm0 k0 _ ⟨hx, hby, hml, hret, hlk, hnm, hEL, hw, X', e', hS, by rw [W.size]; exact hk, hZ, hown, Fr.snoc X' N ha, H.trans (CHr.wr W sf H.1), O.wr W ha, Wm⟩)
theorem G.getF {a : Addr} {O nm d : String} {v : Value} {idx : Nat} (hd : decode code pc = .ok (.getfield idx, 3)) (w : Jvm.Cond.fieldLink own idx O nm d ∈ tbl) (F : Fld Z h a O nm d v)
    (k : G l Z a0 EL tbl n0 code maxL ret R own mname Q h cells slots (pc + 3) L (v :: S)) : G l Z a0 EL tbl n0 code maxL ret R own mname Q h cells slots pc L (.ref a :: S) := by
  intro p e s m args below meth c T vm0 k0 locs P
  obtain ⟨hx, hby, hml, hret, hlk, hnm, hEL, hw, X, eT, hS, hk, hZ, hown, N, H, O, Wm⟩ := P
  obtain ⟨T', X', e', st⟩ := Jvm.RoadKit.getF X hx hZ hown (host := "") (Or.inl (hw _ w)) Via.refl eT F (g := mkF m pc L (.ref a :: S)) rfl rfl (hb hby hd)
  exact back_steps st (k p e s m args below meth c T' vm0 k0 locs ⟨hx, hby, hml, hret, hlk, hnm, hEL, hw, X', e', hS, hk, hZ, hown, N, H, O, Wm⟩)
theorem G.putF {a : Addr} {C O nm d : String} {v old : Value} {idx kk : Nat} {ty : FieldType} (hd : decode code pc = .ok (.putfield idx, 3)) (w : Jvm.Cond.fieldLink own idx O nm d ∈ tbl) (F : Fld Z h a O nm d old) (E : Exa Z h a C)
    (wl : Jvm.Cond.lays C O nm d ∈ tbl ∨ (Jvm.Cond.laysFinal C O nm d ∈ tbl ∧ own = O ∧ mname = "<init>")) (wi : Jvm.Cond.instantiable C kk ∈ tbl) (hty : parseFieldDescriptor d = some ty) (hn : narrow ty v = v) (hf : fits ty v = true) (ha : n0 ≤ a) (hc : EL = [] ∨ (C ≠ "java/lang/String" ∧ C ≠ "[B"))
    (k : ∀ h', Wr h h' a (Jvm.RoadKit.slotOf Z O nm d) v → Keep h h' [a] → Fld Z h' a O nm d v → Exa Z h' a C → G l Z a0 EL tbl n0 code maxL ret R own mname Q h' cells slots (pc + 3) L S) :
    G l Z a0 EL tbl n0 code maxL ret R own mname Q h cells slots pc L (v :: .ref a :: S) := by
  intro p e s m args below meth c T vm0 k0 locs P
  obtain ⟨hx, hby, hml, hret, hlk, hnm, hEL, hw, X, eT, hS, hk, hZ, hown, N, H, O, Wm⟩ := P
  obtain ⟨T', h', X', e', W, st⟩ := Jvm.RoadKit.putF X hx hZ hown (host := "") (Or.inl (hw _ w)) Via.refl eT F E (wl.imp (hw _) fun q => ⟨hw _ q.1, q.2.1, hnm.trans q.2.2⟩) (hw _ wi) hty hn hf (g := mkF m pc L (v :: .ref a :: S)) rfl rfl (hb hby hd)
  have sf : Safe Z EL vm0 h a := hc.elim (fun q => safe_nil q) fun q => Safe.exa (Z := Z) hZ.alike E q.1 q.2
  exact back_steps st (k h' W (Keep.of_wr W) (F.same W) (E.wr W) p e s m args below meth c T' vm0 k0 _ ⟨hx, hby, hml, hret, hlk, hnm, hEL, hw, X', e', hS, by rw [W.size]; exact hk, hZ, hown, Fr.snoc X' N ha, H.trans (CHr.wr W sf H.1), O.wr W ha, Wm⟩)
theorem G.getS {O nm d : String} {v : Value} {idx : Nat} (hd : decode code pc = .ok (.getstatic idx, 3)) (w : Jvm.Cond.fieldLink own idx O nm d ∈ tbl) (F : Sta Z Z.heap O nm d v)
    (k : G l Z a0 EL tbl n0 code maxL ret R own mname Q h cells slots (pc + 3) L (v :: S)) : G l Z a0 EL tbl n0 code maxL ret R own mname Q h cells slots pc L S := by
  intro p e s m args below meth c T vm0 k0 locs P
  obtain ⟨hx, hby, hml, hret, hlk, hnm, hEL, hw, X, eT, hS, hk, hZ, hown, N, H, O, Wm⟩ := P
  obtain ⟨T', X', e', st⟩ := Jvm.RoadKit.getS (host := "") X hx hZ hown (hw _ w) Via.refl eT (F.ext O.2) (g := mkF m pc L S) rfl (hb hby hd)
  exact back_steps st (k p e s m args below meth c T' vm0 k0 locs ⟨hx, hby, hml, hret, hlk, hnm, hEL, hw, X', e', hS, hk, hZ, hown, N, H, O, Wm⟩)
theorem G.getSN {O nm d host : String} {v : Value} {idx : Nat} (hd : decode code pc = .ok (.getstatic idx, 3)) (w : Jvm.Cond.fieldLinkNest own idx O nm d host ∈ tbl) (F : Sta Z Z.heap O nm d v)
    (k : G l Z a0 EL tbl n0 code maxL ret R own mname Q h cells slots (pc + 3) L (v :: S)) : G l Z a0 EL tbl n0 code maxL ret R own mname Q h cells slots pc L S := by
  intro p e s m args below meth c T vm0 k0 locs P
  obtain ⟨hx, hby, hml, hret, hlk, hnm, hEL, hw, X, eT, hS, hk, hZ, hown, N, H, O, Wm⟩ := P
  obtain ⟨T', X', e', st⟩ := Jvm.RoadKit.getS2 (host := host) X hx hZ hown (Or.inr (hw _ w)) Via.refl eT (F.ext O.2) (g := mkF m pc L S) rfl (hb hby hd)
  exact back_steps st (k p e s m args below meth c T' vm0 k0 locs ⟨hx, hby, hml, hret, hlk, hnm, hEL, hw, X', e', hS, hk, hZ, hown, N, H, O, Wm⟩)
theorem G.initO {a : Addr} {idx W : Nat} (hd : decode code pc = .ok (.invokespecial idx, 3)) (w1 : Jvm.Cond.methodLink own idx Lib.objectInit ∈ tbl) (w2 : Jvm.Cond.instanceMethod Lib.objectInit ∈ tbl) (w3 : Jvm.Cond.code Lib.objectInit ⟨#[0xb1]⟩ 1 none ∈ tbl) (hsz : L.size = maxL) (hf : 1 ≤ R.frames) (hW : 2 * 0 + (S.map fun v => v.category).sum ≤ W) (hl : W + 12 ≤ R.locals)
    (k : G l Z a0 EL tbl n0 code maxL ret R own mname Q h cells slots (pc + 3) L S) : G l Z a0 EL tbl n0 code maxL ret R own mname Q h cells slots pc L (.ref a :: S) := by
  intro p e s m args below meth c T vm0 k0 locs P
  obtain ⟨hx, hby, hml, hret, hlk, hnm, hEL, hw, X, eT, hS, hk, hZ, hown, N, H, O, Wm⟩ := P
  obtain ⟨T', X', e', st⟩ := Jvm.RoadKit.initO X hx hZ hown (hw _ w1) (hw _ w2) (hw _ w3) eT (g := mkF m pc L (.ref a :: S)) rfl (hsz.trans hml.symm) rfl (hb hby hd) hf hW hl
  exact back_steps st (k p e s m args below meth c T' vm0 k0 locs ⟨hx, hby, hml, hret, hlk, hnm, hEL, hw, X', e', hS, hk, hZ, hown, N, H, O, Wm⟩)
theorem G.castY {a : Addr} {K : String} {idx : Nat} (hd : decode code pc = .ok (.checkcast idx, 3)) (w : Jvm.Cond.classLink own idx K ∈ tbl) (F : Ins Z h a K true)
    (k : G l Z a0 EL tbl n0 code maxL ret R own mname Q h cells slots (pc + 3) L (.ref a :: S)) : G l Z a0 EL tbl n0 code maxL ret R own mname Q h cells slots pc L (.ref a :: S) := by
  intro p e s m args below meth c T vm0 k0 locs P
  obtain ⟨hx, hby, hml, hret, hlk, hnm, hEL, hw, X, eT, hS, hk, hZ, hown, N, H, O, Wm⟩ := P
  obtain ⟨T', X', e', st⟩ := Jvm.RoadKit.castY X hx hZ hown (hw _ w) eT F (g := mkF m pc L (.ref a :: S)) rfl rfl (hb hby hd)
  exact back_steps st (k p e s m args below meth c T' vm0 k0 locs ⟨hx, hby, hml, hret, hlk, hnm, hEL, hw, X', e', hS, hk, hZ, hown, N, H, O, Wm⟩)
theorem G.instY {a : Addr} {K : String} {idx : Nat} (hd : decode code pc = .ok (.instanceof idx, 3)) (w : Jvm.Cond.classLink own idx K ∈ tbl) (F : Ins Z h a K true)
    (k : G l Z a0 EL tbl n0 code maxL ret R own mname Q h cells slots (pc + 3) L (.int 1 :: S)) : G l Z a0 EL tbl n0 code maxL ret R own mname Q h cells slots pc L (.ref a :: S) := by
  intro p e s m args below meth c T vm0 k0 locs P
  obtain ⟨hx, hby, hml, hret, hlk, hnm, hEL, hw, X, eT, hS, hk, hZ, hown, N, H, O, Wm⟩ := P
  obtain ⟨T', X', e', st⟩ := Jvm.RoadKit.instY X hx hZ hown (hw _ w) eT F (g := mkF m pc L (.ref a :: S)) rfl rfl (hb hby hd)
  exact back_steps st (k p e s m args below meth c T' vm0 k0 locs ⟨hx, hby, hml, hret, hlk, hnm, hEL, hw, X', e', hS, hk, hZ, hown, N, H, O, Wm⟩)
theorem G.ldcO {idx n : Nat} {text : String} (hne : EL ≠ []) (hd : decode code pc = .ok (.ldc idx, 2)) (w : Jvm.Cond.stringLink own idx text ∈ tbl) (wS : ∀ d ∈ Bundle.stringAtoms, d ∈ tbl) (hn : 4 * text.toList.length ≤ n) (hbig : n ≤ 536870912) (hc : cells + 2 ≤ R.cells) (hl : slots + (n + 4) ≤ R.slots)
    (k : ∀ h' a, Keep h h' [] → G l Z a0 EL tbl n0 code maxL ret R own mname Q h' (cells + 2) (slots + (n + 4)) (pc + 2) L (.ref a :: S)) : G l Z a0 EL tbl n0 code maxL ret R own mname Q h cells slots pc L S := by
  intro p e s m args below meth c T vm0 k0 locs P
  obtain ⟨hx, hby, hml, hret, hlk, hnm, hEL, hw, X, eT, hS, hk, hZ, hown, N, H, O, Wm⟩ := P
  obtain ⟨a, T', h', k1, X', e', E, S', hk', Z', o', C', -, st⟩ := ldcOH X hx hZ hown (hw _ w) (fun d hd => hw d (wS d hd)) eT hS hk hEL H.1 (g := mkF m pc L S) rfl (hb hby hd) hn hbig hc hl
  exact back_steps st (k h' a ((Keep.refl h []).ext E) p e s m args below meth c T' T'.vm k1 locs ⟨hx, hby, hml, hret, hlk, hnm, hEL, hw, X', e', S', hk', Z', o', N, H.trans C', O.ext E, fun q => absurd q hne⟩)
theorem G.ldcC {idx n : Nat} {text : String} {vs : List Value} {z : Int32} (hne : EL ≠ []) (hd : decode code pc = .ok (.ldc idx, 2)) (w : Jvm.Cond.stringLink own idx text ∈ tbl) (wS : ∀ d ∈ Bundle.stringAtoms, d ∈ tbl) (hmem : (own, idx) ∈ EL) (ht : (∀ c ∈ text.toList, c.toNat < 256) ∧ text.toList.map (fun c => Value.int (Jvm.Lit.byteI c.toNat.toUInt16)) = vs) (hz : ¬ z < 0) (hzl : z.toNatClampNeg = vs.length)
    (hn : 4 * text.toList.length ≤ n) (hbig : n ≤ 536870912) (hc : cells + 2 ≤ R.cells) (hl : slots + (n + 4) ≤ R.slots)
    (k : ∀ h' a b kb, Keep h h' [] → Exa Z h' a "java/lang/String" → Fld Z h' a "java/lang/String" "coder" "B" (.int 0) → Fld Z h' a "java/lang/String" "value" "[B" (.ref b) → Arv Z h' b kb .byte z vs (.int 0) → G l Z a0 EL tbl n0 code maxL ret R own mname Q h' (cells + 2) (slots + (n + 4)) (pc + 2) L (.ref a :: S)) : G l Z a0 EL tbl n0 code maxL ret R own mname Q h cells slots pc L S := by
  intro p e s m args below meth c T vm0 k0 locs P
  obtain ⟨hx, hby, hml, hret, hlk, hnm, hEL, hw, X, eT, hS, hk, hZ, hown, N, H, O, Wm⟩ := P
  obtain ⟨a, T', h', k1, b, kb, X', e', E, S', hk', Z', o', Ea, Ca, Va, Ab, -, -, C', -, -, st⟩ := ldcCH X hx hZ hown (hw _ w) (fun d hd => hw d (wS d hd)) eT hS hk hEL hmem H.1 ht hz hzl (g := mkF m pc L S) rfl (hb hby hd) hn hbig hc hl
  exact back_steps st (k h' a b kb ((Keep.refl h []).ext E) Ea Ca Va Ab p e s m args below meth c T' T'.vm k1 locs ⟨hx, hby, hml, hret, hlk, hnm, hEL, hw, X', e', S', hk', Z', o', N, H.trans C', O.ext E, fun q => absurd q hne⟩)
theorem G.castN {idx : Nat} (hd : decode code pc = .ok (.checkcast idx, 3)) (k : G l Z a0 EL tbl n0 code maxL ret R own mname Q h cells slots (pc + 3) L (.null :: S)) : G l Z a0 EL tbl n0 code maxL ret R own mname Q h cells slots pc L (.null :: S) := by
  intro p e s m args below meth c T vm0 k0 locs P
  obtain ⟨hx, hby, -, -, -, -, -, -, X, -⟩ := id P
  exact back_steps (X.checkcastNull hx (g := mkF m pc L (.null :: S)) rfl rfl (hb hby hd)) (k p e s m args below meth c T vm0 k0 locs P)
theorem G.instNull {idx : Nat} (hd : decode code pc = .ok (.instanceof idx, 3)) (k : G l Z a0 EL tbl n0 code maxL ret R own mname Q h cells slots (pc + 3) L (.int 0 :: S)) : G l Z a0 EL tbl n0 code maxL ret R own mname Q h cells slots pc L (.null :: S) := by
  intro p e s m args below meth c T vm0 k0 locs P
  obtain ⟨hx, hby, -, -, -, -, -, -, X, -⟩ := id P
  exact back_steps (X.instanceofNull hx (g := mkF m pc L (.null :: S)) rfl rfl (hb hby hd)) (k p e s m args below meth c T vm0 k0 locs P)
theorem G.instNo {a : Addr} {C K : String} {idx : Nat} (hd : decode code pc = .ok (.instanceof idx, 3)) (w : Jvm.Cond.classLink own idx K ∈ tbl) (E : Exa Z h a C) (F : ∃ c t, Z.vm.findClass C = some c ∧ Z.vm.findClass K = some t ∧ Z.vm.assignable c t = false)
    (k : G l Z a0 EL tbl n0 code maxL ret R own mname Q h cells slots (pc + 3) L (.int 0 :: S)) : G l Z a0 EL tbl n0 code maxL ret R own mname Q h cells slots pc L (.ref a :: S) := by
  intro p e s m args below meth c T vm0 k0 locs P
  obtain ⟨hx, hby, hml, hret, hlk, hnm, hEL, hw, X, eT, hS, hk, hZ, hown, N, H, O, Wm⟩ := P
  obtain ⟨T', X', e', st⟩ := Jvm.RoadKit.instNo X hx hZ hown (hw _ w) eT E F (g := mkF m pc L (.ref a :: S)) rfl rfl (hb hby hd)
  exact back_steps st (k p e s m args below meth c T' vm0 k0 locs ⟨hx, hby, hml, hret, hlk, hnm, hEL, hw, X', e', hS, hk, hZ, hown, N, H, O, Wm⟩)
theorem past {C O n d O' n' d' : String} {t t' : FieldType} {a : Addr} {v v' : Value} (hw : ∀ d ∈ tbl, d.before a0 Z = true) (L1 : Jvm.Cond.lays C O n d ∈ tbl ∨ Jvm.Cond.laysFinal C O n d ∈ tbl) (L2 : Jvm.Cond.lays C O' n' d' ∈ tbl ∨ Jvm.Cond.laysFinal C O' n' d' ∈ tbl) (hn : n ≠ n') (ht : parseFieldDescriptor d = some t) (ht' : parseFieldDescriptor d' = some t')
    (W : Wr h h' a (Jvm.RoadKit.slotOf Z O' n' d') v') (F : Fld Z h a O n d v) : Fld Z h' a O n d v := F.other W (Or.inr (Jvm.RoadKit.slot_ne (a0 := a0) (L1.imp (hw _) (hw _)) (L2.imp (hw _) (hw _)) hn ht ht'))
/-- an object of C (whose superclass is O, which has none) is none of K, K an ordinary class -/
theorem not_inst {C O K : String} {n : Nat} (w1 : (Jvm.Cond.superclass C O).before a0 Z = true) (w2 : (Jvm.Cond.noSuperclass O).before a0 Z = true) (w3 : (Jvm.Cond.instantiable K n).before a0 Z = true) (h1 : C ≠ K) (h2 : O ≠ K) : ∃ c t, Z.vm.findClass C = some c ∧ Z.vm.findClass K = some t ∧ Z.vm.assignable c t = false := by
  obtain ⟨t, k', g0, g2, g5, g7x, -⟩ := Cond.instantiable_spec w3
  have g7 := (Bool.or_eq_false_iff.mp g7x).1
  obtain ⟨o, ko, r1, r2, r3, -, -⟩ := Cond.noSuperclass_spec w2
  obtain ⟨c, h0⟩ := found_sup w1
  obtain ⟨p, k, kp, q1, q2, q3, q4, q5, -, q7⟩ := Cond.superclass_spec h0 w1
  cases r1.symm.trans q1
  have e1 := ids_ne h0 g0 h1
  have e2 := ids_ne r1 g0 h2
  have ns : ∀ fuel, Z.vm.isSubclassAux fuel c t = false := fun fuel => by
    cases fuel with
    | zero => rfl
    | succ f => cases f with
      | zero => simp [Vm.isSubclassAux, e1, q2, q4]
      | succ f => simp [Vm.isSubclassAux, e1, q2, q4, e2, r2, r3]
  refine ⟨c, t, h0, g0, ?_⟩
  show Z.vm.assignableAux (255 + 1) c t = false
  simp [Vm.assignableAux, e1, q2, g2, q5, g5, g7, Vm.isSubclass, ns]
theorem G.aloadVn {k : Fin 4} {v : Value} (hd : decode code pc = .ok (.aload_n k, 1)) (hl : L[k.val]? = some (.val v)) (hv : v.isRef = true) (kk : G l Z a0 EL tbl n0 code maxL ret R own mname Q h cells slots (pc + 1) L (v :: S)) : G l Z a0 EL tbl n0 code maxL ret R own mname Q h cells slots pc L S := by
  intro p e s m args below meth c T vm0 k0 locs P
  obtain ⟨hx, hby, -, -, -, -, -, -, X, -⟩ := id P
  exact back_steps (fun t ht => XS.aloadN X.here hx rfl (hb hby hd) hl hv ht) (kk p e s m args below meth c T vm0 k0 locs P)
theorem G.aloadV {k : Nat} {v : Value} (hd : decode code pc = .ok (.aload k, 2)) (hl : L[k]? = some (.val v)) (hv : v.isRef = true) (kk : G l Z a0 EL tbl n0 code maxL ret R own mname Q h cells slots (pc + 2) L (v :: S)) : G l Z a0 EL tbl n0 code maxL ret R own mname Q h cells slots pc L S := by
  intro p e s m args below meth c T vm0 k0 locs P
  obtain ⟨hx, hby, -, -, -, -, -, -, X, -⟩ := id P
  exact back_steps (fun t ht => XS.aload X.here hx rfl (hb hby hd) hl hv ht) (kk p e s m args below meth c T vm0 k0 locs P)
theorem G.astoreVn {k : Fin 4} {v : Value} {L' : Array Slot} (hd : decode code pc = .ok (.astore_n k, 1)) (hv : v.isRef = true) (hl : storeLocals L k.val v = some L') (kk : G l Z a0 EL tbl n0 code maxL ret R own mname Q h cells slots (pc + 1) L' S) : G l Z a0 EL tbl n0 code maxL ret R own mname Q h cells slots pc L (v :: S) := by
  intro p e s m args below meth c T vm0 k0 locs P
  obtain ⟨hx, hby, -, -, -, -, -, -, X, -⟩ := id P
  exact back_steps (fun t ht => XS.astoreN X.here hx rfl (hb hby hd) rfl hv hl ht) (kk p e s m args below meth c T vm0 k0 locs P)
theorem G.astoreV {k : Nat} {v : Value} {L' : Array Slot} (hd : decode code pc = .ok (.astore k, 2)) (hv : v.isRef = true) (hl : storeLocals L k v = some L') (kk : G l Z a0 EL tbl n0 code maxL ret R own mname Q h cells slots (pc + 2) L' S) : G l Z a0 EL tbl n0 code maxL ret R own mname Q h cells slots pc L (v :: S) := by
  intro p e s m args below meth c T vm0 k0 locs P
  obtain ⟨hx, hby, -, -, -, -, -, -, X, -⟩ := id P
  exact back_steps (fun t ht => XS.astore X.here hx rfl (hb hby hd) rfl hv hl ht) (kk p e s m args below meth c T vm0 k0 locs P)
theorem kwk {ws : List Addr} (K : Keep h h' []) : Keep h h' ws := ⟨K.1, fun x c q _ => K.2.1 x c q nin0, K.2.2⟩
/-! ## 3. Calls -/
/-- a contract: the method y, at the arguments as and the heap h, ends with Q -/
def Ct (l : Launch) (Z : State) (a0 : Array Value) (EL : List (String × Nat)) (tbl ws : List Jvm.Cond) (n0 : Nat) (y : MethodName) (bytes : ByteArray) (maxL : Nat) (ret : Option FieldType) (rm : Room) (as : Array Value) (h : Heap) (Q : Option Value → Heap → Prop) : Prop :=
  EW Z a0 EL → (∀ d ∈ tbl, d.before a0 Z = true) → Old Z n0 h → MetFree l y (head1 (Jvm.Cond.code y bytes maxL ret :: ws) rm) (fun a U => a = as ∧ Z.Warmed39 U.vm ∧ U.heap = h ∧ CHv Z EL U.vm h) (fun _ _ _ _ _ => True) (fun _ U o U' => End Z EL n0 rm Q U o U')
theorem Ct.of_bodyP {ws : List Jvm.Cond} {y : MethodName} {bytes : ByteArray} {rm : Room} {as : Array Value} {L0 : Array Slot} (hpn : plainFor y = true) (hef : ∀ m, entryFrame m as maxL = mkF m 0 L0 []) (hG : EW Z a0 EL → (∀ d ∈ tbl, d.before a0 Z = true) → Old Z n0 h → G l Z a0 EL tbl n0 bytes maxL ret rm y.cls y.name Q h 0 0 0 L0 []) :
    Ct l Z a0 EL tbl ws n0 y bytes maxL ret rm as h Q := by
  intro hEL hw hO
  refine MetFree.of_bodySF hpn hisR ?_
  intro p e s m args below meth c s₁ Bd hml0 hP hK
  obtain ⟨rfl, hZ, hh, hCH⟩ := hP
  have X0 : Stand p l e rm s m args below meth c s₁ [] 0 0 := Stand.of_body Bd
  have e0 : s₁.heap = h := by rw [← hh, Bd.state]; rfl
  rw [hef m]
  subst hh
  exact hG hEL hw hO p e s m args below meth c s₁ s.vm 0 [] ⟨Bd.exec, Bd.bytes, hml0, Bd.returns, Bd.notSynchronized, (name_of_methodNamed Bd.named Bd.method).1, hEL, hw, X0, e0, (State.WarmedH.refl s).since 0, Nat.zero_le _, hZ, findClass_of_methodNamed Bd.named, Fr.nil n0, CHr.refl hCH, hO, fun _ => State.WarmedH.refl s⟩
theorem Ct.of_body {ws : List Jvm.Cond} {y : MethodName} {bytes : ByteArray} {rm : Room} {as : Array Value} {L0 : Array Slot} (hpn : plainName y.cls = true) (hef : ∀ m, entryFrame m as maxL = mkF m 0 L0 []) (hG : EW Z a0 EL → (∀ d ∈ tbl, d.before a0 Z = true) → Old Z n0 h → G l Z a0 EL tbl n0 bytes maxL ret rm y.cls y.name Q h 0 0 0 L0 []) :
    Ct l Z a0 EL tbl ws n0 y bytes maxL ret rm as h Q :=
  Ct.of_bodyP (plainFor_of_name hpn) hef hG
/-- who pays a call -/
def BK (l : Launch) (Z : State) (a0 : Array Value) (EL : List (String × Nat)) (tbl : List Jvm.Cond) (n0 : Nat) (R : Room) (y : MethodName) (len W : Nat) (as : Array Value) (h : Heap) (kc ks : Nat) (Q : Option Value → Heap → Prop) : Prop :=
  ∀ (p : Program) (e : Env) (below : List Frame) (s : State) (args : Array Value) (vm0 : Vm), EW Z a0 EL → (∀ d ∈ tbl, d.before a0 Z = true) → Z.Warmed39 vm0 → CHv Z EL vm0 h → Old Z n0 h →
    BackS l R p e below (s.setVm vm0) args y len W (fun A a => a = as ∧ A.U.heap = h ∧ A.cells + kc ≤ R.cells ∧ A.slots + ks ≤ R.slots)
      (fun A _ v B => ∃ L, (Fr n0 L ∧ Old Z n0 B.U.heap ∧ Q v B.U.heap) ∧ B.locs = A.locs ++ L ∧ B.cells = A.cells + kc ∧ B.slots = A.slots + ks ∧ CHr Z EL vm0 h B.U.vm B.U.heap ∧ (EL = [] → (s.setVm vm0).WarmedH B.U.vm))
theorem Ct.pays {y : MethodName} {bytes : ByteArray} {rm : Room} {as : Array Value} {len W : Nat} (hC : Ct l Z a0 EL tbl [] n0 y bytes maxL ret rm as h Q) (w1 : Jvm.Cond.code y bytes maxL ret ∈ tbl) (w2 : Jvm.Cond.initialized y.cls ∈ tbl) (hf : rm.frames + 1 ≤ R.frames) (hl : W + (maxL + 11) + rm.locals ≤ R.locals) :
    BK l Z a0 EL tbl n0 R y len W as h rm.cells rm.slots Q := fun p e below s args vm0 hEL hw hZ H O =>
  have hU : ∀ (m : MethodId) (meth : Method) (c : Code) (A : Pt), Stand p l e R (s.setVm vm0) m args below meth c A.U A.locs A.cells A.slots → Z.Warmed39 A.U.vm := fun m meth c A Y => wtrans (s := s.setVm vm0) hZ Y.warmed
  BackS.of_freeW (bytes := bytes) (maxL := maxL) (ret := ret) (E := fun _ U o t L k n => k = rm.cells ∧ n = rm.slots ∧ (∃ v, o = .returned v ∧ (Fr n0 L ∧ Old Z n0 t.heap ∧ Q v t.heap)) ∧ CHr Z EL U.vm U.heap t.vm t.heap ∧ (EL = [] → U.WarmedH t.vm)) (hC hEL hw O) hf hl
    (fun m meth c A a Y hp => ⟨by show (Jvm.Cond.and _ .tt).before a A.U = true; rw [Cond.before_and, mv (hU m meth c A Y) (hw _ w1)]; rfl, mv (hU m meth c A Y) (hw _ w1), mv (hU m meth c A Y) (hw _ w2), hp.2.2.1, hp.2.2.2⟩)
    (fun m meth c A a g mk Y hp => ⟨hp.1, hU m meth c A Y, hp.2.1, (CHv.at Y hZ hEL H).1⟩) (fun _ _ _ _ _ _ _ _ _ => trivial)
    (fun _ _ _ _ ⟨v, L, h1, h2, h3, h4, h5⟩ => ⟨L, _, _, h4, rfl, rfl, ⟨v, h1, h2⟩, h3, h5⟩)
    (fun m meth c A a g mk v t L k n Y hp _ _ ⟨e1, e2, ⟨v', e3, e4⟩, e5, e6⟩ => by
      cases e3; subst e1 e2
      refine ⟨L, e4, rfl, rfl, rfl, (CHv.at Y hZ hEL H).trans ?_, fun q => State.WarmedH.trans (t := A.U) Y.warmed (e6 q)⟩
      rw [← hp.2.1]; exact e5)
/-- a law of the library's that interns nothing -/
theorem BK.of_back {y : MethodName} {len W kc ks : Nat} {as : Array Value} {ws : List Addr} (hws : ∀ x ∈ ws, n0 ≤ x) (hsf : ∀ vm, Z.Warmed39 vm → ∀ x ∈ ws, Safe Z EL vm h x)
    (hB : ∀ (p : Program) (e : Env) (below : List Frame) (s : State) (args : Array Value) (vm0 : Vm), (∀ d ∈ tbl, d.before a0 Z = true) → Z.Warmed39 vm0 → Old Z n0 h → Back l R p e below (s.setVm vm0) args y len W (fun A a => a = as ∧ A.U.heap = h ∧ A.cells + kc ≤ R.cells ∧ A.slots + ks ≤ R.slots)
      (fun A _ v B => ∃ L, (Fr n0 L ∧ Keep h B.U.heap ws ∧ Q v B.U.heap) ∧ B.locs = A.locs ++ L ∧ B.cells = A.cells + kc ∧ B.slots = A.slots + ks)) :
    BK l Z a0 EL tbl n0 R y len W as h kc ks Q := by
  intro p e below s args vm0 hEL hw hZ H O m meth c A g ig mk a X hg hsize hdg hW hn hp
  obtain ⟨v, B, X', ⟨L, ⟨q1, q2, q3⟩, q4, q5, q6⟩, hst⟩ := hB p e below s args vm0 hw hZ O m meth c A g ig mk a X hg hsize hdg hW hn hp
  have C1 := CHr.keep q2 (hsf vm0 hZ) H
  exact ⟨v, B, X'.retabled X'.warmed.wide, X'.warmed.since _, by rw [hp.2.1]; exact q2.1, ⟨L, ⟨q1, O.keep q2 hws, q3⟩, q4, q5, q6, C1.trans (CHv.at X' hZ hEL C1.1), fun _ => X'.warmed⟩, hst⟩
/-- a contract that interns nothing (EL empty), paid at any EL -/
theorem Ct.warm {y : MethodName} {bytes : ByteArray} {rm : Room} {as : Array Value} {len W : Nat} {ws : List Addr} (hC : Ct l Z a0 [] tbl [] n0 y bytes maxL ret rm as h Q) (w1 : Jvm.Cond.code y bytes maxL ret ∈ tbl) (w2 : Jvm.Cond.initialized y.cls ∈ tbl) (hf : rm.frames + 1 ≤ R.frames) (hl : W + (maxL + 11) + rm.locals ≤ R.locals)
    (hK : ∀ v h', Q v h' → Keep h h' ws) (hws : ∀ x ∈ ws, n0 ≤ x) (hsf : ∀ vm, Z.Warmed39 vm → ∀ x ∈ ws, Safe Z EL vm h x) : BK l Z a0 EL tbl n0 R y len W as h rm.cells rm.slots Q := by
  refine BK.of_back hws hsf fun p e below s args vm0 hw hZ O => ?_
  have hM : MetFree l y (head1 [Jvm.Cond.code y bytes maxL ret] rm) (fun a U => a = as ∧ Z.Warmed39 U.vm ∧ U.heap = h) (fun _ _ _ _ _ => True) (fun _ U o U' => ∃ v L, o = .returned v ∧ (Fr n0 L ∧ Keep h U'.heap ws ∧ Q v U'.heap) ∧ FrameEnd U o U' L rm.cells rm.slots) := by
    intro p e h1 h2 h3 s m args below hf hap hP hK'
    obtain ⟨n, o, q1, q2, q3, v, L, q4, ⟨q5, q6, q7⟩, q8, q9, q10⟩ := hC EW.nil hw O p e h1 h2 h3 s m args below hf hap ⟨hP.1, hP.2.1, hP.2.2, fun p hp => nomatch hp⟩ hK'
    exact ⟨n, o, q1, q2, q3, v, L, q4, ⟨q5, hK _ _ q7, q7⟩, q9.1, q10 rfl, q9.2.2.2⟩
  exact backOf (s := s.setVm vm0) (Q := fun v hh L => Fr n0 L ∧ Keep h hh ws ∧ Q v hh) hM hZ (hw _ w1) (hw _ w2) hf hl
section Calls
variable {y z : MethodName} {idx W kc ks : Nat} {argsL rest : List Value} {Qc : Option Value → Heap → Prop}
theorem G.static {bytes : ByteArray} {mL : Nat} {rt : Option FieldType} (hd : decode code pc = .ok (.invokestatic idx, 3)) (w1 : Jvm.Cond.methodLink own idx y ∈ tbl) (w2 : Jvm.Cond.static y ∈ tbl) (w3 : Jvm.Cond.initialized y.cls ∈ tbl) (w4 : Jvm.Cond.code y bytes mL rt ∈ tbl) (hy : y.cls ≠ "java/lang/invoke/MethodHandle" ∧ y.cls ≠ "java/lang/invoke/VarHandle")
    (hB : BK l Z a0 EL tbl n0 R y 3 W argsL.toArray h kc ks Qc) (hlen : ∀ sig, parseMethodDescriptor y.desc = some sig → argsL.length = sig.parameters.length) (hs : S = argsL.reverse ++ rest) (hW : 2 * 0 + (rest.map fun v => v.category).sum ≤ W) (hsz : L.size = maxL) (hc : cells + kc ≤ R.cells) (hl : slots + ks ≤ R.slots)
    (k : ∀ v h', Qc v h' → G l Z a0 EL tbl n0 code maxL ret R own mname Q h' (cells + kc) (slots + ks) (pc + 3) L (v.toList ++ rest)) : G l Z a0 EL tbl n0 code maxL ret R own mname Q h cells slots pc L S := by
  intro p e s m args below meth c T vm0 k0 locs P
  obtain ⟨hx, hby, hml, hret, hlk, hnm, hEL, hw, X, eT, hS, hk, hZ, hown, N, H, O, Wm⟩ := P
  obtain ⟨v, vm₁, ⟨T', L', k', n'⟩, hW1, X', hS', hgr, ⟨Lc, ⟨q1, q2, q3⟩, e1, e2, e3, C1, W1⟩, st⟩ := callSS X hx hown (mvT hZ (hw _ w1)) (mvT hZ (hw _ w2)) (mvT hZ (hw _ w3)) (mvT hZ (hw _ w4)) hy (hB p e below s args vm0 hEL hw hZ H.1 O) (g := mkF m pc L S) rfl (hsz.trans hml.symm) hlen hs hW (hb hby hd) (fun _ _ => ⟨rfl, eT, hc, hl⟩)
  dsimp only [Pt.U, Pt.locs, Pt.cells, Pt.slots] at X' hS' hgr q2 q3 e1 e2 e3 C1 W1 st
  subst e1 e2 e3
  obtain ⟨X2, S2, Z2, o2⟩ := rebS hS hk X' hS' (by rw [← eT]; exact hgr) hZ hown
  exact back_steps (fun t ht => st.trans ht) (k v T'.heap q3 p e s m args below meth c T' T'.vm T'.heap.size _ ⟨hx, hby, hml, hret, hlk, hnm, hEL, hw, X2, rfl, S2, Nat.le_refl _, Z2, o2, N.app q1, H.trans C1, q2, fun q => State.WarmedH.trans (t := s.setVm vm0) (Wm q) (W1 q)⟩)
theorem G.special {a : Addr} {bytes : ByteArray} {mL : Nat} (hy1 : y.name = "<init>") (hd : decode code pc = .ok (.invokespecial idx, 3)) (w1 : Jvm.Cond.methodLink own idx y ∈ tbl) (w2 : Jvm.Cond.instanceMethod y ∈ tbl) (w4 : Jvm.Cond.code y bytes mL none ∈ tbl) (hy : y.cls ≠ "java/lang/invoke/MethodHandle" ∧ y.cls ≠ "java/lang/invoke/VarHandle")
    (hB : BK l Z a0 EL tbl n0 R y 3 W (.ref a :: argsL).toArray h kc ks Qc) (hlen : ∀ sig, parseMethodDescriptor y.desc = some sig → argsL.length = sig.parameters.length) (hs : S = argsL.reverse ++ .ref a :: rest) (hW : 2 * 0 + (rest.map fun v => v.category).sum ≤ W) (hsz : L.size = maxL) (hc : cells + kc ≤ R.cells) (hl : slots + ks ≤ R.slots)
    (k : ∀ v h', Qc v h' → G l Z a0 EL tbl n0 code maxL ret R own mname Q h' (cells + kc) (slots + ks) (pc + 3) L (v.toList ++ rest)) : G l Z a0 EL tbl n0 code maxL ret R own mname Q h cells slots pc L S := by
  intro p e s m args below meth c T vm0 k0 locs P
  obtain ⟨hx, hby, hml, hret, hlk, hnm, hEL, hw, X, eT, hS, hk, hZ, hown, N, H, O, Wm⟩ := P
  obtain ⟨v, vm₁, ⟨T', L', k', n'⟩, hW1, X', hS', hgr, ⟨Lc, ⟨q1, q2, q3⟩, e1, e2, e3, C1, W1⟩, st⟩ := X.specialBackS hx hy1 hown (mvT hZ (hw _ w1)) (mvT hZ (hw _ w2)) (mvT hZ (hw _ w4)) hy (hB p e below s args vm0 hEL hw hZ H.1 O) (g := mkF m pc L S) rfl (hsz.trans hml.symm) (Steps.refl _) hlen hs hW (hb hby hd) (fun _ _ => ⟨rfl, eT, hc, hl⟩)
  dsimp only [Pt.U, Pt.locs, Pt.cells, Pt.slots] at X' hS' hgr q2 q3 e1 e2 e3 C1 W1 st
  subst e1 e2 e3
  obtain ⟨X2, S2, Z2, o2⟩ := rebS hS hk X' hS' (by rw [← eT]; exact hgr) hZ hown
  exact back_steps (fun t ht => st.trans ht) (k v T'.heap q3 p e s m args below meth c T' T'.vm T'.heap.size _ ⟨hx, hby, hml, hret, hlk, hnm, hEL, hw, X2, rfl, S2, Nat.le_refl _, Z2, o2, N.app q1, H.trans C1, q2, fun q => State.WarmedH.trans (t := s.setVm vm0) (Wm q) (W1 q)⟩)
theorem G.virtual {a : Addr} {C : String} (hd : decode code pc = .ok (.invokevirtual idx, 3)) (w1 : Jvm.Cond.methodLink own idx y ∈ tbl) (w2 : Jvm.Cond.declares y ∈ tbl) (w3 : Jvm.Cond.selects C y y ∈ tbl) (w4 : Jvm.Cond.instanceMethod y ∈ tbl) (hy : y.cls ≠ "java/lang/invoke/MethodHandle" ∧ y.cls ≠ "java/lang/invoke/VarHandle") (E : Exa Z h a C)
    (hB : BK l Z a0 EL tbl n0 R y 3 W (.ref a :: argsL).toArray h kc ks Qc) (hlen : ∀ sig, parseMethodDescriptor y.desc = some sig → argsL.length = sig.parameters.length) (hs : S = argsL.reverse ++ .ref a :: rest) (hW : 2 * 0 + (rest.map fun v => v.category).sum ≤ W) (hsz : L.size = maxL) (hc : cells + kc ≤ R.cells) (hl : slots + ks ≤ R.slots)
    (k : ∀ v h', Qc v h' → G l Z a0 EL tbl n0 code maxL ret R own mname Q h' (cells + kc) (slots + ks) (pc + 3) L (v.toList ++ rest)) : G l Z a0 EL tbl n0 code maxL ret R own mname Q h cells slots pc L S := by
  intro p e s m args below meth c T vm0 k0 locs P
  obtain ⟨hx, hby, hml, hret, hlk, hnm, hEL, hw, X, eT, hS, hk, hZ, hown, N, H, O, Wm⟩ := P
  obtain ⟨cB, kB, f1, f2, f3⟩ := isOf (s := s.setVm vm0) hZ eT E
  obtain ⟨v, vm₁, ⟨T', L', k', n'⟩, hW1, X', hS', hgr, ⟨Lc, ⟨q1, q2, q3⟩, e1, e2, e3, C1, W1⟩, st⟩ := X.virtualBackS hx hown (mvT hZ (hw _ w1)) (mvT hZ (hw _ w2)) (notFace_of_selects (args := #[]) (mvT hZ (hw _ w3))) (mvT hZ (hw _ w3)) (mvT hZ (hw _ w4)) hy (hB p e below s args vm0 hEL hw hZ H.1 O) f1 f3 (g := mkF m pc L S) rfl (hsz.trans hml.symm) (Steps.refl _) hlen hs hW (hb hby hd) (fun _ _ => ⟨rfl, eT, hc, hl⟩)
  dsimp only [Pt.U, Pt.locs, Pt.cells, Pt.slots] at X' hS' hgr q2 q3 e1 e2 e3 C1 W1 st
  subst e1 e2 e3
  obtain ⟨X2, S2, Z2, o2⟩ := rebS hS hk X' hS' (by rw [← eT]; exact hgr) hZ hown
  exact back_steps (fun t ht => st.trans ht) (k v T'.heap q3 p e s m args below meth c T' T'.vm T'.heap.size _ ⟨hx, hby, hml, hret, hlk, hnm, hEL, hw, X2, rfl, S2, Nat.le_refl _, Z2, o2, N.app q1, H.trans C1, q2, fun q => State.WarmedH.trans (t := s.setVm vm0) (Wm q) (W1 q)⟩)
end Calls
/-! ## 4. The end -/
theorem rew_mono {s t : State} {o : Outcome} {Ls : List Loc} {k n k' n' : Nat} (q : ReturnedEndW s o t Ls k n) (hk : k ≤ k') (hn : n ≤ n') : ReturnedEndW s o t Ls k' n' := ⟨q.1, q.2.1, q.2.2.1, q.2.2.2.mono hk hn⟩
theorem G.leave {v : Option Value} (hv : ret = none → v = none) (hq : Q v h) (hc : cells ≤ R.cells) (hl : slots ≤ R.slots)
    (st : ∀ (p : Program) (e : Env) (s : State) (m : MethodId) (args : Array Value) (below : List Frame) (meth : Method) (c : Code) (T : State) (locs : List Loc) (fs : List Frame), p.tables.exec = Jvm.exec → c.code = code → meth.sig.returnType = ret → Stand p l e R s m args below meth c T locs cells slots →
      (∀ (f : JFrame) (acts : List Action), f.method = m → f.locked = none → f.entered = [] → (doReturn e (T.setTop f) acts v).1 = T.setFrames fs) → Steps p.tables e below (T.setTop (mkF m pc L S)) (T.setFrames fs)) :
    G l Z a0 EL tbl n0 code maxL ret R own mname Q h cells slots pc L S := by
  intro p e s m args below meth c T vm0 k0 locs P
  obtain ⟨hx, hby, hml, hret, hlk, hnm, hEL, hw, X, eT, hS, hk, hZ, hown, N, H, O, Wm⟩ := P
  subst eT
  obtain ⟨fs, hr, hrun, hended, hE⟩ := X.leaveW hS hk (v := v) (fun q => hv (hret.symm.trans q)) hlk
  exact ⟨_, _, st p e (s.setVm vm0) m args below meth c T locs fs hx hby hret X hr, hrun, hended, v, locs, rfl, ⟨N, O, hq⟩, H.trans (CHv.at X hZ hEL H.1 : CHr Z EL vm0 T.heap T.vm T.heap), rew_mono hE hc hl, fun q => State.WarmedH.trans (t := s.setVm vm0) (Wm q) X.warmed⟩
theorem G.retV (hd : decode code pc = .ok (.return_, 1)) (hret : ret = none) (hq : Q none h) (hc : cells ≤ R.cells) (hl : slots ≤ R.slots) : G l Z a0 EL tbl n0 code maxL ret R own mname Q h cells slots pc L [] :=
  G.leave (v := none) (fun _ => rfl) hq hc hl fun p e s m args below meth c T locs fs hx hby hr X hl => X.returnOut hx (hr.trans hret) (hb hby hd) hl
theorem G.retI {z : Int32} (hd : decode code pc = .ok (.ireturn, 1)) (hret : ret = some .int) (hq : Q (some (.int z)) h) (hc : cells ≤ R.cells) (hl : slots ≤ R.slots) : G l Z a0 EL tbl n0 code maxL ret R own mname Q h cells slots pc L (.int z :: S) :=
  G.leave (v := some (.int z)) (fun q => nomatch hret.symm.trans q) hq hc hl fun p e s m args below meth c T locs fs hx hby hr X hl => retOut X hx (hr.trans hret) rfl (Or.inl ⟨rfl, Or.inl rfl, _, rfl⟩) (hb hby hd) hl
theorem G.retJ {z : Int64} (hd : decode code pc = .ok (.lreturn, 1)) (hret : ret = some .long) (hq : Q (some (.long z)) h) (hc : cells ≤ R.cells) (hl : slots ≤ R.slots) : G l Z a0 EL tbl n0 code maxL ret R own mname Q h cells slots pc L (.long z :: S) :=
  G.leave (v := some (.long z)) (fun q => nomatch hret.symm.trans q) hq hc hl fun p e s m args below meth c T locs fs hx hby hr X hl => retOut X hx (hr.trans hret) rfl (Or.inr (Or.inl ⟨rfl, rfl, _, rfl⟩)) (hb hby hd) hl
theorem G.retA {w : Value} {t : FieldType} (hd : decode code pc = .ok (.areturn, 1)) (hret : ret = some t) (ht : t.isReference = true) (hn : narrow t w = w) (hw : w.isRef = true) (hq : Q (some w) h) (hc : cells ≤ R.cells) (hl : slots ≤ R.slots) : G l Z a0 EL tbl n0 code maxL ret R own mname Q h cells slots pc L (w :: S) :=
  G.leave (v := some w) (fun q => nomatch hret.symm.trans q) hq hc hl fun p e s m args below meth c T locs fs hx hby hr X hl => retOut X hx (hr.trans hret) hn (Or.inr (Or.inr (Or.inr (Or.inr ⟨rfl, ht, hw⟩)))) (hb hby hd) hl
theorem G.retN {z z' : Int32} {t : FieldType} (hd : decode code pc = .ok (.ireturn, 1)) (hret : ret = some t) (ht : t = .boolean ∨ t = .byte ∨ t = .char ∨ t = .short) (hz : nar t z = z') (hq : Q (some (.int z')) h) (hc : cells ≤ R.cells) (hl : slots ≤ R.slots) : G l Z a0 EL tbl n0 code maxL ret R own mname Q h cells slots pc L (.int z :: S) := by
  subst hz
  exact G.leave (v := some (.int (nar t z))) (fun q => nomatch hret.symm.trans q) hq hc hl fun p e s m args below meth c T locs fs hx hby hr X hl => Jvm.RoadKit.retN X hx (hr.trans hret) ht (hb hby hd) hl
end G
end Own
end Jvm.Pilot.@@N@@
namespace Jvm.Pilot.@@N@@
namespace Own
open Jvm Jvm.ClassFile Sem Op Lib Jvm.Free Jvm.Stand Jvm.LawKit Jvm.RoadKit Bundle
/-! ## 5. Strings -/
abbrev ST : String := "java/lang/String"
abbrev N1 : MethodName := ⟨"java/lang/String", "<init>", "([C)V"⟩
abbrev N4 : MethodName := ⟨"java/lang/String", "<init>", "([CIILjava/lang/Void;)V"⟩
section Strings
variable {l : Launch} {Z : State} {a0 : Array Value} {EL : List (String × Nat)} {tbl : List Jvm.Cond} {n0 : Nat} {R : Room} {h h' h1 h2 : Heap} {a x : Addr} {cs ds : List Int32}
/-- COMPACT_STRINGS is on -/
def CS (Z : State) : Prop := ∃ z : Int32, Sta Z Z.heap ST "COMPACT_STRINGS" "Z" (.int z) ∧ ¬ z = 0
def lat (cs : List Int32) : Prop := ∀ c ∈ cs, ¬ c < 0 ∧ ¬ (255 : Int32) < c
/-- the String at a spells cs -/
def Str (Z : State) (h : Heap) (a : Addr) (cs : List Int32) : Prop := Exa Z h a ST ∧ Fld Z h a ST "coder" "B" (.int 0) ∧ lat cs ∧ cs.length ≤ 4000 ∧
  ∃ (b : Addr) (k : ClassId), Fld Z h a ST "value" "[B" (.ref b) ∧ Arv Z h b k .byte (Int32.ofNat cs.length) ((cs.map fun c => c.toInt8.toInt32).map Value.int) (.int 0)
theorem Str.lt (F : Str Z h a cs) : a < h.size := F.1.lt
theorem Str.keep0 (F : Str Z h a cs) (K : Keep h h' []) : Str Z h' a cs := by
  obtain ⟨E, C, q1, q2, b, k, V, A⟩ := F
  exact ⟨E.keep K, C.keep K nin0, q1, q2, b, k, V.keep K nin0, A.keep K nin0⟩
theorem Str.keepE {t : Addr} {C : String} {n : Nat} (F : Str Z h a cs) (K : Keep h h' [t]) (E' : Exa Z h t C) (hC : C ≠ ST) (wi : (Jvm.Cond.instantiable C n).before a0 Z = true) : Str Z h' a cs := by
  obtain ⟨E, C1, q1, q2, b, k, V, A⟩ := F
  have n1 : a ≠ t := ne_exa E E' (Ne.symm hC)
  have n2 : b ≠ t := Ne.symm (Exa.neArv E' A wi)
  exact ⟨E.keep K, C1.keep K (ninS n1 nin0), q1, q2, b, k, V.keep K (ninS n1 nin0), A.keep K (ninS n2 nin0)⟩
theorem same_name {vm : Vm} (hal : Z.vm.Alike vm) {C D : String} {c : ClassId} (e1 : Z.vm.findClass C = some c) (e2 : vm.findClass D = some c) : C = D := by
  rw [hal.findClass] at e2
  obtain ⟨k1, q1, q2⟩ := Vm.findClass_spec e1
  obtain ⟨k2, q3, q4⟩ := Vm.findClass_spec e2
  cases q1.symm.trans q3
  exact q2.symm.trans q4
/-- a String whose value is still null is no literal -/
theorem safe_blank {vm : Vm} (hal : Z.vm.Alike vm) (E : Exa Z h x ST) (F : Fld Z h x ST "value" "[B" .null) : Safe Z EL vm h x := fun B => by
  obtain ⟨p, -, u, a, -, q, -, FF, rfl | rfl⟩ := B
  · obtain ⟨cS, ⟨⟨s1, s2, s3, ⟨cv, kv, iv, s4, s4'⟩, -, s6, s7, s8, -⟩, -, -⟩, -⟩ := FF
    obtain ⟨cell, cf, k, i, f, h1, h2, h3, h4, h5, h6, h7⟩ := F
    obtain ⟨kv', z4⟩ := ff_back (U := Wst Z vm h) hal s4
    cases h2.symm.trans z4
    cases h1.symm.trans (show h[q.sa]? = some q.sC from s1)
    cases h7.symm.trans s8
  · obtain ⟨cell, k, e1, e2, -⟩ := E
    cases (show h[q.sd]? = some q.SA from FF.hd).symm.trans e1
    obtain ⟨cS, -, -, f, -⟩ := FF
    exact absurd (same_name hal e2 f) (by decide)
theorem BK.more {y : MethodName} {len W kc ks kc' ks' : Nat} {as : Array Value} {Q : Option Value → Heap → Prop} (h1 : kc ≤ kc') (h2 : ks ≤ ks') (B : BK l Z a0 EL tbl n0 R y len W as h kc ks Q) : BK l Z a0 EL tbl n0 R y len W as h kc' ks' Q := by
  intro p e below s args vm0 hEL hw hZ H O m meth c A g ig mk a X hg hsize hdg hW hn hp
  obtain ⟨v, ⟨T, locs, k, n⟩, X', hS, hgr, ⟨L, q1, q2, q3, q4, q5, q6⟩, hst⟩ := B p e below s args vm0 hEL hw hZ H O m meth c A g ig mk a X hg hsize hdg hW hn ⟨hp.1, hp.2.1, Nat.le_trans (Nat.add_le_add_left h1 _) hp.2.2.1, Nat.le_trans (Nat.add_le_add_left h2 _) hp.2.2.2⟩
  dsimp only [Pt.U, Pt.locs, Pt.cells, Pt.slots] at X' hS hgr q1 q2 q3 q4 q5 q6 hst
  subst q2 q3 q4
  exact ⟨v, ⟨T, _, A.2.2.1 + kc', A.2.2.2 + ks'⟩, X'.mono (Nat.add_le_add_left h1 _) (Nat.add_le_add_left h2 _), hS, hgr, ⟨L, q1, rfl, rfl, rfl, q5, q6⟩, hst⟩
theorem BK.weak {y : MethodName} {len W kc ks : Nat} {as : Array Value} {Q Q' : Option Value → Heap → Prop} (hq : ∀ v h', Q v h' → Q' v h') (B : BK l Z a0 EL tbl n0 R y len W as h kc ks Q) : BK l Z a0 EL tbl n0 R y len W as h kc ks Q' := by
  intro p e below s args vm0 hEL hw hZ H O m meth c A g ig mk a X hg hsize hdg hW hn hp
  obtain ⟨v, T, X', hS, hgr, ⟨L, ⟨q1, q2, q3⟩, r⟩, hst⟩ := B p e below s args vm0 hEL hw hZ H O m meth c A g ig mk a X hg hsize hdg hW hn hp
  exact ⟨v, T, X', hS, hgr, ⟨L, ⟨q1, q2, hq _ _ q3⟩, r⟩, hst⟩
abbrev wordsE : List Jvm.Cond := [.stringLink ST 7 "", .instantiable ST 4, .soleField ST "value", .soleField ST "coder"]
theorem e0 : decode StrChars.New4.yB 0 = .ok (.aload_n 0, 1) := by decide +kernel
theorem e1 : decode StrChars.New4.yB 1 = .ok (.invokespecial 1, 3) := by decide +kernel
theorem e4 : decode StrChars.New4.yB 4 = .ok (.iload_n 3, 1) := by decide +kernel
theorem e5 : decode StrChars.New4.yB 5 = .ok (.ifCond .ne 22, 3) := by decide +kernel
theorem e8 : decode StrChars.New4.yB 8 = .ok (.aload_n 0, 1) := by decide +kernel
theorem e9 : decode StrChars.New4.yB 9 = .ok (.ldc 7, 2) := by decide +kernel
theorem e11 : decode StrChars.New4.yB 11 = .ok (.getfield 9, 3) := by decide +kernel
theorem e14 : decode StrChars.New4.yB 14 = .ok (.putfield 9, 3) := by decide +kernel
theorem e17 : decode StrChars.New4.yB 17 = .ok (.aload_n 0, 1) := by decide +kernel
theorem e18 : decode StrChars.New4.yB 18 = .ok (.ldc 7, 2) := by decide +kernel
theorem e20 : decode StrChars.New4.yB 20 = .ok (.getfield 15, 3) := by decide +kernel
theorem e23 : decode StrChars.New4.yB 23 = .ok (.putfield 15, 3) := by decide +kernel
theorem e26 : decode StrChars.New4.yB 26 = .ok (.return_, 1) := by decide +kernel
theorem pnS : plainName ST = true := by first | (simp [plainName, overriddenIn]; done) | decide +kernel
theorem efN4 (m : MethodId) (x b : Addr) : entryFrame m #[.ref x, .ref b, .int 0, .int 0, .null] 6 = mkF m 0 #[.val (.ref x), .val (.ref b), .val (.int 0), .val (.int 0), .val .null, .unset] [] := by first | (simp [entryFrame, mkF, argsToLocals, Value.category]; done) | rfl
theorem efN1 (m : MethodId) (x b : Addr) : entryFrame m #[.ref x, .ref b] 2 = mkF m 0 #[.val (.ref x), .val (.ref b)] [] := by first | (simp [entryFrame, mkF, argsToLocals, Value.category]; done) | rfl
/-- what new String(..) leaves -/
def QS (Z : State) (x : Addr) (cs : List Int32) (h : Heap) (v : Option Value) (h' : Heap) : Prop := v = none ∧ Keep h h' [x] ∧ Str Z h' x cs
set_option maxRecDepth 65536 in
set_option maxHeartbeats 4000000 in
/-- String(char[], int, int, Void) at length 0: the literal "" lends its array -/
theorem new4e (hws : ∀ d ∈ StrChars.Road.words, d ∈ tbl) (hwe : ∀ d ∈ wordsE, d ∈ tbl) (hmem : (ST, 7) ∈ EL) {b : Addr} (hx0 : n0 ≤ x) (E : Exa Z h x ST) (V : Fld Z h x ST "value" "[B" .null) (C : Fld Z h x ST "coder" "B" (.int 0)) :
    Ct l Z a0 EL tbl [] n0 N4 StrChars.New4.yB 6 none ({ frames := 1, cells := 2, slots := 4, locals := 12 } : Room) #[.ref x, .ref b, .int 0, .int 0, .null] h (QS Z x [] h) := by
  intro hEL hw0 hO
  refine MetFree.of_bodySF (plainFor_of_name pnS) hisR ?_
  intro p e s m args below meth c s₁ Bd hml0 hP hK
  obtain ⟨rfl, hZ, hh, hCH⟩ := hP
  subst hh
  have hw : ∀ d ∈ StrChars.Road.words, d.before a0 Z = true := fun d hd => hw0 d (hws d hd)
  have hwE : ∀ d ∈ wordsE, d.before a0 Z = true := fun d hd => hw0 d (hwe d hd)
  have hx := Bd.exec
  have hby := Bd.bytes
  have hml : c.maxLocals = 6 := hml0
  have hown : s.vm.findClass ST = some m.cls := findClass_of_methodNamed Bd.named
  have hnm := (name_of_methodNamed Bd.named Bd.method).1
  have X0 : Stand p l e ({ frames := 1, cells := 2, slots := 4, locals := 12 } : Room) s m #[.ref x, .ref b, .int 0, .int 0, .null] below meth c s₁ [] 0 0 := Stand.of_body Bd
  have e0' : s₁.heap = s.heap := by rw [Bd.state]; rfl
  have wi : (Jvm.Cond.instantiable ST 4).before a0 Z = true := hwE _ (by simp [wordsE])
  have wv : (Jvm.Cond.laysFinal ST ST "value" "[B").before a0 Z = true := hw _ (by simp [StrChars.Road.words])
  have wc : (Jvm.Cond.laysFinal ST ST "coder" "B").before a0 Z = true := hw _ (by simp [StrChars.Road.words])
  have wS : ∀ d ∈ Bundle.stringAtoms, d.before a0 Z = true := fun d hd => by
    simp only [Bundle.stringAtoms, List.mem_cons, List.not_mem_nil, or_false] at hd
    rcases hd with rfl | rfl | rfl | rfl | rfl | rfl | rfl
    · exact hw _ (by simp [StrChars.Road.words, Bundle.sN])
    · exact wi
    · exact hw _ (by simp [StrChars.Road.words])
    · exact wv
    · exact wc
    · exact hwE _ (by simp [wordsE, Bundle.sN])
    · exact hwE _ (by simp [wordsE, Bundle.sN])
  have wl : (Jvm.Cond.stringLink ST 7 "").before a0 Z = true := hwE _ (by simp [wordsE])
  obtain ⟨T1, X1, e1', st1⟩ := Jvm.RoadKit.initO X0 hx hZ hown (hw _ (by simp [StrChars.Road.words])) (hw _ (by simp [StrChars.Road.words])) (hw _ (by simp [StrChars.Road.words])) e0' (g := mkF m 1 #[.val (.ref x), .val (.ref b), .val (.int 0), .val (.int 0), .val .null, .unset] [.ref x]) rfl (by rw [hml]; rfl) rfl (hb hby e1) (by decide) (W := 0) (by show 2 * 0 + _ ≤ _; exact Nat.le_of_eq rfl) (by decide)
  have X1' : Stand p l e ({ frames := 1, cells := 2, slots := 4, locals := 12 } : Room) (s.setVm s.vm) m #[.ref x, .ref b, .int 0, .int 0, .null] below meth c T1 [] 0 0 := X1
  obtain ⟨a, T2, h2, k1, bb, kb, X2, e2, E2, S2, hk2, Z2, o2, Ea, Ca, Va, Ab, la, lb, C2, Lt, ne2, st2⟩ := ldcCH X1' hx hZ hown wl wS e1' ((State.WarmedH.refl s).since 0) (Nat.zero_le _) hEL hmem hCH (vs := []) (z := 0) ⟨fun c hc => (nomatch hc), rfl⟩ (by decide) rfl (g := mkF m 9 #[.val (.ref x), .val (.ref b), .val (.int 0), .val (.int 0), .val .null, .unset] [.ref x]) rfl (hb hby e9) (n := 0) (Nat.le_refl _) (by decide) (by decide) (by decide)
  have sf0 : Safe Z EL s.vm s.heap x := safe_blank (Z := Z) hZ.alike E V
  have sf2 : Safe Z EL T2.vm h2 x := C2.safe E.lt sf0
  obtain ⟨nea, neb⟩ := ne2 x sf2
  obtain ⟨T3, X3, e3', st3⟩ := Jvm.RoadKit.getF X2 hx Z2 o2 (host := "") (Or.inl (hw _ (by simp [StrChars.Road.words]))) Via.refl e2 Va (g := mkF m 11 #[.val (.ref x), .val (.ref b), .val (.int 0), .val (.int 0), .val .null, .unset] [.ref a, .ref x]) rfl rfl (hb hby e11)
  obtain ⟨T4, h4, X4, e4', W4, st4⟩ := Jvm.RoadKit.putF X3 hx Z2 o2 (host := "") (Or.inl (hw _ (by simp [StrChars.Road.words]))) Via.refl e3' (V.ext E2) (E.ext E2) (Or.inr ⟨wv, rfl, hnm⟩) wi (ty := .array .byte) (by decide) rfl rfl (g := mkF m 14 #[.val (.ref x), .val (.ref b), .val (.int 0), .val (.int 0), .val .null, .unset] [.ref bb, .ref x]) rfl rfl (hb hby e14)
  have C4 := C2.trans (CHr.wr W4 sf2 C2.1)
  have sf4 : Safe Z EL T2.vm h4 x := Safe.wr W4 sf2 C2.1 sf2
  have st5 := ldcAgain X4 hx Z2 o2 wl Lt (g := mkF m 18 #[.val (.ref x), .val (.ref b), .val (.int 0), .val (.int 0), .val .null, .unset] [.ref x]) rfl (hb hby e18)
  obtain ⟨T6, X6, e6', st6⟩ := Jvm.RoadKit.getF X4 hx Z2 o2 (host := "") (Or.inl (hw _ (by simp [StrChars.Road.words]))) Via.refl e4' (Ca.other W4 (Or.inl (Ne.symm nea))) (g := mkF m 20 #[.val (.ref x), .val (.ref b), .val (.int 0), .val (.int 0), .val .null, .unset] [.ref a, .ref x]) rfl rfl (hb hby e20)
  have sl : Jvm.RoadKit.slotOf Z ST "value" "[B" ≠ Jvm.RoadKit.slotOf Z ST "coder" "B" := Jvm.RoadKit.slot_ne (a0 := a0) (C := ST) (Or.inr wv) (Or.inr wc) (by decide) (t := .array .byte) (by decide) (t' := .byte) (by decide)
  obtain ⟨T7, h7, X7, e7', W7, st7⟩ := Jvm.RoadKit.putF X6 hx Z2 o2 (host := "") (Or.inl (hw _ (by simp [StrChars.Road.words]))) Via.refl e6' ((C.ext E2).other W4 (Or.inr (Ne.symm sl))) ((E.ext E2).wr W4) (Or.inr ⟨wc, rfl, hnm⟩) wi (ty := .byte) (by decide) rfl rfl (g := mkF m 23 #[.val (.ref x), .val (.ref b), .val (.int 0), .val (.int 0), .val .null, .unset] [.int 0, .ref x]) rfl rfl (hb hby e23)
  have C7 := C4.trans (CHr.wr W7 sf4 C4.1)
  have N7 : Fr n0 _ := Fr.snoc X7 (Fr.snoc X4 (Fr.nil n0) hx0) hx0
  have K7 : Keep s.heap h7 [x] := (((Keep.refl s.heap [x]).ext E2).wr W4 (Or.inl (List.mem_singleton.mpr rfl))).wr W7 (Or.inl (List.mem_singleton.mpr rfl))
  have hk7 : k1 ≤ T7.heap.size := by rw [e7', W7.size, W4.size]; exact hk2
  obtain ⟨fs, hr, hrun, hended, hE⟩ := X7.leaveW S2 hk7 (v := none) (fun _ => rfl) Bd.notSynchronized
  rw [efN4 m x b]
  refine ⟨_, _, ?_, hrun, hended, none, _, rfl, ⟨N7, ?_, ?_⟩, ?_, hE, fun q => absurd hmem (by rw [q]; exact List.not_mem_nil)⟩
  · refine XS.aloadN X0.here hx rfl (hb hby e0) rfl rfl ?_
    refine st1 _ ?_
    refine XS.iloadN X1.here hx rfl (hb hby e4) rfl ?_
    refine XS.ifNo X1.here hx rfl (hb hby e5) rfl (XT.i0_ne_f rfl) ?_
    refine XS.aloadN X1.here hx rfl (hb hby e8) rfl rfl ?_
    refine st2 _ ?_
    refine st3 _ ?_
    refine st4 _ ?_
    refine XS.aloadN X4.here hx rfl (hb hby e17) rfl rfl ?_
    refine st5 _ ?_
    refine st6 _ ?_
    refine st7 _ ?_
    exact X7.returnOut hx Bd.returns (hb hby e26) hr
  · show Old Z n0 T7.heap
    rw [e7']; exact hO.keep K7 (allS hx0 all0)
  · show QS Z x [] s.heap none T7.heap
    rw [e7']
    refine ⟨rfl, K7, ((E.ext E2).wr W4).wr W7, Fld.same W7 ((C.ext E2).other W4 (Or.inr (Ne.symm sl))), fun c hc => (nomatch hc), Nat.zero_le _, bb, kb, (Fld.same W4 (V.ext E2)).other W7 (Or.inr sl), ?_⟩
    exact (Ab.other W4 (Ne.symm neb)).other W7 (Ne.symm neb)
  · show CHr Z EL s.vm s.heap T7.vm T7.heap
    rw [e7']
    exact C7.trans (CHv.at X7 Z2 hEL C7.1)
theorem G.arrlen {code : ByteArray} {maxL : Nat} {ret : Option FieldType} {own mname : String} {Q : Option Value → Heap → Prop} {cells slots pc : Nat} {L : Array Slot} {S : List Value} {kA : ClassId} {ty : FieldType} {z : Int32} {vs : List Value} {dv : Value} (hd : decode code pc = .ok (.arraylength, 1)) (A : Arv Z h a kA ty z vs dv)
    (k : G l Z a0 EL tbl n0 code maxL ret R own mname Q h cells slots (pc + 1) L (.int z :: S)) : G l Z a0 EL tbl n0 code maxL ret R own mname Q h cells slots pc L (.ref a :: S) := by
  intro p e s m args below meth c T vm0 k0 locs P
  obtain ⟨hx, hby, hml, hret, hlk, hnm, hEL, hw, X, eT, r⟩ := id P
  obtain ⟨hS, hk, hZ, -⟩ := r
  obtain ⟨cl, A1, A2, A3, A4, A5, A6⟩ := A
  exact back_steps (fun t ht => X.arraylength hx (by rw [eT]; exact A1.1) (State.isArrayOf_alike (s := Z) hZ.alike A1.2.1) (g := mkF m pc L (.ref a :: S)) rfl rfl (hb hby hd) t (by rw [len_of A3 A4]; exact ht)) (k p e s m args below meth c T vm0 k0 locs P)
theorem G.caload {code : ByteArray} {maxL : Nat} {ret : Option FieldType} {own mname : String} {Q : Option Value → Heap → Prop} {cells slots pc : Nat} {L : Array Slot} {S : List Value} {kA : ClassId} {z j : Int32} {vs : List Value} {dv v : Value} (hd : decode code pc = .ok (.caload, 1)) (A : Arv Z h a kA .char z vs dv) (hj : ¬ j < 0 ∧ j < z) (hv : vs.getD j.toNatClampNeg dv = v)
    (k : G l Z a0 EL tbl n0 code maxL ret R own mname Q h cells slots (pc + 1) L (v :: S)) : G l Z a0 EL tbl n0 code maxL ret R own mname Q h cells slots pc L (.int j :: .ref a :: S) := by
  intro p e s m args below meth c T vm0 k0 locs P
  obtain ⟨hx, hby, hml, hret, hlk, hnm, hEL, hw, X, eT, r⟩ := id P
  obtain ⟨hS, hk, hZ, -⟩ := r
  obtain ⟨cl, A1, A2, A3, A4, A5, A6⟩ := A
  exact back_steps (fun t ht => X.caload hx (by rw [eT]; exact A1.1) (State.isArrayOf_alike (s := Z) hZ.alike A1.2.1) A1.2.2 (inb_of A3 hj) (A5.at (inb_of A3 hj) hv) (g := mkF m pc L (.int j :: .ref a :: S)) rfl rfl (hb hby hd) t ht) (k p e s m args below meth c T vm0 k0 locs P)
theorem pdN4 : parseMethodDescriptor "([CIILjava/lang/Void;)V" = some ⟨[.array .char, .int, .int, .object "java/lang/Void"], none⟩ := by decide +kernel
theorem pdN1 : parseMethodDescriptor "([C)V" = some ⟨[.array .char], none⟩ := by decide +kernel
set_option maxRecDepth 65536 in
theorem new1e (hws : ∀ d ∈ StrChars.Road.words, d ∈ tbl) (hwe : ∀ d ∈ wordsE, d ∈ tbl) (hmem : (ST, 7) ∈ EL) {b : Addr} {kC : ClassId} {vs : List Value} {dv : Value} (hx0 : n0 ≤ x) (E : Exa Z h x ST) (V : Fld Z h x ST "value" "[B" .null) (C : Fld Z h x ST "coder" "B" (.int 0)) (K : Arv Z h b kC .char 0 vs dv) :
    Ct l Z a0 EL tbl [] n0 N1 StrChars.New1.yB 2 none ({ frames := 2, cells := 2, slots := 4, locals := 29 } : Room) #[.ref x, .ref b] h (QS Z x [] h) := by
  refine Ct.of_body pnS (fun m => efN1 m x b) (fun _ _ _ => ?_)
  refine G.seg [(0, .aload_n 0, 1), (1, .aload_n 1, 1), (2, .iconst 0, 1), (3, .aload_n 1, 1)] (by decide +kernel) (pc' := 4) (L' := #[.val (.ref x), .val (.ref b)]) (S' := [.ref b, .int 0, .ref b, .ref x]) rfl ?_
  refine G.arrlen (by decide +kernel) K ?_
  refine G.seg [(5, .aconst_null, 1)] (by decide +kernel) (pc' := 6) (L' := #[.val (.ref x), .val (.ref b)]) (S' := [.null, .int 0, .int 0, .ref b, .ref x]) rfl ?_
  refine G.special (y := N4) (idx := 27) (a := x) (argsL := [.ref b, .int 0, .int 0, .null]) (rest := []) rfl (by decide +kernel) (hws _ (by simp [StrChars.Road.words, StrChars.New4.yN])) (hws _ (by simp [StrChars.Road.words, StrChars.New4.yN])) (hws (.code N4 StrChars.New4.yB 6 none) (by simp [StrChars.Road.words, StrChars.New4.yN])) (by decide)
    ((new4e hws hwe hmem hx0 E V C).pays (W := 0) (hws _ (by simp [StrChars.Road.words, StrChars.New4.yN])) (hws _ (by simp [StrChars.Road.words])) (by decide) (by decide)) (lenOf pdN4 rfl) rfl (Nat.le_of_eq rfl) rfl (by decide) (by decide) ?_
  rintro v h' ⟨rfl, q⟩
  exact G.retV (by decide +kernel) rfl ⟨rfl, q⟩ (by decide) (by decide)
theorem up (q : lat cs) : ∀ c ∈ cs, ¬ c < 0 ∧ ¬ (65535 : Int32) < c := fun c hc => ⟨(q c hc).1, fun r => (q c hc).2 (by rw [Int32.lt_iff_toInt_lt] at r ⊢; have e1 : (65535 : Int32).toInt = 65535 := rfl; have e2 : (255 : Int32).toInt = 255 := rfl; omega)⟩
/-- **new String(char[])**, any length from 0 on -/
theorem newStr {W : Nat} (hws : ∀ d ∈ StrChars.Road.words, d ∈ tbl) (hwe : ∀ d ∈ wordsE, d ∈ tbl) (hmem : (ST, 7) ∈ EL) {b : Addr} {kC : ClassId} {dv : Value} (hx0 : n0 ≤ x) (E : Exa Z h x ST) (V : Fld Z h x ST "value" "[B" .null) (C : Fld Z h x ST "coder" "B" (.int 0)) (K : Arv Z h b kC .char (Int32.ofNat cs.length) (cs.map Value.int) dv)
    (hcs : CS Z) (hlat : lat cs) (hlen : cs.length ≤ 4000) (hf : 4 ≤ R.frames) (hlo : W + 65 ≤ R.locals) :
    BK l Z a0 EL tbl n0 R N1 3 W #[.ref x, .ref b] h 2 (cs.length + 4) (QS Z x cs h) := by
  rcases Nat.eq_zero_or_pos cs.length with h0 | h0
  · obtain rfl : cs = [] := List.eq_nil_of_length_eq_zero h0
    exact (new1e hws hwe hmem hx0 E V C K).pays (hws _ (by simp [StrChars.Road.words, StrChars.New1.yN])) (hws _ (by simp [StrChars.Road.words])) (Nat.le_trans (by decide) hf) (by show W + (2 + 11) + 29 ≤ _; omega)
  · refine BK.more (kc := 1) (ks := cs.length) (by decide) (Nat.le_add_right _ _) (BK.of_back (ws := [x]) (allS hx0 all0) (fun vm hv => sfS (safe_blank (Z := Z) hv.alike E V) sf0) fun p e below s args vm0 hw hZ O => ?_)
    obtain ⟨z, Sz, hz⟩ := hcs
    intro m meth c A g ig mk a X hg hsize hdg hW hn hp
    obtain ⟨v, B, X', ⟨Lc, ⟨q1, q2, q3, q4, q5, t, kb, r1, r2, r3, r4, r5⟩, q7⟩, st⟩ := StrChars.Road.backV (W := W) (s := s.setVm vm0) hZ (fun d hd => hw d (hws d hd)) (kI := 4) (hw _ (hwe _ (by simp [wordsE]))) (cs := cs) (bs := cs.map (fun c => c.toInt8.toInt32)) (n := cs.length) hx0 (O.1 ▸ O.2.1) E V C K (Sz.ext O.2) hz rfl rfl h0 hlen hlat rfl hf hlo m meth c A g ig mk a X hg hsize hdg hW hn hp
    exact ⟨v, B, X', ⟨Lc, ⟨q2, q3, q1, q3, q4, q5, hlat, hlen, t, kb, r4, r5⟩, q7⟩, st⟩
end Strings
end Own
end Jvm.Pilot.@@N@@
namespace Jvm.Pilot.@@N@@
namespace Own
open Jvm Jvm.ClassFile Sem Op Lib Jvm.Free Jvm.Stand Jvm.LawKit Jvm.RoadKit Bundle
section Str1
variable {l : Launch} {Z : State} {a0 : Array Value} {EL : List (String × Nat)} {tbl : List Jvm.Cond} {n0 : Nat} {R : Room} {h h' h1 h2 : Heap} {a x y : Addr} {cs ds : List Int32}
/-- new String(char[]) of one sign or more: no constant is asked -/
theorem newStr1 {W : Nat} (hws : ∀ d ∈ StrChars.Road.words, d ∈ tbl) (wi : Jvm.Cond.instantiable ST 4 ∈ tbl) {b : Addr} {kC : ClassId} {dv : Value} (hx0 : n0 ≤ x) (E : Exa Z h x ST) (V : Fld Z h x ST "value" "[B" .null) (C : Fld Z h x ST "coder" "B" (.int 0)) (K : Arv Z h b kC .char (Int32.ofNat cs.length) (cs.map Value.int) dv)
    (hcs : CS Z) (hlat : lat cs) (h0 : 0 < cs.length) (hlen : cs.length ≤ 4000) (hf : 4 ≤ R.frames) (hlo : W + 65 ≤ R.locals) :
    BK l Z a0 EL tbl n0 R N1 3 W #[.ref x, .ref b] h 1 cs.length (QS Z x cs h) := by
  refine BK.of_back (ws := [x]) (allS hx0 all0) (fun vm hv => sfS (safe_blank (Z := Z) hv.alike E V) sf0) fun p e below s args vm0 hw hZ O => ?_
  obtain ⟨z, Sz, hz⟩ := hcs
  intro m meth c A g ig mk a X hg hsize hdg hW hn hp
  obtain ⟨v, B, X', ⟨Lc, ⟨q1, q2, q3, q4, q5, t, kb, r1, r2, r3, r4, r5⟩, q7⟩, st⟩ := StrChars.Road.backV (W := W) (s := s.setVm vm0) hZ (fun d hd => hw d (hws d hd)) (kI := 4) (hw _ wi) (cs := cs) (bs := cs.map (fun c => c.toInt8.toInt32)) (n := cs.length) hx0 (O.1 ▸ O.2.1) E V C K (Sz.ext O.2) hz rfl rfl h0 hlen hlat rfl hf hlo m meth c A g ig mk a X hg hsize hdg hW hn hp
  exact ⟨v, B, X', ⟨Lc, ⟨q2, q3, q1, q3, q4, q5, hlat, hlen, t, kb, r4, r5⟩, q7⟩, st⟩
end Str1
end Own
end Jvm.Pilot.@@N@@
namespace Jvm.Pilot.@@N@@
namespace Own
open Jvm Jvm.ClassFile Sem Op Lib Jvm.Free Jvm.Stand Jvm.LawKit Jvm.RoadKit Bundle
section StrLen
variable {l : Launch} {Z : State} {a0 : Array Value} {EL : List (String × Nat)} {tbl : List Jvm.Cond} {n0 : Nat} {R : Room} {h h' h1 h2 : Heap} {a x y : Addr} {cs ds : List Int32}
/-- **length** of a String -/
theorem lenB {W : Nat} (hwl : ∀ d ∈ StrChars.Road.wordsLen, d ∈ tbl) (wi : Jvm.Cond.instantiable ST 4 ∈ tbl) (A : Str Z h x cs) (hcs : CS Z) (hf : 2 ≤ R.frames) (hlo : W + 25 ≤ R.locals) :
    BK l Z a0 EL tbl n0 R ⟨ST, "length", "()I"⟩ 3 W #[.ref x] h 0 0 (fun v h' => h' = h ∧ v = some (.int (Int32.ofNat cs.length))) := by
  refine BK.of_back (ws := []) all0 (fun _ _ => sf0) fun p e below s args vm0 hw hZ O => ?_
  obtain ⟨z, Sz, hz⟩ := hcs
  obtain ⟨E, C, q1, q2, b, k, V, K⟩ := A
  intro m meth c A g ig mk a X hg hsize hdg hW hn hp
  obtain ⟨v, B, X', ⟨Lc, ⟨hv, rfl, hh⟩, q7⟩, st⟩ := StrChars.Road.lenW (W := W) (s := s.setVm vm0) hZ (fun d hd => hw d (hwl d hd)) (kI := 4) (hw _ wi) E V C K (StrChars.Road.codOf rfl fun c hc => (q1 c hc).2) (up q1) (Sz.ext O.2) hz q2 hf hlo m meth c A g ig mk a X hg hsize hdg hW hn hp
  exact ⟨v, B, X', ⟨[], ⟨Fr.nil n0, by rw [hh]; exact Keep.refl _ _, hh, hv⟩, q7⟩, st⟩
end StrLen
end Own
end Jvm.Pilot.@@N@@
namespace Jvm.Pilot.@@N@@
namespace Own
open Jvm Jvm.ClassFile Sem Op Lib Jvm.Free Jvm.Stand Jvm.LawKit Jvm.RoadKit Bundle
section Bytes
variable {l : Launch} {Z : State} {a0 : Array Value} {EL : List (String × Nat)} {tbl : List Jvm.Cond} {n0 : Nat} {code : ByteArray} {maxL : Nat} {ret : Option FieldType} {R : Room} {own mname : String} {Q : Option Value → Heap → Prop} {h : Heap} {cells slots pc : Nat} {L : Array Slot} {S : List Value}
/-- bastore into a byte[], in a walk that interns nothing -/
theorem G.bastore {a : Addr} {kA : ClassId} {z j x x' : Int32} {vs : List Value} {dv : Value} {i : Nat} (hE : EL = []) (hd : decode code pc = .ok (.bastore, 1)) (A : Arv Z h a kA .byte z vs dv) (ha : n0 ≤ a) (hj : ¬ j < 0 ∧ j < z) (hi : j.toNatClampNeg = i) (hlen : i < vs.length) (hx' : nar .byte x = x')
    (k : ∀ h', Keep h h' [a] → Arv Z h' a kA .byte z (vs.set i (.int x')) dv → G l Z a0 EL tbl n0 code maxL ret R own mname Q h' cells slots (pc + 1) L S) :
    G l Z a0 EL tbl n0 code maxL ret R own mname Q h cells slots pc L (.int x :: .int j :: .ref a :: S) := by
  subst hx'
  intro p e s m args below meth c T vm0 k0 locs P
  obtain ⟨hx, hby, hml, hret, hlk, hnm, hEL, hw, X, eT, hS, hk, hZ, hown, N, H, O, Wm⟩ := P
  obtain ⟨cl, A1, A2, A3, A4, A5, A6⟩ := A
  obtain ⟨T', h', X', e', W, st⟩ := stB X hx hZ eT A1 (inb_of A3 hj) (g := mkF m pc L (.int x :: .int j :: .ref a :: S)) rfl rfl (hb hby hd)
  exact back_steps st (k h' (Keep.of_wr W) (Arv.set A1 A2 A3 A4 A5 A6 (fits_nar_byte x) W i hi hlen) p e s m args below meth c T' vm0 k0 _ ⟨hx, hby, hml, hret, hlk, hnm, hEL, hw, X', e', hS, by rw [W.size]; exact hk, hZ, hown, Fr.snoc X' N ha, H.trans (CHr.wr W (safe_nil hE) H.1), O.wr W ha, Wm⟩)
theorem nar_byte8 (x : Int32) : nar .byte x.toInt8.toInt32 = x.toInt8.toInt32 := by simp [nar]
end Bytes
end Own
end Jvm.Pilot.@@N@@
namespace Jvm.Pilot.@@N@@
namespace Own
open Jvm Jvm.ClassFile Sem Op Lib Jvm.Free Jvm.Stand Jvm.LawKit Jvm.RoadKit Bundle
section More
variable {l : Launch} {Z : State} {a0 : Array Value} {EL : List (String × Nat)} {tbl : List Jvm.Cond} {n0 : Nat} {code : ByteArray} {maxL : Nat} {ret : Option FieldType} {R : Room} {own mname : String} {Q : Option Value → Heap → Prop} {h : Heap} {cells slots pc : Nat} {L : Array Slot} {S : List Value} {a : Addr}
/-- a loop: from any of its heads one comes to the end or to a lower head -/
theorem G.loop {α : Type} (μ : α → Nat) (P : α → Prop) (J : α → Heap × Nat × Nat × Nat × Array Slot × List Value) (x0 : α) (e : J x0 = (h, cells, slots, pc, L, S)) (h0 : P x0)
    (body : ∀ x, P x → (∀ y, P y → μ y < μ x → G l Z a0 EL tbl n0 code maxL ret R own mname Q (J y).1 (J y).2.1 (J y).2.2.1 (J y).2.2.2.1 (J y).2.2.2.2.1 (J y).2.2.2.2.2) → G l Z a0 EL tbl n0 code maxL ret R own mname Q (J x).1 (J x).2.1 (J x).2.2.1 (J x).2.2.2.1 (J x).2.2.2.2.1 (J x).2.2.2.2.2) :
    G l Z a0 EL tbl n0 code maxL ret R own mname Q h cells slots pc L S := by
  have key : ∀ n x, μ x < n → P x → G l Z a0 EL tbl n0 code maxL ret R own mname Q (J x).1 (J x).2.1 (J x).2.2.1 (J x).2.2.2.1 (J x).2.2.2.2.1 (J x).2.2.2.2.2 := by
    intro n
    induction n with
    | zero => exact fun x q => absurd q (Nat.not_lt_zero _)
    | succ n ih => exact fun x q hx => body x hx fun y hy r => ih y (Nat.lt_of_lt_of_le r (Nat.le_of_lt_succ q)) hy
  have := key _ x0 (Nat.lt_succ_self _) h0
  rw [e] at this; exact this
theorem G.baload {kA : ClassId} {z j : Int32} {vs : List Value} {dv v : Value} (hd : decode code pc = .ok (.baload, 1)) (A : Arv Z h a kA .byte z vs dv) (hj : ¬ j < 0 ∧ j < z) (hv : vs.getD j.toNatClampNeg dv = v)
    (k : G l Z a0 EL tbl n0 code maxL ret R own mname Q h cells slots (pc + 1) L (v :: S)) : G l Z a0 EL tbl n0 code maxL ret R own mname Q h cells slots pc L (.int j :: .ref a :: S) := by
  intro p e s m args below meth c T vm0 k0 locs P
  obtain ⟨hx, hby, hml, hret, hlk, hnm, hEL, hw, X, eT, r⟩ := id P
  obtain ⟨hS, hk, hZ, -⟩ := r
  obtain ⟨cl, A1, A2, A3, A4, A5, A6⟩ := A
  exact back_steps (fun t ht => X.baloadBytes hx (by rw [eT]; exact A1.1) (State.isArrayOf_alike (s := Z) hZ.alike A1.2.1) A1.2.2 (inb_of A3 hj) (A5.at (inb_of A3 hj) hv) (g := mkF m pc L (.int j :: .ref a :: S)) rfl rfl (hb hby hd) t ht) (k p e s m args below meth c T vm0 k0 locs P)
theorem G.ldcI {idx : Nat} {v : Int32} (hd : decode code pc = .ok (.ldc idx, 2)) (w : Jvm.Cond.constant own idx v ∈ tbl)
    (k : G l Z a0 EL tbl n0 code maxL ret R own mname Q h cells slots (pc + 2) L (.int v :: S)) : G l Z a0 EL tbl n0 code maxL ret R own mname Q h cells slots pc L S := by
  intro p e s m args below meth c T vm0 k0 locs P
  obtain ⟨hx, hby, hml, hret, hlk, hnm, hEL, hw, X, eT, r⟩ := id P
  obtain ⟨hS, hk, hZ, hown, -⟩ := r
  exact back_steps (fun t ht => X.ldcInt hx hown (mvT hZ (hw _ w)) (g := mkF m pc L S) rfl (hb hby hd) t ht) (k p e s m args below meth c T vm0 k0 locs P)
theorem G.ldcJ {idx : Nat} {v : Int64} (hd : decode code pc = .ok (.ldc2_w idx, 3)) (w : Jvm.Cond.constantLong own idx v ∈ tbl)
    (k : G l Z a0 EL tbl n0 code maxL ret R own mname Q h cells slots (pc + 3) L (.long v :: S)) : G l Z a0 EL tbl n0 code maxL ret R own mname Q h cells slots pc L S := by
  intro p e s m args below meth c T vm0 k0 locs P
  obtain ⟨hx, hby, hml, hret, hlk, hnm, hEL, hw, X, eT, r⟩ := id P
  obtain ⟨hS, hk, hZ, hown, -⟩ := r
  exact back_steps (fun t ht => X.ldc2Long hx hown (mvT hZ (hw _ w)) (g := mkF m pc L S) rfl (hb hby hd) t ht) (k p e s m args below meth c T vm0 k0 locs P)
theorem keepSet {c c' : Cell} (q : h[a]? = some c) (h1 : c'.cls = c.cls) (h2 : c'.vm = c.vm) (h3 : c'.slots.size = c.slots.size) : Keep h (h.setIfInBounds a c') [a] := by
  refine ⟨by simp, fun x cx hx r => ?_, fun x cx hx => ?_⟩
  · have : a ≠ x := fun z => r (by simp [z])
    rw [Array.getElem?_setIfInBounds_ne this]; exact hx
  · by_cases z : a = x
    · subst z; cases q.symm.trans hx
      exact ⟨c', by rw [Array.getElem?_setIfInBounds_self_of_lt (Array.getElem?_eq_some_iff.mp q).1], h1, h2, h3⟩
    · exact ⟨cx, by rw [Array.getElem?_setIfInBounds_ne z]; exact hx, rfl, rfl, rfl⟩
theorem fits_int {v : Value} (q : fits .byte v = true) : ∃ x, v = .int x := by cases v <;> simp [fits] at q ⊢
theorem G.arrcopy {src dst : Addr} {kA kB : ClassId} {z1 z2 i1 i2 i3 : Int32} {vs ds ds' : List Value} {dv dw : Value} {o q n idx : Nat} (hE : EL = []) (hd : decode code pc = .ok (.invokestatic idx, 3))
    (w1 : Jvm.Cond.methodLink own idx arraycopyName ∈ tbl) (w2 : Jvm.Cond.native arraycopyName ∈ tbl) (w3 : Jvm.Cond.static arraycopyName ∈ tbl) (w4 : Jvm.Cond.initialized "java/lang/System" ∈ tbl)
    (A : Arv Z h src kA .byte z1 vs dv) (B : Arv Z h dst kB .byte z2 ds dw) (hn0 : n0 ≤ dst) (e1 : i1 = Int32.ofNat o) (e2 : i2 = Int32.ofNat q) (e3 : i3 = Int32.ofNat n) (ho : o < 2 ^ 31) (hq : q < 2 ^ 31) (hn : n < 2 ^ 31) (h4 : o + n ≤ z1.toNatClampNeg) (h5 : q + n ≤ z2.toNatClampNeg)
    (hds : ∀ j, j < z2.toNatClampNeg → ds'.getD j dw = if q ≤ j ∧ j < q + n then vs.getD (o + (j - q)) dv else ds.getD j dw)
    (hfr : 1 ≤ R.frames) (hlo : (S.map fun v => v.category).sum + 18 ≤ R.locals) (hsz : L.size = maxL)
    (k : ∀ h', Keep h h' [dst] → Arv Z h' dst kB .byte z2 ds' dw → G l Z a0 EL tbl n0 code maxL ret R own mname Q h' cells slots (pc + 3) L S) :
    G l Z a0 EL tbl n0 code maxL ret R own mname Q h cells slots pc L (.int i3 :: .int i2 :: .ref dst :: .int i1 :: .ref src :: S) := by
  subst e1 e2 e3
  intro p e s m args below meth c T vm0 k0 locs P
  obtain ⟨hx, hby, hml, hret, hlk, hnm, hEL, hw, X, eT, hS, hk, hZ, hown, N, H, O, Wm⟩ := P
  obtain ⟨cs, A1, A2, A3, A4, A5, A6⟩ := A
  obtain ⟨cd, B1, B2, B3, B4, B5, B6⟩ := B
  obtain ⟨s1, ks, s2, sC, s3⟩ := State.isArrayOf_alike (s := Z) (T := s.setVm vm0) hZ.alike A1.2.1
  obtain ⟨d1, kd, d2, dC, d3⟩ := State.isArrayOf_alike (s := Z) (T := s.setVm vm0) hZ.alike B1.2.1
  have eo : (Int32.ofNat o).toNatClampNeg = o := Int32.toNatClampNeg_ofNat_of_lt ho
  have eq : (Int32.ofNat q).toNatClampNeg = q := Int32.toNatClampNeg_ofNat_of_lt hq
  have en : (Int32.ofNat n).toNatClampNeg = n := Int32.toNatClampNeg_ofNat_of_lt hn
  have io : (Int32.ofNat o).toInt = o := Int32.toInt_ofNat_small ho
  have iq : (Int32.ofNat q).toInt = q := Int32.toInt_ofNat_small hq
  have iN : (Int32.ofNat n).toInt = n := Int32.toInt_ofNat_small hn
  have z0 : (0 : Int32).toInt = 0 := rfl
  have src_at : ∀ j, j < n → cs.slots.getD (o + j) .null = vs.getD (o + j) dv := fun j hj => by
    have := A5 (o + j) (by omega)
    simp [Array.getD_eq_getD_getElem?, this]
  obtain ⟨vm', X', st⟩ := X.arraycopy hx hown (mvT hZ (hw _ w1)) (mvT hZ (hw _ w2)) (mvT hZ (hw _ w3)) (mvT hZ (hw _ w4)) (src := src) (dst := dst) (srcPos := Int32.ofNat o) (destPos := Int32.ofNat q) (n := Int32.ofNat n)
    (by rw [eT]; exact A1.1) (by rw [eT]; exact B1.1) s1 d1 A1.2.2 B1.2.2 s2 d2 s3 d3 rfl (by rw [Int32.lt_iff_toInt_lt, io, z0]; omega) (by rw [Int32.lt_iff_toInt_lt, iq, z0]; omega) (by rw [Int32.lt_iff_toInt_lt, iN, z0]; omega)
    (by rw [io, iN]; omega) (by rw [iq, iN]; omega)
    (fun vm' _ i hi => by
      rw [en] at hi; rw [eo, src_at i hi]
      have f := A6 (o + i) (by omega)
      obtain ⟨x, ex⟩ := fits_int f
      rw [ex] at f ⊢
      exact ⟨f, trivial⟩)
    (g := mkF m pc L (.int (Int32.ofNat n) :: .int (Int32.ofNat q) :: .ref dst :: .int (Int32.ofNat o) :: .ref src :: S)) rfl (hsz.trans hml.symm) (rest := S) rfl (hb hby hd) hfr (by
      rw [nativeFrameWords_plain 5 (by decide)]; show 2 * 0 + _ + _ ≤ _; omega)
  have cf := Cell.storeRun_facts cd (Int32.ofNat q).toNatClampNeg (cs.stretch (Int32.ofNat o).toNatClampNeg (Int32.ofNat n).toNatClampNeg)
  have cg : ∀ j, (copied cs cd (Int32.ofNat o) (Int32.ofNat q) (Int32.ofNat n)).slots[j]? = if q ≤ j ∧ j < q + n then some (cs.slots.getD (o + (j - q)) .null) else cd.slots[j]? := Jvm.Free.Str.copied_at2 ho hq hn (by omega)
  have K : Keep h (h.setIfInBounds dst (copied cs cd (Int32.ofNat o) (Int32.ofNat q) (Int32.ofNat n))) [dst] := keepSet B1.1 cf.1 cf.2.1 cf.2.2.1
  have sz : (copied cs cd (Int32.ofNat o) (Int32.ofNat q) (Int32.ofNat n)).slots.size = cd.slots.size := cf.2.2.1
  have ival : ∀ j, j < cd.slots.size → ds'.getD j dw = if q ≤ j ∧ j < q + n then vs.getD (o + (j - q)) dv else ds.getD j dw := fun j hj => hds j (by omega)
  have A' : Arv Z (h.setIfInBounds dst (copied cs cd (Int32.ofNat o) (Int32.ofNat q) (Int32.ofNat n))) dst kB .byte z2 ds' dw := by
    refine ⟨_, ⟨by rw [Array.getElem?_setIfInBounds_self_of_lt (Array.getElem?_eq_some_iff.mp B1.1).1], ⟨fun k' => by rw [show (copied cs cd (Int32.ofNat o) (Int32.ofNat q) (Int32.ofNat n)).vm = cd.vm from cf.2.1]; exact B1.2.1.1 k', by rw [show (copied cs cd (Int32.ofNat o) (Int32.ofNat q) (Int32.ofNat n)).cls = cd.cls from cf.1]; exact B1.2.1.2⟩, by rw [show (copied cs cd (Int32.ofNat o) (Int32.ofNat q) (Int32.ofNat n)).vm = cd.vm from cf.2.1]; exact B1.2.2⟩, (show _ = cd.cls from cf.1).trans B2, sz.trans B3, B4, fun j hj => ?_, fun j hj => ?_⟩
    · rw [sz] at hj
      rw [cg, ival j hj]
      by_cases r : q ≤ j ∧ j < q + n
      · rw [if_pos r, if_pos r, src_at _ (by omega)]
      · rw [if_neg r, if_neg r]; exact B5 j hj
    · rw [sz] at hj
      rw [ival j hj]
      by_cases r : q ≤ j ∧ j < q + n
      · rw [if_pos r]; exact A6 _ (by omega)
      · rw [if_neg r]; exact B6 j hj
  refine back_steps st (k _ K A' p e s m args below meth c _ vm0 k0 _ ⟨hx, hby, hml, hret, hlk, hnm, hEL, hw, X', by show T.heap.setIfInBounds _ _ = _; rw [eT], hS, by simpa using hk, hZ, hown, N.app fun y hy => ?_, H.trans (CHr.keep K (fun _ _ => safe_nil hE) H.1), O.keep K (allS hn0 all0), Wm⟩)
  obtain ⟨w, -, rfl⟩ := List.mem_map.mp hy
  exact hn0
end More
end Own
end Jvm.Pilot.@@N@@
namespace Jvm.Pilot.@@N@@
namespace Own
open Jvm Jvm.ClassFile Sem Op Lib Jvm.Free Jvm.Stand Jvm.LawKit Jvm.RoadKit Bundle
/-! ## 6. Numbers -/
/-- a sign from 0 to 255 -/
def b8 (x : Int32) : Prop := ¬ x < 0 ∧ ¬ (255 : Int32) < x
theorem b8_iff (x : Int32) : b8 x ↔ x.toBitVec.toNat < 256 := by
  have h1 : x.toInt = x.toBitVec.toInt := rfl
  have e0 : (0 : Int32).toInt = 0 := rfl
  have e1 : (255 : Int32).toInt = 255 := rfl
  have := x.toBitVec.isLt
  simp only [b8, Int32.lt_iff_toInt_lt, e0, e1, h1, BitVec.toInt_eq_toNat_cond]
  split <;> omega
theorem and_nat (x m : Int32) : (x &&& m).toBitVec.toNat ≤ m.toBitVec.toNat := by
  simp only [Int32.toBitVec_and, BitVec.toNat_and]; exact Nat.and_le_right
theorem ofNat_nat (x : Int32) : x = Int32.ofNat x.toBitVec.toNat := by
  apply Int32.toBitVec_inj.mp
  show _ = BitVec.ofNat 32 _
  rw [BitVec.ofNat_toNat]; simp
theorem andk (x m : Int32) (n : Nat) (hm : m.toBitVec.toNat < n) : ∃ k : Fin n, x &&& m = Int32.ofNat k.val := ⟨⟨_, Nat.lt_of_le_of_lt (and_nat x m) hm⟩, ofNat_nat _⟩
theorem b8_and (x : Int32) : b8 (x &&& 255) := (b8_iff _).mpr (Nat.lt_of_le_of_lt (and_nat x 255) (by decide))
theorem b8_xor {x y : Int32} (hx : b8 x) (hy : b8 y) : b8 (x ^^^ y) := by
  rw [b8_iff] at *
  simp only [Int32.toBitVec_xor, BitVec.toNat_xor]
  exact Nat.xor_lt_two_pow (n := 8) hx hy
theorem b8_cases {x : Int32} (hx : b8 x) : ∃ k : Fin 256, x = Int32.ofNat k.val := ⟨⟨_, (b8_iff x).mp hx⟩, ofNat_nat x⟩
/-- (char) of such a sign is itself -/
theorem b8_c {x : Int32} (hx : b8 x) : x.toUInt32.toUInt16.toUInt32.toInt32 = x := by
  obtain ⟨k, rfl⟩ := b8_cases hx
  clear hx; revert k; decide +kernel
theorem b8_ci {x : Int32} (hx : b8 x) : b8 x.toUInt32.toUInt16.toUInt32.toInt32 := by rw [b8_c hx]; exact hx
theorem nar_b8 {x : Int32} (hx : b8 x) : nar .char x = x := b8_c hx
theorem lat0 : lat [] := fun _ h => nomatch h
theorem latS {c : Int32} {cs : List Int32} (h : b8 c) (r : lat cs) : lat (c :: cs) := fun x hx => (List.mem_cons.mp hx).elim (fun e => e ▸ h) (r x)
theorem nar_z {x : Int32} (h : x = 0 ∨ x = 1) : nar .boolean x = x := by rcases h with rfl | rfl <;> rfl
theorem nar_ite {p : Prop} [Decidable p] : nar .boolean (if p then 1 else 0) = if p then 1 else 0 := by split <;> rfl
theorem narr_z {x : Int32} (h : x = 0 ∨ x = 1) : narrow .boolean (.int x) = .int x := by rcases h with rfl | rfl <;> rfl
theorem fits_z {x : Int32} (h : x = 0 ∨ x = 1) : fits .boolean (.int x) = true := by rcases h with rfl | rfl <;> rfl
theorem fits_r {n : String} {v : Value} (h : v.isRef = true) : fits (.object n) v = true := by rcases ref_cases h with rfl | ⟨a, rfl⟩ <;> rfl
theorem and3 (x : Int32) : x &&& 3 = 0 ∨ x &&& 3 = 1 ∨ x &&& 3 = 2 ∨ x &&& 3 = 3 := by
  obtain ⟨k, e⟩ := andk x 3 4 (by decide); rw [e]; clear e; revert k; decide +kernel
theorem and3rem3 (x : Int32) : (x &&& 3) % 3 = 0 ∨ (x &&& 3) % 3 = 1 ∨ (x &&& 3) % 3 = 2 := by
  obtain ⟨k, e⟩ := andk x 3 4 (by decide); rw [e]; clear e; revert k; decide +kernel
theorem and1 (x : Int32) : x &&& 1 = 0 ∨ x &&& 1 = 1 := by
  obtain ⟨k, e⟩ := andk x 1 2 (by decide); rw [e]; clear e; revert k; decide +kernel
end Own
end Jvm.Pilot.@@N@@
namespace Jvm.Pilot.@@N@@
namespace Own
open Jvm Jvm.ClassFile Sem Op Lib Jvm.Free Jvm.Stand Jvm.LawKit Jvm.RoadKit Bundle
/-- the bytes of a String of signs up to 255 -/
abbrev bys (cs : List Int32) : List Value := (cs.map fun c => c.toInt8.toInt32).map Value.int
def FM (Z : State) : Prop := ∃ v : Value, Sta Z Z.heap "jdk/internal/util/Preconditions" "SIOOBE_FORMATTER" "Ljava/util/function/BiFunction;" v ∧ v.isRef = true
theorem getD_bytes (cs : List Int32) (i : Nat) : (bys cs).getD i (.int 0) = .int ((cs.getD i 0).toInt8.toInt32) := by
  simp only [List.getD_eq_getElem?_getD, List.getElem?_map]
  cases cs[i]? <;> rfl
theorem lat_getD {cs : List Int32} (q : lat cs) (i : Nat) : b8 (cs.getD i 0) := by
  rw [List.getD_eq_getElem?_getD]
  cases e : cs[i]? with
  | none => exact ⟨by decide, by decide⟩
  | some c => exact q c (List.mem_of_getElem? e)
theorem nar_back {c : Int32} (hc : b8 c) : nar .char (c.toInt8.toInt32 &&& 255).toUInt32.toUInt16.toUInt32.toInt32 = c := by
  obtain ⟨k, rfl⟩ := b8_cases hc
  clear hc; revert k; decide +kernel
theorem byte_eq {c : Int32} (hc : b8 c) : c.toInt8.toInt32 = (46 : Int32).toInt8.toInt32 → c = 46 := by
  obtain ⟨k, rfl⟩ := b8_cases hc
  clear hc; revert k; decide +kernel
theorem sub1 (x : Int32) : x - 1 = x + (-1) := by
  exact Int32.sub_eq_add_neg x 1
theorem sub0 (x : Int32) : x - 0 = x := by simp
theorem add0 (x : Int32) : (0 : Int32) + x = x := by simp
theorem i32 {n : Nat} (q : n ≤ 4000) : (Int32.ofNat n).toInt = n := Int32.toInt_ofNat_small (by omega)
theorem clampk {n : Nat} (q : n ≤ 4000) : (Int32.ofNat n).toNatClampNeg = n := Int32.toNatClampNeg_ofNat_of_lt (by omega)
theorem pred1 (k : Nat) : Int32.ofNat (k + 1) + (-1) = Int32.ofNat k := by
  rw [← sub1]
  apply Int32.toBitVec_inj.mp
  show BitVec.ofNat 32 (k + 1) - BitVec.ofNat 32 1 = BitVec.ofNat 32 k
  rw [BitVec.ofNat_add]; exact BitVec.add_sub_cancel _ _
theorem nlt {i n : Nat} (hn : n ≤ 4000) (q : i < n) : ¬ Int32.ofNat i < 0 ∧ Int32.ofNat i < Int32.ofNat n := by
  have e0 : (0 : Int32).toInt = 0 := rfl
  rw [Int32.lt_iff_toInt_lt, Int32.lt_iff_toInt_lt, i32 hn, i32 (by omega), e0]; omega
theorem n0lt {i : Nat} (hn : i ≤ 4000) (q : 0 < i) : (0 : Int32) < Int32.ofNat i := by
  have e0 : (0 : Int32).toInt = 0 := rfl
  rw [Int32.lt_iff_toInt_lt, i32 hn, e0]; omega
theorem ninj {i n : Nat} (hi : i ≤ 4000) (hn : n ≤ 4000) (q : Int32.ofNat i = Int32.ofNat n) : i = n := by
  have := congrArg Int32.toInt q; rw [i32 hi, i32 hn] at this; omega
/-- the last place of '.' among the first k signs, else -1 -/
def li (cs : List Int32) : Nat → Int32
  | 0 => -1
  | k + 1 => if cs.getD k 0 = 46 then Int32.ofNat k else li cs k
theorem li_cases (cs : List Int32) : ∀ k, li cs k = -1 ∨ ∃ m, m < k ∧ li cs k = Int32.ofNat m
  | 0 => Or.inl rfl
  | k + 1 => by
    by_cases q : cs.getD k 0 = 46
    · exact Or.inr ⟨k, Nat.lt_succ_self k, if_pos q⟩
    · have e : li cs (k + 1) = li cs k := if_neg q
      rw [e]
      exact (li_cases cs k).imp id fun ⟨m, h1, h2⟩ => ⟨m, Nat.lt_succ_of_lt h1, h2⟩
theorem li_pos {cs : List Int32} (hl : cs.length ≤ 4000) (q : 0 < li cs cs.length) : ∃ m, 0 < m ∧ m < cs.length ∧ li cs cs.length = Int32.ofNat m := by
  rcases li_cases cs cs.length with e | ⟨m, h1, h2⟩
  · rw [e] at q; exact absurd q (by decide)
  · refine ⟨m, ?_, h1, h2⟩
    rw [h2, Int32.lt_iff_toInt_lt, i32 (by omega)] at q
    have e0 : (0 : Int32).toInt = 0 := rfl
    omega
theorem take_bytes {cs : List Int32} {m j : Nat} (q : j < m) : (bys (cs.take m)).getD j (.int 0) = (bys cs).getD j (.int 0) := by
  rw [getD_bytes, getD_bytes]; simp [List.getD_eq_getElem?_getD, List.getElem?_take, q]
theorem take_getD {cs : List Int32} {m j : Nat} (q : j < m) : (cs.take m).getD j 0 = cs.getD j 0 := by
  simp [List.getD_eq_getElem?_getD, List.getElem?_take, q]
end Own
end Jvm.Pilot.@@N@@
namespace Jvm.Pilot.@@N@@
namespace Own
open Jvm Jvm.ClassFile Sem Op Lib Jvm.Free Jvm.Stand Jvm.LawKit Jvm.RoadKit Bundle
abbrev U16n : String := "java/lang/StringUTF16"
abbrev lo8 (c : Int32) : Int32 := StrChars.lo8 c
abbrev hi8 (c : Int32) : Int32 := StrChars.hi8 c
abbrev wB (cs : List Int32) : List Value := StrChars.Road.wideBytes cs
/-- signs up to 65535 -/
def wid (cs : List Int32) : Prop := ∀ c ∈ cs, ¬ c < 0 ∧ ¬ (65535 : Int32) < c
/-- StringUTF16's statics -/
def US (Z : State) : Prop := Sta Z Z.heap U16n "$assertionsDisabled" "Z" (.int 1) ∧ Sta Z Z.heap U16n "HI_BYTE_SHIFT" "I" (.int 0) ∧ Sta Z Z.heap U16n "LO_BYTE_SHIFT" "I" (.int 8)
theorem eq_v_int {args : Array Value} {first s : State} {o : Option Outcome} {idx : List Nat} {t b : Term} {k : Int32} (hb : b.eval args first o idx s = some (.int k)) (h : (Jvm.Cond.eq t b).value args first o s idx = some true) : t.eval args first o idx s = some (.int k) := by
  obtain ⟨x, y, hx, hy, k1, k2⟩ := cmp_v (Or.inl h)
  cases hb.symm.trans hy
  obtain ⟨z, rfl⟩ := k2
  have := gotT (Cond.eq_ints hx hb) h
  rw [hx, this]
section U16
variable {l : Launch} {Z : State} {a0 : Array Value} {EL : List (String × Nat)} {tbl : List Jvm.Cond} {n0 : Nat} {R : Room} {h h' h1 h2 : Heap} {a x y : Addr} {cs ds : List Int32}
/-- a String by the coder UTF16 -/
def Wst (Z : State) (h : Heap) (a : Addr) (cs : List Int32) : Prop := Exa Z h a ST ∧ Fld Z h a ST "coder" "B" (.int 1) ∧ wid cs ∧ cs.length ≤ 4000 ∧ (∃ c ∈ cs, (255 : Int32) < c) ∧
  ∃ (b : Addr) (k : ClassId), Fld Z h a ST "value" "[B" (.ref b) ∧ Arv Z h b k .byte (Int32.ofNat (2 * cs.length)) (wB cs) (.int 0)
def StU (Z : State) (h : Heap) (a : Addr) (cs : List Int32) : Prop := Str Z h a cs ∨ Wst Z h a cs
theorem StU.exa (A : StU Z h a cs) : Exa Z h a ST := A.elim (fun q => q.1) (fun q => q.1)
theorem StU.le (A : StU Z h a cs) : cs.length ≤ 4000 := A.elim (fun q => q.2.2.2.1) (fun q => q.2.2.2.1)
theorem Wst.keep0 (F : Wst Z h a cs) (K : Keep h h' []) : Wst Z h' a cs := by
  obtain ⟨E, C, q1, q2, q3, b, k, V, A⟩ := F
  exact ⟨E.keep K, C.keep K nin0, q1, q2, q3, b, k, V.keep K nin0, A.keep K nin0⟩
theorem StU.keep0 (F : StU Z h a cs) (K : Keep h h' []) : StU Z h' a cs := F.imp (fun q => q.keep0 K) (fun q => q.keep0 K)
theorem wB_len : ∀ cs : List Int32, (wB cs).length = 2 * cs.length
  | [] => rfl
  | c :: cs => by
    have := wB_len cs
    show (wB cs).length + 1 + 1 = 2 * (cs.length + 1)
    omega
theorem wB_app : ∀ xs ys : List Int32, wB (xs ++ ys) = wB xs ++ wB ys
  | [], ys => rfl
  | c :: xs, ys => by
    have := wB_app xs ys
    show Value.int (lo8 c) :: Value.int (hi8 c) :: wB (xs ++ ys) = Value.int (lo8 c) :: Value.int (hi8 c) :: (wB xs ++ wB ys)
    rw [this]
theorem wid_getD (q : wid cs) (i : Nat) : ¬ cs.getD i 0 < 0 ∧ ¬ (65535 : Int32) < cs.getD i 0 := by
  rw [List.getD_eq_getElem?_getD]
  cases e : cs[i]? with
  | none => exact ⟨by decide, by decide⟩
  | some c => exact q c (List.mem_of_getElem? e)
theorem nar_ch {c : Int32} (q : ¬ c < 0 ∧ ¬ (65535 : Int32) < c) : nar .char c = c := Value.int.inj (StrChars.narrow_ch q.1 q.2)
theorem i2c_ch {c : Int32} (q : ¬ c < 0 ∧ ¬ (65535 : Int32) < c) : c.toUInt32.toUInt16.toUInt32.toInt32 = c := nar_ch q
theorem shl1 {n : Nat} (hn : n ≤ 4000) : Int32.ofNat n <<< ((1 : Int32) &&& 31) = Int32.ofNat (2 * n) := by
  have e : ((1 : Int32) &&& 31) = 1 := by decide
  rw [e]
  apply Int32.toBitVec_inj.mp
  rw [Int32.toBitVec_shiftLeft]
  have e1 : ((1 : Int32).toBitVec.smod 32) = 1#32 := by decide
  rw [e1]
  show BitVec.ofNat 32 n <<< 1#32 = BitVec.ofNat 32 (2 * n)
  rw [BitVec.shiftLeft_eq']
  apply BitVec.eq_of_toNat_eq
  rw [BitVec.toNat_shiftLeft, BitVec.toNat_ofNat, BitVec.toNat_ofNat, Nat.shiftLeft_eq]
  show n % 2 ^ 32 * 2 ^ 1 % 2 ^ 32 = 2 * n % 2 ^ 32
  omega
theorem cod1 {n : Nat} (h0 : 1 ≤ n) (hn : n ≤ 4000) : (XT.ushr (Int32.ofNat n - Int32.ofNat (2 * n)) (31 : Int32)).toInt8.toInt32 = 1 := by
  have e : XT.ushr (Int32.ofNat n - Int32.ofNat (2 * n)) (31 : Int32) = 1 := by
    unfold XT.ushr
    have e1 : ((31 : Int32) &&& 31).toUInt32 = 31 := by decide
    rw [e1]
    have e2 : (Int32.ofNat n - Int32.ofNat (2 * n)).toUInt32.toNat = 2 ^ 32 - n := by
      show (BitVec.ofNat 32 n - BitVec.ofNat 32 (2 * n)).toNat = 2 ^ 32 - n
      rw [BitVec.toNat_sub, BitVec.toNat_ofNat, BitVec.toNat_ofNat]
      omega
    have e3 : (Int32.ofNat n - Int32.ofNat (2 * n)).toUInt32 >>> (31 : UInt32) = 1 := by
      apply UInt32.toNat_inj.mp
      rw [UInt32.toNat_shiftRight, e2]
      show (2 ^ 32 - n) >>> 31 = 1
      rw [Nat.shiftRight_eq_div_pow]
      omega
    rw [e3]; rfl
  rw [e]; rfl
theorem clamp2 {n : Nat} (q : n ≤ 4000) : (Int32.ofNat (2 * n)).toNatClampNeg = 2 * n := Int32.toNatClampNeg_ofNat_of_lt (by omega)
theorem i322 {n : Nat} (q : n ≤ 8001) : (Int32.ofNat n).toInt = n := Int32.toInt_ofNat_small (by omega)
theorem nlt8 {i n : Nat} (hn : n ≤ 8001) (q : i < n) : ¬ Int32.ofNat i < 0 ∧ Int32.ofNat i < Int32.ofNat n := by
  have e0 : (0 : Int32).toInt = 0 := rfl
  rw [Int32.lt_iff_toInt_lt, Int32.lt_iff_toInt_lt, i322 hn, i322 (by omega), e0]; omega
theorem ofN1 (a : Nat) : Int32.ofNat a + (1 : Int32) = Int32.ofNat (a + 1) := by
  apply Int32.toBitVec_inj.mp
  show BitVec.ofNat 32 a + BitVec.ofNat 32 1 = BitVec.ofNat 32 (a + 1)
  rw [BitVec.ofNat_add]
theorem wB_lo (cs : List Int32) {j : Nat} (q : j < cs.length) : (wB cs).getD (2 * j) (.int 0) = .int (lo8 (cs.getD j 0)) := StrChars.Road.wide_lo _ cs j q
theorem wB_hi (cs : List Int32) {j : Nat} (q : j < cs.length) : (wB cs).getD (2 * j + 1) (.int 0) = .int (hi8 (cs.getD j 0)) := StrChars.Road.wide_hi _ cs j q
/-- one sign more -/
theorem wB_step {i : Nat} (q : i < cs.length) : (((wB (cs.take i) ++ [Value.int 0, Value.int 0]).set (2 * i) (.int (lo8 (cs.getD i 0)))).set (2 * i + 1) (.int (hi8 (cs.getD i 0)))) = wB (cs.take (i + 1)) := by
  have e : (wB (cs.take i)).length = 2 * i := by rw [wB_len, List.length_take]; omega
  rw [List.set_append_right _ _ (by omega), e, Nat.sub_self, List.set_cons_zero, List.set_append_right _ _ (by omega), e, show 2 * i + 1 - 2 * i = 1 from by omega]
  rw [List.take_succ_eq_append_getElem q, wB_app]
  have eg : cs.getD i 0 = cs[i] := by simp [List.getD_eq_getElem?_getD, q]
  rw [eg]; rfl
theorem padW {b : Addr} {k : ClassId} {z : Int32} {i : Nat} (A : Arv Z h b k .byte z (wB (cs.take i)) (.int 0)) : Arv Z h b k .byte z (wB (cs.take i) ++ [Value.int 0, Value.int 0]) (.int 0) := A.pad (fun j => pad_rep _ _ 2 j)
/-- **length** of a String, by either coder -/
theorem lenBU {W : Nat} (hwl : ∀ d ∈ StrChars.Road.wordsLen, d ∈ tbl) (wi : Jvm.Cond.instantiable ST 4 ∈ tbl) (A : StU Z h x cs) (hcs : CS Z) (hf : 2 ≤ R.frames) (hlo : W + 25 ≤ R.locals) :
    BK l Z a0 EL tbl n0 R ⟨ST, "length", "()I"⟩ 3 W #[.ref x] h 0 0 (fun v h' => h' = h ∧ v = some (.int (Int32.ofNat cs.length))) := by
  rcases A with A | A
  · exact lenB hwl wi A hcs hf hlo
  refine BK.of_back (ws := []) all0 (fun _ _ => sf0) fun p e below s args vm0 hw hZ O => ?_
  obtain ⟨z, Sz, hz⟩ := hcs
  obtain ⟨E, C, q1, q2, q3, b, k, V, K⟩ := A
  intro m meth c A g ig mk a X hg hsize hdg hW hn hp
  obtain ⟨v, B, X', ⟨Lc, ⟨hv, rfl, hh⟩, q7⟩, st⟩ := StrChars.Road.lenW (W := W) (s := s.setVm vm0) hZ (fun d hd => hw d (hwl d hd)) (kI := 4) (hw _ wi) E V C K (Or.inr ⟨rfl, rfl, rfl, q3⟩) q1 (Sz.ext O.2) hz q2 hf hlo m meth c A g ig mk a X hg hsize hdg hW hn hp
  exact ⟨v, B, X', ⟨[], ⟨Fr.nil n0, by rw [hh]; exact Keep.refl _ _, hh, hv⟩, q7⟩, st⟩
/-- what new String(..) leaves, by either coder -/
def QU (Z : State) (x : Addr) (cs : List Int32) (h : Heap) (v : Option Value) (h' : Heap) : Prop := v = none ∧ Keep h h' [x] ∧ StU Z h' x cs
def QW (Z : State) (x : Addr) (cs : List Int32) (h : Heap) (v : Option Value) (h' : Heap) : Prop := v = none ∧ Keep h h' [x] ∧ Wst Z h' x cs
end U16
end Own
end Jvm.Pilot.@@N@@
namespace Jvm.Pilot.@@N@@
namespace Own
open Jvm Jvm.ClassFile Sem Op Lib Jvm.Free Jvm.Stand Jvm.LawKit Jvm.RoadKit Bundle
section Long
variable {l : Launch} {Z : State} {a0 : Array Value} {EL : List (String × Nat)} {tbl : List Jvm.Cond} {n0 : Nat} {code : ByteArray} {maxL : Nat} {ret : Option FieldType} {R : Room} {own mname : String} {Q : Option Value → Heap → Prop} {h : Heap} {cells slots pc : Nat} {L : Array Slot} {S : List Value} {a : Addr}
theorem G.lastore {kA : ClassId} {z j : Int32} {x : Int64} {vs : List Value} {dv : Value} {i : Nat} (hd : decode code pc = .ok (.lastore, 1)) (A : Arv Z h a kA .long z vs dv) (ha : n0 ≤ a) (hj : ¬ j < 0 ∧ j < z) (hi : j.toNatClampNeg = i) (hlen : i < vs.length)
    (k : ∀ h', Keep h h' [a] → Arv Z h' a kA .long z (vs.set i (.long x)) dv → G l Z a0 EL tbl n0 code maxL ret R own mname Q h' cells slots (pc + 1) L S) :
    G l Z a0 EL tbl n0 code maxL ret R own mname Q h cells slots pc L (.long x :: .int j :: .ref a :: S) := by
  intro p e s m args below meth c T vm0 k0 locs P
  obtain ⟨hx, hby, hml, hret, hlk, hnm, hEL, hw, X, eT, hS, hk, hZ, hown, N, H, O, Wm⟩ := P
  obtain ⟨cl, A1, A2, A3, A4, A5, A6⟩ := A
  obtain ⟨T', h', X', e', W, st⟩ := stJ X hx hZ eT A1 (inb_of A3 hj) (g := mkF m pc L (.long x :: .int j :: .ref a :: S)) rfl rfl (hb hby hd)
  have sf : Safe Z EL vm0 h a := Safe.arr (Z := Z) hZ.alike A1 (by decide)
  exact back_steps st (k h' (Keep.of_wr W) (Arv.set A1 A2 A3 A4 A5 A6 rfl W i hi hlen) p e s m args below meth c T' vm0 k0 _ ⟨hx, hby, hml, hret, hlk, hnm, hEL, hw, X', e', hS, by rw [W.size]; exact hk, hZ, hown, Fr.snoc X' N ha, H.trans (CHr.wr W sf H.1), O.wr W ha, Wm⟩)
theorem G.laload {kA : ClassId} {z j : Int32} {vs : List Value} {dv v : Value} (hd : decode code pc = .ok (.laload, 1)) (A : Arv Z h a kA .long z vs dv) (hj : ¬ j < 0 ∧ j < z) (hv : vs.getD j.toNatClampNeg dv = v)
    (k : G l Z a0 EL tbl n0 code maxL ret R own mname Q h cells slots (pc + 1) L (v :: S)) : G l Z a0 EL tbl n0 code maxL ret R own mname Q h cells slots pc L (.int j :: .ref a :: S) := by
  intro p e s m args below meth c T vm0 k0 locs P
  obtain ⟨hx, hby, hml, hret, hlk, hnm, hEL, hw, X, eT, r⟩ := id P
  obtain ⟨hS, hk, hZ, -⟩ := r
  obtain ⟨cl, A1, A2, A3, A4, A5, A6⟩ := A
  exact back_steps (fun t ht => X.laload hx (by rw [eT]; exact A1.1) (State.isArrayOf_alike (s := Z) hZ.alike A1.2.1) A1.2.2 (inb_of A3 hj) (A5.at (inb_of A3 hj) hv) (g := mkF m pc L (.int j :: .ref a :: S)) rfl rfl (hb hby hd) t ht) (k p e s m args below meth c T vm0 k0 locs P)
theorem G.irem {x y : Int32} (hd : decode code pc = .ok (.irem, 1)) (hy : y ≠ 0) (k : G l Z a0 EL tbl n0 code maxL ret R own mname Q h cells slots (pc + 1) L (.int (x % y) :: S)) :
    G l Z a0 EL tbl n0 code maxL ret R own mname Q h cells slots pc L (.int y :: .int x :: S) := by
  intro p e s m args below meth c T vm0 k0 locs P
  obtain ⟨hx, hby, -, -, -, -, -, -, X, -⟩ := id P
  exact back_steps (fun t ht => XS.irem X.here hx rfl (hb hby hd) rfl hy (by rw [irem_eq_mod]; exact ht)) (k p e s m args below meth c T vm0 k0 locs P)
end Long
end Own
end Jvm.Pilot.@@N@@
namespace Jvm.Pilot.@@N@@
open Jvm Jvm.ClassFile Sem Op Lib Jvm.Free Jvm.Stand Jvm.LawKit Jvm.RoadKit Bundle Jvm.Pilot.@@N@@.Jvm.D Own
theorem pn0 : plainName "java/lang/String" = true := by first | (simp [plainName, overriddenIn]; done) | decide +kernel
theorem pn1 : plainName "jdk/internal/util/Preconditions" = true := by first | (simp [plainName, overriddenIn]; done) | decide +kernel
theorem pd0 : parseMethodDescriptor "(IILjava/util/function/BiFunction;)I" = some ⟨[.int, .int, .object "java/util/function/BiFunction"], some (.int)⟩ := by decide +kernel
theorem pd1 : parseMethodDescriptor "(II)V" = some ⟨[.int, .int], none⟩ := by decide +kernel
theorem pn2 : plainName "java/lang/StringLatin1" = true := by first | (simp [plainName, overriddenIn]; done) | decide +kernel
theorem pd2 : parseMethodDescriptor "()Z" = some ⟨[], some (.boolean)⟩ := by decide +kernel
theorem pd3 : parseMethodDescriptor "([BI)C" = some ⟨[.array (.byte), .int], some (.char)⟩ := by decide +kernel
theorem pn3 : plainName "java/lang/StringUTF16" = true := by first | (simp [plainName, overriddenIn]; done) | decide +kernel
theorem pd4 : parseMethodDescriptor "([B)I" = some ⟨[.array (.byte)], some (.int)⟩ := by decide +kernel
theorem pd5 : parseMethodDescriptor "(I[B)V" = some ⟨[.int, .array (.byte)], none⟩ := by decide +kernel
theorem pd6 : parseMethodDescriptor "(I)I" = some ⟨[.int], some (.int)⟩ := by decide +kernel
theorem pd7 : parseMethodDescriptor "(I)[B" = some ⟨[.int], some (.array (.byte))⟩ := by decide +kernel
theorem pd8 : parseMethodDescriptor "([BII)V" = some ⟨[.array (.byte), .int, .int], none⟩ := by decide +kernel
theorem pd9 : parseMethodDescriptor "([CI[BII)I" = some ⟨[.array (.char), .int, .array (.byte), .int, .int], some (.int)⟩ := by decide +kernel
theorem pd10 : parseMethodDescriptor "([CII)[B" = some ⟨[.array (.char), .int, .int], some (.array (.byte))⟩ := by decide +kernel
theorem pd11 : parseMethodDescriptor "([BI)B" = some ⟨[.array (.byte), .int], some (.byte)⟩ := by decide +kernel
theorem pd12 : parseMethodDescriptor "([CIILjava/lang/Void;)V" = some ⟨[.array (.char), .int, .int, .object "java/lang/Void"], none⟩ := by decide +kernel
theorem pn4 : plainFor ⟨"java/lang/Math", "floorDiv", "(JJ)J"⟩ = true := by decide +kernel
theorem pd13 : parseMethodDescriptor "(JJ)J" = some ⟨[.long, .long], some (.long)⟩ := by decide +kernel
theorem pn5 : plainFor ⟨"java/lang/Math", "floorDiv", "(JI)J"⟩ = true := by decide +kernel
theorem pd14 : parseMethodDescriptor "()I" = some ⟨[], some (.int)⟩ := by decide +kernel
theorem pd15 : parseMethodDescriptor "(I)C" = some ⟨[.int], some (.char)⟩ := by decide +kernel
theorem pd16 : parseMethodDescriptor "(JI)J" = some ⟨[.long, .int], some (.long)⟩ := by decide +kernel
theorem pn6 : plainName "com/example/mynah/mynah/PlainDecimal" = true := by first | (simp [plainName, overriddenIn]; done) | decide +kernel
theorem pd17 : parseMethodDescriptor "(Ljava/lang/String;J)J" = some ⟨[.object "java/lang/String", .long], some (.long)⟩ := by decide +kernel
theorem pn7 : plainName "com/example/mynah/mynah/PlainDecimalParseCappedPinLaw" = true := by first | (simp [plainName, overriddenIn]; done) | decide +kernel
theorem pd18 : parseMethodDescriptor "(I)J" = some ⟨[.int], some (.long)⟩ := by decide +kernel
theorem pd19 : parseMethodDescriptor "(J)I" = some ⟨[.long], some (.int)⟩ := by decide +kernel
theorem pd20 : parseMethodDescriptor "(JI)C" = some ⟨[.long, .int], some (.char)⟩ := by decide +kernel
theorem sw1 : ∀ d ∈ StrChars.Road.words, d ∈ tables_1 := by decide +kernel
theorem swE : ∀ d ∈ wordsE, d ∈ tables_1 := by decide +kernel
theorem swL : ∀ d ∈ StrChars.Road.wordsLen, d ∈ tables_1 := by decide +kernel
theorem hm7 : ("java/lang/String", 7) ∈ consts_1 := by decide
theorem addN (a b : Nat) : Int32.ofNat a + Int32.ofNat b = Int32.ofNat (a + b) := by
  apply Int32.toBitVec_inj.mp
  show BitVec.ofNat 32 a + BitVec.ofNat 32 b = BitVec.ofNat 32 (a + b)
  rw [BitVec.ofNat_add]
theorem nbk {n : Nat} (hn : n ≤ 4000) (q : (1 : Int32) < Int32.ofNat n) : 1 < n := by
  have e1 : (1 : Int32).toInt = 1 := rfl
  rw [Int32.lt_iff_toInt_lt, i32 hn, e1] at q; omega
theorem nbk2 {k n : Nat} (hk : k ≤ n) (hn : n ≤ 4000) (q : Int32.ofNat k < Int32.ofNat n) : k < n := by
  rw [Int32.lt_iff_toInt_lt, i32 hn, i32 (by omega)] at q; omega
set_option maxRecDepth 65536 in
set_option maxHeartbeats 4000000 in
theorem islC (l : Launch) (Z : State) (a0 : Array Value) (n0 : Nat) (h : Heap) {EL : List (String × Nat)} (t : Addr) (cs : List Int32) (A : Str Z h t cs) (hCS : CS Z) :
    Ct l Z a0 EL tables_1 [] n0 ⟨"java/lang/String", "isLatin1", "()Z"⟩ jdk_42_method_154_code 1 (some (.boolean)) ({ frames := 0, cells := 0, slots := 0, locals := 0 } : Room) #[.ref t] h (fun v h' => h' = h ∧ v = some (.int 1)) := by
  refine Ct.of_body pn0 (L0 := #[.val (.ref t)]) (fun m => by exact ef_of rfl) (fun hEL hw hO => ?_)
  obtain ⟨z, Sz, hz⟩ := hCS
  refine G.getS (by decide +kernel) (tw 45 rfl) Sz ?_
  refine G.ifeq (o := (14)) (pc' := 17) (by decide +kernel) (by decide) rfl (fun q1 => absurd q1 hz) ?_
  intro _
  refine G.seg [(6, .aload_n 0, 1)] (by decide +kernel) (pc' := 7) (L' := #[.val (.ref t)]) (S' := [.ref t]) rfl ?_
  refine G.getF (by decide +kernel) (tw 57 rfl) A.2.1 ?_
  refine G.ifne (o := (7)) (pc' := 17) (by decide +kernel) (by decide) rfl (fun q2 => absurd rfl q2) ?_
  intro _
  refine G.seg [(13, .iconst 1, 1), (14, .goto 4, 3)] (by decide +kernel) (pc' := 18) (L' := #[.val (.ref t)]) (S' := [.int (1 : Int32)]) rfl ?_
  exact G.retN (by decide +kernel) rfl (Or.inl rfl) rfl ⟨rfl, rfl⟩ (lb rfl) (lb rfl)

set_option maxRecDepth 65536 in
set_option maxHeartbeats 4000000 in
theorem pciC (l : Launch) (Z : State) (a0 : Array Value) (n0 : Nat) (h : Heap) {EL : List (String × Nat)} (i n : Int32) (v : Value) (hv : v.isRef = true) (hi : ¬ i < 0 ∧ i < n) :
    Ct l Z a0 EL tables_1 [] n0 ⟨"jdk/internal/util/Preconditions", "checkIndex", "(IILjava/util/function/BiFunction;)I"⟩ jdk_41_method_11_code 3 (some (.int)) ({ frames := 0, cells := 0, slots := 0, locals := 0 } : Room) #[.int i, .int n, v] h (fun r h' => h' = h ∧ r = some (.int i)) := by
  refine Ct.of_body pn1 (L0 := #[.val (.int i), .val (.int n), .val (v)]) (fun m => by rcases ref_cases hv with rfl | ⟨_, rfl⟩ <;> exact ef_of rfl) (fun hEL hw hO => ?_)
  refine G.seg [(0, .iload_n 0, 1)] (by decide +kernel) (pc' := 1) (L' := #[.val (.int i), .val (.int n), .val (v)]) (S' := [.int i]) rfl ?_
  refine G.iflt (o := (8)) (pc' := 9) (by decide +kernel) (by decide) rfl (fun q1 => absurd q1 hi.1) ?_
  intro _
  refine G.seg [(4, .iload_n 0, 1), (5, .iload_n 1, 1)] (by decide +kernel) (pc' := 6) (L' := #[.val (.int i), .val (.int n), .val (v)]) (S' := [.int n, .int i]) rfl ?_
  refine G.iclt (o := (10)) (pc' := 16) (by decide +kernel) (by decide) rfl ?_ (fun q2 => absurd hi.2 q2)
  intro _
  refine G.seg [(16, .iload_n 0, 1)] (by decide +kernel) (pc' := 17) (L' := #[.val (.int i), .val (.int n), .val (v)]) (S' := [.int i]) rfl ?_
  exact G.retI (by decide +kernel) rfl ⟨rfl, rfl⟩ (lb rfl) (lb rfl)

set_option maxRecDepth 65536 in
set_option maxHeartbeats 4000000 in
theorem ckiC (l : Launch) (Z : State) (a0 : Array Value) (n0 : Nat) (h : Heap) {EL : List (String × Nat)} (i n : Int32) (hi : ¬ i < 0 ∧ i < n) (hFM : FM Z) :
    Ct l Z a0 EL tables_1 [] n0 ⟨"java/lang/String", "checkIndex", "(II)V"⟩ jdk_42_method_155_code 2 (none) ({ frames := 1, cells := 0, slots := 0, locals := 14 } : Room) #[.int i, .int n] h (fun r h' => r = none ∧ h' = h) := by
  refine Ct.of_body pn0 (L0 := #[.val (.int i), .val (.int n)]) (fun m => by exact ef_of rfl) (fun hEL hw hO => ?_)
  refine G.seg [(0, .iload_n 0, 1), (1, .iload_n 1, 1)] (by decide +kernel) (pc' := 2) (L' := #[.val (.int i), .val (.int n)]) (S' := [.int n, .int i]) rfl ?_
  obtain ⟨vF, SF, rF⟩ := hFM
  refine G.getS (by decide +kernel) (tw 95 rfl) SF ?_
  refine G.static (y := ⟨"jdk/internal/util/Preconditions", "checkIndex", "(IILjava/util/function/BiFunction;)I"⟩) (argsL := [.int i, .int n, vF]) (rest := []) (W := 0) (by decide +kernel) (tw 97 rfl) (tw 98 rfl) (tw 96 rfl) (tw 99 rfl) (by decide) ((pciC l Z a0 n0 h i n vF rF hi).pays (tw 99 rfl) (tw 96 rfl) (lb rfl) (lb rfl)) (lenOf pd0 rfl) rfl (Nat.le_of_eq rfl) rfl (lb rfl) (lb rfl) ?_
  rintro _ h1 ⟨rfl, rfl⟩
  refine G.seg [(8, .pop, 1)] (by decide +kernel) (pc' := 9) (L' := #[.val (.int i), .val (.int n)]) (S' := []) rfl ?_
  exact G.retV (by decide +kernel) rfl ⟨rfl, rfl⟩ (lb rfl) (lb rfl)

set_option maxRecDepth 65536 in
set_option maxHeartbeats 4000000 in
theorem lchC (l : Launch) (Z : State) (a0 : Array Value) (n0 : Nat) (h : Heap) {EL : List (String × Nat)} (b : Addr) (kb : ClassId) (cs : List Int32) (i : Int32) (hl : lat cs) (A : Arv Z h b kb .byte (Int32.ofNat cs.length) (bys cs) (.int 0)) (hi : ¬ i < 0 ∧ i < Int32.ofNat cs.length) (hFM : FM Z) :
    Ct l Z a0 EL tables_1 [] n0 ⟨"java/lang/StringLatin1", "charAt", "([BI)C"⟩ jdk_43_method_2_code 2 (some (.char)) ({ frames := 2, cells := 0, slots := 0, locals := 27 } : Room) #[.ref b, .int i] h (fun v h' => h' = h ∧ v = some (.int (cs.getD i.toNatClampNeg 0))) := by
  refine Ct.of_body pn2 (L0 := #[.val (.ref b), .val (.int i)]) (fun m => by exact ef_of rfl) (fun hEL hw hO => ?_)
  refine G.seg [(0, .iload_n 1, 1), (1, .aload_n 0, 1)] (by decide +kernel) (pc' := 2) (L' := #[.val (.ref b), .val (.int i)]) (S' := [.ref b, .int i]) rfl ?_
  refine G.arrlen (by decide +kernel) A ?_
  refine G.static (y := ⟨"java/lang/String", "checkIndex", "(II)V"⟩) (argsL := [.int i, .int (Int32.ofNat cs.length)]) (rest := []) (W := 0) (by decide +kernel) (tw 92 rfl) (tw 93 rfl) (tw 34 rfl) (tw 94 rfl) (by decide) ((ckiC l Z a0 n0 h i (Int32.ofNat cs.length) hi hFM).pays (tw 94 rfl) (tw 34 rfl) (lb rfl) (lb rfl)) (lenOf pd1 rfl) rfl (Nat.le_of_eq rfl) rfl (lb rfl) (lb rfl) ?_
  rintro _ h1 ⟨rfl, rfl⟩
  refine G.seg [(6, .aload_n 0, 1), (7, .iload_n 1, 1)] (by decide +kernel) (pc' := 8) (L' := #[.val (.ref b), .val (.int i)]) (S' := [.int i, .ref b]) rfl ?_
  refine G.baload (by decide +kernel) A hi (getD_bytes cs _) ?_
  refine G.seg [(9, .sipush 255, 3), (12, .iand, 1), (13, .i2c, 1)] (by decide +kernel) (pc' := 14) (L' := #[.val (.ref b), .val (.int i)]) (S' := [.int ((((cs.getD i.toNatClampNeg 0).toInt8.toInt32) &&& (255 : Int32)).toUInt32.toUInt16.toUInt32.toInt32)]) rfl ?_
  exact G.retN (by decide +kernel) rfl (Or.inr (Or.inr (Or.inl rfl))) (nar_back (lat_getD hl _)) ⟨rfl, rfl⟩ (lb rfl) (lb rfl)

set_option maxRecDepth 65536 in
set_option maxHeartbeats 4000000 in
theorem chC (l : Launch) (Z : State) (a0 : Array Value) (n0 : Nat) (h : Heap) {EL : List (String × Nat)} (t : Addr) (cs : List Int32) (i : Int32) (A : Str Z h t cs) (hCS : CS Z) (hi : ¬ i < 0 ∧ i < Int32.ofNat cs.length) (hFM : FM Z) :
    Ct l Z a0 EL tables_1 [] n0 ⟨"java/lang/String", "charAt", "(I)C"⟩ jdk_42_method_56_code 2 (some (.char)) ({ frames := 4, cells := 0, slots := 0, locals := 60 } : Room) #[.ref t, .int i] h (fun v h' => h' = h ∧ v = some (.int (cs.getD i.toNatClampNeg 0))) := by
  refine Ct.of_body pn0 (L0 := #[.val (.ref t), .val (.int i)]) (fun m => by exact ef_of rfl) (fun hEL hw hO => ?_)
  obtain ⟨-, -, hl, -, b, kb, V, B⟩ := id A
  refine G.seg [(0, .aload_n 0, 1)] (by decide +kernel) (pc' := 1) (L' := #[.val (.ref t), .val (.int i)]) (S' := [.ref t]) rfl ?_
  refine G.virtual (y := ⟨"java/lang/String", "isLatin1", "()Z"⟩) (C := "java/lang/String") (a := t) (argsL := []) (rest := []) (W := 0) (by decide +kernel) (tw 83 rfl) (tw 84 rfl) (tw 86 rfl) (tw 85 rfl) (by decide) A.1 ((islC l Z a0 n0 h t cs A hCS).pays (tw 87 rfl) (tw 34 rfl) (lb rfl) (lb rfl)) (lenOf pd2 rfl) rfl (Nat.le_of_eq rfl) rfl (lb rfl) (lb rfl) ?_
  rintro _ h1 ⟨rfl, rfl⟩
  refine G.ifeq (o := (12)) (pc' := 16) (by decide +kernel) (by decide) rfl (fun q2 => absurd q2 (by decide)) ?_
  intro _
  refine G.seg [(7, .aload_n 0, 1)] (by decide +kernel) (pc' := 8) (L' := #[.val (.ref t), .val (.int i)]) (S' := [.ref t]) rfl ?_
  refine G.getF (by decide +kernel) (tw 59 rfl) V ?_
  refine G.seg [(11, .iload_n 1, 1)] (by decide +kernel) (pc' := 12) (L' := #[.val (.ref t), .val (.int i)]) (S' := [.int i, .ref b]) rfl ?_
  refine G.static (y := ⟨"java/lang/StringLatin1", "charAt", "([BI)C"⟩) (argsL := [.ref b, .int i]) (rest := []) (W := 0) (by decide +kernel) (tw 88 rfl) (tw 89 rfl) (tw 90 rfl) (tw 91 rfl) (by decide) ((lchC l Z a0 n0 h1 b kb cs i hl B hi hFM).pays (tw 91 rfl) (tw 90 rfl) (lb rfl) (lb rfl)) (lenOf pd3 rfl) rfl (Nat.le_of_eq rfl) rfl (lb rfl) (lb rfl) ?_
  rintro _ h3 ⟨rfl, rfl⟩
  exact G.retN (by decide +kernel) rfl (Or.inr (Or.inr (Or.inl rfl))) (nar_b8 (lat_getD hl _)) ⟨rfl, rfl⟩ (lb rfl) (lb rfl)

theorem gvU (cs : List Int32) (i : Nat) : (cs.map Value.int).getD i (.int 0) = .int (cs.getD i 0) := by
  simp only [List.getD_eq_getElem?_getD, List.getElem?_map]
  cases cs[i]? <;> rfl
theorem nar_pair {c : Int32} (q : ¬ c < 0 ∧ ¬ (65535 : Int32) < c) : nar .char (StrChars.pairCh (lo8 c) (hi8 c)) = c := by
  rw [StrChars.pair_says q.1 q.2]; exact nar_ch q
theorem nbig {n : Nat} (q : n ≤ 4000) : Int32.ofNat n < (1073741823 : Int32) := by
  have e : (1073741823 : Int32).toInt = 1073741823 := rfl
  rw [Int32.lt_iff_toInt_lt, i32 q, e]; omega
theorem nneg {n : Nat} (q : n ≤ 4000) : ¬ Int32.ofNat n < 0 := by
  have e : (0 : Int32).toInt = 0 := rfl
  rw [Int32.lt_iff_toInt_lt, i32 q, e]; omega
theorem nbkU {k n : Nat} (hk : k ≤ n) (hn : n ≤ 4000) (q : Int32.ofNat k < Int32.ofNat n) : k < n := by
  rw [Int32.lt_iff_toInt_lt, i32 hn, i32 (by omega)] at q; omega
theorem widest {cs : List Int32} (q : ∃ c ∈ cs, (255 : Int32) < c) : ∃ j, j < cs.length ∧ (255 : Int32) < cs.getD j 0 := by
  obtain ⟨c, hc, hw⟩ := q
  obtain ⟨j, hj, rfl⟩ := List.getElem_of_mem hc
  exact ⟨j, hj, by rw [show cs.getD j 0 = cs[j] from by simp [List.getD_eq_getElem?_getD, hj]]; exact hw⟩
set_option maxRecDepth 65536 in
set_option maxHeartbeats 4000000 in
theorem ulenC (l : Launch) (Z : State) (a0 : Array Value) (n0 : Nat) (h : Heap) {EL : List (String × Nat)} (b : Addr) (kb : ClassId) (cs : List Int32) (A : Arv Z h b kb .byte (Int32.ofNat (2 * cs.length)) (wB cs) (.int 0)) (hle : cs.length ≤ 4000) :
    Ct l Z a0 EL tables_1 [] n0 ⟨"java/lang/StringUTF16", "length", "([B)I"⟩ jdk_52_method_6_code 1 (some (.int)) ({ frames := 0, cells := 0, slots := 0, locals := 0 } : Room) #[.ref b] h (fun v h' => h' = h ∧ v = some (.int (Int32.ofNat cs.length))) := by
  refine Ct.of_body pn3 (L0 := #[.val (.ref b)]) (fun m => by exact ef_of rfl) (fun hEL hw hO => ?_)
  refine G.seg [(0, .aload_n 0, 1)] (by decide +kernel) (pc' := 1) (L' := #[.val (.ref b)]) (S' := [.ref b]) rfl ?_
  refine G.arrlen (by decide +kernel) A ?_
  refine G.seg [(2, .iconst 1, 1), (3, .ishr, 1)] (by decide +kernel) (pc' := 4) (L' := #[.val (.ref b)]) (S' := [.int ((Int32.ofNat (2 * cs.length)) >>> ((1 : Int32) &&& 31))]) rfl ?_
  rw [StrChars.shr1 (n := cs.length) (by omega)]
  exact G.retI (by decide +kernel) rfl ⟨rfl, rfl⟩ (lb rfl) (lb rfl)

set_option maxRecDepth 65536 in
set_option maxHeartbeats 4000000 in
theorem ugetC (l : Launch) (Z : State) (a0 : Array Value) (n0 : Nat) (h : Heap) {EL : List (String × Nat)} (b : Addr) (kb : ClassId) (cs : List Int32) (i : Nat) (A : Arv Z h b kb .byte (Int32.ofNat (2 * cs.length)) (wB cs) (.int 0)) (hle : cs.length ≤ 4000) (hl : wid cs) (hi : i < cs.length) (hU : US Z) :
    Ct l Z a0 EL tables_1 [] n0 ⟨"java/lang/StringUTF16", "getChar", "([BI)C"⟩ jdk_52_method_5_code 2 (some (.char)) ({ frames := 0, cells := 0, slots := 0, locals := 0 } : Room) #[.ref b, .int (Int32.ofNat i)] h (fun v h' => h' = h ∧ v = some (.int (cs.getD i 0))) := by
  refine Ct.of_body pn3 (L0 := #[.val (.ref b), .val (.int (Int32.ofNat i))]) (fun m => by exact ef_of rfl) (fun hEL hw hO => ?_)
  obtain ⟨s1, s2, s3⟩ := hU
  refine G.getS (by decide +kernel) (tw 127 rfl) s1 ?_
  refine G.ifne (o := (25)) (pc' := 28) (by decide +kernel) (by decide) rfl ?_ (fun q1 => absurd q1 (by decide))
  intro _
  refine G.seg [(28, .iload_n 1, 1), (29, .iconst 1, 1), (30, .ishl, 1)] (by decide +kernel) (pc' := 31) (L' := #[.val (.ref b), .val (.int (Int32.ofNat i))]) (S' := [.int ((Int32.ofNat i) <<< ((1 : Int32) &&& 31))]) rfl ?_
  rw [shl1 (n := i) (by omega)]
  refine G.seg [(31, .istore_n 1, 1)] (by decide +kernel) (pc' := 32) (L' := #[.val (.ref b), .val (.int (Int32.ofNat (2 * i)))]) (S' := []) rfl ?_
  refine G.seg [(32, .aload_n 0, 1), (33, .iload_n 1, 1), (34, .iinc 1 1, 3)] (by decide +kernel) (pc' := 37) (L' := #[.val (.ref b), .val (.int ((Int32.ofNat (2 * i)) + (1 : Int32)))]) (S' := [.int (Int32.ofNat (2 * i)), .ref b]) rfl ?_
  refine G.baload (v := .int (lo8 (cs.getD i 0))) (by decide +kernel) A (nlt8 (by omega) (by omega)) (by rw [clamp2 (by omega)]; exact wB_lo cs hi) ?_
  refine G.seg [(38, .sipush 255, 3), (41, .iand, 1)] (by decide +kernel) (pc' := 42) (L' := #[.val (.ref b), .val (.int ((Int32.ofNat (2 * i)) + (1 : Int32)))]) (S' := [.int ((lo8 (cs.getD i 0)) &&& (255 : Int32))]) rfl ?_
  refine G.getS (by decide +kernel) (tw 128 rfl) s2 ?_
  refine G.seg [(45, .ishl, 1), (46, .aload_n 0, 1), (47, .iload_n 1, 1)] (by decide +kernel) (pc' := 48) (L' := #[.val (.ref b), .val (.int ((Int32.ofNat (2 * i)) + (1 : Int32)))]) (S' := [.int ((Int32.ofNat (2 * i)) + (1 : Int32)), .ref b, .int (((lo8 (cs.getD i 0)) &&& (255 : Int32)) <<< ((0 : Int32) &&& 31))]) rfl ?_
  rw [ofN1]
  refine G.baload (v := .int (hi8 (cs.getD i 0))) (by decide +kernel) A (nlt8 (by omega) (by omega)) (by rw [Int32.toNatClampNeg_ofNat_of_lt (by omega)]; exact wB_hi cs hi) ?_
  refine G.seg [(49, .sipush 255, 3), (52, .iand, 1)] (by decide +kernel) (pc' := 53) (L' := #[.val (.ref b), .val (.int (Int32.ofNat (2 * i + 1)))]) (S' := [.int ((hi8 (cs.getD i 0)) &&& (255 : Int32)), .int (((lo8 (cs.getD i 0)) &&& (255 : Int32)) <<< ((0 : Int32) &&& 31))]) rfl ?_
  refine G.getS (by decide +kernel) (tw 129 rfl) s3 ?_
  refine G.seg [(56, .ishl, 1), (57, .ior, 1), (58, .i2c, 1)] (by decide +kernel) (pc' := 59) (L' := #[.val (.ref b), .val (.int (Int32.ofNat (2 * i + 1)))]) (S' := [.int (((((lo8 (cs.getD i 0)) &&& (255 : Int32)) <<< ((0 : Int32) &&& 31)) ||| (((hi8 (cs.getD i 0)) &&& (255 : Int32)) <<< ((8 : Int32) &&& 31))).toUInt32.toUInt16.toUInt32.toInt32)]) rfl ?_
  exact G.retN (by decide +kernel) rfl (Or.inr (Or.inr (Or.inl rfl))) (nar_pair (wid_getD hl i)) ⟨rfl, rfl⟩ (lb rfl) (lb rfl)

set_option maxRecDepth 65536 in
set_option maxHeartbeats 4000000 in
theorem uckC (l : Launch) (Z : State) (a0 : Array Value) (n0 : Nat) (h : Heap) {EL : List (String × Nat)} (b : Addr) (kb : ClassId) (cs : List Int32) (i : Nat) (A : Arv Z h b kb .byte (Int32.ofNat (2 * cs.length)) (wB cs) (.int 0)) (hle : cs.length ≤ 4000) (hi : i < cs.length) (hFM : FM Z) :
    Ct l Z a0 EL tables_1 [] n0 ⟨"java/lang/StringUTF16", "checkIndex", "(I[B)V"⟩ jdk_52_method_91_code 2 (none) ({ frames := 2, cells := 0, slots := 0, locals := 30 } : Room) #[.int (Int32.ofNat i), .ref b] h (fun v h' => v = none ∧ h' = h) := by
  refine Ct.of_body pn3 (L0 := #[.val (.int (Int32.ofNat i)), .val (.ref b)]) (fun m => by exact ef_of rfl) (fun hEL hw hO => ?_)
  refine G.seg [(0, .iload_n 0, 1), (1, .aload_n 1, 1)] (by decide +kernel) (pc' := 2) (L' := #[.val (.int (Int32.ofNat i)), .val (.ref b)]) (S' := [.ref b, .int (Int32.ofNat i)]) rfl ?_
  refine G.static (y := ⟨"java/lang/StringUTF16", "length", "([B)I"⟩) (argsL := [.ref b]) (rest := [.int (Int32.ofNat i)]) (W := 1) (by decide +kernel) (tw 139 rfl) (tw 140 rfl) (tw 48 rfl) (tw 141 rfl) (by decide) ((ulenC l Z a0 n0 h b kb cs A hle).pays (tw 141 rfl) (tw 48 rfl) (lb rfl) (lb rfl)) (lenOf pd4 rfl) rfl (Nat.le_of_eq rfl) rfl (lb rfl) (lb rfl) ?_
  rintro _ h1 ⟨rfl, rfl⟩
  refine G.static (y := ⟨"java/lang/String", "checkIndex", "(II)V"⟩) (argsL := [.int (Int32.ofNat i), .int (Int32.ofNat cs.length)]) (rest := []) (W := 0) (by decide +kernel) (tw 142 rfl) (tw 93 rfl) (tw 34 rfl) (tw 94 rfl) (by decide) ((ckiC l Z a0 n0 h1 (Int32.ofNat i) (Int32.ofNat cs.length) (nlt hle hi) hFM).pays (tw 94 rfl) (tw 34 rfl) (lb rfl) (lb rfl)) (lenOf pd1 rfl) rfl (Nat.le_of_eq rfl) rfl (lb rfl) (lb rfl) ?_
  rintro _ h2 ⟨rfl, rfl⟩
  exact G.retV (by decide +kernel) rfl ⟨rfl, rfl⟩ (lb rfl) (lb rfl)

set_option maxRecDepth 65536 in
set_option maxHeartbeats 4000000 in
theorem uchaC (l : Launch) (Z : State) (a0 : Array Value) (n0 : Nat) (h : Heap) {EL : List (String × Nat)} (b : Addr) (kb : ClassId) (cs : List Int32) (i : Nat) (A : Arv Z h b kb .byte (Int32.ofNat (2 * cs.length)) (wB cs) (.int 0)) (hle : cs.length ≤ 4000) (hl : wid cs) (hi : i < cs.length) (hU : US Z) (hFM : FM Z) :
    Ct l Z a0 EL tables_1 [] n0 ⟨"java/lang/StringUTF16", "charAt", "([BI)C"⟩ jdk_52_method_83_code 2 (some (.char)) ({ frames := 3, cells := 0, slots := 0, locals := 45 } : Room) #[.ref b, .int (Int32.ofNat i)] h (fun v h' => h' = h ∧ v = some (.int (cs.getD i 0))) := by
  refine Ct.of_body pn3 (L0 := #[.val (.ref b), .val (.int (Int32.ofNat i))]) (fun m => by exact ef_of rfl) (fun hEL hw hO => ?_)
  refine G.seg [(0, .iload_n 1, 1), (1, .aload_n 0, 1)] (by decide +kernel) (pc' := 2) (L' := #[.val (.ref b), .val (.int (Int32.ofNat i))]) (S' := [.ref b, .int (Int32.ofNat i)]) rfl ?_
  refine G.static (y := ⟨"java/lang/StringUTF16", "checkIndex", "(I[B)V"⟩) (argsL := [.int (Int32.ofNat i), .ref b]) (rest := []) (W := 0) (by decide +kernel) (tw 136 rfl) (tw 137 rfl) (tw 48 rfl) (tw 138 rfl) (by decide) ((uckC l Z a0 n0 h b kb cs i A hle hi hFM).pays (tw 138 rfl) (tw 48 rfl) (lb rfl) (lb rfl)) (lenOf pd5 rfl) rfl (Nat.le_of_eq rfl) rfl (lb rfl) (lb rfl) ?_
  rintro _ h1 ⟨rfl, rfl⟩
  refine G.seg [(5, .aload_n 0, 1), (6, .iload_n 1, 1)] (by decide +kernel) (pc' := 7) (L' := #[.val (.ref b), .val (.int (Int32.ofNat i))]) (S' := [.int (Int32.ofNat i), .ref b]) rfl ?_
  refine G.static (y := ⟨"java/lang/StringUTF16", "getChar", "([BI)C"⟩) (argsL := [.ref b, .int (Int32.ofNat i)]) (rest := []) (W := 0) (by decide +kernel) (tw 130 rfl) (tw 131 rfl) (tw 48 rfl) (tw 132 rfl) (by decide) ((ugetC l Z a0 n0 h1 b kb cs i A hle hl hi hU).pays (tw 132 rfl) (tw 48 rfl) (lb rfl) (lb rfl)) (lenOf pd3 rfl) rfl (Nat.le_of_eq rfl) rfl (lb rfl) (lb rfl) ?_
  rintro _ h2 ⟨rfl, rfl⟩
  exact G.retN (by decide +kernel) rfl (Or.inr (Or.inr (Or.inl rfl))) (nar_ch (wid_getD hl i)) ⟨rfl, rfl⟩ (lb rfl) (lb rfl)

set_option maxRecDepth 65536 in
set_option maxHeartbeats 4000000 in
theorem islWC (l : Launch) (Z : State) (a0 : Array Value) (n0 : Nat) (h : Heap) {EL : List (String × Nat)} (t : Addr) (cs : List Int32) (A : Wst Z h t cs) (hCS : CS Z) :
    Ct l Z a0 EL tables_1 [] n0 ⟨"java/lang/String", "isLatin1", "()Z"⟩ jdk_42_method_154_code 1 (some (.boolean)) ({ frames := 0, cells := 0, slots := 0, locals := 0 } : Room) #[.ref t] h (fun v h' => h' = h ∧ v = some (.int 0)) := by
  refine Ct.of_body pn0 (L0 := #[.val (.ref t)]) (fun m => by exact ef_of rfl) (fun hEL hw hO => ?_)
  obtain ⟨z, Sz, hz⟩ := hCS
  refine G.getS (by decide +kernel) (tw 45 rfl) Sz ?_
  refine G.ifeq (o := (14)) (pc' := 17) (by decide +kernel) (by decide) rfl (fun q1 => absurd q1 hz) ?_
  intro _
  refine G.seg [(6, .aload_n 0, 1)] (by decide +kernel) (pc' := 7) (L' := #[.val (.ref t)]) (S' := [.ref t]) rfl ?_
  refine G.getF (by decide +kernel) (tw 57 rfl) A.2.1 ?_
  refine G.ifne (o := (7)) (pc' := 17) (by decide +kernel) (by decide) rfl ?_ (fun q2 => absurd q2 (by decide))
  intro _
  refine G.seg [(17, .iconst 0, 1)] (by decide +kernel) (pc' := 18) (L' := #[.val (.ref t)]) (S' := [.int (0 : Int32)]) rfl ?_
  exact G.retN (by decide +kernel) rfl (Or.inl rfl) rfl ⟨rfl, rfl⟩ (lb rfl) (lb rfl)

set_option maxRecDepth 65536 in
set_option maxHeartbeats 4000000 in
theorem chWC (l : Launch) (Z : State) (a0 : Array Value) (n0 : Nat) (h : Heap) {EL : List (String × Nat)} (t : Addr) (cs : List Int32) (i : Nat) (A : Wst Z h t cs) (hCS : CS Z) (hi : i < cs.length) (hU : US Z) (hFM : FM Z) :
    Ct l Z a0 EL tables_1 [] n0 ⟨"java/lang/String", "charAt", "(I)C"⟩ jdk_42_method_56_code 2 (some (.char)) ({ frames := 4, cells := 0, slots := 0, locals := 60 } : Room) #[.ref t, .int (Int32.ofNat i)] h (fun v h' => h' = h ∧ v = some (.int (cs.getD i 0))) := by
  refine Ct.of_body pn0 (L0 := #[.val (.ref t), .val (.int (Int32.ofNat i))]) (fun m => by exact ef_of rfl) (fun hEL hw hO => ?_)
  obtain ⟨-, -, hl, hle, -, b, kb, V, B⟩ := id A
  refine G.seg [(0, .aload_n 0, 1)] (by decide +kernel) (pc' := 1) (L' := #[.val (.ref t), .val (.int (Int32.ofNat i))]) (S' := [.ref t]) rfl ?_
  refine G.virtual (y := ⟨"java/lang/String", "isLatin1", "()Z"⟩) (C := "java/lang/String") (a := t) (argsL := []) (rest := []) (W := 0) (by decide +kernel) (tw 83 rfl) (tw 84 rfl) (tw 86 rfl) (tw 85 rfl) (by decide) A.1 ((islWC l Z a0 n0 h t cs A hCS).pays (tw 87 rfl) (tw 34 rfl) (lb rfl) (lb rfl)) (lenOf pd2 rfl) rfl (Nat.le_of_eq rfl) rfl (lb rfl) (lb rfl) ?_
  rintro _ h1 ⟨rfl, rfl⟩
  refine G.ifeq (o := (12)) (pc' := 16) (by decide +kernel) (by decide) rfl ?_ (fun q2 => absurd rfl q2)
  intro _
  refine G.seg [(16, .aload_n 0, 1)] (by decide +kernel) (pc' := 17) (L' := #[.val (.ref t), .val (.int (Int32.ofNat i))]) (S' := [.ref t]) rfl ?_
  refine G.getF (by decide +kernel) (tw 59 rfl) V ?_
  refine G.seg [(20, .iload_n 1, 1)] (by decide +kernel) (pc' := 21) (L' := #[.val (.ref t), .val (.int (Int32.ofNat i))]) (S' := [.int (Int32.ofNat i), .ref b]) rfl ?_
  refine G.static (y := ⟨"java/lang/StringUTF16", "charAt", "([BI)C"⟩) (argsL := [.ref b, .int (Int32.ofNat i)]) (rest := []) (W := 0) (by decide +kernel) (tw 133 rfl) (tw 134 rfl) (tw 48 rfl) (tw 135 rfl) (by decide) ((uchaC l Z a0 n0 h1 b kb cs i B hle hl hi hU hFM).pays (tw 135 rfl) (tw 48 rfl) (lb rfl) (lb rfl)) (lenOf pd3 rfl) rfl (Nat.le_of_eq rfl) rfl (lb rfl) (lb rfl) ?_
  rintro _ h3 ⟨rfl, rfl⟩
  exact G.retN (by decide +kernel) rfl (Or.inr (Or.inr (Or.inl rfl))) (nar_ch (wid_getD hl i)) ⟨rfl, rfl⟩ (lb rfl) (lb rfl)

theorem chUC (l : Launch) (Z : State) (a0 : Array Value) (n0 : Nat) (h : Heap) {EL : List (String × Nat)} (t : Addr) (cs : List Int32) (i : Nat) (A : StU Z h t cs) (hCS : CS Z) (hi : i < cs.length) (hU : US Z) (hFM : FM Z) :
    Ct l Z a0 EL tables_1 [] n0 ⟨"java/lang/String", "charAt", "(I)C"⟩ jdk_42_method_56_code 2 (some (.char)) ({ frames := 4, cells := 0, slots := 0, locals := 60 } : Room) #[.ref t, .int (Int32.ofNat i)] h (fun v h' => h' = h ∧ v = some (.int (cs.getD i 0))) := by
  rcases A with A | A
  · have := chC l Z a0 n0 h (EL := EL) t cs (Int32.ofNat i) A hCS (nlt A.2.2.2.1 hi) hFM
    rw [clampk (Nat.le_trans (Nat.le_of_lt hi) A.2.2.2.1)] at this; exact this
  · exact chWC l Z a0 n0 h t cs i A hCS hi hU hFM

set_option maxRecDepth 65536 in
set_option maxHeartbeats 4000000 in
theorem uputC (l : Launch) (Z : State) (a0 : Array Value) (n0 : Nat) (h : Heap) (b : Addr) (kb : ClassId) (n i : Nat) (c : Int32) (vs : List Value) (A : Arv Z h b kb .byte (Int32.ofNat (2 * n)) vs (.int 0)) (hle : n ≤ 4000) (hi : i < n) (hv : 2 * i + 1 < vs.length) (hb : n0 ≤ b) (hU : US Z) :
    Ct l Z a0 [] tables_1 [] n0 ⟨"java/lang/StringUTF16", "putChar", "([BII)V"⟩ jdk_52_method_4_code 3 (none) ({ frames := 0, cells := 0, slots := 0, locals := 0 } : Room) #[.ref b, .int (Int32.ofNat i), .int c] h (fun v h' => v = none ∧ Keep h h' [b] ∧ Arv Z h' b kb .byte (Int32.ofNat (2 * n)) ((vs.set (2 * i) (.int (lo8 c))).set (2 * i + 1) (.int (hi8 c))) (.int 0)) := by
  refine Ct.of_body pn3 (L0 := #[.val (.ref b), .val (.int (Int32.ofNat i)), .val (.int c)]) (fun m => by exact ef_of rfl) (fun hEL hw hO => ?_)
  obtain ⟨s1, s2, s3⟩ := hU
  refine G.getS (by decide +kernel) (tw 127 rfl) s1 ?_
  refine G.ifne (o := (25)) (pc' := 28) (by decide +kernel) (by decide) rfl ?_ (fun q1 => absurd q1 (by decide))
  intro _
  refine G.seg [(28, .iload_n 1, 1), (29, .iconst 1, 1), (30, .ishl, 1)] (by decide +kernel) (pc' := 31) (L' := #[.val (.ref b), .val (.int (Int32.ofNat i)), .val (.int c)]) (S' := [.int ((Int32.ofNat i) <<< ((1 : Int32) &&& 31))]) rfl ?_
  rw [shl1 (n := i) (by omega)]
  refine G.seg [(31, .istore_n 1, 1)] (by decide +kernel) (pc' := 32) (L' := #[.val (.ref b), .val (.int (Int32.ofNat (2 * i))), .val (.int c)]) (S' := []) rfl ?_
  refine G.seg [(32, .aload_n 0, 1), (33, .iload_n 1, 1), (34, .iinc 1 1, 3)] (by decide +kernel) (pc' := 37) (L' := #[.val (.ref b), .val (.int ((Int32.ofNat (2 * i)) + (1 : Int32))), .val (.int c)]) (S' := [.int (Int32.ofNat (2 * i)), .ref b]) rfl ?_
  refine G.seg [(37, .iload_n 2, 1)] (by decide +kernel) (pc' := 38) (L' := #[.val (.ref b), .val (.int ((Int32.ofNat (2 * i)) + (1 : Int32))), .val (.int c)]) (S' := [.int c, .int (Int32.ofNat (2 * i)), .ref b]) rfl ?_
  refine G.getS (by decide +kernel) (tw 128 rfl) s2 ?_
  refine G.seg [(41, .ishr, 1), (42, .i2b, 1)] (by decide +kernel) (pc' := 43) (L' := #[.val (.ref b), .val (.int ((Int32.ofNat (2 * i)) + (1 : Int32))), .val (.int c)]) (S' := [.int ((c >>> ((0 : Int32) &&& 31)).toInt8.toInt32), .int (Int32.ofNat (2 * i)), .ref b]) rfl ?_
  refine G.bastore (i := 2 * i) (x' := lo8 c) rfl (by decide +kernel) A hb (nlt8 (by omega) (by omega)) (clamp2 (by omega)) (by omega) (by rw [StrChars.shr0]; exact nar_byte8 c) ?_
  intro h1 K1 A1
  refine G.seg [(44, .aload_n 0, 1), (45, .iload_n 1, 1), (46, .iload_n 2, 1)] (by decide +kernel) (pc' := 47) (L' := #[.val (.ref b), .val (.int ((Int32.ofNat (2 * i)) + (1 : Int32))), .val (.int c)]) (S' := [.int c, .int ((Int32.ofNat (2 * i)) + (1 : Int32)), .ref b]) rfl ?_
  refine G.getS (by decide +kernel) (tw 129 rfl) s3 ?_
  refine G.seg [(50, .ishr, 1), (51, .i2b, 1)] (by decide +kernel) (pc' := 52) (L' := #[.val (.ref b), .val (.int ((Int32.ofNat (2 * i)) + (1 : Int32))), .val (.int c)]) (S' := [.int ((c >>> ((8 : Int32) &&& 31)).toInt8.toInt32), .int ((Int32.ofNat (2 * i)) + (1 : Int32)), .ref b]) rfl ?_
  rw [ofN1]
  refine G.bastore (i := 2 * i + 1) (x' := hi8 c) rfl (by decide +kernel) A1 hb (nlt8 (by omega) (by omega)) (Int32.toNatClampNeg_ofNat_of_lt (by omega)) (by rw [List.length_set]; omega) (nar_byte8 _) ?_
  intro h2 K2 A2
  exact G.retV (by decide +kernel) rfl ⟨rfl, K1.trans K2 (fun x hx => Or.inl hx), A2⟩ (lb rfl) (lb rfl)

set_option maxRecDepth 65536 in
set_option maxHeartbeats 4000000 in
theorem unblC (l : Launch) (Z : State) (a0 : Array Value) (n0 : Nat) (h : Heap) (n : Nat) (hle : n ≤ 4000) :
    Ct l Z a0 [] tables_1 [] n0 ⟨"java/lang/StringUTF16", "newBytesLength", "(I)I"⟩ jdk_52_method_3_code 1 (some (.int)) ({ frames := 0, cells := 0, slots := 0, locals := 0 } : Room) #[.int (Int32.ofNat n)] h (fun v h' => h' = h ∧ v = some (.int (Int32.ofNat (2 * n)))) := by
  refine Ct.of_body pn3 (L0 := #[.val (.int (Int32.ofNat n))]) (fun m => by exact ef_of rfl) (fun hEL hw hO => ?_)
  refine G.seg [(0, .iload_n 0, 1)] (by decide +kernel) (pc' := 1) (L' := #[.val (.int (Int32.ofNat n))]) (S' := [.int (Int32.ofNat n)]) rfl ?_
  refine G.ifge (o := (11)) (pc' := 12) (by decide +kernel) (by decide) rfl ?_ (fun q1 => absurd q1 (nneg hle))
  intro _
  refine G.seg [(12, .iload_n 0, 1)] (by decide +kernel) (pc' := 13) (L' := #[.val (.int (Int32.ofNat n))]) (S' := [.int (Int32.ofNat n)]) rfl ?_
  refine G.ldcI (by decide +kernel) (tw 123 rfl) ?_
  refine G.iclt (o := (40)) (pc' := 55) (by decide +kernel) (by decide) rfl ?_ (fun q2 => absurd (nbig hle) q2)
  intro _
  refine G.seg [(55, .iload_n 0, 1), (56, .iconst 1, 1), (57, .ishl, 1)] (by decide +kernel) (pc' := 58) (L' := #[.val (.int (Int32.ofNat n))]) (S' := [.int ((Int32.ofNat n) <<< ((1 : Int32) &&& 31))]) rfl ?_
  rw [shl1 (n := n) (by omega)]
  exact G.retI (by decide +kernel) rfl ⟨rfl, rfl⟩ (lb rfl) (lb rfl)

set_option maxRecDepth 65536 in
set_option maxHeartbeats 4000000 in
theorem unbfC (l : Launch) (Z : State) (a0 : Array Value) (n0 : Nat) (h : Heap) (n : Nat) (hle : n ≤ 4000) (hcap : n ≤ 22) :
    Ct l Z a0 [] tables_1 [] n0 ⟨"java/lang/StringUTF16", "newBytesFor", "(I)[B"⟩ jdk_52_method_2_code 1 (some (.array (.byte))) ({ frames := 1, cells := 1, slots := 44, locals := 20 } : Room) #[.int (Int32.ofNat n)] h (fun v h' => ∃ (r : Addr) (kr : ClassId), v = some (.ref r) ∧ Keep h h' [] ∧ n0 ≤ r ∧ h.size ≤ r ∧ Arv Z h' r kr .byte (Int32.ofNat (2 * n)) [] (.int 0)) := by
  refine Ct.of_body pn3 (L0 := #[.val (.int (Int32.ofNat n))]) (fun m => by exact ef_of rfl) (fun hEL hw hO => ?_)
  refine G.seg [(0, .iload_n 0, 1)] (by decide +kernel) (pc' := 1) (L' := #[.val (.int (Int32.ofNat n))]) (S' := [.int (Int32.ofNat n)]) rfl ?_
  refine G.static (y := ⟨"java/lang/StringUTF16", "newBytesLength", "(I)I"⟩) (argsL := [.int (Int32.ofNat n)]) (rest := []) (W := 0) (by decide +kernel) (tw 120 rfl) (tw 121 rfl) (tw 48 rfl) (tw 122 rfl) (by decide) ((unblC l Z a0 n0 h n hle).pays (tw 122 rfl) (tw 48 rfl) (lb rfl) (lb rfl)) (lenOf pd6 rfl) rfl (Nat.le_of_eq rfl) rfl (lb rfl) (lb rfl) ?_
  rintro _ h1 ⟨rfl, rfl⟩
  refine G.newarr (aty := .byte) (ty := .byte) (cap := 44) rfl (by decide +kernel) (tw 50 rfl) (nlt8 (i := 2 * n) (n := 8001) (by omega) (by omega)).1 (by rw [clamp2 hle]; omega) (lb rfl) (lb rfl) (lb rfl) ?_
  intro h2 a2 k2 g2 n2 K2 A2
  exact G.retA (by decide +kernel) rfl rfl rfl rfl ⟨a2, k2, rfl, K2, n2, Nat.le_of_eq g2.symm, A2.pad (fun i => (pad_rep [] (.int 0) 44 i).symm)⟩ (lb rfl) (lb rfl)

set_option maxRecDepth 65536 in
set_option maxHeartbeats 4000000 in
theorem utb3C (l : Launch) (Z : State) (a0 : Array Value) (n0 : Nat) (h : Heap) (b : Addr) (kb : ClassId) (cs : List Int32) (A : Arv Z h b kb .char (Int32.ofNat cs.length) (cs.map Value.int) (.int 0)) (hle : cs.length ≤ 4000) (hcap : cs.length ≤ 22) (hU : US Z) :
    Ct l Z a0 [] tables_1 [] n0 ⟨"java/lang/StringUTF16", "toBytes", "([CII)[B"⟩ jdk_52_method_14_code 5 (some (.array (.byte))) ({ frames := 2, cells := 1, slots := 44, locals := 40 } : Room) #[.ref b, .int (0 : Int32), .int (Int32.ofNat cs.length)] h (fun v h' => ∃ (r : Addr) (kr : ClassId), v = some (.ref r) ∧ Keep h h' [] ∧ n0 ≤ r ∧ h.size ≤ r ∧ Arv Z h' r kr .byte (Int32.ofNat (2 * cs.length)) (wB cs) (.int 0)) := by
  refine Ct.of_body pn3 (L0 := #[.val (.ref b), .val (.int (0 : Int32)), .val (.int (Int32.ofNat cs.length)), .unset, .unset]) (fun m => by exact ef_of rfl) (fun hEL hw hO => ?_)
  refine G.seg [(0, .iload_n 2, 1)] (by decide +kernel) (pc' := 1) (L' := #[.val (.ref b), .val (.int (0 : Int32)), .val (.int (Int32.ofNat cs.length)), .unset, .unset]) (S' := [.int (Int32.ofNat cs.length)]) rfl ?_
  refine G.static (y := ⟨"java/lang/StringUTF16", "newBytesFor", "(I)[B"⟩) (argsL := [.int (Int32.ofNat cs.length)]) (rest := []) (W := 0) (by decide +kernel) (tw 117 rfl) (tw 118 rfl) (tw 48 rfl) (tw 119 rfl) (by decide) ((unbfC l Z a0 n0 h cs.length hle hcap).pays (tw 119 rfl) (tw 48 rfl) (lb rfl) (lb rfl)) (lenOf pd7 rfl) rfl (Nat.le_of_eq rfl) rfl (lb rfl) (lb rfl) ?_
  rintro _ h1 ⟨r, kr, rfl, K0, nr, gr, A0⟩
  refine G.seg [(4, .astore_n 3, 1)] (by decide +kernel) (pc' := 5) (L' := #[.val (.ref b), .val (.int (0 : Int32)), .val (.int (Int32.ofNat cs.length)), .val (.ref r), .unset]) (S' := []) rfl ?_
  refine G.seg [(5, .iconst 0, 1), (6, .istore 4, 2)] (by decide +kernel) (pc' := 8) (L' := #[.val (.ref b), .val (.int (0 : Int32)), .val (.int (Int32.ofNat cs.length)), .val (.ref r), .val (.int (0 : Int32))]) (S' := []) rfl ?_
  have nbr : b ≠ r := Nat.ne_of_lt (Nat.lt_of_lt_of_le A.lt gr)
  have B := A.keep K0 nin0
  refine G.loop (fun z : Nat × Heap => cs.length - z.1) (fun z => z.1 ≤ cs.length ∧ Keep h1 z.2 [r] ∧ Arv Z z.2 r kr .byte (Int32.ofNat (2 * cs.length)) (wB (cs.take z.1)) (.int 0)) (fun z => (z.2, 1, 44, 8, #[.val (.ref b), .val (.int (Int32.ofNat z.1)), .val (.int (Int32.ofNat cs.length)), .val (.ref r), .val (.int (Int32.ofNat z.1))], [])) (0, h1) rfl ⟨Nat.zero_le _, Keep.refl _ _, A0⟩ ?_
  rintro ⟨k, q⟩ ⟨hk, Kq, Aq⟩ ih
  dsimp only at hk Kq Aq ih ⊢
  refine G.seg [(8, .iload 4, 2), (10, .iload_n 2, 1)] (by decide +kernel) (pc' := 11) (L' := #[.val (.ref b), .val (.int (Int32.ofNat k)), .val (.int (Int32.ofNat cs.length)), .val (.ref r), .val (.int (Int32.ofNat k))]) (S' := [.int (Int32.ofNat cs.length), .int (Int32.ofNat k)]) rfl ?_
  refine G.icge (o := (21)) (pc' := 32) (by decide +kernel) (by decide) rfl ?_ ?_
  · intro q2
    have ek : k = cs.length := Nat.le_antisymm hk (Nat.le_of_not_lt fun z => q2 (nlt hle z).2)
    rw [ek, List.take_length] at Aq
    refine G.seg [(32, .aload_n 3, 1)] (by decide +kernel) (pc' := 33) (L' := #[.val (.ref b), .val (.int (Int32.ofNat k)), .val (.int (Int32.ofNat cs.length)), .val (.ref r), .val (.int (Int32.ofNat k))]) (S' := [.ref r]) rfl ?_
    exact G.retA (by decide +kernel) rfl rfl rfl rfl ⟨r, kr, rfl, K0.trans Kq (allS (Or.inr gr) all0), nr, gr, Aq⟩ (lb rfl) (lb rfl)
  · intro q2
    have hk2 : k < cs.length := nbkU hk hle q2
    refine G.seg [(14, .aload_n 3, 1), (15, .iload 4, 2), (17, .aload_n 0, 1), (18, .iload_n 1, 1)] (by decide +kernel) (pc' := 19) (L' := #[.val (.ref b), .val (.int (Int32.ofNat k)), .val (.int (Int32.ofNat cs.length)), .val (.ref r), .val (.int (Int32.ofNat k))]) (S' := [.int (Int32.ofNat k), .ref b, .int (Int32.ofNat k), .ref r]) rfl ?_
    refine G.caload (v := .int (cs.getD k 0)) (by decide +kernel) (B.keep Kq (ninS nbr nin0)) (nlt hle hk2) (by rw [clampk (by omega)]; exact gvU cs k) ?_
    refine G.static (y := ⟨"java/lang/StringUTF16", "putChar", "([BII)V"⟩) (argsL := [.ref r, .int (Int32.ofNat k), .int (cs.getD k 0)]) (rest := []) (W := 0) (by decide +kernel) (tw 124 rfl) (tw 125 rfl) (tw 48 rfl) (tw 126 rfl) (by decide) ((uputC l Z a0 n0 q r kr cs.length k (cs.getD k 0) (wB (cs.take k) ++ [Value.int 0, Value.int 0]) (padW Aq) hle hk2 (by rw [List.length_append, wB_len, List.length_take]; simp only [List.length_cons, List.length_nil]; omega) nr hU).pays (tw 126 rfl) (tw 48 rfl) (lb rfl) (lb rfl)) (lenOf pd8 rfl) rfl (Nat.le_of_eq rfl) rfl (lb rfl) (lb rfl) ?_
    rintro _ h3 ⟨rfl, K3, A3⟩
    rw [wB_step hk2] at A3
    refine G.seg [(23, .iinc 1 1, 3)] (by decide +kernel) (pc' := 26) (L' := #[.val (.ref b), .val (.int ((Int32.ofNat k) + (1 : Int32))), .val (.int (Int32.ofNat cs.length)), .val (.ref r), .val (.int (Int32.ofNat k))]) (S' := []) rfl ?_
    refine G.seg [(26, .iinc 4 1, 3)] (by decide +kernel) (pc' := 29) (L' := #[.val (.ref b), .val (.int ((Int32.ofNat k) + (1 : Int32))), .val (.int (Int32.ofNat cs.length)), .val (.ref r), .val (.int ((Int32.ofNat k) + (1 : Int32)))]) (S' := []) rfl ?_
    refine G.seg [(29, .goto (-21), 3)] (by decide +kernel) (pc' := 8) (L' := #[.val (.ref b), .val (.int ((Int32.ofNat k) + (1 : Int32))), .val (.int (Int32.ofNat cs.length)), .val (.ref r), .val (.int ((Int32.ofNat k) + (1 : Int32)))]) (S' := []) rfl ?_
    rw [ofN1]
    exact ih (k + 1, h3) ⟨hk2, Kq.trans K3 (fun x hx => Or.inl hx), A3⟩ (by dsimp only; omega)

set_option maxRecDepth 65536 in
set_option maxHeartbeats 4000000 in
theorem ucm5C (l : Launch) (Z : State) (a0 : Array Value) (n0 : Nat) (h : Heap) (b : Addr) (kb : ClassId) (cs : List Int32) (A : Arv Z h b kb .char (Int32.ofNat cs.length) (cs.map Value.int) (.int 0)) (hle : cs.length ≤ 4000) (d : Addr) (kd : ClassId) (D : Arv Z h d kd .byte (Int32.ofNat cs.length) (List.replicate 22 (.int 0)) (.int 0)) (hd : n0 ≤ d) (hcap : cs.length ≤ 22) (nbd : b ≠ d) (hwd : ∃ c ∈ cs, (255 : Int32) < c) :
    Ct l Z a0 [] tables_1 [] n0 ⟨"java/lang/StringUTF16", "compress", "([CI[BII)I"⟩ jdk_52_method_21_code 7 (some (.int)) ({ frames := 0, cells := 0, slots := 0, locals := 0 } : Room) #[.ref b, .int (0 : Int32), .ref d, .int (0 : Int32), .int (Int32.ofNat cs.length)] h (fun v h' => ∃ k : Nat, k < cs.length ∧ (255 : Int32) < cs.getD k 0 ∧ v = some (.int (Int32.ofNat k)) ∧ Keep h h' [d]) := by
  refine Ct.of_body pn3 (L0 := #[.val (.ref b), .val (.int (0 : Int32)), .val (.ref d), .val (.int (0 : Int32)), .val (.int (Int32.ofNat cs.length)), .unset, .unset]) (fun m => by exact ef_of rfl) (fun hEL hw hO => ?_)
  refine G.seg [(0, .iconst 0, 1), (1, .istore 5, 2)] (by decide +kernel) (pc' := 3) (L' := #[.val (.ref b), .val (.int (0 : Int32)), .val (.ref d), .val (.int (0 : Int32)), .val (.int (Int32.ofNat cs.length)), .val (.int (0 : Int32)), .unset]) (S' := []) rfl ?_
  refine G.loop (fun z : Nat × Heap × Option Int32 => cs.length - z.1) (fun z => z.1 ≤ cs.length ∧ Keep h z.2.1 [d] ∧ (∃ vs : List Value, vs.length = 22 ∧ Arv Z z.2.1 d kd .byte (Int32.ofNat cs.length) vs (.int 0)) ∧ ∀ j, j < z.1 → ¬ (255 : Int32) < cs.getD j 0) (fun z => (z.2.1, 0, 0, 3, #[.val (.ref b), .val (.int (Int32.ofNat z.1)), .val (.ref d), .val (.int (Int32.ofNat z.1)), .val (.int (Int32.ofNat cs.length)), .val (.int (Int32.ofNat z.1)), (match z.2.2 with | none => Slot.unset | some q => .val (.int q))], [])) (0, h, none) rfl ⟨Nat.zero_le _, Keep.refl _ _, ⟨_, by simp, D⟩, fun j hj => absurd hj (Nat.not_lt_zero j)⟩ ?_
  rintro ⟨k, q, (_ | u1)⟩ ⟨hk, Kq, ⟨vs, lv, Dq⟩, hj⟩ ih
  · dsimp only at hk Kq Dq hj ih ⊢
    refine G.seg [(3, .iload 5, 2), (5, .iload 4, 2)] (by decide +kernel) (pc' := 7) (L' := #[.val (.ref b), .val (.int (Int32.ofNat k)), .val (.ref d), .val (.int (Int32.ofNat k)), .val (.int (Int32.ofNat cs.length)), .val (.int (Int32.ofNat k)), .unset]) (S' := [.int (Int32.ofNat cs.length), .int (Int32.ofNat k)]) rfl ?_
    refine G.icge (o := (37)) (pc' := 44) (by decide +kernel) (by decide) rfl ?_ ?_
    · intro q1
      have ek : k = cs.length := Nat.le_antisymm hk (Nat.le_of_not_lt fun z => q1 (nlt hle z).2)
      obtain ⟨j, j1, j2⟩ := widest hwd
      exact absurd j2 (hj j (by omega))
    · intro q1
      have hk2 : k < cs.length := nbkU hk hle q1
      refine G.seg [(10, .aload_n 0, 1), (11, .iload_n 1, 1)] (by decide +kernel) (pc' := 12) (L' := #[.val (.ref b), .val (.int (Int32.ofNat k)), .val (.ref d), .val (.int (Int32.ofNat k)), .val (.int (Int32.ofNat cs.length)), .val (.int (Int32.ofNat k)), .unset]) (S' := [.int (Int32.ofNat k), .ref b]) rfl ?_
      refine G.caload (v := .int (cs.getD k 0)) (by decide +kernel) (A.keep Kq (ninS nbd nin0)) (nlt hle hk2) (by rw [clampk (by omega)]; exact gvU cs k) ?_
      refine G.seg [(13, .istore 6, 2)] (by decide +kernel) (pc' := 15) (L' := #[.val (.ref b), .val (.int (Int32.ofNat k)), .val (.ref d), .val (.int (Int32.ofNat k)), .val (.int (Int32.ofNat cs.length)), .val (.int (Int32.ofNat k)), .val (.int (cs.getD k 0))]) (S' := []) rfl ?_
      refine G.seg [(15, .iload 6, 2), (17, .sipush 255, 3)] (by decide +kernel) (pc' := 20) (L' := #[.val (.ref b), .val (.int (Int32.ofNat k)), .val (.ref d), .val (.int (Int32.ofNat k)), .val (.int (Int32.ofNat cs.length)), .val (.int (Int32.ofNat k)), .val (.int (cs.getD k 0))]) (S' := [.int (255 : Int32), .int (cs.getD k 0)]) rfl ?_
      refine G.icle (o := (6)) (pc' := 26) (by decide +kernel) (by decide) rfl ?_ ?_
      · intro q2
        refine G.seg [(26, .aload_n 2, 1), (27, .iload_n 3, 1), (28, .iload 6, 2), (30, .i2b, 1)] (by decide +kernel) (pc' := 31) (L' := #[.val (.ref b), .val (.int (Int32.ofNat k)), .val (.ref d), .val (.int (Int32.ofNat k)), .val (.int (Int32.ofNat cs.length)), .val (.int (Int32.ofNat k)), .val (.int (cs.getD k 0))]) (S' := [.int ((cs.getD k 0).toInt8.toInt32), .int (Int32.ofNat k), .ref d]) rfl ?_
        refine G.bastore (i := k) rfl (by decide +kernel) Dq hd (nlt hle hk2) (clampk (by omega)) (by omega) (nar_byte8 _) ?_
        intro h1 K1 D1
        refine G.seg [(32, .iinc 1 1, 3)] (by decide +kernel) (pc' := 35) (L' := #[.val (.ref b), .val (.int ((Int32.ofNat k) + (1 : Int32))), .val (.ref d), .val (.int (Int32.ofNat k)), .val (.int (Int32.ofNat cs.length)), .val (.int (Int32.ofNat k)), .val (.int (cs.getD k 0))]) (S' := []) rfl ?_
        refine G.seg [(35, .iinc 3 1, 3)] (by decide +kernel) (pc' := 38) (L' := #[.val (.ref b), .val (.int ((Int32.ofNat k) + (1 : Int32))), .val (.ref d), .val (.int ((Int32.ofNat k) + (1 : Int32))), .val (.int (Int32.ofNat cs.length)), .val (.int (Int32.ofNat k)), .val (.int (cs.getD k 0))]) (S' := []) rfl ?_
        refine G.seg [(38, .iinc 5 1, 3)] (by decide +kernel) (pc' := 41) (L' := #[.val (.ref b), .val (.int ((Int32.ofNat k) + (1 : Int32))), .val (.ref d), .val (.int ((Int32.ofNat k) + (1 : Int32))), .val (.int (Int32.ofNat cs.length)), .val (.int ((Int32.ofNat k) + (1 : Int32))), .val (.int (cs.getD k 0))]) (S' := []) rfl ?_
        refine G.seg [(41, .goto (-38), 3)] (by decide +kernel) (pc' := 3) (L' := #[.val (.ref b), .val (.int ((Int32.ofNat k) + (1 : Int32))), .val (.ref d), .val (.int ((Int32.ofNat k) + (1 : Int32))), .val (.int (Int32.ofNat cs.length)), .val (.int ((Int32.ofNat k) + (1 : Int32))), .val (.int (cs.getD k 0))]) (S' := []) rfl ?_
        rw [ofN1]
        exact ih (k + 1, h1, some (cs.getD k 0)) ⟨hk2, Kq.trans K1 (fun x hx => Or.inl hx), ⟨_, by rw [List.length_set]; exact lv, D1⟩, fun j j1 => by rcases Nat.lt_succ_iff_lt_or_eq.mp j1 with z | z; exact hj j z; rw [z]; exact q2⟩ (by dsimp only; omega)
      · intro q2
        refine G.seg [(23, .iload 5, 2)] (by decide +kernel) (pc' := 25) (L' := #[.val (.ref b), .val (.int (Int32.ofNat k)), .val (.ref d), .val (.int (Int32.ofNat k)), .val (.int (Int32.ofNat cs.length)), .val (.int (Int32.ofNat k)), .val (.int (cs.getD k 0))]) (S' := [.int (Int32.ofNat k)]) rfl ?_
        exact G.retI (by decide +kernel) rfl ⟨k, hk2, q2, rfl, Kq⟩ (lb rfl) (lb rfl)
  · dsimp only at hk Kq Dq hj ih ⊢
    refine G.seg [(3, .iload 5, 2), (5, .iload 4, 2)] (by decide +kernel) (pc' := 7) (L' := #[.val (.ref b), .val (.int (Int32.ofNat k)), .val (.ref d), .val (.int (Int32.ofNat k)), .val (.int (Int32.ofNat cs.length)), .val (.int (Int32.ofNat k)), .val (.int u1)]) (S' := [.int (Int32.ofNat cs.length), .int (Int32.ofNat k)]) rfl ?_
    refine G.icge (o := (37)) (pc' := 44) (by decide +kernel) (by decide) rfl ?_ ?_
    · intro q3
      have ek : k = cs.length := Nat.le_antisymm hk (Nat.le_of_not_lt fun z => q3 (nlt hle z).2)
      obtain ⟨j, j1, j2⟩ := widest hwd
      exact absurd j2 (hj j (by omega))
    · intro q3
      have hk2 : k < cs.length := nbkU hk hle q3
      refine G.seg [(10, .aload_n 0, 1), (11, .iload_n 1, 1)] (by decide +kernel) (pc' := 12) (L' := #[.val (.ref b), .val (.int (Int32.ofNat k)), .val (.ref d), .val (.int (Int32.ofNat k)), .val (.int (Int32.ofNat cs.length)), .val (.int (Int32.ofNat k)), .val (.int u1)]) (S' := [.int (Int32.ofNat k), .ref b]) rfl ?_
      refine G.caload (v := .int (cs.getD k 0)) (by decide +kernel) (A.keep Kq (ninS nbd nin0)) (nlt hle hk2) (by rw [clampk (by omega)]; exact gvU cs k) ?_
      refine G.seg [(13, .istore 6, 2)] (by decide +kernel) (pc' := 15) (L' := #[.val (.ref b), .val (.int (Int32.ofNat k)), .val (.ref d), .val (.int (Int32.ofNat k)), .val (.int (Int32.ofNat cs.length)), .val (.int (Int32.ofNat k)), .val (.int (cs.getD k 0))]) (S' := []) rfl ?_
      refine G.seg [(15, .iload 6, 2), (17, .sipush 255, 3)] (by decide +kernel) (pc' := 20) (L' := #[.val (.ref b), .val (.int (Int32.ofNat k)), .val (.ref d), .val (.int (Int32.ofNat k)), .val (.int (Int32.ofNat cs.length)), .val (.int (Int32.ofNat k)), .val (.int (cs.getD k 0))]) (S' := [.int (255 : Int32), .int (cs.getD k 0)]) rfl ?_
      refine G.icle (o := (6)) (pc' := 26) (by decide +kernel) (by decide) rfl ?_ ?_
      · intro q4
        refine G.seg [(26, .aload_n 2, 1), (27, .iload_n 3, 1), (28, .iload 6, 2), (30, .i2b, 1)] (by decide +kernel) (pc' := 31) (L' := #[.val (.ref b), .val (.int (Int32.ofNat k)), .val (.ref d), .val (.int (Int32.ofNat k)), .val (.int (Int32.ofNat cs.length)), .val (.int (Int32.ofNat k)), .val (.int (cs.getD k 0))]) (S' := [.int ((cs.getD k 0).toInt8.toInt32), .int (Int32.ofNat k), .ref d]) rfl ?_
        refine G.bastore (i := k) rfl (by decide +kernel) Dq hd (nlt hle hk2) (clampk (by omega)) (by omega) (nar_byte8 _) ?_
        intro h1 K1 D1
        refine G.seg [(32, .iinc 1 1, 3)] (by decide +kernel) (pc' := 35) (L' := #[.val (.ref b), .val (.int ((Int32.ofNat k) + (1 : Int32))), .val (.ref d), .val (.int (Int32.ofNat k)), .val (.int (Int32.ofNat cs.length)), .val (.int (Int32.ofNat k)), .val (.int (cs.getD k 0))]) (S' := []) rfl ?_
        refine G.seg [(35, .iinc 3 1, 3)] (by decide +kernel) (pc' := 38) (L' := #[.val (.ref b), .val (.int ((Int32.ofNat k) + (1 : Int32))), .val (.ref d), .val (.int ((Int32.ofNat k) + (1 : Int32))), .val (.int (Int32.ofNat cs.length)), .val (.int (Int32.ofNat k)), .val (.int (cs.getD k 0))]) (S' := []) rfl ?_
        refine G.seg [(38, .iinc 5 1, 3)] (by decide +kernel) (pc' := 41) (L' := #[.val (.ref b), .val (.int ((Int32.ofNat k) + (1 : Int32))), .val (.ref d), .val (.int ((Int32.ofNat k) + (1 : Int32))), .val (.int (Int32.ofNat cs.length)), .val (.int ((Int32.ofNat k) + (1 : Int32))), .val (.int (cs.getD k 0))]) (S' := []) rfl ?_
        refine G.seg [(41, .goto (-38), 3)] (by decide +kernel) (pc' := 3) (L' := #[.val (.ref b), .val (.int ((Int32.ofNat k) + (1 : Int32))), .val (.ref d), .val (.int ((Int32.ofNat k) + (1 : Int32))), .val (.int (Int32.ofNat cs.length)), .val (.int ((Int32.ofNat k) + (1 : Int32))), .val (.int (cs.getD k 0))]) (S' := []) rfl ?_
        rw [ofN1]
        exact ih (k + 1, h1, some (cs.getD k 0)) ⟨hk2, Kq.trans K1 (fun x hx => Or.inl hx), ⟨_, by rw [List.length_set]; exact lv, D1⟩, fun j j1 => by rcases Nat.lt_succ_iff_lt_or_eq.mp j1 with z | z; exact hj j z; rw [z]; exact q4⟩ (by dsimp only; omega)
      · intro q4
        refine G.seg [(23, .iload 5, 2)] (by decide +kernel) (pc' := 25) (L' := #[.val (.ref b), .val (.int (Int32.ofNat k)), .val (.ref d), .val (.int (Int32.ofNat k)), .val (.int (Int32.ofNat cs.length)), .val (.int (Int32.ofNat k)), .val (.int (cs.getD k 0))]) (S' := [.int (Int32.ofNat k)]) rfl ?_
        exact G.retI (by decide +kernel) rfl ⟨k, hk2, q4, rfl, Kq⟩ (lb rfl) (lb rfl)

set_option maxRecDepth 65536 in
set_option maxHeartbeats 4000000 in
theorem ucm3C (l : Launch) (Z : State) (a0 : Array Value) (n0 : Nat) (h : Heap) (b : Addr) (kb : ClassId) (cs : List Int32) (A : Arv Z h b kb .char (Int32.ofNat cs.length) (cs.map Value.int) (.int 0)) (hle : cs.length ≤ 4000) (hcap : cs.length ≤ 22) (hwd : ∃ c ∈ cs, (255 : Int32) < c) (hl : wid cs) (hU : US Z) :
    Ct l Z a0 [] tables_1 [] n0 ⟨"java/lang/StringUTF16", "compress", "([CII)[B"⟩ jdk_52_method_16_code 6 (some (.array (.byte))) ({ frames := 3, cells := 2, slots := 66, locals := 70 } : Room) #[.ref b, .int (0 : Int32), .int (Int32.ofNat cs.length)] h (fun v h' => ∃ (r : Addr) (kr : ClassId), v = some (.ref r) ∧ Keep h h' [] ∧ Arv Z h' r kr .byte (Int32.ofNat (2 * cs.length)) (wB cs) (.int 0)) := by
  refine Ct.of_body pn3 (L0 := #[.val (.ref b), .val (.int (0 : Int32)), .val (.int (Int32.ofNat cs.length)), .unset, .unset, .unset]) (fun m => by exact ef_of rfl) (fun hEL hw hO => ?_)
  refine G.seg [(0, .iload_n 2, 1)] (by decide +kernel) (pc' := 1) (L' := #[.val (.ref b), .val (.int (0 : Int32)), .val (.int (Int32.ofNat cs.length)), .unset, .unset, .unset]) (S' := [.int (Int32.ofNat cs.length)]) rfl ?_
  refine G.newarr (aty := .byte) (ty := .byte) (cap := 22) rfl (by decide +kernel) (tw 50 rfl) (nneg hle) (by rw [clampk hle]; exact hcap) (lb rfl) (lb rfl) (lb rfl) ?_
  intro h1 a1 k1 g1 n1 K1 A1
  refine G.seg [(3, .astore_n 3, 1)] (by decide +kernel) (pc' := 4) (L' := #[.val (.ref b), .val (.int (0 : Int32)), .val (.int (Int32.ofNat cs.length)), .val (.ref a1), .unset, .unset]) (S' := []) rfl ?_
  refine G.seg [(4, .aload_n 0, 1), (5, .iload_n 1, 1), (6, .aload_n 3, 1), (7, .iconst 0, 1), (8, .iload_n 2, 1)] (by decide +kernel) (pc' := 9) (L' := #[.val (.ref b), .val (.int (0 : Int32)), .val (.int (Int32.ofNat cs.length)), .val (.ref a1), .unset, .unset]) (S' := [.int (Int32.ofNat cs.length), .int (0 : Int32), .ref a1, .int (0 : Int32), .ref b]) rfl ?_
  have nb : b ≠ a1 := Nat.ne_of_lt (Nat.lt_of_lt_of_le A.lt (Nat.le_of_eq g1.symm))
  refine G.static (y := ⟨"java/lang/StringUTF16", "compress", "([CI[BII)I"⟩) (argsL := [.ref b, .int (0 : Int32), .ref a1, .int (0 : Int32), .int (Int32.ofNat cs.length)]) (rest := []) (W := 0) (by decide +kernel) (tw 51 rfl) (tw 52 rfl) (tw 48 rfl) (tw 53 rfl) (by decide) ((ucm5C l Z a0 n0 h1 b kb cs (A.keep K1 nin0) hle a1 k1 A1 n1 hcap nb hwd).pays (tw 53 rfl) (tw 48 rfl) (lb rfl) (lb rfl)) (lenOf pd9 rfl) rfl (Nat.le_of_eq rfl) rfl (lb rfl) (lb rfl) ?_
  rintro _ h2 ⟨i, hi, wi, rfl, K2⟩
  refine G.seg [(12, .istore 4, 2)] (by decide +kernel) (pc' := 14) (L' := #[.val (.ref b), .val (.int (0 : Int32)), .val (.int (Int32.ofNat cs.length)), .val (.ref a1), .val (.int (Int32.ofNat i)), .unset]) (S' := []) rfl ?_
  refine G.seg [(14, .iload 4, 2), (16, .iload_n 2, 1)] (by decide +kernel) (pc' := 17) (L' := #[.val (.ref b), .val (.int (0 : Int32)), .val (.int (Int32.ofNat cs.length)), .val (.ref a1), .val (.int (Int32.ofNat i)), .unset]) (S' := [.int (Int32.ofNat cs.length), .int (Int32.ofNat i)]) rfl ?_
  refine G.iceq (o := (40)) (pc' := 57) (by decide +kernel) (by decide) rfl (fun q3 => absurd (ninj (by omega) hle q3) (by omega)) ?_
  intro _
  refine G.seg [(20, .aload_n 0, 1), (21, .iload_n 1, 1), (22, .iload_n 2, 1)] (by decide +kernel) (pc' := 23) (L' := #[.val (.ref b), .val (.int (0 : Int32)), .val (.int (Int32.ofNat cs.length)), .val (.ref a1), .val (.int (Int32.ofNat i)), .unset]) (S' := [.int (Int32.ofNat cs.length), .int (0 : Int32), .ref b]) rfl ?_
  refine G.static (y := ⟨"java/lang/StringUTF16", "toBytes", "([CII)[B"⟩) (argsL := [.ref b, .int (0 : Int32), .int (Int32.ofNat cs.length)]) (rest := []) (W := 0) (by decide +kernel) (tw 114 rfl) (tw 115 rfl) (tw 48 rfl) (tw 116 rfl) (by decide) ((utb3C l Z a0 n0 h2 b kb cs ((A.keep K1 nin0).keep K2 (ninS nb nin0)) hle hcap hU).pays (tw 116 rfl) (tw 48 rfl) (lb rfl) (lb rfl)) (lenOf pd10 rfl) rfl (Nat.le_of_eq rfl) rfl (lb rfl) (lb rfl) ?_
  rintro _ h4 ⟨r, kr, rfl, K4, nr, gr, Ar⟩
  refine G.seg [(26, .astore 5, 2)] (by decide +kernel) (pc' := 28) (L' := #[.val (.ref b), .val (.int (0 : Int32)), .val (.int (Int32.ofNat cs.length)), .val (.ref a1), .val (.int (Int32.ofNat i)), .val (.ref r)]) (S' := []) rfl ?_
  refine G.seg [(28, .aload 5, 2), (30, .iload 4, 2)] (by decide +kernel) (pc' := 32) (L' := #[.val (.ref b), .val (.int (0 : Int32)), .val (.int (Int32.ofNat cs.length)), .val (.ref a1), .val (.int (Int32.ofNat i)), .val (.ref r)]) (S' := [.int (Int32.ofNat i), .ref r]) rfl ?_
  refine G.static (y := ⟨"java/lang/StringUTF16", "getChar", "([BI)C"⟩) (argsL := [.ref r, .int (Int32.ofNat i)]) (rest := []) (W := 0) (by decide +kernel) (tw 130 rfl) (tw 131 rfl) (tw 48 rfl) (tw 132 rfl) (by decide) ((ugetC l Z a0 n0 h4 r kr cs i Ar hle hl hi hU).pays (tw 132 rfl) (tw 48 rfl) (lb rfl) (lb rfl)) (lenOf pd3 rfl) rfl (Nat.le_of_eq rfl) rfl (lb rfl) (lb rfl) ?_
  rintro _ h5 ⟨rfl, rfl⟩
  refine G.seg [(35, .sipush 255, 3)] (by decide +kernel) (pc' := 38) (L' := #[.val (.ref b), .val (.int (0 : Int32)), .val (.int (Int32.ofNat cs.length)), .val (.ref a1), .val (.int (Int32.ofNat i)), .val (.ref r)]) (S' := [.int (255 : Int32), .int (cs.getD i 0)]) rfl ?_
  refine G.icgt (o := (16)) (pc' := 54) (by decide +kernel) (by decide) rfl ?_ (fun q6 => absurd wi q6)
  intro _
  refine G.seg [(54, .aload 5, 2)] (by decide +kernel) (pc' := 56) (L' := #[.val (.ref b), .val (.int (0 : Int32)), .val (.int (Int32.ofNat cs.length)), .val (.ref a1), .val (.int (Int32.ofNat i)), .val (.ref r)]) (S' := [.ref r]) rfl ?_
  exact G.retA (by decide +kernel) rfl rfl rfl rfl ⟨r, kr, rfl, (K1.trans K2 (allS (Or.inr (Nat.le_of_eq g1.symm)) all0)).trans K4 all0, Ar⟩ (lb rfl) (lb rfl)

set_option maxRecDepth 65536 in
set_option maxHeartbeats 4000000 in
theorem ucodC (l : Launch) (Z : State) (a0 : Array Value) (n0 : Nat) (h : Heap) (b : Addr) (kb : ClassId) (cs : List Int32) (A : Arv Z h b kb .byte (Int32.ofNat (2 * cs.length)) (wB cs) (.int 0)) (hle : cs.length ≤ 4000) (h1 : 1 ≤ cs.length) :
    Ct l Z a0 [] tables_1 [] n0 ⟨"java/lang/StringUTF16", "coderFromArrayLen", "([BI)B"⟩ jdk_52_method_15_code 2 (some (.byte)) ({ frames := 0, cells := 0, slots := 0, locals := 0 } : Room) #[.ref b, .int (Int32.ofNat cs.length)] h (fun v h' => h' = h ∧ v = some (.int 1)) := by
  refine Ct.of_body pn3 (L0 := #[.val (.ref b), .val (.int (Int32.ofNat cs.length))]) (fun m => by exact ef_of rfl) (fun hEL hw hO => ?_)
  refine G.seg [(0, .iload_n 1, 1), (1, .aload_n 0, 1)] (by decide +kernel) (pc' := 2) (L' := #[.val (.ref b), .val (.int (Int32.ofNat cs.length))]) (S' := [.ref b, .int (Int32.ofNat cs.length)]) rfl ?_
  refine G.arrlen (by decide +kernel) A ?_
  refine G.seg [(3, .isub, 1), (4, .bipush 31, 2), (6, .iushr, 1), (7, .i2b, 1)] (by decide +kernel) (pc' := 8) (L' := #[.val (.ref b), .val (.int (Int32.ofNat cs.length))]) (S' := [.int ((XT.ushr ((Int32.ofNat cs.length) - (Int32.ofNat (2 * cs.length))) (31 : Int32)).toInt8.toInt32)]) rfl ?_
  rw [cod1 h1 hle]
  exact G.retN (z' := 1) (by decide +kernel) rfl (Or.inr (Or.inl rfl)) rfl ⟨rfl, rfl⟩ (lb rfl) (lb rfl)

set_option maxRecDepth 65536 in
set_option maxHeartbeats 4000000 in
theorem un4C (l : Launch) (Z : State) (a0 : Array Value) (n0 : Nat) (h : Heap) (b : Addr) (kb : ClassId) (cs : List Int32) (A : Arv Z h b kb .char (Int32.ofNat cs.length) (cs.map Value.int) (.int 0)) (hle : cs.length ≤ 4000) (hcap : cs.length ≤ 22) (hwd : ∃ c ∈ cs, (255 : Int32) < c) (hl : wid cs) (hU : US Z) (t : Addr) (ht : n0 ≤ t) (E : Exa Z h t "java/lang/String") (V : Fld Z h t "java/lang/String" "value" "[B" .null) (C : Fld Z h t "java/lang/String" "coder" "B" (.int 0)) (hCS : CS Z) (h1 : 1 ≤ cs.length) :
    Ct l Z a0 [] tables_1 [] n0 ⟨"java/lang/String", "<init>", "([CIILjava/lang/Void;)V"⟩ jdk_42_method_149_code 6 (none) ({ frames := 4, cells := 2, slots := 66, locals := 100 } : Room) #[.ref t, .ref b, .int (0 : Int32), .int (Int32.ofNat cs.length), .null] h (QW Z t cs h) := by
  refine Ct.of_body pn0 (L0 := #[.val (.ref t), .val (.ref b), .val (.int (0 : Int32)), .val (.int (Int32.ofNat cs.length)), .val (.null), .unset]) (fun m => by exact ef_of rfl) (fun hEL hw hO => ?_)
  refine G.seg [(0, .aload_n 0, 1)] (by decide +kernel) (pc' := 1) (L' := #[.val (.ref t), .val (.ref b), .val (.int (0 : Int32)), .val (.int (Int32.ofNat cs.length)), .val (.null), .unset]) (S' := [.ref t]) rfl ?_
  refine G.initO (W := 0) (by decide +kernel) (tw 42 rfl) (tw 43 rfl) (tw 44 rfl) rfl (lb rfl) (Nat.le_of_eq rfl) (lb rfl) ?_
  refine G.seg [(4, .iload_n 3, 1)] (by decide +kernel) (pc' := 5) (L' := #[.val (.ref t), .val (.ref b), .val (.int (0 : Int32)), .val (.int (Int32.ofNat cs.length)), .val (.null), .unset]) (S' := [.int (Int32.ofNat cs.length)]) rfl ?_
  refine G.ifne (o := (22)) (pc' := 27) (by decide +kernel) (by decide) rfl ?_ (fun q1 => absurd (ninj (n := 0) hle (by decide) q1) (by omega))
  intro _
  obtain ⟨z, Sz, hz⟩ := hCS
  refine G.getS (by decide +kernel) (tw 45 rfl) Sz ?_
  refine G.ifeq (o := (28)) (pc' := 58) (by decide +kernel) (by decide) rfl (fun q2 => absurd q2 hz) ?_
  intro _
  refine G.seg [(33, .aload_n 1, 1), (34, .iload_n 2, 1), (35, .iload_n 3, 1)] (by decide +kernel) (pc' := 36) (L' := #[.val (.ref t), .val (.ref b), .val (.int (0 : Int32)), .val (.int (Int32.ofNat cs.length)), .val (.null), .unset]) (S' := [.int (Int32.ofNat cs.length), .int (0 : Int32), .ref b]) rfl ?_
  refine G.static (y := ⟨"java/lang/StringUTF16", "compress", "([CII)[B"⟩) (argsL := [.ref b, .int (0 : Int32), .int (Int32.ofNat cs.length)]) (rest := []) (W := 0) (by decide +kernel) (tw 46 rfl) (tw 47 rfl) (tw 48 rfl) (tw 49 rfl) (by decide) ((ucm3C l Z a0 n0 h b kb cs A hle hcap hwd hl hU).pays (tw 49 rfl) (tw 48 rfl) (lb rfl) (lb rfl)) (lenOf pd10 rfl) rfl (Nat.le_of_eq rfl) rfl (lb rfl) (lb rfl) ?_
  rintro _ h3 ⟨r, kr, rfl, K3, A3⟩
  refine G.seg [(39, .astore 5, 2)] (by decide +kernel) (pc' := 41) (L' := #[.val (.ref t), .val (.ref b), .val (.int (0 : Int32)), .val (.int (Int32.ofNat cs.length)), .val (.null), .val (.ref r)]) (S' := []) rfl ?_
  refine G.seg [(41, .aload_n 0, 1), (42, .aload 5, 2), (44, .iload_n 3, 1)] (by decide +kernel) (pc' := 45) (L' := #[.val (.ref t), .val (.ref b), .val (.int (0 : Int32)), .val (.int (Int32.ofNat cs.length)), .val (.null), .val (.ref r)]) (S' := [.int (Int32.ofNat cs.length), .ref r, .ref t]) rfl ?_
  refine G.static (y := ⟨"java/lang/StringUTF16", "coderFromArrayLen", "([BI)B"⟩) (argsL := [.ref r, .int (Int32.ofNat cs.length)]) (rest := [.ref t]) (W := 1) (by decide +kernel) (tw 54 rfl) (tw 55 rfl) (tw 48 rfl) (tw 56 rfl) (by decide) ((ucodC l Z a0 n0 h3 r kr cs A3 hle h1).pays (tw 56 rfl) (tw 48 rfl) (lb rfl) (lb rfl)) (lenOf pd11 rfl) rfl (Nat.le_of_eq rfl) rfl (lb rfl) (lb rfl) ?_
  rintro _ h4 ⟨rfl, rfl⟩
  refine G.putF (C := "java/lang/String") (by decide +kernel) (tw 57 rfl) (C.keep K3 nin0) (E.keep K3) (Or.inr ⟨(tw 58 rfl), rfl, rfl⟩) (tw 33 rfl) (ty := .byte) (by decide) rfl rfl ht (Or.inl rfl) ?_
  intro i1 W1 J1 F1 E1
  refine G.seg [(51, .aload_n 0, 1), (52, .aload 5, 2)] (by decide +kernel) (pc' := 54) (L' := #[.val (.ref t), .val (.ref b), .val (.int (0 : Int32)), .val (.int (Int32.ofNat cs.length)), .val (.null), .val (.ref r)]) (S' := [.ref r, .ref t]) rfl ?_
  refine G.putF (C := "java/lang/String") (by decide +kernel) (tw 59 rfl) (past hw (Or.inr (tw 60 rfl)) (Or.inr (tw 58 rfl)) (by decide) (t := .array .byte) (by decide) (t' := .byte) (by decide) W1 (V.keep K3 nin0)) E1 (Or.inr ⟨(tw 60 rfl), rfl, rfl⟩) (tw 33 rfl) (ty := .array .byte) (by decide) rfl rfl ht (Or.inl rfl) ?_
  intro i2 W2 J2 F2 E2
  have ne : r ≠ t := Ne.symm (Exa.neArv (E.keep K3) A3 (hw _ (tw 33 rfl)))
  have JJ := J1.trans J2 (fun x hx => Or.inl hx)
  exact G.retV (by decide +kernel) rfl ⟨rfl, ((Keep.refl h [t]).trans K3 all0).trans JJ (fun x hx => Or.inl hx), E2, past hw (Or.inr (tw 58 rfl)) (Or.inr (tw 60 rfl)) (by decide) (t := .byte) (by decide) (t' := .array .byte) (by decide) W2 F1, hl, hle, hwd, r, kr, F2, A3.keep JJ (ninS ne nin0)⟩ (lb rfl) (lb rfl)

set_option maxRecDepth 65536 in
set_option maxHeartbeats 4000000 in
theorem un1C (l : Launch) (Z : State) (a0 : Array Value) (n0 : Nat) (h : Heap) (b : Addr) (kb : ClassId) (cs : List Int32) (A : Arv Z h b kb .char (Int32.ofNat cs.length) (cs.map Value.int) (.int 0)) (hle : cs.length ≤ 4000) (hcap : cs.length ≤ 22) (hwd : ∃ c ∈ cs, (255 : Int32) < c) (hl : wid cs) (hU : US Z) (t : Addr) (ht : n0 ≤ t) (E : Exa Z h t "java/lang/String") (V : Fld Z h t "java/lang/String" "value" "[B" .null) (C : Fld Z h t "java/lang/String" "coder" "B" (.int 0)) (hCS : CS Z) (h1 : 1 ≤ cs.length) :
    Ct l Z a0 [] tables_1 [] n0 ⟨"java/lang/String", "<init>", "([C)V"⟩ jdk_42_method_3_code 2 (none) ({ frames := 5, cells := 2, slots := 66, locals := 120 } : Room) #[.ref t, .ref b] h (QW Z t cs h) := by
  refine Ct.of_body pn0 (L0 := #[.val (.ref t), .val (.ref b)]) (fun m => by exact ef_of rfl) (fun hEL hw hO => ?_)
  refine G.seg [(0, .aload_n 0, 1), (1, .aload_n 1, 1), (2, .iconst 0, 1), (3, .aload_n 1, 1)] (by decide +kernel) (pc' := 4) (L' := #[.val (.ref t), .val (.ref b)]) (S' := [.ref b, .int (0 : Int32), .ref b, .ref t]) rfl ?_
  refine G.arrlen (by decide +kernel) A ?_
  refine G.seg [(5, .aconst_null, 1)] (by decide +kernel) (pc' := 6) (L' := #[.val (.ref t), .val (.ref b)]) (S' := [.null, .int (Int32.ofNat cs.length), .int (0 : Int32), .ref b, .ref t]) rfl ?_
  refine G.special (y := ⟨"java/lang/String", "<init>", "([CIILjava/lang/Void;)V"⟩) (a := t) (argsL := [.ref b, .int (0 : Int32), .int (Int32.ofNat cs.length), .null]) (rest := []) (W := 0) rfl (by decide +kernel) (tw 38 rfl) (tw 39 rfl) (tw 41 rfl) (by decide) ((un4C l Z a0 n0 h b kb cs A hle hcap hwd hl hU t ht E V C hCS h1).pays (tw 41 rfl) (tw 34 rfl) (lb rfl) (lb rfl)) (lenOf pd12 rfl) rfl (Nat.le_of_eq rfl) rfl (lb rfl) (lb rfl) ?_
  rintro _ h1 ⟨rfl, K1, F1⟩
  exact G.retV (by decide +kernel) rfl ⟨rfl, K1, F1⟩ (lb rfl) (lb rfl)

/-- **new String(char[])**, one sign to 22, each up to 65535 -/
theorem newU {l : Launch} {Z : State} {a0 : Array Value} {EL : List (String × Nat)} {n0 : Nat} {h : Heap} {R : Room} {W : Nat} {x b : Addr} {kC : ClassId} {cs : List Int32} (hx0 : n0 ≤ x) (E : Exa Z h x ST) (V : Fld Z h x ST "value" "[B" .null) (C : Fld Z h x ST "coder" "B" (.int 0)) (K : Arv Z h b kC .char (Int32.ofNat cs.length) (cs.map Value.int) (.int 0))
    (hCS : CS Z) (hU : US Z) (hwd : wid cs) (h0 : 1 ≤ cs.length) (hcap : cs.length ≤ 22) (hf : 6 ≤ R.frames) (hlo : W + 133 ≤ R.locals) :
    BK l Z a0 EL tables_1 n0 R N1 3 W #[.ref x, .ref b] h 2 66 (QU Z x cs h) := by
  by_cases q : ∃ c ∈ cs, (255 : Int32) < c
  · exact BK.weak (fun v h' r => ⟨r.1, r.2.1, Or.inr r.2.2⟩) ((un1C l Z a0 n0 h b kC cs K (by omega) hcap q hwd hU x hx0 E V C hCS h0).warm (ws := [x]) (tw 37 rfl) (tw 34 rfl) hf hlo (fun v h' r => r.2.1) (allS hx0 all0) (fun vm hv => sfS (safe_blank (Z := Z) hv.alike E V) sf0))
  · exact BK.weak (fun v h' r => ⟨r.1, r.2.1, Or.inl r.2.2⟩) (BK.more (by decide) (by omega) (newStr1 sw1 (tw 33 rfl) hx0 E V C K hCS (fun c hc => ⟨(hwd c hc).1, fun z => q ⟨c, hc, z⟩⟩) h0 (by omega) (Nat.le_trans (by decide) hf) (by omega)))

/-- floorDiv by 10, as the code has it -/
def fd10 (x : Int64) : Int64 := if XT.cmpL (x ^^^ (10 : Int32).toInt64) (0 : Int64) < 0 then (if XT.cmpL ((x / (10 : Int32).toInt64) * (10 : Int32).toInt64) x = 0 then x / (10 : Int32).toInt64 else (x / (10 : Int32).toInt64) - (1 : Int64)) else x / (10 : Int32).toInt64
set_option maxRecDepth 65536 in
set_option maxHeartbeats 4000000 in
theorem fdjC (l : Launch) (Z : State) (a0 : Array Value) (n0 : Nat) (h : Heap) {EL : List (String × Nat)} (v : Int64) :
    Ct l Z a0 EL tables_1 [] n0 ⟨"java/lang/Math", "floorDiv", "(JJ)J"⟩ jdk_29_method_49_code 6 (some (.long)) ({ frames := 0, cells := 0, slots := 0, locals := 0 } : Room) #[.long v, .long ((10 : Int32).toInt64)] h (fun r h' => h' = h ∧ r = some (.long (fd10 v))) := by
  refine Ct.of_bodyP pn4 (L0 := #[.val (.long v), .second, .val (.long ((10 : Int32).toInt64)), .second, .unset, .unset]) (fun m => by exact ef_of rfl) (fun hEL hw hO => ?_)
  refine G.seg [(0, .lload_n 0, 1), (1, .lload_n 2, 1), (2, .ldiv, 1), (3, .lstore 4, 2)] (by decide +kernel) (pc' := 5) (L' := #[.val (.long v), .second, .val (.long ((10 : Int32).toInt64)), .second, .val (.long (v / ((10 : Int32).toInt64))), .second]) (S' := []) rfl ?_
  refine G.seg [(5, .lload_n 0, 1), (6, .lload_n 2, 1), (7, .lxor, 1), (8, .lconst 0, 1), (9, .lcmp, 1)] (by decide +kernel) (pc' := 10) (L' := #[.val (.long v), .second, .val (.long ((10 : Int32).toInt64)), .second, .val (.long (v / ((10 : Int32).toInt64))), .second]) (S' := [.int (XT.cmpL (v ^^^ ((10 : Int32).toInt64)) (0 : Int64))]) rfl ?_
  refine G.ifge (o := (17)) (pc' := 27) (by decide +kernel) (by decide) rfl ?_ ?_
  · intro q1
    refine G.seg [(27, .lload 4, 2)] (by decide +kernel) (pc' := 29) (L' := #[.val (.long v), .second, .val (.long ((10 : Int32).toInt64)), .second, .val (.long (v / ((10 : Int32).toInt64))), .second]) (S' := [.long (v / ((10 : Int32).toInt64))]) rfl ?_
    exact G.retJ (by decide +kernel) rfl ⟨rfl, by rw [fd10, if_neg q1]⟩ (lb rfl) (lb rfl)
  · intro q1
    refine G.seg [(13, .lload 4, 2), (15, .lload_n 2, 1), (16, .lmul, 1), (17, .lload_n 0, 1), (18, .lcmp, 1)] (by decide +kernel) (pc' := 19) (L' := #[.val (.long v), .second, .val (.long ((10 : Int32).toInt64)), .second, .val (.long (v / ((10 : Int32).toInt64))), .second]) (S' := [.int (XT.cmpL ((v / ((10 : Int32).toInt64)) * ((10 : Int32).toInt64)) v)]) rfl ?_
    refine G.ifeq (o := (8)) (pc' := 27) (by decide +kernel) (by decide) rfl ?_ ?_
    · intro q2
      refine G.seg [(27, .lload 4, 2)] (by decide +kernel) (pc' := 29) (L' := #[.val (.long v), .second, .val (.long ((10 : Int32).toInt64)), .second, .val (.long (v / ((10 : Int32).toInt64))), .second]) (S' := [.long (v / ((10 : Int32).toInt64))]) rfl ?_
      exact G.retJ (by decide +kernel) rfl ⟨rfl, by rw [fd10, if_pos q1, if_pos q2]⟩ (lb rfl) (lb rfl)
    · intro q2
      refine G.seg [(22, .lload 4, 2), (24, .lconst 1, 1), (25, .lsub, 1)] (by decide +kernel) (pc' := 26) (L' := #[.val (.long v), .second, .val (.long ((10 : Int32).toInt64)), .second, .val (.long (v / ((10 : Int32).toInt64))), .second]) (S' := [.long ((v / ((10 : Int32).toInt64)) - (1 : Int64))]) rfl ?_
      exact G.retJ (by decide +kernel) rfl ⟨rfl, by rw [fd10, if_pos q1, if_neg q2]⟩ (lb rfl) (lb rfl)

set_option maxRecDepth 65536 in
set_option maxHeartbeats 4000000 in
theorem fdiC (l : Launch) (Z : State) (a0 : Array Value) (n0 : Nat) (h : Heap) {EL : List (String × Nat)} (v : Int64) :
    Ct l Z a0 EL tables_1 [] n0 ⟨"java/lang/Math", "floorDiv", "(JI)J"⟩ jdk_29_method_48_code 3 (some (.long)) ({ frames := 1, cells := 0, slots := 0, locals := 17 } : Room) #[.long v, .int (10 : Int32)] h (fun r h' => h' = h ∧ r = some (.long (fd10 v))) := by
  refine Ct.of_bodyP pn5 (L0 := #[.val (.long v), .second, .val (.int (10 : Int32))]) (fun m => by exact ef_of rfl) (fun hEL hw hO => ?_)
  refine G.seg [(0, .lload_n 0, 1), (1, .iload_n 2, 1), (2, .i2l, 1)] (by decide +kernel) (pc' := 3) (L' := #[.val (.long v), .second, .val (.int (10 : Int32))]) (S' := [.long ((10 : Int32).toInt64), .long v]) rfl ?_
  refine G.static (y := ⟨"java/lang/Math", "floorDiv", "(JJ)J"⟩) (argsL := [.long v, .long ((10 : Int32).toInt64)]) (rest := []) (W := 0) (by decide +kernel) (tw 104 rfl) (tw 105 rfl) (tw 102 rfl) (tw 106 rfl) (by decide) ((fdjC l Z a0 n0 h v).pays (tw 106 rfl) (tw 102 rfl) (lb rfl) (lb rfl)) (lenOf pd13 rfl) rfl (Nat.le_of_eq rfl) rfl (lb rfl) (lb rfl) ?_
  rintro _ h1 ⟨rfl, rfl⟩
  exact G.retJ (by decide +kernel) rfl ⟨rfl, rfl⟩ (lb rfl) (lb rfl)

def nx (mx v : Int64) (o c : Int32) : Int32 := if ¬ (o = 0) ∨ 0 < XT.cmpL v (fd10 (mx - (c - (48 : Int32)).toInt64)) then 1 else 0
/-- the loop of read, as the code has it -/
def rdF (mx : Int64) : List Int32 → Int64 → Int32 → Int64
  | [], v, o => if o = 0 then v else -2
  | c :: cs, v, o => if c < 48 ∨ 57 < c then -1 else rdF mx cs (if nx mx v o c = 0 then (v * (10 : Int64)) + (c - (48 : Int32)).toInt64 else v) (nx mx v o c)
def readF (mx : Int64) (cs : List Int32) : Int64 := if cs.length = 0 then -1 else if cs.getD 0 0 = 48 ∧ 1 < cs.length then -1 else rdF mx cs 0 0
theorem drop_cons {cs : List Int32} {k : Nat} (q : k < cs.length) : cs.drop k = cs.getD k 0 :: cs.drop (k + 1) := by
  rw [List.drop_eq_getElem_cons q]; simp [List.getD_eq_getElem?_getD, q]
set_option maxRecDepth 65536 in
set_option maxHeartbeats 4000000 in
theorem readC (l : Launch) (Z : State) (a0 : Array Value) (n0 : Nat) (h : Heap) {EL : List (String × Nat)} (t : Addr) (cs : List Int32) (mx : Int64) (A : StU Z h t cs) (hCS : CS Z) (hU : US Z) (hFM : FM Z) :
    Ct l Z a0 EL tables_1 [] n0 ⟨"com/example/mynah/mynah/PlainDecimal", "read", "(Ljava/lang/String;J)J"⟩ prog_20_method_4_code 10 (some (.long)) ({ frames := 5, cells := 0, slots := 0, locals := 90 } : Room) #[.ref t, .long mx] h (fun r h' => h' = h ∧ r = some (.long (readF mx cs))) := by
  refine Ct.of_body pn6 (L0 := #[.val (.ref t), .val (.long mx), .second, .unset, .unset, .unset, .unset, .unset, .unset, .unset]) (fun m => by exact ef_of rfl) (fun hEL hw hO => ?_)
  have hle := A.le
  refine G.seg [(0, .aload_n 0, 1)] (by decide +kernel) (pc' := 1) (L' := #[.val (.ref t), .val (.long mx), .second, .unset, .unset, .unset, .unset, .unset, .unset, .unset]) (S' := [.ref t]) rfl ?_
  refine G.virtual (y := ⟨"java/lang/String", "length", "()I"⟩) (C := "java/lang/String") (a := t) (argsL := []) (rest := []) (W := 0) (by decide +kernel) (tw 68 rfl) (tw 69 rfl) (tw 71 rfl) (tw 70 rfl) (by decide) A.exa (lenBU swL (tw 33 rfl) A hCS (lb rfl) (lb rfl)) (lenOf pd14 rfl) rfl (Nat.le_of_eq rfl) rfl (lb rfl) (lb rfl) ?_
  rintro _ h1 ⟨rfl, rfl⟩
  refine G.seg [(4, .istore_n 3, 1)] (by decide +kernel) (pc' := 5) (L' := #[.val (.ref t), .val (.long mx), .second, .val (.int (Int32.ofNat cs.length)), .unset, .unset, .unset, .unset, .unset, .unset]) (S' := []) rfl ?_
  refine G.seg [(5, .iload_n 3, 1)] (by decide +kernel) (pc' := 6) (L' := #[.val (.ref t), .val (.long mx), .second, .val (.int (Int32.ofNat cs.length)), .unset, .unset, .unset, .unset, .unset, .unset]) (S' := [.int (Int32.ofNat cs.length)]) rfl ?_
  refine G.ifeq (o := (18)) (pc' := 24) (by decide +kernel) (by decide) rfl ?_ ?_
  · intro q2
    have e0 : cs.length = 0 := ninj hle (by decide) q2
    refine G.ldcJ (by decide +kernel) (tw 112 rfl) ?_
    exact G.retJ (by decide +kernel) rfl ⟨rfl, by rw [readF, if_pos e0]⟩ (lb rfl) (lb rfl)
  · intro q2
    have e0 : ¬ cs.length = 0 := fun z => q2 (by rw [z]; rfl)
    have e1 : 0 < cs.length := Nat.pos_of_ne_zero e0
    refine G.seg [(9, .aload_n 0, 1), (10, .iconst 0, 1)] (by decide +kernel) (pc' := 11) (L' := #[.val (.ref t), .val (.long mx), .second, .val (.int (Int32.ofNat cs.length)), .unset, .unset, .unset, .unset, .unset, .unset]) (S' := [.int (0 : Int32), .ref t]) rfl ?_
    refine G.virtual (y := ⟨"java/lang/String", "charAt", "(I)C"⟩) (C := "java/lang/String") (a := t) (argsL := [.int (0 : Int32)]) (rest := []) (W := 0) (by decide +kernel) (tw 78 rfl) (tw 79 rfl) (tw 81 rfl) (tw 80 rfl) (by decide) A.exa ((chUC l Z a0 n0 h1 t cs 0 A hCS e1 hU hFM).pays (tw 82 rfl) (tw 34 rfl) (lb rfl) (lb rfl)) (lenOf pd15 rfl) rfl (Nat.le_of_eq rfl) rfl (lb rfl) (lb rfl) ?_
    rintro _ h3 ⟨rfl, rfl⟩
    refine G.seg [(14, .bipush 48, 2)] (by decide +kernel) (pc' := 16) (L' := #[.val (.ref t), .val (.long mx), .second, .val (.int (Int32.ofNat cs.length)), .unset, .unset, .unset, .unset, .unset, .unset]) (S' := [.int (48 : Int32), .int (cs.getD 0 0)]) rfl ?_
    refine G.join (fun _ : Unit => ¬ (cs.getD 0 0 = 48 ∧ 1 < cs.length)) (fun _ => (h3, 0, 0, 28, #[.val (.ref t), .val (.long mx), .second, .val (.int (Int32.ofNat cs.length)), .unset, .unset, .unset, .unset, .unset, .unset], [])) ?_ ?_
    · intro J
      refine G.icne (o := (12)) (pc' := 28) (by decide +kernel) (by decide) rfl ?_ ?_
      · intro q4
        exact J () (fun z => q4 z.1)
      · intro q4
        refine G.seg [(19, .iload_n 3, 1), (20, .iconst 1, 1)] (by decide +kernel) (pc' := 21) (L' := #[.val (.ref t), .val (.long mx), .second, .val (.int (Int32.ofNat cs.length)), .unset, .unset, .unset, .unset, .unset, .unset]) (S' := [.int (1 : Int32), .int (Int32.ofNat cs.length)]) rfl ?_
        refine G.icle (o := (7)) (pc' := 28) (by decide +kernel) (by decide) rfl ?_ ?_
        · intro q5
          exact J () (fun z => absurd (nlt hle z.2).2 q5)
        · intro q5
          refine G.ldcJ (by decide +kernel) (tw 112 rfl) ?_
          exact G.retJ (by decide +kernel) rfl ⟨rfl, by rw [readF, if_neg e0, if_pos ⟨q4, (nbk hle q5)⟩]⟩ (lb rfl) (lb rfl)
    rintro _ hz0
    dsimp only
    have er : readF mx cs = rdF mx cs 0 0 := by rw [readF, if_neg e0, if_neg hz0]
    rw [er]
    refine G.seg [(28, .lconst 0, 1), (29, .lstore 4, 2)] (by decide +kernel) (pc' := 31) (L' := #[.val (.ref t), .val (.long mx), .second, .val (.int (Int32.ofNat cs.length)), .val (.long (0 : Int64)), .second, .unset, .unset, .unset, .unset]) (S' := []) rfl ?_
    refine G.seg [(31, .iconst 0, 1), (32, .istore 6, 2)] (by decide +kernel) (pc' := 34) (L' := #[.val (.ref t), .val (.long mx), .second, .val (.int (Int32.ofNat cs.length)), .val (.long (0 : Int64)), .second, .val (.int (0 : Int32)), .unset, .unset, .unset]) (S' := []) rfl ?_
    refine G.seg [(34, .iconst 0, 1), (35, .istore 7, 2)] (by decide +kernel) (pc' := 37) (L' := #[.val (.ref t), .val (.long mx), .second, .val (.int (Int32.ofNat cs.length)), .val (.long (0 : Int64)), .second, .val (.int (0 : Int32)), .val (.int (0 : Int32)), .unset, .unset]) (S' := []) rfl ?_
    refine G.loop (fun z : Nat × Int64 × Int32 × Option (Int32 × Int32) => cs.length - z.1) (fun z => z.1 ≤ cs.length ∧ rdF mx (cs.drop z.1) z.2.1 z.2.2.1 = rdF mx cs 0 0) (fun z => (h3, 0, 0, 37, #[.val (.ref t), .val (.long mx), .second, .val (.int (Int32.ofNat cs.length)), .val (.long z.2.1), .second, .val (.int z.2.2.1), .val (.int (Int32.ofNat z.1)), (match z.2.2.2 with | none => Slot.unset | some q => .val (.int q.1)), (match z.2.2.2 with | none => Slot.unset | some q => .val (.int q.2))], [])) (0, 0, 0, none) rfl ⟨Nat.zero_le _, rfl⟩ ?_
    rintro ⟨k, v, o, (_ | ⟨u1, u2⟩)⟩ ⟨hk, ek⟩ ih
    · dsimp only at hk ek ih ⊢
      refine G.seg [(37, .iload 7, 2), (39, .iload_n 3, 1)] (by decide +kernel) (pc' := 40) (L' := #[.val (.ref t), .val (.long mx), .second, .val (.int (Int32.ofNat cs.length)), .val (.long v), .second, .val (.int o), .val (.int (Int32.ofNat k)), .unset, .unset]) (S' := [.int (Int32.ofNat cs.length), .int (Int32.ofNat k)]) rfl ?_
      refine G.icge (o := (87)) (pc' := 127) (by decide +kernel) (by decide) rfl ?_ ?_
      · intro q6
        have e2 : k = cs.length := Nat.le_antisymm hk (Nat.le_of_not_lt fun z => q6 (nlt hle z).2)
        rw [e2, List.drop_length] at ek
        refine G.seg [(127, .iload 6, 2)] (by decide +kernel) (pc' := 129) (L' := #[.val (.ref t), .val (.long mx), .second, .val (.int (Int32.ofNat cs.length)), .val (.long v), .second, .val (.int o), .val (.int (Int32.ofNat k)), .unset, .unset]) (S' := [.int o]) rfl ?_
        refine G.ifeq (o := (9)) (pc' := 138) (by decide +kernel) (by decide) rfl ?_ ?_
        · intro q7
          refine G.seg [(138, .lload 4, 2)] (by decide +kernel) (pc' := 140) (L' := #[.val (.ref t), .val (.long mx), .second, .val (.int (Int32.ofNat cs.length)), .val (.long v), .second, .val (.int o), .val (.int (Int32.ofNat k)), .unset, .unset]) (S' := [.long v]) rfl ?_
          exact G.retJ (by decide +kernel) rfl ⟨rfl, by rw [← ek, rdF, if_pos q7]⟩ (lb rfl) (lb rfl)
        · intro q7
          refine G.ldcJ (by decide +kernel) (tw 107 rfl) ?_
          refine G.seg [(135, .goto 5, 3)] (by decide +kernel) (pc' := 140) (L' := #[.val (.ref t), .val (.long mx), .second, .val (.int (Int32.ofNat cs.length)), .val (.long v), .second, .val (.int o), .val (.int (Int32.ofNat k)), .unset, .unset]) (S' := [.long (-2 : Int64)]) rfl ?_
          exact G.retJ (by decide +kernel) rfl ⟨rfl, by rw [← ek, rdF, if_neg q7]⟩ (lb rfl) (lb rfl)
      · intro q6
        have hk2 : k < cs.length := nbk2 hk hle q6
        rw [drop_cons hk2, rdF] at ek
        refine G.seg [(43, .aload_n 0, 1), (44, .iload 7, 2)] (by decide +kernel) (pc' := 46) (L' := #[.val (.ref t), .val (.long mx), .second, .val (.int (Int32.ofNat cs.length)), .val (.long v), .second, .val (.int o), .val (.int (Int32.ofNat k)), .unset, .unset]) (S' := [.int (Int32.ofNat k), .ref t]) rfl ?_
        refine G.virtual (y := ⟨"java/lang/String", "charAt", "(I)C"⟩) (C := "java/lang/String") (a := t) (argsL := [.int (Int32.ofNat k)]) (rest := []) (W := 0) (by decide +kernel) (tw 78 rfl) (tw 79 rfl) (tw 81 rfl) (tw 80 rfl) (by decide) A.exa ((chUC l Z a0 n0 h3 t cs k A hCS hk2 hU hFM).pays (tw 82 rfl) (tw 34 rfl) (lb rfl) (lb rfl)) (lenOf pd15 rfl) rfl (Nat.le_of_eq rfl) rfl (lb rfl) (lb rfl) ?_
        rintro _ h8 ⟨rfl, rfl⟩
        generalize cs.getD k 0 = c at ek ⊢
        refine G.seg [(49, .istore 8, 2)] (by decide +kernel) (pc' := 51) (L' := #[.val (.ref t), .val (.long mx), .second, .val (.int (Int32.ofNat cs.length)), .val (.long v), .second, .val (.int o), .val (.int (Int32.ofNat k)), .val (.int c), .unset]) (S' := []) rfl ?_
        refine G.seg [(51, .iload 8, 2), (53, .bipush 48, 2)] (by decide +kernel) (pc' := 55) (L' := #[.val (.ref t), .val (.long mx), .second, .val (.int (Int32.ofNat cs.length)), .val (.long v), .second, .val (.int o), .val (.int (Int32.ofNat k)), .val (.int c), .unset]) (S' := [.int (48 : Int32), .int c]) rfl ?_
        refine G.join (fun _ : Unit => ¬ (c < 48 ∨ 57 < c)) (fun _ => (h8, 0, 0, 69, #[.val (.ref t), .val (.long mx), .second, .val (.int (Int32.ofNat cs.length)), .val (.long v), .second, .val (.int o), .val (.int (Int32.ofNat k)), .val (.int c), .unset], [])) ?_ ?_
        · intro J
          refine G.iclt (o := (10)) (pc' := 65) (by decide +kernel) (by decide) rfl ?_ ?_
          · intro q9
            refine G.ldcJ (by decide +kernel) (tw 112 rfl) ?_
            exact G.retJ (by decide +kernel) rfl ⟨rfl, by rw [← ek, if_pos (Or.inl q9)]⟩ (lb rfl) (lb rfl)
          · intro q9
            refine G.seg [(58, .iload 8, 2), (60, .bipush 57, 2)] (by decide +kernel) (pc' := 62) (L' := #[.val (.ref t), .val (.long mx), .second, .val (.int (Int32.ofNat cs.length)), .val (.long v), .second, .val (.int o), .val (.int (Int32.ofNat k)), .val (.int c), .unset]) (S' := [.int (57 : Int32), .int c]) rfl ?_
            refine G.icle (o := (7)) (pc' := 69) (by decide +kernel) (by decide) rfl ?_ ?_
            · intro q10
              exact J () (fun z => z.elim q9 q10)
            · intro q10
              refine G.ldcJ (by decide +kernel) (tw 112 rfl) ?_
              exact G.retJ (by decide +kernel) rfl ⟨rfl, by rw [← ek, if_pos (Or.inr q10)]⟩ (lb rfl) (lb rfl)
        rintro _ hd
        dsimp only
        rw [if_neg hd] at ek
        refine G.seg [(69, .iload 8, 2), (71, .bipush 48, 2), (73, .isub, 1), (74, .istore 9, 2)] (by decide +kernel) (pc' := 76) (L' := #[.val (.ref t), .val (.long mx), .second, .val (.int (Int32.ofNat cs.length)), .val (.long v), .second, .val (.int o), .val (.int (Int32.ofNat k)), .val (.int c), .val (.int (c - (48 : Int32)))]) (S' := []) rfl ?_
        refine G.seg [(76, .iload 6, 2)] (by decide +kernel) (pc' := 78) (L' := #[.val (.ref t), .val (.long mx), .second, .val (.int (Int32.ofNat cs.length)), .val (.long v), .second, .val (.int o), .val (.int (Int32.ofNat k)), .val (.int c), .val (.int (c - (48 : Int32)))]) (S' := [.int o]) rfl ?_
        refine G.join (fun o2 : Int32 => o2 = nx mx v o c) (fun o2 => (h8, 0, 0, 102, #[.val (.ref t), .val (.long mx), .second, .val (.int (Int32.ofNat cs.length)), .val (.long v), .second, .val (.int o), .val (.int (Int32.ofNat k)), .val (.int c), .val (.int (c - (48 : Int32)))], [.int o2])) ?_ ?_
        · intro J
          refine G.ifne (o := (19)) (pc' := 97) (by decide +kernel) (by decide) rfl ?_ ?_
          · intro q11
            refine G.seg [(97, .iconst 1, 1), (98, .goto 4, 3)] (by decide +kernel) (pc' := 102) (L' := #[.val (.ref t), .val (.long mx), .second, .val (.int (Int32.ofNat cs.length)), .val (.long v), .second, .val (.int o), .val (.int (Int32.ofNat k)), .val (.int c), .val (.int (c - (48 : Int32)))]) (S' := [.int (1 : Int32)]) rfl ?_
            exact J 1 (by rw [nx, if_pos (Or.inl q11)])
          · intro q11
            refine G.seg [(81, .lload 4, 2), (83, .lload_n 1, 1), (84, .iload 9, 2), (86, .i2l, 1), (87, .lsub, 1), (88, .bipush 10, 2)] (by decide +kernel) (pc' := 90) (L' := #[.val (.ref t), .val (.long mx), .second, .val (.int (Int32.ofNat cs.length)), .val (.long v), .second, .val (.int o), .val (.int (Int32.ofNat k)), .val (.int c), .val (.int (c - (48 : Int32)))]) (S' := [.int (10 : Int32), .long (mx - ((c - (48 : Int32)).toInt64)), .long v]) rfl ?_
            refine G.static (y := ⟨"java/lang/Math", "floorDiv", "(JI)J"⟩) (argsL := [.long (mx - ((c - (48 : Int32)).toInt64)), .int (10 : Int32)]) (rest := [.long v]) (W := 2) (by decide +kernel) (tw 100 rfl) (tw 101 rfl) (tw 102 rfl) (tw 103 rfl) (by decide) ((fdiC l Z a0 n0 h8 (mx - (c - (48 : Int32)).toInt64)).pays (tw 103 rfl) (tw 102 rfl) (lb rfl) (lb rfl)) (lenOf pd16 rfl) rfl (Nat.le_of_eq rfl) rfl (lb rfl) (lb rfl) ?_
            rintro _ h12 ⟨rfl, rfl⟩
            refine G.seg [(93, .lcmp, 1)] (by decide +kernel) (pc' := 94) (L' := #[.val (.ref t), .val (.long mx), .second, .val (.int (Int32.ofNat cs.length)), .val (.long v), .second, .val (.int o), .val (.int (Int32.ofNat k)), .val (.int c), .val (.int (c - (48 : Int32)))]) (S' := [.int (XT.cmpL v (fd10 (mx - (c - (48 : Int32)).toInt64)))]) rfl ?_
            refine G.ifle (o := (7)) (pc' := 101) (by decide +kernel) (by decide) rfl ?_ ?_
            · intro q13
              refine G.seg [(101, .iconst 0, 1)] (by decide +kernel) (pc' := 102) (L' := #[.val (.ref t), .val (.long mx), .second, .val (.int (Int32.ofNat cs.length)), .val (.long v), .second, .val (.int o), .val (.int (Int32.ofNat k)), .val (.int c), .val (.int (c - (48 : Int32)))]) (S' := [.int (0 : Int32)]) rfl ?_
              exact J 0 (by rw [nx, if_neg (fun z => z.elim (fun z => z q11) q13)])
            · intro q13
              refine G.seg [(97, .iconst 1, 1), (98, .goto 4, 3)] (by decide +kernel) (pc' := 102) (L' := #[.val (.ref t), .val (.long mx), .second, .val (.int (Int32.ofNat cs.length)), .val (.long v), .second, .val (.int o), .val (.int (Int32.ofNat k)), .val (.int c), .val (.int (c - (48 : Int32)))]) (S' := [.int (1 : Int32)]) rfl ?_
              exact J 1 (by rw [nx, if_pos (Or.inr q13)])
        rintro o2 eo
        dsimp only
        rw [← eo] at ek
        refine G.seg [(102, .istore 6, 2)] (by decide +kernel) (pc' := 104) (L' := #[.val (.ref t), .val (.long mx), .second, .val (.int (Int32.ofNat cs.length)), .val (.long v), .second, .val (.int o2), .val (.int (Int32.ofNat k)), .val (.int c), .val (.int (c - (48 : Int32)))]) (S' := []) rfl ?_
        refine G.seg [(104, .iload 6, 2)] (by decide +kernel) (pc' := 106) (L' := #[.val (.ref t), .val (.long mx), .second, .val (.int (Int32.ofNat cs.length)), .val (.long v), .second, .val (.int o2), .val (.int (Int32.ofNat k)), .val (.int c), .val (.int (c - (48 : Int32)))]) (S' := [.int o2]) rfl ?_
        refine G.ifne (o := (15)) (pc' := 121) (by decide +kernel) (by decide) rfl ?_ ?_
        · intro q14
          rw [if_neg q14] at ek
          refine G.seg [(121, .iinc 7 1, 3)] (by decide +kernel) (pc' := 124) (L' := #[.val (.ref t), .val (.long mx), .second, .val (.int (Int32.ofNat cs.length)), .val (.long v), .second, .val (.int o2), .val (.int ((Int32.ofNat k) + (1 : Int32))), .val (.int c), .val (.int (c - (48 : Int32)))]) (S' := []) rfl ?_
          refine G.seg [(124, .goto (-87), 3)] (by decide +kernel) (pc' := 37) (L' := #[.val (.ref t), .val (.long mx), .second, .val (.int (Int32.ofNat cs.length)), .val (.long v), .second, .val (.int o2), .val (.int ((Int32.ofNat k) + (1 : Int32))), .val (.int c), .val (.int (c - (48 : Int32)))]) (S' := []) rfl ?_
          rw [show Int32.ofNat k + (1 : Int32) = Int32.ofNat (k + 1) from addN k 1]
          exact ih (k + 1, v, o2, some (c, c - (48 : Int32))) ⟨hk2, ek⟩ (by dsimp only; omega)
        · intro q14
          rw [if_pos q14] at ek
          refine G.seg [(109, .lload 4, 2)] (by decide +kernel) (pc' := 111) (L' := #[.val (.ref t), .val (.long mx), .second, .val (.int (Int32.ofNat cs.length)), .val (.long v), .second, .val (.int o2), .val (.int (Int32.ofNat k)), .val (.int c), .val (.int (c - (48 : Int32)))]) (S' := [.long v]) rfl ?_
          refine G.ldcJ (by decide +kernel) (tw 108 rfl) ?_
          refine G.seg [(114, .lmul, 1), (115, .iload 9, 2), (117, .i2l, 1), (118, .ladd, 1), (119, .lstore 4, 2)] (by decide +kernel) (pc' := 121) (L' := #[.val (.ref t), .val (.long mx), .second, .val (.int (Int32.ofNat cs.length)), .val (.long ((v * (10 : Int64)) + ((c - (48 : Int32)).toInt64))), .second, .val (.int o2), .val (.int (Int32.ofNat k)), .val (.int c), .val (.int (c - (48 : Int32)))]) (S' := []) rfl ?_
          refine G.seg [(121, .iinc 7 1, 3)] (by decide +kernel) (pc' := 124) (L' := #[.val (.ref t), .val (.long mx), .second, .val (.int (Int32.ofNat cs.length)), .val (.long ((v * (10 : Int64)) + ((c - (48 : Int32)).toInt64))), .second, .val (.int o2), .val (.int ((Int32.ofNat k) + (1 : Int32))), .val (.int c), .val (.int (c - (48 : Int32)))]) (S' := []) rfl ?_
          refine G.seg [(124, .goto (-87), 3)] (by decide +kernel) (pc' := 37) (L' := #[.val (.ref t), .val (.long mx), .second, .val (.int (Int32.ofNat cs.length)), .val (.long ((v * (10 : Int64)) + ((c - (48 : Int32)).toInt64))), .second, .val (.int o2), .val (.int ((Int32.ofNat k) + (1 : Int32))), .val (.int c), .val (.int (c - (48 : Int32)))]) (S' := []) rfl ?_
          rw [show Int32.ofNat k + (1 : Int32) = Int32.ofNat (k + 1) from addN k 1]
          exact ih (k + 1, (v * (10 : Int64)) + (c - (48 : Int32)).toInt64, o2, some (c, c - (48 : Int32))) ⟨hk2, ek⟩ (by dsimp only; omega)
    · dsimp only at hk ek ih ⊢
      refine G.seg [(37, .iload 7, 2), (39, .iload_n 3, 1)] (by decide +kernel) (pc' := 40) (L' := #[.val (.ref t), .val (.long mx), .second, .val (.int (Int32.ofNat cs.length)), .val (.long v), .second, .val (.int o), .val (.int (Int32.ofNat k)), .val (.int u1), .val (.int u2)]) (S' := [.int (Int32.ofNat cs.length), .int (Int32.ofNat k)]) rfl ?_
      refine G.icge (o := (87)) (pc' := 127) (by decide +kernel) (by decide) rfl ?_ ?_
      · intro q15
        have e2 : k = cs.length := Nat.le_antisymm hk (Nat.le_of_not_lt fun z => q15 (nlt hle z).2)
        rw [e2, List.drop_length] at ek
        refine G.seg [(127, .iload 6, 2)] (by decide +kernel) (pc' := 129) (L' := #[.val (.ref t), .val (.long mx), .second, .val (.int (Int32.ofNat cs.length)), .val (.long v), .second, .val (.int o), .val (.int (Int32.ofNat k)), .val (.int u1), .val (.int u2)]) (S' := [.int o]) rfl ?_
        refine G.ifeq (o := (9)) (pc' := 138) (by decide +kernel) (by decide) rfl ?_ ?_
        · intro q16
          refine G.seg [(138, .lload 4, 2)] (by decide +kernel) (pc' := 140) (L' := #[.val (.ref t), .val (.long mx), .second, .val (.int (Int32.ofNat cs.length)), .val (.long v), .second, .val (.int o), .val (.int (Int32.ofNat k)), .val (.int u1), .val (.int u2)]) (S' := [.long v]) rfl ?_
          exact G.retJ (by decide +kernel) rfl ⟨rfl, by rw [← ek, rdF, if_pos q16]⟩ (lb rfl) (lb rfl)
        · intro q16
          refine G.ldcJ (by decide +kernel) (tw 107 rfl) ?_
          refine G.seg [(135, .goto 5, 3)] (by decide +kernel) (pc' := 140) (L' := #[.val (.ref t), .val (.long mx), .second, .val (.int (Int32.ofNat cs.length)), .val (.long v), .second, .val (.int o), .val (.int (Int32.ofNat k)), .val (.int u1), .val (.int u2)]) (S' := [.long (-2 : Int64)]) rfl ?_
          exact G.retJ (by decide +kernel) rfl ⟨rfl, by rw [← ek, rdF, if_neg q16]⟩ (lb rfl) (lb rfl)
      · intro q15
        have hk2 : k < cs.length := nbk2 hk hle q15
        rw [drop_cons hk2, rdF] at ek
        refine G.seg [(43, .aload_n 0, 1), (44, .iload 7, 2)] (by decide +kernel) (pc' := 46) (L' := #[.val (.ref t), .val (.long mx), .second, .val (.int (Int32.ofNat cs.length)), .val (.long v), .second, .val (.int o), .val (.int (Int32.ofNat k)), .val (.int u1), .val (.int u2)]) (S' := [.int (Int32.ofNat k), .ref t]) rfl ?_
        refine G.virtual (y := ⟨"java/lang/String", "charAt", "(I)C"⟩) (C := "java/lang/String") (a := t) (argsL := [.int (Int32.ofNat k)]) (rest := []) (W := 0) (by decide +kernel) (tw 78 rfl) (tw 79 rfl) (tw 81 rfl) (tw 80 rfl) (by decide) A.exa ((chUC l Z a0 n0 h3 t cs k A hCS hk2 hU hFM).pays (tw 82 rfl) (tw 34 rfl) (lb rfl) (lb rfl)) (lenOf pd15 rfl) rfl (Nat.le_of_eq rfl) rfl (lb rfl) (lb rfl) ?_
        rintro _ h17 ⟨rfl, rfl⟩
        generalize cs.getD k 0 = c at ek ⊢
        refine G.seg [(49, .istore 8, 2)] (by decide +kernel) (pc' := 51) (L' := #[.val (.ref t), .val (.long mx), .second, .val (.int (Int32.ofNat cs.length)), .val (.long v), .second, .val (.int o), .val (.int (Int32.ofNat k)), .val (.int c), .val (.int u2)]) (S' := []) rfl ?_
        refine G.seg [(51, .iload 8, 2), (53, .bipush 48, 2)] (by decide +kernel) (pc' := 55) (L' := #[.val (.ref t), .val (.long mx), .second, .val (.int (Int32.ofNat cs.length)), .val (.long v), .second, .val (.int o), .val (.int (Int32.ofNat k)), .val (.int c), .val (.int u2)]) (S' := [.int (48 : Int32), .int c]) rfl ?_
        refine G.join (fun _ : Unit => ¬ (c < 48 ∨ 57 < c)) (fun _ => (h17, 0, 0, 69, #[.val (.ref t), .val (.long mx), .second, .val (.int (Int32.ofNat cs.length)), .val (.long v), .second, .val (.int o), .val (.int (Int32.ofNat k)), .val (.int c), .val (.int u2)], [])) ?_ ?_
        · intro J
          refine G.iclt (o := (10)) (pc' := 65) (by decide +kernel) (by decide) rfl ?_ ?_
          · intro q18
            refine G.ldcJ (by decide +kernel) (tw 112 rfl) ?_
            exact G.retJ (by decide +kernel) rfl ⟨rfl, by rw [← ek, if_pos (Or.inl q18)]⟩ (lb rfl) (lb rfl)
          · intro q18
            refine G.seg [(58, .iload 8, 2), (60, .bipush 57, 2)] (by decide +kernel) (pc' := 62) (L' := #[.val (.ref t), .val (.long mx), .second, .val (.int (Int32.ofNat cs.length)), .val (.long v), .second, .val (.int o), .val (.int (Int32.ofNat k)), .val (.int c), .val (.int u2)]) (S' := [.int (57 : Int32), .int c]) rfl ?_
            refine G.icle (o := (7)) (pc' := 69) (by decide +kernel) (by decide) rfl ?_ ?_
            · intro q19
              exact J () (fun z => z.elim q18 q19)
            · intro q19
              refine G.ldcJ (by decide +kernel) (tw 112 rfl) ?_
              exact G.retJ (by decide +kernel) rfl ⟨rfl, by rw [← ek, if_pos (Or.inr q19)]⟩ (lb rfl) (lb rfl)
        rintro _ hd
        dsimp only
        rw [if_neg hd] at ek
        refine G.seg [(69, .iload 8, 2), (71, .bipush 48, 2), (73, .isub, 1), (74, .istore 9, 2)] (by decide +kernel) (pc' := 76) (L' := #[.val (.ref t), .val (.long mx), .second, .val (.int (Int32.ofNat cs.length)), .val (.long v), .second, .val (.int o), .val (.int (Int32.ofNat k)), .val (.int c), .val (.int (c - (48 : Int32)))]) (S' := []) rfl ?_
        refine G.seg [(76, .iload 6, 2)] (by decide +kernel) (pc' := 78) (L' := #[.val (.ref t), .val (.long mx), .second, .val (.int (Int32.ofNat cs.length)), .val (.long v), .second, .val (.int o), .val (.int (Int32.ofNat k)), .val (.int c), .val (.int (c - (48 : Int32)))]) (S' := [.int o]) rfl ?_
        refine G.join (fun o2 : Int32 => o2 = nx mx v o c) (fun o2 => (h17, 0, 0, 102, #[.val (.ref t), .val (.long mx), .second, .val (.int (Int32.ofNat cs.length)), .val (.long v), .second, .val (.int o), .val (.int (Int32.ofNat k)), .val (.int c), .val (.int (c - (48 : Int32)))], [.int o2])) ?_ ?_
        · intro J
          refine G.ifne (o := (19)) (pc' := 97) (by decide +kernel) (by decide) rfl ?_ ?_
          · intro q20
            refine G.seg [(97, .iconst 1, 1), (98, .goto 4, 3)] (by decide +kernel) (pc' := 102) (L' := #[.val (.ref t), .val (.long mx), .second, .val (.int (Int32.ofNat cs.length)), .val (.long v), .second, .val (.int o), .val (.int (Int32.ofNat k)), .val (.int c), .val (.int (c - (48 : Int32)))]) (S' := [.int (1 : Int32)]) rfl ?_
            exact J 1 (by rw [nx, if_pos (Or.inl q20)])
          · intro q20
            refine G.seg [(81, .lload 4, 2), (83, .lload_n 1, 1), (84, .iload 9, 2), (86, .i2l, 1), (87, .lsub, 1), (88, .bipush 10, 2)] (by decide +kernel) (pc' := 90) (L' := #[.val (.ref t), .val (.long mx), .second, .val (.int (Int32.ofNat cs.length)), .val (.long v), .second, .val (.int o), .val (.int (Int32.ofNat k)), .val (.int c), .val (.int (c - (48 : Int32)))]) (S' := [.int (10 : Int32), .long (mx - ((c - (48 : Int32)).toInt64)), .long v]) rfl ?_
            refine G.static (y := ⟨"java/lang/Math", "floorDiv", "(JI)J"⟩) (argsL := [.long (mx - ((c - (48 : Int32)).toInt64)), .int (10 : Int32)]) (rest := [.long v]) (W := 2) (by decide +kernel) (tw 100 rfl) (tw 101 rfl) (tw 102 rfl) (tw 103 rfl) (by decide) ((fdiC l Z a0 n0 h17 (mx - (c - (48 : Int32)).toInt64)).pays (tw 103 rfl) (tw 102 rfl) (lb rfl) (lb rfl)) (lenOf pd16 rfl) rfl (Nat.le_of_eq rfl) rfl (lb rfl) (lb rfl) ?_
            rintro _ h21 ⟨rfl, rfl⟩
            refine G.seg [(93, .lcmp, 1)] (by decide +kernel) (pc' := 94) (L' := #[.val (.ref t), .val (.long mx), .second, .val (.int (Int32.ofNat cs.length)), .val (.long v), .second, .val (.int o), .val (.int (Int32.ofNat k)), .val (.int c), .val (.int (c - (48 : Int32)))]) (S' := [.int (XT.cmpL v (fd10 (mx - (c - (48 : Int32)).toInt64)))]) rfl ?_
            refine G.ifle (o := (7)) (pc' := 101) (by decide +kernel) (by decide) rfl ?_ ?_
            · intro q22
              refine G.seg [(101, .iconst 0, 1)] (by decide +kernel) (pc' := 102) (L' := #[.val (.ref t), .val (.long mx), .second, .val (.int (Int32.ofNat cs.length)), .val (.long v), .second, .val (.int o), .val (.int (Int32.ofNat k)), .val (.int c), .val (.int (c - (48 : Int32)))]) (S' := [.int (0 : Int32)]) rfl ?_
              exact J 0 (by rw [nx, if_neg (fun z => z.elim (fun z => z q20) q22)])
            · intro q22
              refine G.seg [(97, .iconst 1, 1), (98, .goto 4, 3)] (by decide +kernel) (pc' := 102) (L' := #[.val (.ref t), .val (.long mx), .second, .val (.int (Int32.ofNat cs.length)), .val (.long v), .second, .val (.int o), .val (.int (Int32.ofNat k)), .val (.int c), .val (.int (c - (48 : Int32)))]) (S' := [.int (1 : Int32)]) rfl ?_
              exact J 1 (by rw [nx, if_pos (Or.inr q22)])
        rintro o2 eo
        dsimp only
        rw [← eo] at ek
        refine G.seg [(102, .istore 6, 2)] (by decide +kernel) (pc' := 104) (L' := #[.val (.ref t), .val (.long mx), .second, .val (.int (Int32.ofNat cs.length)), .val (.long v), .second, .val (.int o2), .val (.int (Int32.ofNat k)), .val (.int c), .val (.int (c - (48 : Int32)))]) (S' := []) rfl ?_
        refine G.seg [(104, .iload 6, 2)] (by decide +kernel) (pc' := 106) (L' := #[.val (.ref t), .val (.long mx), .second, .val (.int (Int32.ofNat cs.length)), .val (.long v), .second, .val (.int o2), .val (.int (Int32.ofNat k)), .val (.int c), .val (.int (c - (48 : Int32)))]) (S' := [.int o2]) rfl ?_
        refine G.ifne (o := (15)) (pc' := 121) (by decide +kernel) (by decide) rfl ?_ ?_
        · intro q23
          rw [if_neg q23] at ek
          refine G.seg [(121, .iinc 7 1, 3)] (by decide +kernel) (pc' := 124) (L' := #[.val (.ref t), .val (.long mx), .second, .val (.int (Int32.ofNat cs.length)), .val (.long v), .second, .val (.int o2), .val (.int ((Int32.ofNat k) + (1 : Int32))), .val (.int c), .val (.int (c - (48 : Int32)))]) (S' := []) rfl ?_
          refine G.seg [(124, .goto (-87), 3)] (by decide +kernel) (pc' := 37) (L' := #[.val (.ref t), .val (.long mx), .second, .val (.int (Int32.ofNat cs.length)), .val (.long v), .second, .val (.int o2), .val (.int ((Int32.ofNat k) + (1 : Int32))), .val (.int c), .val (.int (c - (48 : Int32)))]) (S' := []) rfl ?_
          rw [show Int32.ofNat k + (1 : Int32) = Int32.ofNat (k + 1) from addN k 1]
          exact ih (k + 1, v, o2, some (c, c - (48 : Int32))) ⟨hk2, ek⟩ (by dsimp only; omega)
        · intro q23
          rw [if_pos q23] at ek
          refine G.seg [(109, .lload 4, 2)] (by decide +kernel) (pc' := 111) (L' := #[.val (.ref t), .val (.long mx), .second, .val (.int (Int32.ofNat cs.length)), .val (.long v), .second, .val (.int o2), .val (.int (Int32.ofNat k)), .val (.int c), .val (.int (c - (48 : Int32)))]) (S' := [.long v]) rfl ?_
          refine G.ldcJ (by decide +kernel) (tw 108 rfl) ?_
          refine G.seg [(114, .lmul, 1), (115, .iload 9, 2), (117, .i2l, 1), (118, .ladd, 1), (119, .lstore 4, 2)] (by decide +kernel) (pc' := 121) (L' := #[.val (.ref t), .val (.long mx), .second, .val (.int (Int32.ofNat cs.length)), .val (.long ((v * (10 : Int64)) + ((c - (48 : Int32)).toInt64))), .second, .val (.int o2), .val (.int (Int32.ofNat k)), .val (.int c), .val (.int (c - (48 : Int32)))]) (S' := []) rfl ?_
          refine G.seg [(121, .iinc 7 1, 3)] (by decide +kernel) (pc' := 124) (L' := #[.val (.ref t), .val (.long mx), .second, .val (.int (Int32.ofNat cs.length)), .val (.long ((v * (10 : Int64)) + ((c - (48 : Int32)).toInt64))), .second, .val (.int o2), .val (.int ((Int32.ofNat k) + (1 : Int32))), .val (.int c), .val (.int (c - (48 : Int32)))]) (S' := []) rfl ?_
          refine G.seg [(124, .goto (-87), 3)] (by decide +kernel) (pc' := 37) (L' := #[.val (.ref t), .val (.long mx), .second, .val (.int (Int32.ofNat cs.length)), .val (.long ((v * (10 : Int64)) + ((c - (48 : Int32)).toInt64))), .second, .val (.int o2), .val (.int ((Int32.ofNat k) + (1 : Int32))), .val (.int c), .val (.int (c - (48 : Int32)))]) (S' := []) rfl ?_
          rw [show Int32.ofNat k + (1 : Int32) = Int32.ofNat (k + 1) from addN k 1]
          exact ih (k + 1, (v * (10 : Int64)) + (c - (48 : Int32)).toInt64, o2, some (c, c - (48 : Int32))) ⟨hk2, ek⟩ (by dsimp only; omega)

def capF (mx : Int64) (cs : List Int32) : Int64 := if XT.cmpL (readF mx cs) (-2 : Int64) = 0 then mx else readF mx cs
set_option maxRecDepth 65536 in
set_option maxHeartbeats 4000000 in
theorem capC (l : Launch) (Z : State) (a0 : Array Value) (n0 : Nat) (h : Heap) {EL : List (String × Nat)} (t : Addr) (cs : List Int32) (mx : Int64) (A : StU Z h t cs) (hCS : CS Z) (hU : US Z) (hFM : FM Z) :
    Ct l Z a0 EL tables_1 [] n0 ⟨"com/example/mynah/mynah/PlainDecimal", "parseCapped", "(Ljava/lang/String;J)J"⟩ prog_20_method_3_code 5 (some (.long)) ({ frames := 6, cells := 0, slots := 0, locals := 115 } : Room) #[.ref t, .long mx] h (fun r h' => h' = h ∧ r = some (.long (capF mx cs))) := by
  refine Ct.of_body pn6 (L0 := #[.val (.ref t), .val (.long mx), .second, .unset, .unset]) (fun m => by exact ef_of rfl) (fun hEL hw hO => ?_)
  refine G.seg [(0, .aload_n 0, 1), (1, .lload_n 1, 1)] (by decide +kernel) (pc' := 2) (L' := #[.val (.ref t), .val (.long mx), .second, .unset, .unset]) (S' := [.long mx, .ref t]) rfl ?_
  refine G.static (y := ⟨"com/example/mynah/mynah/PlainDecimal", "read", "(Ljava/lang/String;J)J"⟩) (argsL := [.ref t, .long mx]) (rest := []) (W := 0) (by decide +kernel) (tw 65 rfl) (tw 66 rfl) (tw 63 rfl) (tw 67 rfl) (by decide) ((readC l Z a0 n0 h t cs mx A hCS hU hFM).pays (tw 67 rfl) (tw 63 rfl) (lb rfl) (lb rfl)) (lenOf pd17 rfl) rfl (Nat.le_of_eq rfl) rfl (lb rfl) (lb rfl) ?_
  rintro _ h1 ⟨rfl, rfl⟩
  refine G.seg [(5, .lstore_n 3, 1)] (by decide +kernel) (pc' := 6) (L' := #[.val (.ref t), .val (.long mx), .second, .val (.long (readF mx cs)), .second]) (S' := []) rfl ?_
  refine G.seg [(6, .lload_n 3, 1)] (by decide +kernel) (pc' := 7) (L' := #[.val (.ref t), .val (.long mx), .second, .val (.long (readF mx cs)), .second]) (S' := [.long (readF mx cs)]) rfl ?_
  refine G.ldcJ (by decide +kernel) (tw 107 rfl) ?_
  refine G.seg [(10, .lcmp, 1)] (by decide +kernel) (pc' := 11) (L' := #[.val (.ref t), .val (.long mx), .second, .val (.long (readF mx cs)), .second]) (S' := [.int (XT.cmpL (readF mx cs) (-2 : Int64))]) rfl ?_
  refine G.ifne (o := (7)) (pc' := 18) (by decide +kernel) (by decide) rfl ?_ ?_
  · intro q2
    refine G.seg [(18, .lload_n 3, 1)] (by decide +kernel) (pc' := 19) (L' := #[.val (.ref t), .val (.long mx), .second, .val (.long (readF mx cs)), .second]) (S' := [.long (readF mx cs)]) rfl ?_
    exact G.retJ (by decide +kernel) rfl ⟨rfl, by rw [capF, if_neg q2]⟩ (lb rfl) (lb rfl)
  · intro q2
    refine G.seg [(14, .lload_n 1, 1), (15, .goto 4, 3)] (by decide +kernel) (pc' := 19) (L' := #[.val (.ref t), .val (.long mx), .second, .val (.long (readF mx cs)), .second]) (S' := [.long mx]) rfl ?_
    exact G.retJ (by decide +kernel) rfl ⟨rfl, by rw [capF, if_pos q2]⟩ (lb rfl) (lb rfl)

theorem cmp_pos {a b : Int64} : 0 < XT.cmpL a b ↔ b < a := by
  unfold XT.cmpL
  by_cases q : b < a
  · simp [q]
  · by_cases r : a = b
    · simp [q, r]
    · simp [q, r]
theorem cmp_neg {a b : Int64} : XT.cmpL a b < 0 ↔ a < b := by
  unfold XT.cmpL
  by_cases q : b < a
  · have : ¬ a < b := fun z => by rw [Int64.lt_iff_toInt_lt] at z q; omega
    simp [q, this]
  · by_cases r : a = b
    · subst r; simp [q]
    · have : a < b := by
        rw [Int64.lt_iff_toInt_lt] at q ⊢
        have : a.toInt ≠ b.toInt := fun z => r (Int64.toInt_inj.mp z)
        omega
      simp [q, r, this]
theorem cmp_zero {a b : Int64} : XT.cmpL a b = 0 ↔ a = b := by
  unfold XT.cmpL
  by_cases q : b < a
  · have : ¬ a = b := fun z => by rw [z] at q; rw [Int64.lt_iff_toInt_lt] at q; omega
    simp [q, this]
  · by_cases r : a = b
    · simp [q, r]
    · simp [q, r]
def chd (d : Nat) : Int32 := Int32.ofNat (48 + d)
theorem xneg {x : Int64} (h : ¬ x < 0) : ¬ (x ^^^ (10 : Int32).toInt64) < 0 := by
  rw [Int64.lt_iff_toInt_lt] at h ⊢
  have e0 : (0 : Int64).toInt = 0 := rfl
  rw [e0] at h ⊢
  have m1 : x.toBitVec.msb = false := by
    rw [BitVec.msb_eq_toInt]; exact decide_eq_false h
  have m2 : (x ^^^ (10 : Int32).toInt64).toBitVec.msb = false := by
    rw [Int64.toBitVec_xor, BitVec.msb_xor, m1]; rfl
  rw [BitVec.msb_eq_toInt] at m2
  exact of_decide_eq_false m2
theorem nn64 {n : Nat} (hn : n < 2 ^ 63) : ¬ Int64.ofNat n < 0 := by
  rw [Int64.lt_iff_toInt_lt, Int64.toInt_ofNat_of_lt hn]
  have e0 : (0 : Int64).toInt = 0 := rfl
  omega
theorem fdN {n : Nat} (hn : n < 2 ^ 63) : fd10 (Int64.ofNat n) = Int64.ofNat (n / 10) := by
  unfold fd10
  rw [if_neg, Int64.ofNat_div hn (by decide)]
  · rfl
  · rw [cmp_neg]; exact xneg (nn64 hn)
theorem fdneg : ∀ k : Fin 9, fd10 (-(Int64.ofNat (k.val + 1))) = -1 := by decide +kernel
theorem sub_lt : ∀ d m : Fin 10, m.val < d.val → Int64.ofNat m.val - Int64.ofNat d.val = -(Int64.ofNat (d.val - m.val)) := by decide +kernel
theorem dval {d : Nat} (hd : d ≤ 9) : (chd d - (48 : Int32)).toInt64 = Int64.ofNat d := by
  have : ∀ d : Fin 10, (chd d.val - (48 : Int32)).toInt64 = Int64.ofNat d.val := by decide +kernel
  exact this ⟨d, by omega⟩
theorem dok {d : Nat} (hd : d ≤ 9) : ¬ (chd d < 48 ∨ 57 < chd d) := by
  have : ∀ d : Fin 10, ¬ (chd d.val < 48 ∨ 57 < chd d.val) := by decide +kernel
  exact this ⟨d, by omega⟩
theorem nxM {M a d : Nat} (hM : M < 2 ^ 63) (ha : a ≤ M) (hd : d ≤ 9) : nx (Int64.ofNat M) (Int64.ofNat a) 0 (chd d) = if M < 10 * a + d then 1 else 0 := by
  have e : (¬ ((0 : Int32) = 0) ∨ 0 < XT.cmpL (Int64.ofNat a) (fd10 (Int64.ofNat M - (chd d - (48 : Int32)).toInt64))) ↔ M < 10 * a + d := by
    rw [dval hd, cmp_pos]
    simp only [not_true_eq_false, false_or]
    by_cases q : d ≤ M
    · rw [← Int64.ofNat_sub _ _ q, fdN (by omega), Int64.lt_iff_toInt_lt, Int64.toInt_ofNat_of_lt (by omega), Int64.toInt_ofNat_of_lt (by omega)]
      omega
    · have e1 := sub_lt ⟨d, by omega⟩ ⟨M, by omega⟩ (by show M < d; omega)
      dsimp only at e1
      have e2 := fdneg ⟨d - M - 1, by omega⟩
      dsimp only at e2
      rw [show d - M - 1 + 1 = d - M from by omega] at e2
      rw [e1, e2, Int64.lt_iff_toInt_lt, Int64.toInt_ofNat_of_lt (by omega)]
      have e3 : (-1 : Int64).toInt = -1 := rfl
      omega
  unfold nx
  by_cases q : M < 10 * a + d
  · rw [if_pos q, if_pos (e.mpr q)]
  · rw [if_neg q, if_neg (fun z => q (e.mp z))]
theorem rd_over {ds : List Nat} (hd : ∀ d ∈ ds, d ≤ 9) (mx v : Int64) : rdF mx (ds.map chd) v 1 = -2 := by
  induction ds generalizing v with
  | nil => rfl
  | cons d ds ih =>
    have h1 := hd d (List.mem_cons_self ..)
    have e : nx mx v 1 (chd d) = 1 := by unfold nx; rw [if_pos (Or.inl (by decide))]
    show (if chd d < 48 ∨ 57 < chd d then _ else _) = _
    rw [if_neg (dok h1), e]
    exact ih (fun x hx => hd x (List.mem_cons_of_mem _ hx)) _
def dec (ds : List Nat) (a : Nat) : Nat := ds.foldl (fun x d => 10 * x + d) a
theorem dec_ge (ds : List Nat) (a : Nat) : a * 10 ^ ds.length ≤ dec ds a := by
  induction ds generalizing a with
  | nil => simp [dec]
  | cons d ds ih =>
    have := ih (10 * a + d)
    show a * 10 ^ (ds.length + 1) ≤ dec ds (10 * a + d)
    refine Nat.le_trans ?_ this
    rw [Nat.pow_succ, Nat.mul_comm _ 10, ← Nat.mul_assoc, Nat.mul_comm a 10]
    exact Nat.mul_le_mul_right _ (Nat.le_add_right _ _)
theorem dec_le (ds : List Nat) (a : Nat) : a ≤ dec ds a := Nat.le_trans (Nat.le_mul_of_pos_right _ (Nat.pow_pos (by decide))) (dec_ge ds a)
theorem rd_val {M : Nat} (hM : M < 2 ^ 63) {ds : List Nat} (hd : ∀ d ∈ ds, d ≤ 9) {a : Nat} (ha : a ≤ M) : rdF (Int64.ofNat M) (ds.map chd) (Int64.ofNat a) 0 = if M < dec ds a then -2 else Int64.ofNat (dec ds a) := by
  induction ds generalizing a with
  | nil => rw [show dec [] a = a from rfl, if_neg (by omega)]; rfl
  | cons d ds ih =>
    have h1 := hd d (List.mem_cons_self ..)
    have h2 := fun x hx => hd x (List.mem_cons_of_mem _ hx)
    show (if chd d < 48 ∨ 57 < chd d then _ else _) = _
    rw [if_neg (dok h1), nxM hM ha h1]
    have es : dec (d :: ds) a = dec ds (10 * a + d) := rfl
    by_cases q : M < 10 * a + d
    · rw [if_pos q, rd_over h2, es, if_pos (Nat.lt_of_lt_of_le q (dec_le _ _))]
    · rw [if_neg q, if_pos rfl, dval h1, es, ← ih h2 (by omega)]
      congr 1
      apply Int64.toBitVec_inj.mp
      show BitVec.ofNat 64 a * BitVec.ofNat 64 10 + BitVec.ofNat 64 d = BitVec.ofNat 64 (10 * a + d)
      rw [BitVec.ofNat_add, BitVec.ofNat_mul, BitVec.mul_comm]
theorem rd_bad {cs : List Int32} (q : ∃ c ∈ cs, c < 48 ∨ (57 : Int32) < c) (mx v : Int64) (o : Int32) : rdF mx cs v o = -1 := by
  induction cs generalizing v o with
  | nil => obtain ⟨c, hc, -⟩ := q; cases hc
  | cons c cs ih =>
    show (if c < 48 ∨ 57 < c then _ else _) = _
    by_cases r : c < 48 ∨ (57 : Int32) < c
    · rw [if_pos r]
    · rw [if_neg r]
      obtain ⟨c', hc', r'⟩ := q
      rcases List.mem_cons.mp hc' with e | e
      · exact absurd (e ▸ r') r
      · exact ih ⟨c', e, r'⟩ _ _
theorem read_bad {cs : List Int32} (q : ∃ c ∈ cs, c < 48 ∨ (57 : Int32) < c) (mx : Int64) : readF mx cs = -1 := by
  unfold readF
  split
  · rfl
  · split
    · rfl
    · exact rd_bad q mx 0 0
theorem read_zero {cs : List Int32} (q : cs.getD 0 0 = 48) (h1 : 1 < cs.length) (mx : Int64) : readF mx cs = -1 := by
  unfold readF
  rw [if_neg (by omega), if_pos ⟨q, h1⟩]
theorem getc (ds : List Nat) {i : Nat} (q : i < ds.length) : (ds.map chd).getD i 0 = chd (ds.getD i 0) := by
  simp [List.getD_eq_getElem?_getD, q]
theorem chd48 {d : Nat} (hd : d ≤ 9) (q : chd d = 48) : d = 0 := by
  have : ∀ d : Fin 10, chd d.val = 48 → d.val = 0 := by decide +kernel
  exact this ⟨d, by omega⟩ q
theorem read_val {M : Nat} (hM : M < 2 ^ 63) {ds : List Nat} (hd : ∀ d ∈ ds, d ≤ 9) (h0 : 0 < ds.length) (h1 : ds.length = 1 ∨ ds.getD 0 0 ≠ 0) : readF (Int64.ofNat M) (ds.map chd) = if M < dec ds 0 then -2 else Int64.ofNat (dec ds 0) := by
  unfold readF
  rw [List.length_map, if_neg (by omega), if_neg, ← rd_val hM hd (Nat.zero_le _)]
  · rfl
  · rintro ⟨q, r⟩
    rw [getc _ h0] at q
    have h9 : ds.getD 0 0 ≤ 9 := hd _ (by rw [List.getD_eq_getElem?_getD]; simp [h0])
    rcases h1 with e | e
    · omega
    · exact e (chd48 h9 q)
theorem ne2 {n : Nat} (hn : n < 2 ^ 63) : ¬ XT.cmpL (Int64.ofNat n) (-2 : Int64) = 0 := fun z => by
  have := congrArg Int64.toInt (cmp_zero.mp z)
  rw [Int64.toInt_ofNat_of_lt hn] at this
  have e2 : (-2 : Int64).toInt = -2 := rfl
  omega
theorem dig_of {c : Int32} (q : ¬ (c < 48 ∨ (57 : Int32) < c)) : ∃ d : Nat, d ≤ 9 ∧ c = chd d := by
  have h1 : ¬ c < 48 := fun z => q (Or.inl z)
  have h2 : ¬ (57 : Int32) < c := fun z => q (Or.inr z)
  rw [Int32.lt_iff_toInt_lt] at h1 h2
  have e1 : (48 : Int32).toInt = 48 := rfl
  have e2 : (57 : Int32).toInt = 57 := rfl
  refine ⟨c.toInt.toNat - 48, by omega, ?_⟩
  apply Int32.toInt_inj.mp
  unfold chd
  rw [Int32.toInt_ofNat_small (by omega)]
  omega
theorem nonneg64 {x : Int64} (q : ¬ x < 0) : ∃ M : Nat, M < 2 ^ 63 ∧ x = Int64.ofNat M := by
  rw [Int64.lt_iff_toInt_lt] at q
  have e0 : (0 : Int64).toInt = 0 := rfl
  have h1 := Int64.toInt_lt x
  refine ⟨x.toInt.toNat, by omega, ?_⟩
  apply Int64.toInt_inj.mp
  rw [Int64.toInt_ofNat_of_lt (by omega)]
  omega
theorem w16_iff (x : Int32) : (¬ x < 0 ∧ ¬ (65535 : Int32) < x) ↔ x.toBitVec.toNat < 65536 := by
  have h1 : x.toInt = x.toBitVec.toInt := rfl
  have e0 : (0 : Int32).toInt = 0 := rfl
  have e1 : (65535 : Int32).toInt = 65535 := rfl
  have := x.toBitVec.isLt
  simp only [Int32.lt_iff_toInt_lt, e0, e1, h1, BitVec.toInt_eq_toNat_cond]
  split <;> omega
theorem i2c_rng (x : Int32) : ¬ x.toUInt32.toUInt16.toUInt32.toInt32 < 0 ∧ ¬ (65535 : Int32) < x.toUInt32.toUInt16.toUInt32.toInt32 := by
  rw [w16_iff]
  show (x.toUInt32.toUInt16.toUInt32.toNat) < 65536
  rw [UInt16.toNat_toUInt32]
  exact x.toUInt32.toUInt16.toNat_lt
def dg (r : Nat) : Nat → List Nat
  | 0 => []
  | j + 1 => (r / 10 ^ j % 10) :: dg r j
theorem dec_dg (r : Nat) : ∀ (j a : Nat), dec (dg r j) a = a * 10 ^ j + r % 10 ^ j
  | 0, a => by show a = a * 1 + r % 1; omega
  | j + 1, a => by
    show dec (dg r j) (10 * a + r / 10 ^ j % 10) = _
    rw [dec_dg r j, Nat.pow_succ, Nat.mod_mul]
    generalize r / 10 ^ j % 10 = u
    generalize r % 10 ^ j = w
    generalize 10 ^ j = p
    rw [Nat.add_mul, Nat.mul_comm 10 a, Nat.mul_assoc a 10 p, Nat.mul_comm 10 p, Nat.mul_comm u p]
    omega
theorem dg9 (r : Nat) : ∀ (j : Nat), ∀ d ∈ dg r j, d ≤ 9
  | 0, d, h => nomatch h
  | j + 1, d, h => by
    rcases List.mem_cons.mp h with e | e
    · rw [e]; omega
    · exact dg9 r j d e
theorem dg_len (r : Nat) : ∀ j, (dg r j).length = j
  | 0 => rfl
  | j + 1 => by show (dg r j).length + 1 = j + 1; rw [dg_len r j]
theorem dg_at (r : Nat) : ∀ (n j : Nat), j < n → (dg r n).getD (n - 1 - j) 0 = r / 10 ^ j % 10
  | 0, j, h => absurd h (Nat.not_lt_zero j)
  | n + 1, j, h => by
    by_cases q : j = n
    · subst q; rw [show j + 1 - 1 - j = 0 from by omega]; rfl
    · rw [show n + 1 - 1 - j = (n - 1 - j) + 1 from by omega]
      show (dg r n).getD (n - 1 - j) 0 = _
      exact dg_at r n j (by omega)
def dgs : Nat → Nat → Nat
  | 0, _ => 1
  | i + 1, V => if 10 ^ (i + 1) ≤ V then i + 2 else dgs i V
theorem dgs_lt : ∀ (i V : Nat), V < 10 ^ (i + 1) → V < 10 ^ dgs i V
  | 0, V, h => h
  | i + 1, V, h => by
    unfold dgs
    split
    · exact h
    · exact dgs_lt i V (by omega)
theorem dgs_ge : ∀ (i V : Nat), dgs i V = 1 ∨ 10 ^ (dgs i V - 1) ≤ V
  | 0, V => Or.inl rfl
  | i + 1, V => by
    unfold dgs
    split
    · exact Or.inr (by assumption)
    · exact dgs_ge i V
theorem dgs_pos : ∀ (i V : Nat), 1 ≤ dgs i V ∧ dgs i V ≤ i + 1
  | 0, V => ⟨Nat.le_refl _, Nat.le_refl _⟩
  | i + 1, V => by
    have := dgs_pos i V
    unfold dgs
    split <;> omega
theorem c64n {a b : Nat} (ha : a < 2 ^ 63) (hb : b < 2 ^ 63) : XT.cmpL (Int64.ofNat a) (Int64.ofNat b) < 0 ↔ a < b := by
  rw [cmp_neg, Int64.lt_iff_toInt_lt, Int64.toInt_ofNat_of_lt ha, Int64.toInt_ofNat_of_lt hb]; omega
theorem c64 {a b : Nat} (ha : a < 2 ^ 63) (hb : b < 2 ^ 63) : 0 < XT.cmpL (Int64.ofNat a) (Int64.ofNat b) ↔ b < a := by
  rw [cmp_pos, Int64.lt_iff_toInt_lt, Int64.toInt_ofNat_of_lt ha, Int64.toInt_ofNat_of_lt hb]; omega
theorem dgs_no {i V : Nat} (hV : V < 2 ^ 63) (hi : 10 ^ (i + 1) < 2 ^ 63) (q : XT.cmpL (Int64.ofNat V) (Int64.ofNat (10 ^ (i + 1))) < 0) : dgs (i + 1) V = dgs i V := by
  rw [c64n hV hi] at q; exact if_neg (by omega)
theorem dgs_yes {i V : Nat} (hV : V < 2 ^ 63) (hi : 10 ^ (i + 1) < 2 ^ 63) (q : ¬ XT.cmpL (Int64.ofNat V) (Int64.ofNat (10 ^ (i + 1))) < 0) : dgs (i + 1) V = i + 2 := by
  rw [c64n hV hi] at q; exact if_pos (by omega)
/-- the signs that the law lays -/
def TT (O V N K S1 S2 : Nat) : List Int32 := (List.replicate O 0 ++ (dg V N ++ [S1, S2].take K)).map chd
theorem TT_len {O V N K S1 S2 : Nat} (hK : K ≤ 2) : (TT O V N K S1 S2).length = O + N + K := by
  unfold TT; simp [dg_len]; omega
theorem gmap (ds : List Nat) {i : Nat} (q : i < ds.length) : (ds.map chd).getD i 0 = chd (ds.getD i 0) := by
  simp [List.getD_eq_getElem?_getD, q]
theorem getD_r (xs ys : List Nat) {i : Nat} (q : xs.length ≤ i) : (xs ++ ys).getD i 0 = ys.getD (i - xs.length) 0 := by
  simp [List.getD_eq_getElem?_getD, List.getElem?_append_right q]
theorem getD_l (xs ys : List Nat) {i : Nat} (q : i < xs.length) : (xs ++ ys).getD i 0 = xs.getD i 0 := by
  simp [List.getD_eq_getElem?_getD, List.getElem?_append_left q]
theorem TT_dig {O V N K S1 S2 j : Nat} (hK : K ≤ 2) (hj : j < N) : (TT O V N K S1 S2).getD (O + N - (j + 1)) 0 = chd (V / 10 ^ j % 10) := by
  unfold TT
  rw [gmap _ (by simp [dg_len]; omega), getD_r _ _ (by simp; omega), List.length_replicate, getD_l _ _ (by rw [dg_len]; omega), show O + N - (j + 1) - O = N - 1 - j from by omega, dg_at V N j hj]
theorem TT_o {O V N K S1 S2 i : Nat} (hi : i < O) : (TT O V N K S1 S2).getD i 0 = 48 := by
  unfold TT
  rw [gmap _ (by simp; omega), getD_l _ _ (by simpa using hi)]
  have : (List.replicate O 0).getD i 0 = 0 := by simp [List.getD_eq_getElem?_getD, hi]
  rw [this]; rfl
theorem TT_1 {O V N K S1 S2 : Nat} (hK : K ≤ 2) (h : 0 < K) : (TT O V N K S1 S2).getD (O + N) 0 = chd S1 := by
  unfold TT
  rw [gmap _ (by simp [dg_len]; omega), getD_r _ _ (by simp), List.length_replicate, getD_r _ _ (by rw [dg_len]; omega), dg_len, show O + N - O - N = 0 from by omega]
  match K, h with
  | k + 1, _ => rfl
theorem TT_2 {O V N K S1 S2 : Nat} (hK : K ≤ 2) (h : 1 < K) : (TT O V N K S1 S2).getD (O + N + 1) 0 = chd S2 := by
  unfold TT
  rw [gmap _ (by simp [dg_len]; omega), getD_r _ _ (by simp; omega), List.length_replicate, getD_r _ _ (by rw [dg_len]; omega), dg_len, show O + N + 1 - O - N = 1 from by omega]
  match K, h with
  | k + 2, _ => rfl
theorem TT_digs {O V N K S1 S2 : Nat} (h1 : S1 ≤ 9) (h2 : S2 ≤ 9) : ∀ d ∈ List.replicate O 0 ++ (dg V N ++ [S1, S2].take K), d ≤ 9 := fun d hd => by
  rcases List.mem_append.mp hd with h | h
  · rw [(List.mem_replicate.mp h).2]; omega
  · rcases List.mem_append.mp h with h | h
    · exact dg9 V N d h
    · have := List.mem_of_mem_take h
      simp only [List.mem_cons, List.not_mem_nil, or_false] at this
      rcases this with rfl | rfl <;> assumption
theorem ag_set {vs T : List Int32} {p p' : Nat → Prop} {i : Nat} {x : Int32} (hi : i < vs.length) (hx : x = T.getD i 0) (A : ∀ j, p j → vs.getD j 0 = T.getD j 0) (hp : ∀ j, p' j → p j ∨ j = i) : ∀ j, p' j → (vs.set i x).getD j 0 = T.getD j 0 := fun j hj => by
  by_cases q : i = j
  · subst q; rw [← hx]; simp [List.getD_eq_getElem?_getD, List.getElem?_set, hi]
  · rcases hp j hj with h | h
    · rw [← A j h]; simp [List.getD_eq_getElem?_getD, List.getElem?_set, q]
    · exact absurd h.symm q
theorem ag_all {vs T : List Int32} (hl : vs.length = T.length) (A : ∀ j, j < vs.length → vs.getD j 0 = T.getD j 0) : vs = T := by
  apply List.ext_getElem hl
  intro i h1 h2
  have := A i h1
  simpa [List.getD_eq_getElem?_getD, h1, h2] using this
theorem cap_bad {cs : List Int32} (q : ∃ c ∈ cs, c < 48 ∨ (57 : Int32) < c) (mx : Int64) : capF mx cs = -1 := by
  unfold capF; rw [read_bad q, if_neg (by decide)]
theorem cap_zero {cs : List Int32} (q : cs.getD 0 0 = 48) (h1 : 1 < cs.length) (mx : Int64) : capF mx cs = -1 := by
  unfold capF; rw [read_zero q h1, if_neg (by decide)]
theorem cap_val {M : Nat} (hM : M < 2 ^ 63) {ds : List Nat} (hd : ∀ d ∈ ds, d ≤ 9) (h0 : 0 < ds.length) (h1 : ds.length = 1 ∨ ds.getD 0 0 ≠ 0) : capF (Int64.ofNat M) (ds.map chd) = Int64.ofNat (if M < dec ds 0 then M else dec ds 0) := by
  unfold capF; rw [read_val hM hd h0 h1]
  by_cases q : M < dec ds 0
  · rw [if_pos q, if_pos q, if_pos (by decide)]
  · rw [if_neg q, if_neg q, if_neg (ne2 (by omega))]
theorem dec_app (xs ys : List Nat) (a : Nat) : dec (xs ++ ys) a = dec ys (dec xs a) := by unfold dec; rw [List.foldl_append]
/-- the suffix's number -/
def sdN (K S1 S2 : Nat) : Nat := if K = 0 then 0 else if K = 1 then S1 else S1 * 10 + S2
theorem m0_ok {C V K S1 S2 : Nat} (hC : C < 2 ^ 63) (hV : V < 2 ^ 63) (hK : K ≤ 2) (h1 : S1 ≤ 9) (h2 : S2 ≤ 9) (hz : ¬ (V = 0 ∧ 0 < K)) :
    capF (Int64.ofNat C) (TT 0 V (dgs 18 V) K S1 S2) = Int64.ofNat (if C < V * 10 ^ K + sdN K S1 S2 then C else V * 10 ^ K + sdN K S1 S2) := by
  have hN := dgs_pos 18 V
  have hlt := dgs_lt 18 V (by omega)
  have hge := dgs_ge 18 V
  have hd := TT_digs (O := 0) (V := V) (N := dgs 18 V) (K := K) h1 h2
  generalize dgs 18 V = N at hN hlt hge hd ⊢
  have e : dec (List.replicate 0 0 ++ (dg V N ++ [S1, S2].take K)) 0 = V * 10 ^ K + sdN K S1 S2 := by
    show dec (dg V N ++ [S1, S2].take K) 0 = _
    rw [dec_app, dec_dg, Nat.zero_mul, Nat.zero_add, Nat.mod_eq_of_lt hlt]
    match K, hK with
    | 0, _ => show V = V * 1 + 0; omega
    | 1, _ => show 10 * V + S1 = V * 10 + S1; omega
    | 2, _ => show 10 * (10 * V + S1) + S2 = V * 100 + (S1 * 10 + S2); omega
  rw [← e]
  refine cap_val hC hd (by simp [dg_len]; omega) ?_
  by_cases v0 : V = 0
  · have k0 : K = 0 := by omega
    have n1 : N = 1 := by
      rcases hge with h | h
      · exact h
      · have : 0 < 10 ^ (N - 1) := Nat.pow_pos (by decide)
        omega
    left; subst k0; subst n1; rfl
  · right
    match N, hN with
    | n + 1, _ =>
      show V / 10 ^ n % 10 ≠ 0
      have hp : 0 < 10 ^ n := Nat.pow_pos (by decide)
      have h3 : 1 ≤ V / 10 ^ n := by
        rcases hge with h | h
        · have : n = 0 := by omega
          subst this; rw [Nat.pow_zero, Nat.div_one]; omega
        · exact (Nat.le_div_iff_mul_le hp).mpr (by rw [Nat.one_mul]; exact h)
      have h4 : V / 10 ^ n < 10 := (Nat.div_lt_iff_lt_mul hp).mpr (by rw [Nat.mul_comm, ← Nat.pow_succ]; exact hlt)
      omega
theorem ushrV (x : Int64) (s : Int32) : ∃ V : Nat, V < 2 ^ 63 ∧ XT.ushrL (x &&& (9223372036854775807 : Int64)) s = Int64.ofNat V := by
  have h1 : (x &&& 9223372036854775807).toUInt64.toNat < 2 ^ 63 := by
    show (x &&& 9223372036854775807).toBitVec.toNat < _
    simp only [Int64.toBitVec_and, BitVec.toNat_and]; exact Nat.lt_of_le_of_lt Nat.and_le_right (by decide)
  refine ⟨((x &&& 9223372036854775807).toUInt64 >>> (s.toInt64.toUInt64 &&& Int64.toUInt64 63)).toNat, ?_, ?_⟩
  · rw [UInt64.toNat_shiftRight, Nat.shiftRight_eq_div_pow]
    exact Nat.lt_of_le_of_lt (Nat.div_le_self _ _) h1
  · unfold XT.ushrL
    apply Int64.toBitVec_inj.mp
    show _ = BitVec.ofNat 64 _
    rw [UInt64.toNat, BitVec.ofNat_toNat, BitVec.setWidth_eq]; rfl
theorem nar_dig {r p : Nat} (hr : r < 2 ^ 63) (hp : p < 2 ^ 63) : nar .char (((48 : Int32) + ((Int64.ofNat r / Int64.ofNat p) % (10 : Int64)).toInt32).toUInt32.toUInt16.toUInt32.toInt32) = chd (r / p % 10) := by
  have hq : r / p < 2 ^ 63 := Nat.lt_of_le_of_lt (Nat.div_le_self r p) hr
  have e1 : (Int64.ofNat r / Int64.ofNat p) % (10 : Int64) = Int64.ofNat (r / p % 10) := by
    rw [← Int64.ofNat_div hr hp, Int64.ofNat_mod hq (by decide)]; rfl
  rw [e1, Int64.toInt32_ofNat']
  have h9 : r / p % 10 < 10 := Nat.mod_lt _ (by decide)
  have : ∀ d : Fin 10, nar .char (((48 : Int32) + Int32.ofNat d.val).toUInt32.toUInt16.toUInt32.toInt32) = chd d.val := by decide +kernel
  exact this ⟨r / p % 10, h9⟩
theorem a15 (x : Int32) : ∃ S : Nat, S ≤ 9 ∧ (x &&& 15) % 10 = Int32.ofNat S := by
  obtain ⟨k, e⟩ := andk x 15 16 (by decide)
  have : ∀ k : Fin 16, (Int32.ofNat k.val) % 10 = Int32.ofNat (k.val % 10) := by decide +kernel
  exact ⟨k.val % 10, by omega, by rw [e]; exact this k⟩
theorem a3r (x : Int32) : ∃ K : Nat, K ≤ 2 ∧ (x &&& 3) % 3 = Int32.ofNat K := by
  obtain ⟨k, e⟩ := andk x 3 4 (by decide)
  have : ∀ k : Fin 4, (Int32.ofNat k.val) % 3 = Int32.ofNat (k.val % 3) := by decide +kernel
  exact ⟨k.val % 3, by omega, by rw [e]; exact this k⟩
theorem a3 (x : Int32) : ∃ m : Nat, m ≤ 3 ∧ x &&& 3 = Int32.ofNat m := by
  obtain ⟨k, e⟩ := andk x 3 4 (by decide)
  exact ⟨k.val, by have := k.isLt; omega, e⟩
theorem a31 (x : Int32) : ∃ m : Nat, m ≤ 31 ∧ x &&& 31 = Int32.ofNat m := by
  obtain ⟨k, e⟩ := andk x 31 32 (by decide)
  exact ⟨k.val, by have := k.isLt; omega, e⟩
theorem subN {a b : Nat} (h : b ≤ a) : Int32.ofNat a - Int32.ofNat b = Int32.ofNat (a - b) := (Int32.ofNat_sub a b h).symm
theorem nd10 {c : Int32} (h0 : ¬ c < 48) (h1 : ¬ (57 : Int32) < c) : (c + (10 : Int32)).toUInt32.toUInt16.toUInt32.toInt32 < 48 ∨ (57 : Int32) < (c + (10 : Int32)).toUInt32.toUInt16.toUInt32.toInt32 := by
  obtain ⟨d, hd, rfl⟩ := dig_of (fun z => z.elim h0 h1)
  have : ∀ d : Fin 10, ((chd d.val + (10 : Int32)).toUInt32.toUInt16.toUInt32.toInt32 < 48 ∨ (57 : Int32) < (chd d.val + (10 : Int32)).toUInt32.toUInt16.toUInt32.toInt32) := by decide +kernel
  exact this ⟨d, by omega⟩
theorem above_ok {C V sd p : Nat} (hC : C < 2 ^ 63) (hV : V < 2 ^ 63) (hs : sd ≤ 99) (hp : p = 1 ∨ p = 10 ∨ p = 100) (q : ¬ XT.cmpL (Int64.ofNat C) (Int64.ofNat sd) < 0) : (0 < XT.cmpL (Int64.ofNat V) ((Int64.ofNat C - Int64.ofNat sd) / Int64.ofNat p)) ↔ C < V * p + sd := by
  rw [c64n hC (by omega)] at q
  have p63 : p < 2 ^ 63 := by rcases hp with rfl | rfl | rfl <;> decide
  rw [← Int64.ofNat_sub _ _ (by omega), ← Int64.ofNat_div (by omega) p63, c64 hV (Nat.lt_of_le_of_lt (Nat.div_le_self _ _) (by omega))]
  rcases hp with rfl | rfl | rfl <;> omega
theorem p10v {k : Nat} (hk : k < 19) : ([Value.long (1 : Int64), Value.long (10 : Int64), Value.long (100 : Int64), Value.long (1000 : Int64), Value.long (10000 : Int64), Value.long (100000 : Int64), Value.long (1000000 : Int64), Value.long (10000000 : Int64), Value.long (100000000 : Int64), Value.long (1000000000 : Int64), Value.long (10000000000 : Int64), Value.long (100000000000 : Int64), Value.long (1000000000000 : Int64), Value.long (10000000000000 : Int64), Value.long (100000000000000 : Int64), Value.long (1000000000000000 : Int64), Value.long (10000000000000000 : Int64), Value.long (100000000000000000 : Int64), Value.long (1000000000000000000 : Int64)]).getD k (.long 0) = .long (Int64.ofNat (10 ^ k)) := by
  have : k = 0 ∨ k = 1 ∨ k = 2 ∨ k = 3 ∨ k = 4 ∨ k = 5 ∨ k = 6 ∨ k = 7 ∨ k = 8 ∨ k = 9 ∨ k = 10 ∨ k = 11 ∨ k = 12 ∨ k = 13 ∨ k = 14 ∨ k = 15 ∨ k = 16 ∨ k = 17 ∨ k = 18 := by omega
  rcases this with rfl | rfl | rfl | rfl | rfl | rfl | rfl | rfl | rfl | rfl | rfl | rfl | rfl | rfl | rfl | rfl | rfl | rfl | rfl <;> rfl
theorem c48 {d : Nat} (h : d ≤ 9) : ((48 : Int32) + Int32.ofNat d).toUInt32.toUInt16.toUInt32.toInt32 = chd d := by
  have : ∀ d : Fin 10, ((48 : Int32) + Int32.ofNat d.val).toUInt32.toUInt16.toUInt32.toInt32 = chd d.val := by decide +kernel
  exact this ⟨d, by omega⟩
theorem b8c {d : Nat} (h : d ≤ 9) : b8 (chd d) := by
  have : ∀ d : Fin 10, b8 (chd d.val) := by unfold b8; decide +kernel
  exact this ⟨d, by omega⟩
theorem m9 (n : Nat) : n % 10 ≤ 9 := by omega
theorem latd {ds : List Nat} (h : ∀ d ∈ ds, d ≤ 9) : lat (ds.map chd) := fun c hc => by
  obtain ⟨d, hd, rfl⟩ := List.mem_map.mp hc
  exact b8c (h d hd)
theorem rep0 (n m i : Nat) : ((List.replicate n (0 : Int32)).map Value.int).getD i (.int 0) = (List.replicate m (Value.int 0)).getD i (.int 0) := by
  rw [List.map_replicate]
  simp only [List.getD_eq_getElem?_getD, List.getElem?_replicate]
  split <;> split <;> rfl
theorem modN {n k : Nat} (h : n < 2 ^ 31) (hk : k < 2 ^ 31) : Int32.ofNat n % Int32.ofNat k = Int32.ofNat (n % k) := (Int32.ofNat_mod h hk).symm
theorem ltN {a b : Nat} (ha : a ≤ 4000) (hb : b ≤ 4000) : Int32.ofNat a < Int32.ofNat b ↔ a < b := by
  rw [Int32.lt_iff_toInt_lt, i32 ha, i32 hb]; omega
theorem ix {O N K j : Nat} (hO : O ≤ 1) (hN : N ≤ 19) (hK : K ≤ 2) (hj : j < N) : (¬ Int32.ofNat (O + N - (j + 1)) < 0 ∧ Int32.ofNat (O + N - (j + 1)) < Int32.ofNat (O + N + K)) ∧ (Int32.ofNat (O + N - (j + 1))).toNatClampNeg = O + N - (j + 1) ∧ O + N - (j + 1) < O + N + K ∧ (Int32.ofNat O + Int32.ofNat N) - Int32.ofNat (j + 1) = Int32.ofNat (O + N - (j + 1)) :=
  ⟨nlt (by omega) (by omega), clampk (by omega), by omega, by rw [addN]; exact subN (by omega)⟩
theorem iz {O N K j : Nat} (hO : O ≤ 1) (hN : N ≤ 19) (hK : K ≤ 2) (hj : j < O + N + K) : (¬ Int32.ofNat j < 0 ∧ Int32.ofNat j < Int32.ofNat (O + N + K)) ∧ (Int32.ofNat j).toNatClampNeg = j :=
  ⟨nlt (by omega) hj, clampk (by omega)⟩
theorem ag_step {O N K j : Nat} {vs T : List Int32} {x : Int32} (hj : j < N) (lv : vs.length = O + N + K) (hx : x = T.getD (O + N - (j + 1)) 0) (ag : ∀ i, (i < O ∨ (O + N - min j N ≤ i ∧ i < O + N)) → vs.getD i 0 = T.getD i 0) : ∀ i, (i < O ∨ (O + N - min (j + 1) N ≤ i ∧ i < O + N)) → (vs.set (O + N - (j + 1)) x).getD i 0 = T.getD i 0 := ag_set (by omega) hx ag (fun i hi => by omega)
theorem ag_skip {O N j : Nat} {vs T : List Int32} (hj : ¬ j < N) (ag : ∀ i, (i < O ∨ (O + N - min j N ≤ i ∧ i < O + N)) → vs.getD i 0 = T.getD i 0) : ∀ i, (i < O ∨ (O + N - min (j + 1) N ≤ i ∧ i < O + N)) → vs.getD i 0 = T.getD i 0 := fun i hi => ag i (by omega)
theorem ag_zero {O N K : Nat} {vs T : List Int32} (hO : O = 1) (lv : vs.length = O + N + K) (hx : (48 : Int32) = T.getD 0 0) : ∀ i, (i < O ∨ (O + N - min 0 N ≤ i ∧ i < O + N)) → (vs.set 0 48).getD i 0 = T.getD i 0 := ag_set (p := fun _ => False) (by omega) hx (fun i hi => hi.elim) (fun i hi => by omega)
theorem ag_s1 {O N K : Nat} {vs T : List Int32} {x : Int32} (hN : N ≤ 19) (hj : 0 < K) (lv : vs.length = O + N + K) (hx : x = T.getD (O + N) 0) (ag : ∀ i, (i < O ∨ (O + N - min 19 N ≤ i ∧ i < O + N)) → vs.getD i 0 = T.getD i 0) : ∀ i, (i < O + N + min 1 K) → (vs.set (O + N) x).getD i 0 = T.getD i 0 := ag_set (by omega) hx ag (fun i hi => by omega)
theorem ag_n1 {O N K : Nat} {vs T : List Int32} (hN : N ≤ 19) (hj : ¬ 0 < K) (ag : ∀ i, (i < O ∨ (O + N - min 19 N ≤ i ∧ i < O + N)) → vs.getD i 0 = T.getD i 0) : ∀ i, (i < O + N + min 1 K) → vs.getD i 0 = T.getD i 0 := fun i hi => ag i (by omega)
theorem ag_s2 {O N K : Nat} {vs T : List Int32} {x : Int32} (hj : 1 < K) (lv : vs.length = O + N + K) (hx : x = T.getD (O + N + 1) 0) (ag : ∀ i, (i < O + N + min 1 K) → vs.getD i 0 = T.getD i 0) : ∀ i, (i < O + N + min 2 K) → (vs.set (O + N + 1) x).getD i 0 = T.getD i 0 := ag_set (by omega) hx ag (fun i hi => by omega)
theorem ag_n2 {O N K : Nat} {vs T : List Int32} (hj : ¬ 1 < K) (ag : ∀ i, (i < O + N + min 1 K) → vs.getD i 0 = T.getD i 0) : ∀ i, (i < O + N + min 2 K) → vs.getD i 0 = T.getD i 0 := fun i hi => ag i (by omega)
theorem ag_fin {O N K : Nat} {vs T : List Int32} (hK : K ≤ 2) (lv : vs.length = O + N + K) (ag : ∀ i, (i < O + N + min 2 K) → vs.getD i 0 = T.getD i 0) : ∀ i, i < vs.length → vs.getD i 0 = T.getD i 0 := fun i hi => ag i (by omega)
theorem sd1 {S : Nat} (h : S ≤ 9) : (Int32.ofNat S).toInt64 = Int64.ofNat S := by
  have : ∀ d : Fin 10, (Int32.ofNat d.val).toInt64 = Int64.ofNat d.val := by decide +kernel
  exact this ⟨S, by omega⟩
theorem sd2 {S1 S2 : Nat} (h1 : S1 ≤ 9) (h2 : S2 ≤ 9) : (Int32.ofNat S1).toInt64 * (10 : Int64) + (Int32.ofNat S2).toInt64 = Int64.ofNat (S1 * 10 + S2) := by
  rw [sd1 h1, sd1 h2, Int64.ofNat_add, Int64.ofNat_mul]; rfl
set_option maxRecDepth 65536 in
set_option maxHeartbeats 4000000 in
theorem p10C (l : Launch) (Z : State) (a0 : Array Value) (n0 : Nat) (h : Heap) (k : Nat) (hk : k < 19) :
    Ct l Z a0 consts_1 tables_1 [] n0 ⟨"com/example/mynah/mynah/PlainDecimalParseCappedPinLaw", "p10", "(I)J"⟩ method_2_code 2 (some (.long)) ({ frames := 0, cells := 1, slots := 19, locals := 0 } : Room) #[.int (Int32.ofNat k)] h (fun v h' => Keep h h' [] ∧ v = some (.long (Int64.ofNat (10 ^ k)))) := by
  refine Ct.of_body pn7 (L0 := #[.val (.int (Int32.ofNat k)), .unset]) (fun m => by exact ef_of rfl) (fun hEL hw hO => ?_)
  refine G.seg [(0, .bipush 19, 2)] (by decide +kernel) (pc' := 2) (L' := #[.val (.int (Int32.ofNat k)), .unset]) (S' := [.int (19 : Int32)]) rfl ?_
  refine G.newarr (aty := .long) (ty := .long) (cap := 19) rfl (by decide +kernel) (tw 9 rfl) (by decide) (lb rfl) (lb rfl) (lb rfl) (lb rfl) ?_
  intro h1 a1 k1 g1 n1 K1 A1
  refine G.seg [(4, .dup, 1), (5, .iconst 0, 1), (6, .lconst 1, 1)] (by decide +kernel) (pc' := 7) (L' := #[.val (.int (Int32.ofNat k)), .unset]) (S' := [.long (1 : Int64), .int (0 : Int32), .ref a1, .ref a1]) rfl ?_
  refine G.lastore (i := 0) (by decide +kernel) A1 n1 ⟨by decide, by decide⟩ rfl (lb rfl) ?_
  intro h2 K2 A2
  have KA2 := Keep.trans K1 K2 (allS (Or.inr (Nat.le_of_eq g1.symm)) all0)
  replace A2 : Arv Z h2 a1 k1 .long (19 : Int32) [.long (1 : Int64), .long 0, .long 0, .long 0, .long 0, .long 0, .long 0, .long 0, .long 0, .long 0, .long 0, .long 0, .long 0, .long 0, .long 0, .long 0, .long 0, .long 0, .long 0] (.long 0) := A2
  refine G.seg [(8, .dup, 1), (9, .iconst 1, 1)] (by decide +kernel) (pc' := 10) (L' := #[.val (.int (Int32.ofNat k)), .unset]) (S' := [.int (1 : Int32), .ref a1, .ref a1]) rfl ?_
  refine G.ldcJ (by decide +kernel) (tw 10 rfl) ?_
  refine G.lastore (i := 1) (by decide +kernel) A2 n1 ⟨by decide, by decide⟩ rfl (lb rfl) ?_
  intro h3 K3 A3
  have KA3 := Keep.trans KA2 K3 (allS (Or.inr (Nat.le_of_eq g1.symm)) all0)
  replace A3 : Arv Z h3 a1 k1 .long (19 : Int32) [.long (1 : Int64), .long (10 : Int64), .long 0, .long 0, .long 0, .long 0, .long 0, .long 0, .long 0, .long 0, .long 0, .long 0, .long 0, .long 0, .long 0, .long 0, .long 0, .long 0, .long 0] (.long 0) := A3
  refine G.seg [(14, .dup, 1), (15, .iconst 2, 1)] (by decide +kernel) (pc' := 16) (L' := #[.val (.int (Int32.ofNat k)), .unset]) (S' := [.int (2 : Int32), .ref a1, .ref a1]) rfl ?_
  refine G.ldcJ (by decide +kernel) (tw 11 rfl) ?_
  refine G.lastore (i := 2) (by decide +kernel) A3 n1 ⟨by decide, by decide⟩ rfl (lb rfl) ?_
  intro h4 K4 A4
  have KA4 := Keep.trans KA3 K4 (allS (Or.inr (Nat.le_of_eq g1.symm)) all0)
  replace A4 : Arv Z h4 a1 k1 .long (19 : Int32) [.long (1 : Int64), .long (10 : Int64), .long (100 : Int64), .long 0, .long 0, .long 0, .long 0, .long 0, .long 0, .long 0, .long 0, .long 0, .long 0, .long 0, .long 0, .long 0, .long 0, .long 0, .long 0] (.long 0) := A4
  refine G.seg [(20, .dup, 1), (21, .iconst 3, 1)] (by decide +kernel) (pc' := 22) (L' := #[.val (.int (Int32.ofNat k)), .unset]) (S' := [.int (3 : Int32), .ref a1, .ref a1]) rfl ?_
  refine G.ldcJ (by decide +kernel) (tw 12 rfl) ?_
  refine G.lastore (i := 3) (by decide +kernel) A4 n1 ⟨by decide, by decide⟩ rfl (lb rfl) ?_
  intro h5 K5 A5
  have KA5 := Keep.trans KA4 K5 (allS (Or.inr (Nat.le_of_eq g1.symm)) all0)
  replace A5 : Arv Z h5 a1 k1 .long (19 : Int32) [.long (1 : Int64), .long (10 : Int64), .long (100 : Int64), .long (1000 : Int64), .long 0, .long 0, .long 0, .long 0, .long 0, .long 0, .long 0, .long 0, .long 0, .long 0, .long 0, .long 0, .long 0, .long 0, .long 0] (.long 0) := A5
  refine G.seg [(26, .dup, 1), (27, .iconst 4, 1)] (by decide +kernel) (pc' := 28) (L' := #[.val (.int (Int32.ofNat k)), .unset]) (S' := [.int (4 : Int32), .ref a1, .ref a1]) rfl ?_
  refine G.ldcJ (by decide +kernel) (tw 13 rfl) ?_
  refine G.lastore (i := 4) (by decide +kernel) A5 n1 ⟨by decide, by decide⟩ rfl (lb rfl) ?_
  intro h6 K6 A6
  have KA6 := Keep.trans KA5 K6 (allS (Or.inr (Nat.le_of_eq g1.symm)) all0)
  replace A6 : Arv Z h6 a1 k1 .long (19 : Int32) [.long (1 : Int64), .long (10 : Int64), .long (100 : Int64), .long (1000 : Int64), .long (10000 : Int64), .long 0, .long 0, .long 0, .long 0, .long 0, .long 0, .long 0, .long 0, .long 0, .long 0, .long 0, .long 0, .long 0, .long 0] (.long 0) := A6
  refine G.seg [(32, .dup, 1), (33, .iconst 5, 1)] (by decide +kernel) (pc' := 34) (L' := #[.val (.int (Int32.ofNat k)), .unset]) (S' := [.int (5 : Int32), .ref a1, .ref a1]) rfl ?_
  refine G.ldcJ (by decide +kernel) (tw 14 rfl) ?_
  refine G.lastore (i := 5) (by decide +kernel) A6 n1 ⟨by decide, by decide⟩ rfl (lb rfl) ?_
  intro h7 K7 A7
  have KA7 := Keep.trans KA6 K7 (allS (Or.inr (Nat.le_of_eq g1.symm)) all0)
  replace A7 : Arv Z h7 a1 k1 .long (19 : Int32) [.long (1 : Int64), .long (10 : Int64), .long (100 : Int64), .long (1000 : Int64), .long (10000 : Int64), .long (100000 : Int64), .long 0, .long 0, .long 0, .long 0, .long 0, .long 0, .long 0, .long 0, .long 0, .long 0, .long 0, .long 0, .long 0] (.long 0) := A7
  refine G.seg [(38, .dup, 1), (39, .bipush 6, 2)] (by decide +kernel) (pc' := 41) (L' := #[.val (.int (Int32.ofNat k)), .unset]) (S' := [.int (6 : Int32), .ref a1, .ref a1]) rfl ?_
  refine G.ldcJ (by decide +kernel) (tw 15 rfl) ?_
  refine G.lastore (i := 6) (by decide +kernel) A7 n1 ⟨by decide, by decide⟩ rfl (lb rfl) ?_
  intro h8 K8 A8
  have KA8 := Keep.trans KA7 K8 (allS (Or.inr (Nat.le_of_eq g1.symm)) all0)
  replace A8 : Arv Z h8 a1 k1 .long (19 : Int32) [.long (1 : Int64), .long (10 : Int64), .long (100 : Int64), .long (1000 : Int64), .long (10000 : Int64), .long (100000 : Int64), .long (1000000 : Int64), .long 0, .long 0, .long 0, .long 0, .long 0, .long 0, .long 0, .long 0, .long 0, .long 0, .long 0, .long 0] (.long 0) := A8
  refine G.seg [(45, .dup, 1), (46, .bipush 7, 2)] (by decide +kernel) (pc' := 48) (L' := #[.val (.int (Int32.ofNat k)), .unset]) (S' := [.int (7 : Int32), .ref a1, .ref a1]) rfl ?_
  refine G.ldcJ (by decide +kernel) (tw 16 rfl) ?_
  refine G.lastore (i := 7) (by decide +kernel) A8 n1 ⟨by decide, by decide⟩ rfl (lb rfl) ?_
  intro h9 K9 A9
  have KA9 := Keep.trans KA8 K9 (allS (Or.inr (Nat.le_of_eq g1.symm)) all0)
  replace A9 : Arv Z h9 a1 k1 .long (19 : Int32) [.long (1 : Int64), .long (10 : Int64), .long (100 : Int64), .long (1000 : Int64), .long (10000 : Int64), .long (100000 : Int64), .long (1000000 : Int64), .long (10000000 : Int64), .long 0, .long 0, .long 0, .long 0, .long 0, .long 0, .long 0, .long 0, .long 0, .long 0, .long 0] (.long 0) := A9
  refine G.seg [(52, .dup, 1), (53, .bipush 8, 2)] (by decide +kernel) (pc' := 55) (L' := #[.val (.int (Int32.ofNat k)), .unset]) (S' := [.int (8 : Int32), .ref a1, .ref a1]) rfl ?_
  refine G.ldcJ (by decide +kernel) (tw 17 rfl) ?_
  refine G.lastore (i := 8) (by decide +kernel) A9 n1 ⟨by decide, by decide⟩ rfl (lb rfl) ?_
  intro h10 K10 A10
  have KA10 := Keep.trans KA9 K10 (allS (Or.inr (Nat.le_of_eq g1.symm)) all0)
  replace A10 : Arv Z h10 a1 k1 .long (19 : Int32) [.long (1 : Int64), .long (10 : Int64), .long (100 : Int64), .long (1000 : Int64), .long (10000 : Int64), .long (100000 : Int64), .long (1000000 : Int64), .long (10000000 : Int64), .long (100000000 : Int64), .long 0, .long 0, .long 0, .long 0, .long 0, .long 0, .long 0, .long 0, .long 0, .long 0] (.long 0) := A10
  refine G.seg [(59, .dup, 1), (60, .bipush 9, 2)] (by decide +kernel) (pc' := 62) (L' := #[.val (.int (Int32.ofNat k)), .unset]) (S' := [.int (9 : Int32), .ref a1, .ref a1]) rfl ?_
  refine G.ldcJ (by decide +kernel) (tw 18 rfl) ?_
  refine G.lastore (i := 9) (by decide +kernel) A10 n1 ⟨by decide, by decide⟩ rfl (lb rfl) ?_
  intro h11 K11 A11
  have KA11 := Keep.trans KA10 K11 (allS (Or.inr (Nat.le_of_eq g1.symm)) all0)
  replace A11 : Arv Z h11 a1 k1 .long (19 : Int32) [.long (1 : Int64), .long (10 : Int64), .long (100 : Int64), .long (1000 : Int64), .long (10000 : Int64), .long (100000 : Int64), .long (1000000 : Int64), .long (10000000 : Int64), .long (100000000 : Int64), .long (1000000000 : Int64), .long 0, .long 0, .long 0, .long 0, .long 0, .long 0, .long 0, .long 0, .long 0] (.long 0) := A11
  refine G.seg [(66, .dup, 1), (67, .bipush 10, 2)] (by decide +kernel) (pc' := 69) (L' := #[.val (.int (Int32.ofNat k)), .unset]) (S' := [.int (10 : Int32), .ref a1, .ref a1]) rfl ?_
  refine G.ldcJ (by decide +kernel) (tw 19 rfl) ?_
  refine G.lastore (i := 10) (by decide +kernel) A11 n1 ⟨by decide, by decide⟩ rfl (lb rfl) ?_
  intro h12 K12 A12
  have KA12 := Keep.trans KA11 K12 (allS (Or.inr (Nat.le_of_eq g1.symm)) all0)
  replace A12 : Arv Z h12 a1 k1 .long (19 : Int32) [.long (1 : Int64), .long (10 : Int64), .long (100 : Int64), .long (1000 : Int64), .long (10000 : Int64), .long (100000 : Int64), .long (1000000 : Int64), .long (10000000 : Int64), .long (100000000 : Int64), .long (1000000000 : Int64), .long (10000000000 : Int64), .long 0, .long 0, .long 0, .long 0, .long 0, .long 0, .long 0, .long 0] (.long 0) := A12
  refine G.seg [(73, .dup, 1), (74, .bipush 11, 2)] (by decide +kernel) (pc' := 76) (L' := #[.val (.int (Int32.ofNat k)), .unset]) (S' := [.int (11 : Int32), .ref a1, .ref a1]) rfl ?_
  refine G.ldcJ (by decide +kernel) (tw 20 rfl) ?_
  refine G.lastore (i := 11) (by decide +kernel) A12 n1 ⟨by decide, by decide⟩ rfl (lb rfl) ?_
  intro h13 K13 A13
  have KA13 := Keep.trans KA12 K13 (allS (Or.inr (Nat.le_of_eq g1.symm)) all0)
  replace A13 : Arv Z h13 a1 k1 .long (19 : Int32) [.long (1 : Int64), .long (10 : Int64), .long (100 : Int64), .long (1000 : Int64), .long (10000 : Int64), .long (100000 : Int64), .long (1000000 : Int64), .long (10000000 : Int64), .long (100000000 : Int64), .long (1000000000 : Int64), .long (10000000000 : Int64), .long (100000000000 : Int64), .long 0, .long 0, .long 0, .long 0, .long 0, .long 0, .long 0] (.long 0) := A13
  refine G.seg [(80, .dup, 1), (81, .bipush 12, 2)] (by decide +kernel) (pc' := 83) (L' := #[.val (.int (Int32.ofNat k)), .unset]) (S' := [.int (12 : Int32), .ref a1, .ref a1]) rfl ?_
  refine G.ldcJ (by decide +kernel) (tw 21 rfl) ?_
  refine G.lastore (i := 12) (by decide +kernel) A13 n1 ⟨by decide, by decide⟩ rfl (lb rfl) ?_
  intro h14 K14 A14
  have KA14 := Keep.trans KA13 K14 (allS (Or.inr (Nat.le_of_eq g1.symm)) all0)
  replace A14 : Arv Z h14 a1 k1 .long (19 : Int32) [.long (1 : Int64), .long (10 : Int64), .long (100 : Int64), .long (1000 : Int64), .long (10000 : Int64), .long (100000 : Int64), .long (1000000 : Int64), .long (10000000 : Int64), .long (100000000 : Int64), .long (1000000000 : Int64), .long (10000000000 : Int64), .long (100000000000 : Int64), .long (1000000000000 : Int64), .long 0, .long 0, .long 0, .long 0, .long 0, .long 0] (.long 0) := A14
  refine G.seg [(87, .dup, 1), (88, .bipush 13, 2)] (by decide +kernel) (pc' := 90) (L' := #[.val (.int (Int32.ofNat k)), .unset]) (S' := [.int (13 : Int32), .ref a1, .ref a1]) rfl ?_
  refine G.ldcJ (by decide +kernel) (tw 22 rfl) ?_
  refine G.lastore (i := 13) (by decide +kernel) A14 n1 ⟨by decide, by decide⟩ rfl (lb rfl) ?_
  intro h15 K15 A15
  have KA15 := Keep.trans KA14 K15 (allS (Or.inr (Nat.le_of_eq g1.symm)) all0)
  replace A15 : Arv Z h15 a1 k1 .long (19 : Int32) [.long (1 : Int64), .long (10 : Int64), .long (100 : Int64), .long (1000 : Int64), .long (10000 : Int64), .long (100000 : Int64), .long (1000000 : Int64), .long (10000000 : Int64), .long (100000000 : Int64), .long (1000000000 : Int64), .long (10000000000 : Int64), .long (100000000000 : Int64), .long (1000000000000 : Int64), .long (10000000000000 : Int64), .long 0, .long 0, .long 0, .long 0, .long 0] (.long 0) := A15
  refine G.seg [(94, .dup, 1), (95, .bipush 14, 2)] (by decide +kernel) (pc' := 97) (L' := #[.val (.int (Int32.ofNat k)), .unset]) (S' := [.int (14 : Int32), .ref a1, .ref a1]) rfl ?_
  refine G.ldcJ (by decide +kernel) (tw 23 rfl) ?_
  refine G.lastore (i := 14) (by decide +kernel) A15 n1 ⟨by decide, by decide⟩ rfl (lb rfl) ?_
  intro h16 K16 A16
  have KA16 := Keep.trans KA15 K16 (allS (Or.inr (Nat.le_of_eq g1.symm)) all0)
  replace A16 : Arv Z h16 a1 k1 .long (19 : Int32) [.long (1 : Int64), .long (10 : Int64), .long (100 : Int64), .long (1000 : Int64), .long (10000 : Int64), .long (100000 : Int64), .long (1000000 : Int64), .long (10000000 : Int64), .long (100000000 : Int64), .long (1000000000 : Int64), .long (10000000000 : Int64), .long (100000000000 : Int64), .long (1000000000000 : Int64), .long (10000000000000 : Int64), .long (100000000000000 : Int64), .long 0, .long 0, .long 0, .long 0] (.long 0) := A16
  refine G.seg [(101, .dup, 1), (102, .bipush 15, 2)] (by decide +kernel) (pc' := 104) (L' := #[.val (.int (Int32.ofNat k)), .unset]) (S' := [.int (15 : Int32), .ref a1, .ref a1]) rfl ?_
  refine G.ldcJ (by decide +kernel) (tw 24 rfl) ?_
  refine G.lastore (i := 15) (by decide +kernel) A16 n1 ⟨by decide, by decide⟩ rfl (lb rfl) ?_
  intro h17 K17 A17
  have KA17 := Keep.trans KA16 K17 (allS (Or.inr (Nat.le_of_eq g1.symm)) all0)
  replace A17 : Arv Z h17 a1 k1 .long (19 : Int32) [.long (1 : Int64), .long (10 : Int64), .long (100 : Int64), .long (1000 : Int64), .long (10000 : Int64), .long (100000 : Int64), .long (1000000 : Int64), .long (10000000 : Int64), .long (100000000 : Int64), .long (1000000000 : Int64), .long (10000000000 : Int64), .long (100000000000 : Int64), .long (1000000000000 : Int64), .long (10000000000000 : Int64), .long (100000000000000 : Int64), .long (1000000000000000 : Int64), .long 0, .long 0, .long 0] (.long 0) := A17
  refine G.seg [(108, .dup, 1), (109, .bipush 16, 2)] (by decide +kernel) (pc' := 111) (L' := #[.val (.int (Int32.ofNat k)), .unset]) (S' := [.int (16 : Int32), .ref a1, .ref a1]) rfl ?_
  refine G.ldcJ (by decide +kernel) (tw 25 rfl) ?_
  refine G.lastore (i := 16) (by decide +kernel) A17 n1 ⟨by decide, by decide⟩ rfl (lb rfl) ?_
  intro h18 K18 A18
  have KA18 := Keep.trans KA17 K18 (allS (Or.inr (Nat.le_of_eq g1.symm)) all0)
  replace A18 : Arv Z h18 a1 k1 .long (19 : Int32) [.long (1 : Int64), .long (10 : Int64), .long (100 : Int64), .long (1000 : Int64), .long (10000 : Int64), .long (100000 : Int64), .long (1000000 : Int64), .long (10000000 : Int64), .long (100000000 : Int64), .long (1000000000 : Int64), .long (10000000000 : Int64), .long (100000000000 : Int64), .long (1000000000000 : Int64), .long (10000000000000 : Int64), .long (100000000000000 : Int64), .long (1000000000000000 : Int64), .long (10000000000000000 : Int64), .long 0, .long 0] (.long 0) := A18
  refine G.seg [(115, .dup, 1), (116, .bipush 17, 2)] (by decide +kernel) (pc' := 118) (L' := #[.val (.int (Int32.ofNat k)), .unset]) (S' := [.int (17 : Int32), .ref a1, .ref a1]) rfl ?_
  refine G.ldcJ (by decide +kernel) (tw 26 rfl) ?_
  refine G.lastore (i := 17) (by decide +kernel) A18 n1 ⟨by decide, by decide⟩ rfl (lb rfl) ?_
  intro h19 K19 A19
  have KA19 := Keep.trans KA18 K19 (allS (Or.inr (Nat.le_of_eq g1.symm)) all0)
  replace A19 : Arv Z h19 a1 k1 .long (19 : Int32) [.long (1 : Int64), .long (10 : Int64), .long (100 : Int64), .long (1000 : Int64), .long (10000 : Int64), .long (100000 : Int64), .long (1000000 : Int64), .long (10000000 : Int64), .long (100000000 : Int64), .long (1000000000 : Int64), .long (10000000000 : Int64), .long (100000000000 : Int64), .long (1000000000000 : Int64), .long (10000000000000 : Int64), .long (100000000000000 : Int64), .long (1000000000000000 : Int64), .long (10000000000000000 : Int64), .long (100000000000000000 : Int64), .long 0] (.long 0) := A19
  refine G.seg [(122, .dup, 1), (123, .bipush 18, 2)] (by decide +kernel) (pc' := 125) (L' := #[.val (.int (Int32.ofNat k)), .unset]) (S' := [.int (18 : Int32), .ref a1, .ref a1]) rfl ?_
  refine G.ldcJ (by decide +kernel) (tw 27 rfl) ?_
  refine G.lastore (i := 18) (by decide +kernel) A19 n1 ⟨by decide, by decide⟩ rfl (lb rfl) ?_
  intro h20 K20 A20
  have KA20 := Keep.trans KA19 K20 (allS (Or.inr (Nat.le_of_eq g1.symm)) all0)
  replace A20 : Arv Z h20 a1 k1 .long (19 : Int32) [.long (1 : Int64), .long (10 : Int64), .long (100 : Int64), .long (1000 : Int64), .long (10000 : Int64), .long (100000 : Int64), .long (1000000 : Int64), .long (10000000 : Int64), .long (100000000 : Int64), .long (1000000000 : Int64), .long (10000000000 : Int64), .long (100000000000 : Int64), .long (1000000000000 : Int64), .long (10000000000000 : Int64), .long (100000000000000 : Int64), .long (1000000000000000 : Int64), .long (10000000000000000 : Int64), .long (100000000000000000 : Int64), .long (1000000000000000000 : Int64)] (.long 0) := A20
  refine G.seg [(129, .astore_n 1, 1)] (by decide +kernel) (pc' := 130) (L' := #[.val (.int (Int32.ofNat k)), .val (.ref a1)]) (S' := []) rfl ?_
  refine G.seg [(130, .aload_n 1, 1), (131, .iload_n 0, 1)] (by decide +kernel) (pc' := 132) (L' := #[.val (.int (Int32.ofNat k)), .val (.ref a1)]) (S' := [.int (Int32.ofNat k), .ref a1]) rfl ?_
  refine G.laload (v := .long (Int64.ofNat (10 ^ k))) (by decide +kernel) A20 (nlt (n := 19) (by decide) hk) (by rw [clampk (by omega)]; exact p10v hk) ?_
  exact G.retJ (by decide +kernel) rfl ⟨KA20, rfl⟩ (lb rfl) (lb rfl)

set_option maxRecDepth 65536 in
set_option maxHeartbeats 4000000 in
theorem dgtC (l : Launch) (Z : State) (a0 : Array Value) (n0 : Nat) (h : Heap) (V : Nat) (hV : V < 2 ^ 63) :
    Ct l Z a0 consts_1 tables_1 [] n0 ⟨"com/example/mynah/mynah/PlainDecimalParseCappedPinLaw", "digits", "(J)I"⟩ method_3_code 3 (some (.int)) ({ frames := 1, cells := 18, slots := 342, locals := 20 } : Room) #[.long (Int64.ofNat V)] h (fun v h' => Keep h h' [] ∧ v = some (.int (Int32.ofNat (dgs 18 V)))) := by
  refine Ct.of_body pn7 (L0 := #[.val (.long (Int64.ofNat V)), .second, .unset]) (fun m => by exact ef_of rfl) (fun hEL hw hO => ?_)
  refine G.seg [(0, .iconst 1, 1), (1, .istore_n 2, 1)] (by decide +kernel) (pc' := 2) (L' := #[.val (.long (Int64.ofNat V)), .second, .val (.int (1 : Int32))]) (S' := []) rfl ?_
  refine G.seg [(2, .lload_n 0, 1), (3, .iconst 1, 1)] (by decide +kernel) (pc' := 4) (L' := #[.val (.long (Int64.ofNat V)), .second, .val (.int (1 : Int32))]) (S' := [.int (1 : Int32), .long (Int64.ofNat V)]) rfl ?_
  refine G.static (y := ⟨"com/example/mynah/mynah/PlainDecimalParseCappedPinLaw", "p10", "(I)J"⟩) (argsL := [.int (1 : Int32)]) (rest := [.long (Int64.ofNat V)]) (W := 2) (by decide +kernel) (tw 6 rfl) (tw 7 rfl) (tw 4 rfl) (tw 8 rfl) (by decide) ((p10C l Z a0 n0 h 1 (by decide)).pays (tw 8 rfl) (tw 4 rfl) (lb rfl) (lb rfl)) (lenOf pd18 rfl) rfl (Nat.le_of_eq rfl) rfl (lb rfl) (lb rfl) ?_
  rintro _ h1 ⟨K1, rfl⟩
  have KK1 := Keep.trans (Keep.refl h []) K1 all0
  refine G.seg [(7, .lcmp, 1)] (by decide +kernel) (pc' := 8) (L' := #[.val (.long (Int64.ofNat V)), .second, .val (.int (1 : Int32))]) (S' := [.int (XT.cmpL (Int64.ofNat V) (Int64.ofNat (10 ^ 1)))]) rfl ?_
  refine G.join (fun z : Heap × Int32 => Keep h z.1 [] ∧ z.2 = Int32.ofNat (dgs 1 V)) (fun z => (z.1, 1, 19, 13, #[.val (.long (Int64.ofNat V)), .second, .val (.int z.2)], [])) ?_ ?_
  · intro J
    refine G.iflt (o := (5)) (pc' := 13) (by decide +kernel) (by decide) rfl ?_ ?_
    · intro q2
      exact J (_, (1 : Int32)) ⟨KK1, by rw [dgs_no (i := 0) hV (by decide) q2]; exact rfl⟩
    · intro q2
      refine G.seg [(11, .iconst 2, 1), (12, .istore_n 2, 1)] (by decide +kernel) (pc' := 13) (L' := #[.val (.long (Int64.ofNat V)), .second, .val (.int (2 : Int32))]) (S' := []) rfl ?_
      exact J (_, _) ⟨KK1, by rw [dgs_yes (i := 0) hV (by decide) q2]; rfl⟩
  rintro ⟨y1, m1⟩ ⟨KJ1, em1⟩
  dsimp only at KJ1 em1 ⊢
  refine G.seg [(13, .lload_n 0, 1), (14, .iconst 2, 1)] (by decide +kernel) (pc' := 15) (L' := #[.val (.long (Int64.ofNat V)), .second, .val (.int m1)]) (S' := [.int (2 : Int32), .long (Int64.ofNat V)]) rfl ?_
  refine G.static (y := ⟨"com/example/mynah/mynah/PlainDecimalParseCappedPinLaw", "p10", "(I)J"⟩) (argsL := [.int (2 : Int32)]) (rest := [.long (Int64.ofNat V)]) (W := 2) (by decide +kernel) (tw 6 rfl) (tw 7 rfl) (tw 4 rfl) (tw 8 rfl) (by decide) ((p10C l Z a0 n0 y1 2 (by decide)).pays (tw 8 rfl) (tw 4 rfl) (lb rfl) (lb rfl)) (lenOf pd18 rfl) rfl (Nat.le_of_eq rfl) rfl (lb rfl) (lb rfl) ?_
  rintro _ h3 ⟨K3, rfl⟩
  have KK3 := Keep.trans KJ1 K3 all0
  refine G.seg [(18, .lcmp, 1)] (by decide +kernel) (pc' := 19) (L' := #[.val (.long (Int64.ofNat V)), .second, .val (.int m1)]) (S' := [.int (XT.cmpL (Int64.ofNat V) (Int64.ofNat (10 ^ 2)))]) rfl ?_
  refine G.join (fun z : Heap × Int32 => Keep h z.1 [] ∧ z.2 = Int32.ofNat (dgs 2 V)) (fun z => (z.1, 2, 38, 24, #[.val (.long (Int64.ofNat V)), .second, .val (.int z.2)], [])) ?_ ?_
  · intro J
    refine G.iflt (o := (5)) (pc' := 24) (by decide +kernel) (by decide) rfl ?_ ?_
    · intro q4
      exact J (_, m1) ⟨KK3, by rw [dgs_no (i := 1) hV (by decide) q4]; exact em1⟩
    · intro q4
      refine G.seg [(22, .iconst 3, 1), (23, .istore_n 2, 1)] (by decide +kernel) (pc' := 24) (L' := #[.val (.long (Int64.ofNat V)), .second, .val (.int (3 : Int32))]) (S' := []) rfl ?_
      exact J (_, _) ⟨KK3, by rw [dgs_yes (i := 1) hV (by decide) q4]; rfl⟩
  rintro ⟨y2, m2⟩ ⟨KJ2, em2⟩
  dsimp only at KJ2 em2 ⊢
  refine G.seg [(24, .lload_n 0, 1), (25, .iconst 3, 1)] (by decide +kernel) (pc' := 26) (L' := #[.val (.long (Int64.ofNat V)), .second, .val (.int m2)]) (S' := [.int (3 : Int32), .long (Int64.ofNat V)]) rfl ?_
  refine G.static (y := ⟨"com/example/mynah/mynah/PlainDecimalParseCappedPinLaw", "p10", "(I)J"⟩) (argsL := [.int (3 : Int32)]) (rest := [.long (Int64.ofNat V)]) (W := 2) (by decide +kernel) (tw 6 rfl) (tw 7 rfl) (tw 4 rfl) (tw 8 rfl) (by decide) ((p10C l Z a0 n0 y2 3 (by decide)).pays (tw 8 rfl) (tw 4 rfl) (lb rfl) (lb rfl)) (lenOf pd18 rfl) rfl (Nat.le_of_eq rfl) rfl (lb rfl) (lb rfl) ?_
  rintro _ h5 ⟨K5, rfl⟩
  have KK5 := Keep.trans KJ2 K5 all0
  refine G.seg [(29, .lcmp, 1)] (by decide +kernel) (pc' := 30) (L' := #[.val (.long (Int64.ofNat V)), .second, .val (.int m2)]) (S' := [.int (XT.cmpL (Int64.ofNat V) (Int64.ofNat (10 ^ 3)))]) rfl ?_
  refine G.join (fun z : Heap × Int32 => Keep h z.1 [] ∧ z.2 = Int32.ofNat (dgs 3 V)) (fun z => (z.1, 3, 57, 35, #[.val (.long (Int64.ofNat V)), .second, .val (.int z.2)], [])) ?_ ?_
  · intro J
    refine G.iflt (o := (5)) (pc' := 35) (by decide +kernel) (by decide) rfl ?_ ?_
    · intro q6
      exact J (_, m2) ⟨KK5, by rw [dgs_no (i := 2) hV (by decide) q6]; exact em2⟩
    · intro q6
      refine G.seg [(33, .iconst 4, 1), (34, .istore_n 2, 1)] (by decide +kernel) (pc' := 35) (L' := #[.val (.long (Int64.ofNat V)), .second, .val (.int (4 : Int32))]) (S' := []) rfl ?_
      exact J (_, _) ⟨KK5, by rw [dgs_yes (i := 2) hV (by decide) q6]; rfl⟩
  rintro ⟨y3, m3⟩ ⟨KJ3, em3⟩
  dsimp only at KJ3 em3 ⊢
  refine G.seg [(35, .lload_n 0, 1), (36, .iconst 4, 1)] (by decide +kernel) (pc' := 37) (L' := #[.val (.long (Int64.ofNat V)), .second, .val (.int m3)]) (S' := [.int (4 : Int32), .long (Int64.ofNat V)]) rfl ?_
  refine G.static (y := ⟨"com/example/mynah/mynah/PlainDecimalParseCappedPinLaw", "p10", "(I)J"⟩) (argsL := [.int (4 : Int32)]) (rest := [.long (Int64.ofNat V)]) (W := 2) (by decide +kernel) (tw 6 rfl) (tw 7 rfl) (tw 4 rfl) (tw 8 rfl) (by decide) ((p10C l Z a0 n0 y3 4 (by decide)).pays (tw 8 rfl) (tw 4 rfl) (lb rfl) (lb rfl)) (lenOf pd18 rfl) rfl (Nat.le_of_eq rfl) rfl (lb rfl) (lb rfl) ?_
  rintro _ h7 ⟨K7, rfl⟩
  have KK7 := Keep.trans KJ3 K7 all0
  refine G.seg [(40, .lcmp, 1)] (by decide +kernel) (pc' := 41) (L' := #[.val (.long (Int64.ofNat V)), .second, .val (.int m3)]) (S' := [.int (XT.cmpL (Int64.ofNat V) (Int64.ofNat (10 ^ 4)))]) rfl ?_
  refine G.join (fun z : Heap × Int32 => Keep h z.1 [] ∧ z.2 = Int32.ofNat (dgs 4 V)) (fun z => (z.1, 4, 76, 46, #[.val (.long (Int64.ofNat V)), .second, .val (.int z.2)], [])) ?_ ?_
  · intro J
    refine G.iflt (o := (5)) (pc' := 46) (by decide +kernel) (by decide) rfl ?_ ?_
    · intro q8
      exact J (_, m3) ⟨KK7, by rw [dgs_no (i := 3) hV (by decide) q8]; exact em3⟩
    · intro q8
      refine G.seg [(44, .iconst 5, 1), (45, .istore_n 2, 1)] (by decide +kernel) (pc' := 46) (L' := #[.val (.long (Int64.ofNat V)), .second, .val (.int (5 : Int32))]) (S' := []) rfl ?_
      exact J (_, _) ⟨KK7, by rw [dgs_yes (i := 3) hV (by decide) q8]; rfl⟩
  rintro ⟨y4, m4⟩ ⟨KJ4, em4⟩
  dsimp only at KJ4 em4 ⊢
  refine G.seg [(46, .lload_n 0, 1), (47, .iconst 5, 1)] (by decide +kernel) (pc' := 48) (L' := #[.val (.long (Int64.ofNat V)), .second, .val (.int m4)]) (S' := [.int (5 : Int32), .long (Int64.ofNat V)]) rfl ?_
  refine G.static (y := ⟨"com/example/mynah/mynah/PlainDecimalParseCappedPinLaw", "p10", "(I)J"⟩) (argsL := [.int (5 : Int32)]) (rest := [.long (Int64.ofNat V)]) (W := 2) (by decide +kernel) (tw 6 rfl) (tw 7 rfl) (tw 4 rfl) (tw 8 rfl) (by decide) ((p10C l Z a0 n0 y4 5 (by decide)).pays (tw 8 rfl) (tw 4 rfl) (lb rfl) (lb rfl)) (lenOf pd18 rfl) rfl (Nat.le_of_eq rfl) rfl (lb rfl) (lb rfl) ?_
  rintro _ h9 ⟨K9, rfl⟩
  have KK9 := Keep.trans KJ4 K9 all0
  refine G.seg [(51, .lcmp, 1)] (by decide +kernel) (pc' := 52) (L' := #[.val (.long (Int64.ofNat V)), .second, .val (.int m4)]) (S' := [.int (XT.cmpL (Int64.ofNat V) (Int64.ofNat (10 ^ 5)))]) rfl ?_
  refine G.join (fun z : Heap × Int32 => Keep h z.1 [] ∧ z.2 = Int32.ofNat (dgs 5 V)) (fun z => (z.1, 5, 95, 58, #[.val (.long (Int64.ofNat V)), .second, .val (.int z.2)], [])) ?_ ?_
  · intro J
    refine G.iflt (o := (6)) (pc' := 58) (by decide +kernel) (by decide) rfl ?_ ?_
    · intro q10
      exact J (_, m4) ⟨KK9, by rw [dgs_no (i := 4) hV (by decide) q10]; exact em4⟩
    · intro q10
      refine G.seg [(55, .bipush 6, 2), (57, .istore_n 2, 1)] (by decide +kernel) (pc' := 58) (L' := #[.val (.long (Int64.ofNat V)), .second, .val (.int (6 : Int32))]) (S' := []) rfl ?_
      exact J (_, _) ⟨KK9, by rw [dgs_yes (i := 4) hV (by decide) q10]; rfl⟩
  rintro ⟨y5, m5⟩ ⟨KJ5, em5⟩
  dsimp only at KJ5 em5 ⊢
  refine G.seg [(58, .lload_n 0, 1), (59, .bipush 6, 2)] (by decide +kernel) (pc' := 61) (L' := #[.val (.long (Int64.ofNat V)), .second, .val (.int m5)]) (S' := [.int (6 : Int32), .long (Int64.ofNat V)]) rfl ?_
  refine G.static (y := ⟨"com/example/mynah/mynah/PlainDecimalParseCappedPinLaw", "p10", "(I)J"⟩) (argsL := [.int (6 : Int32)]) (rest := [.long (Int64.ofNat V)]) (W := 2) (by decide +kernel) (tw 6 rfl) (tw 7 rfl) (tw 4 rfl) (tw 8 rfl) (by decide) ((p10C l Z a0 n0 y5 6 (by decide)).pays (tw 8 rfl) (tw 4 rfl) (lb rfl) (lb rfl)) (lenOf pd18 rfl) rfl (Nat.le_of_eq rfl) rfl (lb rfl) (lb rfl) ?_
  rintro _ h11 ⟨K11, rfl⟩
  have KK11 := Keep.trans KJ5 K11 all0
  refine G.seg [(64, .lcmp, 1)] (by decide +kernel) (pc' := 65) (L' := #[.val (.long (Int64.ofNat V)), .second, .val (.int m5)]) (S' := [.int (XT.cmpL (Int64.ofNat V) (Int64.ofNat (10 ^ 6)))]) rfl ?_
  refine G.join (fun z : Heap × Int32 => Keep h z.1 [] ∧ z.2 = Int32.ofNat (dgs 6 V)) (fun z => (z.1, 6, 114, 71, #[.val (.long (Int64.ofNat V)), .second, .val (.int z.2)], [])) ?_ ?_
  · intro J
    refine G.iflt (o := (6)) (pc' := 71) (by decide +kernel) (by decide) rfl ?_ ?_
    · intro q12
      exact J (_, m5) ⟨KK11, by rw [dgs_no (i := 5) hV (by decide) q12]; exact em5⟩
    · intro q12
      refine G.seg [(68, .bipush 7, 2), (70, .istore_n 2, 1)] (by decide +kernel) (pc' := 71) (L' := #[.val (.long (Int64.ofNat V)), .second, .val (.int (7 : Int32))]) (S' := []) rfl ?_
      exact J (_, _) ⟨KK11, by rw [dgs_yes (i := 5) hV (by decide) q12]; rfl⟩
  rintro ⟨y6, m6⟩ ⟨KJ6, em6⟩
  dsimp only at KJ6 em6 ⊢
  refine G.seg [(71, .lload_n 0, 1), (72, .bipush 7, 2)] (by decide +kernel) (pc' := 74) (L' := #[.val (.long (Int64.ofNat V)), .second, .val (.int m6)]) (S' := [.int (7 : Int32), .long (Int64.ofNat V)]) rfl ?_
  refine G.static (y := ⟨"com/example/mynah/mynah/PlainDecimalParseCappedPinLaw", "p10", "(I)J"⟩) (argsL := [.int (7 : Int32)]) (rest := [.long (Int64.ofNat V)]) (W := 2) (by decide +kernel) (tw 6 rfl) (tw 7 rfl) (tw 4 rfl) (tw 8 rfl) (by decide) ((p10C l Z a0 n0 y6 7 (by decide)).pays (tw 8 rfl) (tw 4 rfl) (lb rfl) (lb rfl)) (lenOf pd18 rfl) rfl (Nat.le_of_eq rfl) rfl (lb rfl) (lb rfl) ?_
  rintro _ h13 ⟨K13, rfl⟩
  have KK13 := Keep.trans KJ6 K13 all0
  refine G.seg [(77, .lcmp, 1)] (by decide +kernel) (pc' := 78) (L' := #[.val (.long (Int64.ofNat V)), .second, .val (.int m6)]) (S' := [.int (XT.cmpL (Int64.ofNat V) (Int64.ofNat (10 ^ 7)))]) rfl ?_
  refine G.join (fun z : Heap × Int32 => Keep h z.1 [] ∧ z.2 = Int32.ofNat (dgs 7 V)) (fun z => (z.1, 7, 133, 84, #[.val (.long (Int64.ofNat V)), .second, .val (.int z.2)], [])) ?_ ?_
  · intro J
    refine G.iflt (o := (6)) (pc' := 84) (by decide +kernel) (by decide) rfl ?_ ?_
    · intro q14
      exact J (_, m6) ⟨KK13, by rw [dgs_no (i := 6) hV (by decide) q14]; exact em6⟩
    · intro q14
      refine G.seg [(81, .bipush 8, 2), (83, .istore_n 2, 1)] (by decide +kernel) (pc' := 84) (L' := #[.val (.long (Int64.ofNat V)), .second, .val (.int (8 : Int32))]) (S' := []) rfl ?_
      exact J (_, _) ⟨KK13, by rw [dgs_yes (i := 6) hV (by decide) q14]; rfl⟩
  rintro ⟨y7, m7⟩ ⟨KJ7, em7⟩
  dsimp only at KJ7 em7 ⊢
  refine G.seg [(84, .lload_n 0, 1), (85, .bipush 8, 2)] (by decide +kernel) (pc' := 87) (L' := #[.val (.long (Int64.ofNat V)), .second, .val (.int m7)]) (S' := [.int (8 : Int32), .long (Int64.ofNat V)]) rfl ?_
  refine G.static (y := ⟨"com/example/mynah/mynah/PlainDecimalParseCappedPinLaw", "p10", "(I)J"⟩) (argsL := [.int (8 : Int32)]) (rest := [.long (Int64.ofNat V)]) (W := 2) (by decide +kernel) (tw 6 rfl) (tw 7 rfl) (tw 4 rfl) (tw 8 rfl) (by decide) ((p10C l Z a0 n0 y7 8 (by decide)).pays (tw 8 rfl) (tw 4 rfl) (lb rfl) (lb rfl)) (lenOf pd18 rfl) rfl (Nat.le_of_eq rfl) rfl (lb rfl) (lb rfl) ?_
  rintro _ h15 ⟨K15, rfl⟩
  have KK15 := Keep.trans KJ7 K15 all0
  refine G.seg [(90, .lcmp, 1)] (by decide +kernel) (pc' := 91) (L' := #[.val (.long (Int64.ofNat V)), .second, .val (.int m7)]) (S' := [.int (XT.cmpL (Int64.ofNat V) (Int64.ofNat (10 ^ 8)))]) rfl ?_
  refine G.join (fun z : Heap × Int32 => Keep h z.1 [] ∧ z.2 = Int32.ofNat (dgs 8 V)) (fun z => (z.1, 8, 152, 97, #[.val (.long (Int64.ofNat V)), .second, .val (.int z.2)], [])) ?_ ?_
  · intro J
    refine G.iflt (o := (6)) (pc' := 97) (by decide +kernel) (by decide) rfl ?_ ?_
    · intro q16
      exact J (_, m7) ⟨KK15, by rw [dgs_no (i := 7) hV (by decide) q16]; exact em7⟩
    · intro q16
      refine G.seg [(94, .bipush 9, 2), (96, .istore_n 2, 1)] (by decide +kernel) (pc' := 97) (L' := #[.val (.long (Int64.ofNat V)), .second, .val (.int (9 : Int32))]) (S' := []) rfl ?_
      exact J (_, _) ⟨KK15, by rw [dgs_yes (i := 7) hV (by decide) q16]; rfl⟩
  rintro ⟨y8, m8⟩ ⟨KJ8, em8⟩
  dsimp only at KJ8 em8 ⊢
  refine G.seg [(97, .lload_n 0, 1), (98, .bipush 9, 2)] (by decide +kernel) (pc' := 100) (L' := #[.val (.long (Int64.ofNat V)), .second, .val (.int m8)]) (S' := [.int (9 : Int32), .long (Int64.ofNat V)]) rfl ?_
  refine G.static (y := ⟨"com/example/mynah/mynah/PlainDecimalParseCappedPinLaw", "p10", "(I)J"⟩) (argsL := [.int (9 : Int32)]) (rest := [.long (Int64.ofNat V)]) (W := 2) (by decide +kernel) (tw 6 rfl) (tw 7 rfl) (tw 4 rfl) (tw 8 rfl) (by decide) ((p10C l Z a0 n0 y8 9 (by decide)).pays (tw 8 rfl) (tw 4 rfl) (lb rfl) (lb rfl)) (lenOf pd18 rfl) rfl (Nat.le_of_eq rfl) rfl (lb rfl) (lb rfl) ?_
  rintro _ h17 ⟨K17, rfl⟩
  have KK17 := Keep.trans KJ8 K17 all0
  refine G.seg [(103, .lcmp, 1)] (by decide +kernel) (pc' := 104) (L' := #[.val (.long (Int64.ofNat V)), .second, .val (.int m8)]) (S' := [.int (XT.cmpL (Int64.ofNat V) (Int64.ofNat (10 ^ 9)))]) rfl ?_
  refine G.join (fun z : Heap × Int32 => Keep h z.1 [] ∧ z.2 = Int32.ofNat (dgs 9 V)) (fun z => (z.1, 9, 171, 110, #[.val (.long (Int64.ofNat V)), .second, .val (.int z.2)], [])) ?_ ?_
  · intro J
    refine G.iflt (o := (6)) (pc' := 110) (by decide +kernel) (by decide) rfl ?_ ?_
    · intro q18
      exact J (_, m8) ⟨KK17, by rw [dgs_no (i := 8) hV (by decide) q18]; exact em8⟩
    · intro q18
      refine G.seg [(107, .bipush 10, 2), (109, .istore_n 2, 1)] (by decide +kernel) (pc' := 110) (L' := #[.val (.long (Int64.ofNat V)), .second, .val (.int (10 : Int32))]) (S' := []) rfl ?_
      exact J (_, _) ⟨KK17, by rw [dgs_yes (i := 8) hV (by decide) q18]; rfl⟩
  rintro ⟨y9, m9⟩ ⟨KJ9, em9⟩
  dsimp only at KJ9 em9 ⊢
  refine G.seg [(110, .lload_n 0, 1), (111, .bipush 10, 2)] (by decide +kernel) (pc' := 113) (L' := #[.val (.long (Int64.ofNat V)), .second, .val (.int m9)]) (S' := [.int (10 : Int32), .long (Int64.ofNat V)]) rfl ?_
  refine G.static (y := ⟨"com/example/mynah/mynah/PlainDecimalParseCappedPinLaw", "p10", "(I)J"⟩) (argsL := [.int (10 : Int32)]) (rest := [.long (Int64.ofNat V)]) (W := 2) (by decide +kernel) (tw 6 rfl) (tw 7 rfl) (tw 4 rfl) (tw 8 rfl) (by decide) ((p10C l Z a0 n0 y9 10 (by decide)).pays (tw 8 rfl) (tw 4 rfl) (lb rfl) (lb rfl)) (lenOf pd18 rfl) rfl (Nat.le_of_eq rfl) rfl (lb rfl) (lb rfl) ?_
  rintro _ h19 ⟨K19, rfl⟩
  have KK19 := Keep.trans KJ9 K19 all0
  refine G.seg [(116, .lcmp, 1)] (by decide +kernel) (pc' := 117) (L' := #[.val (.long (Int64.ofNat V)), .second, .val (.int m9)]) (S' := [.int (XT.cmpL (Int64.ofNat V) (Int64.ofNat (10 ^ 10)))]) rfl ?_
  refine G.join (fun z : Heap × Int32 => Keep h z.1 [] ∧ z.2 = Int32.ofNat (dgs 10 V)) (fun z => (z.1, 10, 190, 123, #[.val (.long (Int64.ofNat V)), .second, .val (.int z.2)], [])) ?_ ?_
  · intro J
    refine G.iflt (o := (6)) (pc' := 123) (by decide +kernel) (by decide) rfl ?_ ?_
    · intro q20
      exact J (_, m9) ⟨KK19, by rw [dgs_no (i := 9) hV (by decide) q20]; exact em9⟩
    · intro q20
      refine G.seg [(120, .bipush 11, 2), (122, .istore_n 2, 1)] (by decide +kernel) (pc' := 123) (L' := #[.val (.long (Int64.ofNat V)), .second, .val (.int (11 : Int32))]) (S' := []) rfl ?_
      exact J (_, _) ⟨KK19, by rw [dgs_yes (i := 9) hV (by decide) q20]; rfl⟩
  rintro ⟨y10, m10⟩ ⟨KJ10, em10⟩
  dsimp only at KJ10 em10 ⊢
  refine G.seg [(123, .lload_n 0, 1), (124, .bipush 11, 2)] (by decide +kernel) (pc' := 126) (L' := #[.val (.long (Int64.ofNat V)), .second, .val (.int m10)]) (S' := [.int (11 : Int32), .long (Int64.ofNat V)]) rfl ?_
  refine G.static (y := ⟨"com/example/mynah/mynah/PlainDecimalParseCappedPinLaw", "p10", "(I)J"⟩) (argsL := [.int (11 : Int32)]) (rest := [.long (Int64.ofNat V)]) (W := 2) (by decide +kernel) (tw 6 rfl) (tw 7 rfl) (tw 4 rfl) (tw 8 rfl) (by decide) ((p10C l Z a0 n0 y10 11 (by decide)).pays (tw 8 rfl) (tw 4 rfl) (lb rfl) (lb rfl)) (lenOf pd18 rfl) rfl (Nat.le_of_eq rfl) rfl (lb rfl) (lb rfl) ?_
  rintro _ h21 ⟨K21, rfl⟩
  have KK21 := Keep.trans KJ10 K21 all0
  refine G.seg [(129, .lcmp, 1)] (by decide +kernel) (pc' := 130) (L' := #[.val (.long (Int64.ofNat V)), .second, .val (.int m10)]) (S' := [.int (XT.cmpL (Int64.ofNat V) (Int64.ofNat (10 ^ 11)))]) rfl ?_
  refine G.join (fun z : Heap × Int32 => Keep h z.1 [] ∧ z.2 = Int32.ofNat (dgs 11 V)) (fun z => (z.1, 11, 209, 136, #[.val (.long (Int64.ofNat V)), .second, .val (.int z.2)], [])) ?_ ?_
  · intro J
    refine G.iflt (o := (6)) (pc' := 136) (by decide +kernel) (by decide) rfl ?_ ?_
    · intro q22
      exact J (_, m10) ⟨KK21, by rw [dgs_no (i := 10) hV (by decide) q22]; exact em10⟩
    · intro q22
      refine G.seg [(133, .bipush 12, 2), (135, .istore_n 2, 1)] (by decide +kernel) (pc' := 136) (L' := #[.val (.long (Int64.ofNat V)), .second, .val (.int (12 : Int32))]) (S' := []) rfl ?_
      exact J (_, _) ⟨KK21, by rw [dgs_yes (i := 10) hV (by decide) q22]; rfl⟩
  rintro ⟨y11, m11⟩ ⟨KJ11, em11⟩
  dsimp only at KJ11 em11 ⊢
  refine G.seg [(136, .lload_n 0, 1), (137, .bipush 12, 2)] (by decide +kernel) (pc' := 139) (L' := #[.val (.long (Int64.ofNat V)), .second, .val (.int m11)]) (S' := [.int (12 : Int32), .long (Int64.ofNat V)]) rfl ?_
  refine G.static (y := ⟨"com/example/mynah/mynah/PlainDecimalParseCappedPinLaw", "p10", "(I)J"⟩) (argsL := [.int (12 : Int32)]) (rest := [.long (Int64.ofNat V)]) (W := 2) (by decide +kernel) (tw 6 rfl) (tw 7 rfl) (tw 4 rfl) (tw 8 rfl) (by decide) ((p10C l Z a0 n0 y11 12 (by decide)).pays (tw 8 rfl) (tw 4 rfl) (lb rfl) (lb rfl)) (lenOf pd18 rfl) rfl (Nat.le_of_eq rfl) rfl (lb rfl) (lb rfl) ?_
  rintro _ h23 ⟨K23, rfl⟩
  have KK23 := Keep.trans KJ11 K23 all0
  refine G.seg [(142, .lcmp, 1)] (by decide +kernel) (pc' := 143) (L' := #[.val (.long (Int64.ofNat V)), .second, .val (.int m11)]) (S' := [.int (XT.cmpL (Int64.ofNat V) (Int64.ofNat (10 ^ 12)))]) rfl ?_
  refine G.join (fun z : Heap × Int32 => Keep h z.1 [] ∧ z.2 = Int32.ofNat (dgs 12 V)) (fun z => (z.1, 12, 228, 149, #[.val (.long (Int64.ofNat V)), .second, .val (.int z.2)], [])) ?_ ?_
  · intro J
    refine G.iflt (o := (6)) (pc' := 149) (by decide +kernel) (by decide) rfl ?_ ?_
    · intro q24
      exact J (_, m11) ⟨KK23, by rw [dgs_no (i := 11) hV (by decide) q24]; exact em11⟩
    · intro q24
      refine G.seg [(146, .bipush 13, 2), (148, .istore_n 2, 1)] (by decide +kernel) (pc' := 149) (L' := #[.val (.long (Int64.ofNat V)), .second, .val (.int (13 : Int32))]) (S' := []) rfl ?_
      exact J (_, _) ⟨KK23, by rw [dgs_yes (i := 11) hV (by decide) q24]; rfl⟩
  rintro ⟨y12, m12⟩ ⟨KJ12, em12⟩
  dsimp only at KJ12 em12 ⊢
  refine G.seg [(149, .lload_n 0, 1), (150, .bipush 13, 2)] (by decide +kernel) (pc' := 152) (L' := #[.val (.long (Int64.ofNat V)), .second, .val (.int m12)]) (S' := [.int (13 : Int32), .long (Int64.ofNat V)]) rfl ?_
  refine G.static (y := ⟨"com/example/mynah/mynah/PlainDecimalParseCappedPinLaw", "p10", "(I)J"⟩) (argsL := [.int (13 : Int32)]) (rest := [.long (Int64.ofNat V)]) (W := 2) (by decide +kernel) (tw 6 rfl) (tw 7 rfl) (tw 4 rfl) (tw 8 rfl) (by decide) ((p10C l Z a0 n0 y12 13 (by decide)).pays (tw 8 rfl) (tw 4 rfl) (lb rfl) (lb rfl)) (lenOf pd18 rfl) rfl (Nat.le_of_eq rfl) rfl (lb rfl) (lb rfl) ?_
  rintro _ h25 ⟨K25, rfl⟩
  have KK25 := Keep.trans KJ12 K25 all0
  refine G.seg [(155, .lcmp, 1)] (by decide +kernel) (pc' := 156) (L' := #[.val (.long (Int64.ofNat V)), .second, .val (.int m12)]) (S' := [.int (XT.cmpL (Int64.ofNat V) (Int64.ofNat (10 ^ 13)))]) rfl ?_
  refine G.join (fun z : Heap × Int32 => Keep h z.1 [] ∧ z.2 = Int32.ofNat (dgs 13 V)) (fun z => (z.1, 13, 247, 162, #[.val (.long (Int64.ofNat V)), .second, .val (.int z.2)], [])) ?_ ?_
  · intro J
    refine G.iflt (o := (6)) (pc' := 162) (by decide +kernel) (by decide) rfl ?_ ?_
    · intro q26
      exact J (_, m12) ⟨KK25, by rw [dgs_no (i := 12) hV (by decide) q26]; exact em12⟩
    · intro q26
      refine G.seg [(159, .bipush 14, 2), (161, .istore_n 2, 1)] (by decide +kernel) (pc' := 162) (L' := #[.val (.long (Int64.ofNat V)), .second, .val (.int (14 : Int32))]) (S' := []) rfl ?_
      exact J (_, _) ⟨KK25, by rw [dgs_yes (i := 12) hV (by decide) q26]; rfl⟩
  rintro ⟨y13, m13⟩ ⟨KJ13, em13⟩
  dsimp only at KJ13 em13 ⊢
  refine G.seg [(162, .lload_n 0, 1), (163, .bipush 14, 2)] (by decide +kernel) (pc' := 165) (L' := #[.val (.long (Int64.ofNat V)), .second, .val (.int m13)]) (S' := [.int (14 : Int32), .long (Int64.ofNat V)]) rfl ?_
  refine G.static (y := ⟨"com/example/mynah/mynah/PlainDecimalParseCappedPinLaw", "p10", "(I)J"⟩) (argsL := [.int (14 : Int32)]) (rest := [.long (Int64.ofNat V)]) (W := 2) (by decide +kernel) (tw 6 rfl) (tw 7 rfl) (tw 4 rfl) (tw 8 rfl) (by decide) ((p10C l Z a0 n0 y13 14 (by decide)).pays (tw 8 rfl) (tw 4 rfl) (lb rfl) (lb rfl)) (lenOf pd18 rfl) rfl (Nat.le_of_eq rfl) rfl (lb rfl) (lb rfl) ?_
  rintro _ h27 ⟨K27, rfl⟩
  have KK27 := Keep.trans KJ13 K27 all0
  refine G.seg [(168, .lcmp, 1)] (by decide +kernel) (pc' := 169) (L' := #[.val (.long (Int64.ofNat V)), .second, .val (.int m13)]) (S' := [.int (XT.cmpL (Int64.ofNat V) (Int64.ofNat (10 ^ 14)))]) rfl ?_
  refine G.join (fun z : Heap × Int32 => Keep h z.1 [] ∧ z.2 = Int32.ofNat (dgs 14 V)) (fun z => (z.1, 14, 266, 175, #[.val (.long (Int64.ofNat V)), .second, .val (.int z.2)], [])) ?_ ?_
  · intro J
    refine G.iflt (o := (6)) (pc' := 175) (by decide +kernel) (by decide) rfl ?_ ?_
    · intro q28
      exact J (_, m13) ⟨KK27, by rw [dgs_no (i := 13) hV (by decide) q28]; exact em13⟩
    · intro q28
      refine G.seg [(172, .bipush 15, 2), (174, .istore_n 2, 1)] (by decide +kernel) (pc' := 175) (L' := #[.val (.long (Int64.ofNat V)), .second, .val (.int (15 : Int32))]) (S' := []) rfl ?_
      exact J (_, _) ⟨KK27, by rw [dgs_yes (i := 13) hV (by decide) q28]; rfl⟩
  rintro ⟨y14, m14⟩ ⟨KJ14, em14⟩
  dsimp only at KJ14 em14 ⊢
  refine G.seg [(175, .lload_n 0, 1), (176, .bipush 15, 2)] (by decide +kernel) (pc' := 178) (L' := #[.val (.long (Int64.ofNat V)), .second, .val (.int m14)]) (S' := [.int (15 : Int32), .long (Int64.ofNat V)]) rfl ?_
  refine G.static (y := ⟨"com/example/mynah/mynah/PlainDecimalParseCappedPinLaw", "p10", "(I)J"⟩) (argsL := [.int (15 : Int32)]) (rest := [.long (Int64.ofNat V)]) (W := 2) (by decide +kernel) (tw 6 rfl) (tw 7 rfl) (tw 4 rfl) (tw 8 rfl) (by decide) ((p10C l Z a0 n0 y14 15 (by decide)).pays (tw 8 rfl) (tw 4 rfl) (lb rfl) (lb rfl)) (lenOf pd18 rfl) rfl (Nat.le_of_eq rfl) rfl (lb rfl) (lb rfl) ?_
  rintro _ h29 ⟨K29, rfl⟩
  have KK29 := Keep.trans KJ14 K29 all0
  refine G.seg [(181, .lcmp, 1)] (by decide +kernel) (pc' := 182) (L' := #[.val (.long (Int64.ofNat V)), .second, .val (.int m14)]) (S' := [.int (XT.cmpL (Int64.ofNat V) (Int64.ofNat (10 ^ 15)))]) rfl ?_
  refine G.join (fun z : Heap × Int32 => Keep h z.1 [] ∧ z.2 = Int32.ofNat (dgs 15 V)) (fun z => (z.1, 15, 285, 188, #[.val (.long (Int64.ofNat V)), .second, .val (.int z.2)], [])) ?_ ?_
  · intro J
    refine G.iflt (o := (6)) (pc' := 188) (by decide +kernel) (by decide) rfl ?_ ?_
    · intro q30
      exact J (_, m14) ⟨KK29, by rw [dgs_no (i := 14) hV (by decide) q30]; exact em14⟩
    · intro q30
      refine G.seg [(185, .bipush 16, 2), (187, .istore_n 2, 1)] (by decide +kernel) (pc' := 188) (L' := #[.val (.long (Int64.ofNat V)), .second, .val (.int (16 : Int32))]) (S' := []) rfl ?_
      exact J (_, _) ⟨KK29, by rw [dgs_yes (i := 14) hV (by decide) q30]; rfl⟩
  rintro ⟨y15, m15⟩ ⟨KJ15, em15⟩
  dsimp only at KJ15 em15 ⊢
  refine G.seg [(188, .lload_n 0, 1), (189, .bipush 16, 2)] (by decide +kernel) (pc' := 191) (L' := #[.val (.long (Int64.ofNat V)), .second, .val (.int m15)]) (S' := [.int (16 : Int32), .long (Int64.ofNat V)]) rfl ?_
  refine G.static (y := ⟨"com/example/mynah/mynah/PlainDecimalParseCappedPinLaw", "p10", "(I)J"⟩) (argsL := [.int (16 : Int32)]) (rest := [.long (Int64.ofNat V)]) (W := 2) (by decide +kernel) (tw 6 rfl) (tw 7 rfl) (tw 4 rfl) (tw 8 rfl) (by decide) ((p10C l Z a0 n0 y15 16 (by decide)).pays (tw 8 rfl) (tw 4 rfl) (lb rfl) (lb rfl)) (lenOf pd18 rfl) rfl (Nat.le_of_eq rfl) rfl (lb rfl) (lb rfl) ?_
  rintro _ h31 ⟨K31, rfl⟩
  have KK31 := Keep.trans KJ15 K31 all0
  refine G.seg [(194, .lcmp, 1)] (by decide +kernel) (pc' := 195) (L' := #[.val (.long (Int64.ofNat V)), .second, .val (.int m15)]) (S' := [.int (XT.cmpL (Int64.ofNat V) (Int64.ofNat (10 ^ 16)))]) rfl ?_
  refine G.join (fun z : Heap × Int32 => Keep h z.1 [] ∧ z.2 = Int32.ofNat (dgs 16 V)) (fun z => (z.1, 16, 304, 201, #[.val (.long (Int64.ofNat V)), .second, .val (.int z.2)], [])) ?_ ?_
  · intro J
    refine G.iflt (o := (6)) (pc' := 201) (by decide +kernel) (by decide) rfl ?_ ?_
    · intro q32
      exact J (_, m15) ⟨KK31, by rw [dgs_no (i := 15) hV (by decide) q32]; exact em15⟩
    · intro q32
      refine G.seg [(198, .bipush 17, 2), (200, .istore_n 2, 1)] (by decide +kernel) (pc' := 201) (L' := #[.val (.long (Int64.ofNat V)), .second, .val (.int (17 : Int32))]) (S' := []) rfl ?_
      exact J (_, _) ⟨KK31, by rw [dgs_yes (i := 15) hV (by decide) q32]; rfl⟩
  rintro ⟨y16, m16⟩ ⟨KJ16, em16⟩
  dsimp only at KJ16 em16 ⊢
  refine G.seg [(201, .lload_n 0, 1), (202, .bipush 17, 2)] (by decide +kernel) (pc' := 204) (L' := #[.val (.long (Int64.ofNat V)), .second, .val (.int m16)]) (S' := [.int (17 : Int32), .long (Int64.ofNat V)]) rfl ?_
  refine G.static (y := ⟨"com/example/mynah/mynah/PlainDecimalParseCappedPinLaw", "p10", "(I)J"⟩) (argsL := [.int (17 : Int32)]) (rest := [.long (Int64.ofNat V)]) (W := 2) (by decide +kernel) (tw 6 rfl) (tw 7 rfl) (tw 4 rfl) (tw 8 rfl) (by decide) ((p10C l Z a0 n0 y16 17 (by decide)).pays (tw 8 rfl) (tw 4 rfl) (lb rfl) (lb rfl)) (lenOf pd18 rfl) rfl (Nat.le_of_eq rfl) rfl (lb rfl) (lb rfl) ?_
  rintro _ h33 ⟨K33, rfl⟩
  have KK33 := Keep.trans KJ16 K33 all0
  refine G.seg [(207, .lcmp, 1)] (by decide +kernel) (pc' := 208) (L' := #[.val (.long (Int64.ofNat V)), .second, .val (.int m16)]) (S' := [.int (XT.cmpL (Int64.ofNat V) (Int64.ofNat (10 ^ 17)))]) rfl ?_
  refine G.join (fun z : Heap × Int32 => Keep h z.1 [] ∧ z.2 = Int32.ofNat (dgs 17 V)) (fun z => (z.1, 17, 323, 214, #[.val (.long (Int64.ofNat V)), .second, .val (.int z.2)], [])) ?_ ?_
  · intro J
    refine G.iflt (o := (6)) (pc' := 214) (by decide +kernel) (by decide) rfl ?_ ?_
    · intro q34
      exact J (_, m16) ⟨KK33, by rw [dgs_no (i := 16) hV (by decide) q34]; exact em16⟩
    · intro q34
      refine G.seg [(211, .bipush 18, 2), (213, .istore_n 2, 1)] (by decide +kernel) (pc' := 214) (L' := #[.val (.long (Int64.ofNat V)), .second, .val (.int (18 : Int32))]) (S' := []) rfl ?_
      exact J (_, _) ⟨KK33, by rw [dgs_yes (i := 16) hV (by decide) q34]; rfl⟩
  rintro ⟨y17, m17⟩ ⟨KJ17, em17⟩
  dsimp only at KJ17 em17 ⊢
  refine G.seg [(214, .lload_n 0, 1), (215, .bipush 18, 2)] (by decide +kernel) (pc' := 217) (L' := #[.val (.long (Int64.ofNat V)), .second, .val (.int m17)]) (S' := [.int (18 : Int32), .long (Int64.ofNat V)]) rfl ?_
  refine G.static (y := ⟨"com/example/mynah/mynah/PlainDecimalParseCappedPinLaw", "p10", "(I)J"⟩) (argsL := [.int (18 : Int32)]) (rest := [.long (Int64.ofNat V)]) (W := 2) (by decide +kernel) (tw 6 rfl) (tw 7 rfl) (tw 4 rfl) (tw 8 rfl) (by decide) ((p10C l Z a0 n0 y17 18 (by decide)).pays (tw 8 rfl) (tw 4 rfl) (lb rfl) (lb rfl)) (lenOf pd18 rfl) rfl (Nat.le_of_eq rfl) rfl (lb rfl) (lb rfl) ?_
  rintro _ h35 ⟨K35, rfl⟩
  have KK35 := Keep.trans KJ17 K35 all0
  refine G.seg [(220, .lcmp, 1)] (by decide +kernel) (pc' := 221) (L' := #[.val (.long (Int64.ofNat V)), .second, .val (.int m17)]) (S' := [.int (XT.cmpL (Int64.ofNat V) (Int64.ofNat (10 ^ 18)))]) rfl ?_
  refine G.join (fun z : Heap × Int32 => Keep h z.1 [] ∧ z.2 = Int32.ofNat (dgs 18 V)) (fun z => (z.1, 18, 342, 227, #[.val (.long (Int64.ofNat V)), .second, .val (.int z.2)], [])) ?_ ?_
  · intro J
    refine G.iflt (o := (6)) (pc' := 227) (by decide +kernel) (by decide) rfl ?_ ?_
    · intro q36
      exact J (_, m17) ⟨KK35, by rw [dgs_no (i := 17) hV (by decide) q36]; exact em17⟩
    · intro q36
      refine G.seg [(224, .bipush 19, 2), (226, .istore_n 2, 1)] (by decide +kernel) (pc' := 227) (L' := #[.val (.long (Int64.ofNat V)), .second, .val (.int (19 : Int32))]) (S' := []) rfl ?_
      exact J (_, _) ⟨KK35, by rw [dgs_yes (i := 17) hV (by decide) q36]; rfl⟩
  rintro ⟨y18, m18⟩ ⟨KJ18, em18⟩
  dsimp only at KJ18 em18 ⊢
  refine G.seg [(227, .iload_n 2, 1)] (by decide +kernel) (pc' := 228) (L' := #[.val (.long (Int64.ofNat V)), .second, .val (.int m18)]) (S' := [.int m18]) rfl ?_
  exact G.retI (by decide +kernel) rfl ⟨KJ18, by rw [em18]⟩ (lb rfl) (lb rfl)

set_option maxRecDepth 65536 in
set_option maxHeartbeats 4000000 in
theorem dig0C (l : Launch) (Z : State) (a0 : Array Value) (n0 : Nat) (h : Heap) (V : Nat) (hV : V < 2 ^ 63) :
    Ct l Z a0 consts_1 tables_1 [] n0 ⟨"com/example/mynah/mynah/PlainDecimalParseCappedPinLaw", "dig", "(JI)C"⟩ method_4_code 3 (some (.char)) ({ frames := 1, cells := 1, slots := 19, locals := 20 } : Room) #[.long (Int64.ofNat V), .int (0 : Int32)] h (fun v h' => Keep h h' [] ∧ v = some (.int (chd (V / 1 % 10)))) := by
  refine Ct.of_body pn7 (L0 := #[.val (.long (Int64.ofNat V)), .second, .val (.int (0 : Int32))]) (fun m => by exact ef_of rfl) (fun hEL hw hO => ?_)
  refine G.seg [(0, .bipush 48, 2), (2, .lload_n 0, 1), (3, .iload_n 2, 1)] (by decide +kernel) (pc' := 4) (L' := #[.val (.long (Int64.ofNat V)), .second, .val (.int (0 : Int32))]) (S' := [.int (0 : Int32), .long (Int64.ofNat V), .int (48 : Int32)]) rfl ?_
  refine G.static (y := ⟨"com/example/mynah/mynah/PlainDecimalParseCappedPinLaw", "p10", "(I)J"⟩) (argsL := [.int (0 : Int32)]) (rest := [.long (Int64.ofNat V), .int (48 : Int32)]) (W := 3) (by decide +kernel) (tw 6 rfl) (tw 7 rfl) (tw 4 rfl) (tw 8 rfl) (by decide) ((p10C l Z a0 n0 h 0 (by decide)).pays (tw 8 rfl) (tw 4 rfl) (lb rfl) (lb rfl)) (lenOf pd18 rfl) rfl (Nat.le_of_eq rfl) rfl (lb rfl) (lb rfl) ?_
  rintro _ h1 ⟨K1, rfl⟩
  rw [show Int64.ofNat (10 ^ 0) = (1 : Int64) from rfl]
  refine G.seg [(7, .ldiv, 1)] (by decide +kernel) (pc' := 8) (L' := #[.val (.long (Int64.ofNat V)), .second, .val (.int (0 : Int32))]) (S' := [.long ((Int64.ofNat V) / (1 : Int64)), .int (48 : Int32)]) rfl ?_
  refine G.ldcJ (by decide +kernel) (tw 10 rfl) ?_
  refine G.seg [(11, .lrem, 1), (12, .l2i, 1), (13, .iadd, 1), (14, .i2c, 1)] (by decide +kernel) (pc' := 15) (L' := #[.val (.long (Int64.ofNat V)), .second, .val (.int (0 : Int32))]) (S' := [.int (((48 : Int32) + ((((Int64.ofNat V) / (1 : Int64)) % (10 : Int64)).toInt32)).toUInt32.toUInt16.toUInt32.toInt32)]) rfl ?_
  exact G.retN (by decide +kernel) rfl (Or.inr (Or.inr (Or.inl rfl))) (nar_dig (r := V) (p := 1) hV (by decide)) ⟨K1, rfl⟩ (lb rfl) (lb rfl)

set_option maxRecDepth 65536 in
set_option maxHeartbeats 4000000 in
theorem dig1C (l : Launch) (Z : State) (a0 : Array Value) (n0 : Nat) (h : Heap) (V : Nat) (hV : V < 2 ^ 63) :
    Ct l Z a0 consts_1 tables_1 [] n0 ⟨"com/example/mynah/mynah/PlainDecimalParseCappedPinLaw", "dig", "(JI)C"⟩ method_4_code 3 (some (.char)) ({ frames := 1, cells := 1, slots := 19, locals := 20 } : Room) #[.long (Int64.ofNat V), .int (1 : Int32)] h (fun v h' => Keep h h' [] ∧ v = some (.int (chd (V / 10 % 10)))) := by
  refine Ct.of_body pn7 (L0 := #[.val (.long (Int64.ofNat V)), .second, .val (.int (1 : Int32))]) (fun m => by exact ef_of rfl) (fun hEL hw hO => ?_)
  refine G.seg [(0, .bipush 48, 2), (2, .lload_n 0, 1), (3, .iload_n 2, 1)] (by decide +kernel) (pc' := 4) (L' := #[.val (.long (Int64.ofNat V)), .second, .val (.int (1 : Int32))]) (S' := [.int (1 : Int32), .long (Int64.ofNat V), .int (48 : Int32)]) rfl ?_
  refine G.static (y := ⟨"com/example/mynah/mynah/PlainDecimalParseCappedPinLaw", "p10", "(I)J"⟩) (argsL := [.int (1 : Int32)]) (rest := [.long (Int64.ofNat V), .int (48 : Int32)]) (W := 3) (by decide +kernel) (tw 6 rfl) (tw 7 rfl) (tw 4 rfl) (tw 8 rfl) (by decide) ((p10C l Z a0 n0 h 1 (by decide)).pays (tw 8 rfl) (tw 4 rfl) (lb rfl) (lb rfl)) (lenOf pd18 rfl) rfl (Nat.le_of_eq rfl) rfl (lb rfl) (lb rfl) ?_
  rintro _ h1 ⟨K1, rfl⟩
  rw [show Int64.ofNat (10 ^ 1) = (10 : Int64) from rfl]
  refine G.seg [(7, .ldiv, 1)] (by decide +kernel) (pc' := 8) (L' := #[.val (.long (Int64.ofNat V)), .second, .val (.int (1 : Int32))]) (S' := [.long ((Int64.ofNat V) / (10 : Int64)), .int (48 : Int32)]) rfl ?_
  refine G.ldcJ (by decide +kernel) (tw 10 rfl) ?_
  refine G.seg [(11, .lrem, 1), (12, .l2i, 1), (13, .iadd, 1), (14, .i2c, 1)] (by decide +kernel) (pc' := 15) (L' := #[.val (.long (Int64.ofNat V)), .second, .val (.int (1 : Int32))]) (S' := [.int (((48 : Int32) + ((((Int64.ofNat V) / (10 : Int64)) % (10 : Int64)).toInt32)).toUInt32.toUInt16.toUInt32.toInt32)]) rfl ?_
  exact G.retN (by decide +kernel) rfl (Or.inr (Or.inr (Or.inl rfl))) (nar_dig (r := V) (p := 10) hV (by decide)) ⟨K1, rfl⟩ (lb rfl) (lb rfl)

set_option maxRecDepth 65536 in
set_option maxHeartbeats 4000000 in
theorem dig2C (l : Launch) (Z : State) (a0 : Array Value) (n0 : Nat) (h : Heap) (V : Nat) (hV : V < 2 ^ 63) :
    Ct l Z a0 consts_1 tables_1 [] n0 ⟨"com/example/mynah/mynah/PlainDecimalParseCappedPinLaw", "dig", "(JI)C"⟩ method_4_code 3 (some (.char)) ({ frames := 1, cells := 1, slots := 19, locals := 20 } : Room) #[.long (Int64.ofNat V), .int (2 : Int32)] h (fun v h' => Keep h h' [] ∧ v = some (.int (chd (V / 100 % 10)))) := by
  refine Ct.of_body pn7 (L0 := #[.val (.long (Int64.ofNat V)), .second, .val (.int (2 : Int32))]) (fun m => by exact ef_of rfl) (fun hEL hw hO => ?_)
  refine G.seg [(0, .bipush 48, 2), (2, .lload_n 0, 1), (3, .iload_n 2, 1)] (by decide +kernel) (pc' := 4) (L' := #[.val (.long (Int64.ofNat V)), .second, .val (.int (2 : Int32))]) (S' := [.int (2 : Int32), .long (Int64.ofNat V), .int (48 : Int32)]) rfl ?_
  refine G.static (y := ⟨"com/example/mynah/mynah/PlainDecimalParseCappedPinLaw", "p10", "(I)J"⟩) (argsL := [.int (2 : Int32)]) (rest := [.long (Int64.ofNat V), .int (48 : Int32)]) (W := 3) (by decide +kernel) (tw 6 rfl) (tw 7 rfl) (tw 4 rfl) (tw 8 rfl) (by decide) ((p10C l Z a0 n0 h 2 (by decide)).pays (tw 8 rfl) (tw 4 rfl) (lb rfl) (lb rfl)) (lenOf pd18 rfl) rfl (Nat.le_of_eq rfl) rfl (lb rfl) (lb rfl) ?_
  rintro _ h1 ⟨K1, rfl⟩
  rw [show Int64.ofNat (10 ^ 2) = (100 : Int64) from rfl]
  refine G.seg [(7, .ldiv, 1)] (by decide +kernel) (pc' := 8) (L' := #[.val (.long (Int64.ofNat V)), .second, .val (.int (2 : Int32))]) (S' := [.long ((Int64.ofNat V) / (100 : Int64)), .int (48 : Int32)]) rfl ?_
  refine G.ldcJ (by decide +kernel) (tw 10 rfl) ?_
  refine G.seg [(11, .lrem, 1), (12, .l2i, 1), (13, .iadd, 1), (14, .i2c, 1)] (by decide +kernel) (pc' := 15) (L' := #[.val (.long (Int64.ofNat V)), .second, .val (.int (2 : Int32))]) (S' := [.int (((48 : Int32) + ((((Int64.ofNat V) / (100 : Int64)) % (10 : Int64)).toInt32)).toUInt32.toUInt16.toUInt32.toInt32)]) rfl ?_
  exact G.retN (by decide +kernel) rfl (Or.inr (Or.inr (Or.inl rfl))) (nar_dig (r := V) (p := 100) hV (by decide)) ⟨K1, rfl⟩ (lb rfl) (lb rfl)

set_option maxRecDepth 65536 in
set_option maxHeartbeats 4000000 in
theorem dig3C (l : Launch) (Z : State) (a0 : Array Value) (n0 : Nat) (h : Heap) (V : Nat) (hV : V < 2 ^ 63) :
    Ct l Z a0 consts_1 tables_1 [] n0 ⟨"com/example/mynah/mynah/PlainDecimalParseCappedPinLaw", "dig", "(JI)C"⟩ method_4_code 3 (some (.char)) ({ frames := 1, cells := 1, slots := 19, locals := 20 } : Room) #[.long (Int64.ofNat V), .int (3 : Int32)] h (fun v h' => Keep h h' [] ∧ v = some (.int (chd (V / 1000 % 10)))) := by
  refine Ct.of_body pn7 (L0 := #[.val (.long (Int64.ofNat V)), .second, .val (.int (3 : Int32))]) (fun m => by exact ef_of rfl) (fun hEL hw hO => ?_)
  refine G.seg [(0, .bipush 48, 2), (2, .lload_n 0, 1), (3, .iload_n 2, 1)] (by decide +kernel) (pc' := 4) (L' := #[.val (.long (Int64.ofNat V)), .second, .val (.int (3 : Int32))]) (S' := [.int (3 : Int32), .long (Int64.ofNat V), .int (48 : Int32)]) rfl ?_
  refine G.static (y := ⟨"com/example/mynah/mynah/PlainDecimalParseCappedPinLaw", "p10", "(I)J"⟩) (argsL := [.int (3 : Int32)]) (rest := [.long (Int64.ofNat V), .int (48 : Int32)]) (W := 3) (by decide +kernel) (tw 6 rfl) (tw 7 rfl) (tw 4 rfl) (tw 8 rfl) (by decide) ((p10C l Z a0 n0 h 3 (by decide)).pays (tw 8 rfl) (tw 4 rfl) (lb rfl) (lb rfl)) (lenOf pd18 rfl) rfl (Nat.le_of_eq rfl) rfl (lb rfl) (lb rfl) ?_
  rintro _ h1 ⟨K1, rfl⟩
  rw [show Int64.ofNat (10 ^ 3) = (1000 : Int64) from rfl]
  refine G.seg [(7, .ldiv, 1)] (by decide +kernel) (pc' := 8) (L' := #[.val (.long (Int64.ofNat V)), .second, .val (.int (3 : Int32))]) (S' := [.long ((Int64.ofNat V) / (1000 : Int64)), .int (48 : Int32)]) rfl ?_
  refine G.ldcJ (by decide +kernel) (tw 10 rfl) ?_
  refine G.seg [(11, .lrem, 1), (12, .l2i, 1), (13, .iadd, 1), (14, .i2c, 1)] (by decide +kernel) (pc' := 15) (L' := #[.val (.long (Int64.ofNat V)), .second, .val (.int (3 : Int32))]) (S' := [.int (((48 : Int32) + ((((Int64.ofNat V) / (1000 : Int64)) % (10 : Int64)).toInt32)).toUInt32.toUInt16.toUInt32.toInt32)]) rfl ?_
  exact G.retN (by decide +kernel) rfl (Or.inr (Or.inr (Or.inl rfl))) (nar_dig (r := V) (p := 1000) hV (by decide)) ⟨K1, rfl⟩ (lb rfl) (lb rfl)

set_option maxRecDepth 65536 in
set_option maxHeartbeats 4000000 in
theorem dig4C (l : Launch) (Z : State) (a0 : Array Value) (n0 : Nat) (h : Heap) (V : Nat) (hV : V < 2 ^ 63) :
    Ct l Z a0 consts_1 tables_1 [] n0 ⟨"com/example/mynah/mynah/PlainDecimalParseCappedPinLaw", "dig", "(JI)C"⟩ method_4_code 3 (some (.char)) ({ frames := 1, cells := 1, slots := 19, locals := 20 } : Room) #[.long (Int64.ofNat V), .int (4 : Int32)] h (fun v h' => Keep h h' [] ∧ v = some (.int (chd (V / 10000 % 10)))) := by
  refine Ct.of_body pn7 (L0 := #[.val (.long (Int64.ofNat V)), .second, .val (.int (4 : Int32))]) (fun m => by exact ef_of rfl) (fun hEL hw hO => ?_)
  refine G.seg [(0, .bipush 48, 2), (2, .lload_n 0, 1), (3, .iload_n 2, 1)] (by decide +kernel) (pc' := 4) (L' := #[.val (.long (Int64.ofNat V)), .second, .val (.int (4 : Int32))]) (S' := [.int (4 : Int32), .long (Int64.ofNat V), .int (48 : Int32)]) rfl ?_
  refine G.static (y := ⟨"com/example/mynah/mynah/PlainDecimalParseCappedPinLaw", "p10", "(I)J"⟩) (argsL := [.int (4 : Int32)]) (rest := [.long (Int64.ofNat V), .int (48 : Int32)]) (W := 3) (by decide +kernel) (tw 6 rfl) (tw 7 rfl) (tw 4 rfl) (tw 8 rfl) (by decide) ((p10C l Z a0 n0 h 4 (by decide)).pays (tw 8 rfl) (tw 4 rfl) (lb rfl) (lb rfl)) (lenOf pd18 rfl) rfl (Nat.le_of_eq rfl) rfl (lb rfl) (lb rfl) ?_
  rintro _ h1 ⟨K1, rfl⟩
  rw [show Int64.ofNat (10 ^ 4) = (10000 : Int64) from rfl]
  refine G.seg [(7, .ldiv, 1)] (by decide +kernel) (pc' := 8) (L' := #[.val (.long (Int64.ofNat V)), .second, .val (.int (4 : Int32))]) (S' := [.long ((Int64.ofNat V) / (10000 : Int64)), .int (48 : Int32)]) rfl ?_
  refine G.ldcJ (by decide +kernel) (tw 10 rfl) ?_
  refine G.seg [(11, .lrem, 1), (12, .l2i, 1), (13, .iadd, 1), (14, .i2c, 1)] (by decide +kernel) (pc' := 15) (L' := #[.val (.long (Int64.ofNat V)), .second, .val (.int (4 : Int32))]) (S' := [.int (((48 : Int32) + ((((Int64.ofNat V) / (10000 : Int64)) % (10 : Int64)).toInt32)).toUInt32.toUInt16.toUInt32.toInt32)]) rfl ?_
  exact G.retN (by decide +kernel) rfl (Or.inr (Or.inr (Or.inl rfl))) (nar_dig (r := V) (p := 10000) hV (by decide)) ⟨K1, rfl⟩ (lb rfl) (lb rfl)

set_option maxRecDepth 65536 in
set_option maxHeartbeats 4000000 in
theorem dig5C (l : Launch) (Z : State) (a0 : Array Value) (n0 : Nat) (h : Heap) (V : Nat) (hV : V < 2 ^ 63) :
    Ct l Z a0 consts_1 tables_1 [] n0 ⟨"com/example/mynah/mynah/PlainDecimalParseCappedPinLaw", "dig", "(JI)C"⟩ method_4_code 3 (some (.char)) ({ frames := 1, cells := 1, slots := 19, locals := 20 } : Room) #[.long (Int64.ofNat V), .int (5 : Int32)] h (fun v h' => Keep h h' [] ∧ v = some (.int (chd (V / 100000 % 10)))) := by
  refine Ct.of_body pn7 (L0 := #[.val (.long (Int64.ofNat V)), .second, .val (.int (5 : Int32))]) (fun m => by exact ef_of rfl) (fun hEL hw hO => ?_)
  refine G.seg [(0, .bipush 48, 2), (2, .lload_n 0, 1), (3, .iload_n 2, 1)] (by decide +kernel) (pc' := 4) (L' := #[.val (.long (Int64.ofNat V)), .second, .val (.int (5 : Int32))]) (S' := [.int (5 : Int32), .long (Int64.ofNat V), .int (48 : Int32)]) rfl ?_
  refine G.static (y := ⟨"com/example/mynah/mynah/PlainDecimalParseCappedPinLaw", "p10", "(I)J"⟩) (argsL := [.int (5 : Int32)]) (rest := [.long (Int64.ofNat V), .int (48 : Int32)]) (W := 3) (by decide +kernel) (tw 6 rfl) (tw 7 rfl) (tw 4 rfl) (tw 8 rfl) (by decide) ((p10C l Z a0 n0 h 5 (by decide)).pays (tw 8 rfl) (tw 4 rfl) (lb rfl) (lb rfl)) (lenOf pd18 rfl) rfl (Nat.le_of_eq rfl) rfl (lb rfl) (lb rfl) ?_
  rintro _ h1 ⟨K1, rfl⟩
  rw [show Int64.ofNat (10 ^ 5) = (100000 : Int64) from rfl]
  refine G.seg [(7, .ldiv, 1)] (by decide +kernel) (pc' := 8) (L' := #[.val (.long (Int64.ofNat V)), .second, .val (.int (5 : Int32))]) (S' := [.long ((Int64.ofNat V) / (100000 : Int64)), .int (48 : Int32)]) rfl ?_
  refine G.ldcJ (by decide +kernel) (tw 10 rfl) ?_
  refine G.seg [(11, .lrem, 1), (12, .l2i, 1), (13, .iadd, 1), (14, .i2c, 1)] (by decide +kernel) (pc' := 15) (L' := #[.val (.long (Int64.ofNat V)), .second, .val (.int (5 : Int32))]) (S' := [.int (((48 : Int32) + ((((Int64.ofNat V) / (100000 : Int64)) % (10 : Int64)).toInt32)).toUInt32.toUInt16.toUInt32.toInt32)]) rfl ?_
  exact G.retN (by decide +kernel) rfl (Or.inr (Or.inr (Or.inl rfl))) (nar_dig (r := V) (p := 100000) hV (by decide)) ⟨K1, rfl⟩ (lb rfl) (lb rfl)

set_option maxRecDepth 65536 in
set_option maxHeartbeats 4000000 in
theorem dig6C (l : Launch) (Z : State) (a0 : Array Value) (n0 : Nat) (h : Heap) (V : Nat) (hV : V < 2 ^ 63) :
    Ct l Z a0 consts_1 tables_1 [] n0 ⟨"com/example/mynah/mynah/PlainDecimalParseCappedPinLaw", "dig", "(JI)C"⟩ method_4_code 3 (some (.char)) ({ frames := 1, cells := 1, slots := 19, locals := 20 } : Room) #[.long (Int64.ofNat V), .int (6 : Int32)] h (fun v h' => Keep h h' [] ∧ v = some (.int (chd (V / 1000000 % 10)))) := by
  refine Ct.of_body pn7 (L0 := #[.val (.long (Int64.ofNat V)), .second, .val (.int (6 : Int32))]) (fun m => by exact ef_of rfl) (fun hEL hw hO => ?_)
  refine G.seg [(0, .bipush 48, 2), (2, .lload_n 0, 1), (3, .iload_n 2, 1)] (by decide +kernel) (pc' := 4) (L' := #[.val (.long (Int64.ofNat V)), .second, .val (.int (6 : Int32))]) (S' := [.int (6 : Int32), .long (Int64.ofNat V), .int (48 : Int32)]) rfl ?_
  refine G.static (y := ⟨"com/example/mynah/mynah/PlainDecimalParseCappedPinLaw", "p10", "(I)J"⟩) (argsL := [.int (6 : Int32)]) (rest := [.long (Int64.ofNat V), .int (48 : Int32)]) (W := 3) (by decide +kernel) (tw 6 rfl) (tw 7 rfl) (tw 4 rfl) (tw 8 rfl) (by decide) ((p10C l Z a0 n0 h 6 (by decide)).pays (tw 8 rfl) (tw 4 rfl) (lb rfl) (lb rfl)) (lenOf pd18 rfl) rfl (Nat.le_of_eq rfl) rfl (lb rfl) (lb rfl) ?_
  rintro _ h1 ⟨K1, rfl⟩
  rw [show Int64.ofNat (10 ^ 6) = (1000000 : Int64) from rfl]
  refine G.seg [(7, .ldiv, 1)] (by decide +kernel) (pc' := 8) (L' := #[.val (.long (Int64.ofNat V)), .second, .val (.int (6 : Int32))]) (S' := [.long ((Int64.ofNat V) / (1000000 : Int64)), .int (48 : Int32)]) rfl ?_
  refine G.ldcJ (by decide +kernel) (tw 10 rfl) ?_
  refine G.seg [(11, .lrem, 1), (12, .l2i, 1), (13, .iadd, 1), (14, .i2c, 1)] (by decide +kernel) (pc' := 15) (L' := #[.val (.long (Int64.ofNat V)), .second, .val (.int (6 : Int32))]) (S' := [.int (((48 : Int32) + ((((Int64.ofNat V) / (1000000 : Int64)) % (10 : Int64)).toInt32)).toUInt32.toUInt16.toUInt32.toInt32)]) rfl ?_
  exact G.retN (by decide +kernel) rfl (Or.inr (Or.inr (Or.inl rfl))) (nar_dig (r := V) (p := 1000000) hV (by decide)) ⟨K1, rfl⟩ (lb rfl) (lb rfl)

set_option maxRecDepth 65536 in
set_option maxHeartbeats 4000000 in
theorem dig7C (l : Launch) (Z : State) (a0 : Array Value) (n0 : Nat) (h : Heap) (V : Nat) (hV : V < 2 ^ 63) :
    Ct l Z a0 consts_1 tables_1 [] n0 ⟨"com/example/mynah/mynah/PlainDecimalParseCappedPinLaw", "dig", "(JI)C"⟩ method_4_code 3 (some (.char)) ({ frames := 1, cells := 1, slots := 19, locals := 20 } : Room) #[.long (Int64.ofNat V), .int (7 : Int32)] h (fun v h' => Keep h h' [] ∧ v = some (.int (chd (V / 10000000 % 10)))) := by
  refine Ct.of_body pn7 (L0 := #[.val (.long (Int64.ofNat V)), .second, .val (.int (7 : Int32))]) (fun m => by exact ef_of rfl) (fun hEL hw hO => ?_)
  refine G.seg [(0, .bipush 48, 2), (2, .lload_n 0, 1), (3, .iload_n 2, 1)] (by decide +kernel) (pc' := 4) (L' := #[.val (.long (Int64.ofNat V)), .second, .val (.int (7 : Int32))]) (S' := [.int (7 : Int32), .long (Int64.ofNat V), .int (48 : Int32)]) rfl ?_
  refine G.static (y := ⟨"com/example/mynah/mynah/PlainDecimalParseCappedPinLaw", "p10", "(I)J"⟩) (argsL := [.int (7 : Int32)]) (rest := [.long (Int64.ofNat V), .int (48 : Int32)]) (W := 3) (by decide +kernel) (tw 6 rfl) (tw 7 rfl) (tw 4 rfl) (tw 8 rfl) (by decide) ((p10C l Z a0 n0 h 7 (by decide)).pays (tw 8 rfl) (tw 4 rfl) (lb rfl) (lb rfl)) (lenOf pd18 rfl) rfl (Nat.le_of_eq rfl) rfl (lb rfl) (lb rfl) ?_
  rintro _ h1 ⟨K1, rfl⟩
  rw [show Int64.ofNat (10 ^ 7) = (10000000 : Int64) from rfl]
  refine G.seg [(7, .ldiv, 1)] (by decide +kernel) (pc' := 8) (L' := #[.val (.long (Int64.ofNat V)), .second, .val (.int (7 : Int32))]) (S' := [.long ((Int64.ofNat V) / (10000000 : Int64)), .int (48 : Int32)]) rfl ?_
  refine G.ldcJ (by decide +kernel) (tw 10 rfl) ?_
  refine G.seg [(11, .lrem, 1), (12, .l2i, 1), (13, .iadd, 1), (14, .i2c, 1)] (by decide +kernel) (pc' := 15) (L' := #[.val (.long (Int64.ofNat V)), .second, .val (.int (7 : Int32))]) (S' := [.int (((48 : Int32) + ((((Int64.ofNat V) / (10000000 : Int64)) % (10 : Int64)).toInt32)).toUInt32.toUInt16.toUInt32.toInt32)]) rfl ?_
  exact G.retN (by decide +kernel) rfl (Or.inr (Or.inr (Or.inl rfl))) (nar_dig (r := V) (p := 10000000) hV (by decide)) ⟨K1, rfl⟩ (lb rfl) (lb rfl)

set_option maxRecDepth 65536 in
set_option maxHeartbeats 4000000 in
theorem dig8C (l : Launch) (Z : State) (a0 : Array Value) (n0 : Nat) (h : Heap) (V : Nat) (hV : V < 2 ^ 63) :
    Ct l Z a0 consts_1 tables_1 [] n0 ⟨"com/example/mynah/mynah/PlainDecimalParseCappedPinLaw", "dig", "(JI)C"⟩ method_4_code 3 (some (.char)) ({ frames := 1, cells := 1, slots := 19, locals := 20 } : Room) #[.long (Int64.ofNat V), .int (8 : Int32)] h (fun v h' => Keep h h' [] ∧ v = some (.int (chd (V / 100000000 % 10)))) := by
  refine Ct.of_body pn7 (L0 := #[.val (.long (Int64.ofNat V)), .second, .val (.int (8 : Int32))]) (fun m => by exact ef_of rfl) (fun hEL hw hO => ?_)
  refine G.seg [(0, .bipush 48, 2), (2, .lload_n 0, 1), (3, .iload_n 2, 1)] (by decide +kernel) (pc' := 4) (L' := #[.val (.long (Int64.ofNat V)), .second, .val (.int (8 : Int32))]) (S' := [.int (8 : Int32), .long (Int64.ofNat V), .int (48 : Int32)]) rfl ?_
  refine G.static (y := ⟨"com/example/mynah/mynah/PlainDecimalParseCappedPinLaw", "p10", "(I)J"⟩) (argsL := [.int (8 : Int32)]) (rest := [.long (Int64.ofNat V), .int (48 : Int32)]) (W := 3) (by decide +kernel) (tw 6 rfl) (tw 7 rfl) (tw 4 rfl) (tw 8 rfl) (by decide) ((p10C l Z a0 n0 h 8 (by decide)).pays (tw 8 rfl) (tw 4 rfl) (lb rfl) (lb rfl)) (lenOf pd18 rfl) rfl (Nat.le_of_eq rfl) rfl (lb rfl) (lb rfl) ?_
  rintro _ h1 ⟨K1, rfl⟩
  rw [show Int64.ofNat (10 ^ 8) = (100000000 : Int64) from rfl]
  refine G.seg [(7, .ldiv, 1)] (by decide +kernel) (pc' := 8) (L' := #[.val (.long (Int64.ofNat V)), .second, .val (.int (8 : Int32))]) (S' := [.long ((Int64.ofNat V) / (100000000 : Int64)), .int (48 : Int32)]) rfl ?_
  refine G.ldcJ (by decide +kernel) (tw 10 rfl) ?_
  refine G.seg [(11, .lrem, 1), (12, .l2i, 1), (13, .iadd, 1), (14, .i2c, 1)] (by decide +kernel) (pc' := 15) (L' := #[.val (.long (Int64.ofNat V)), .second, .val (.int (8 : Int32))]) (S' := [.int (((48 : Int32) + ((((Int64.ofNat V) / (100000000 : Int64)) % (10 : Int64)).toInt32)).toUInt32.toUInt16.toUInt32.toInt32)]) rfl ?_
  exact G.retN (by decide +kernel) rfl (Or.inr (Or.inr (Or.inl rfl))) (nar_dig (r := V) (p := 100000000) hV (by decide)) ⟨K1, rfl⟩ (lb rfl) (lb rfl)

set_option maxRecDepth 65536 in
set_option maxHeartbeats 4000000 in
theorem dig9C (l : Launch) (Z : State) (a0 : Array Value) (n0 : Nat) (h : Heap) (V : Nat) (hV : V < 2 ^ 63) :
    Ct l Z a0 consts_1 tables_1 [] n0 ⟨"com/example/mynah/mynah/PlainDecimalParseCappedPinLaw", "dig", "(JI)C"⟩ method_4_code 3 (some (.char)) ({ frames := 1, cells := 1, slots := 19, locals := 20 } : Room) #[.long (Int64.ofNat V), .int (9 : Int32)] h (fun v h' => Keep h h' [] ∧ v = some (.int (chd (V / 1000000000 % 10)))) := by
  refine Ct.of_body pn7 (L0 := #[.val (.long (Int64.ofNat V)), .second, .val (.int (9 : Int32))]) (fun m => by exact ef_of rfl) (fun hEL hw hO => ?_)
  refine G.seg [(0, .bipush 48, 2), (2, .lload_n 0, 1), (3, .iload_n 2, 1)] (by decide +kernel) (pc' := 4) (L' := #[.val (.long (Int64.ofNat V)), .second, .val (.int (9 : Int32))]) (S' := [.int (9 : Int32), .long (Int64.ofNat V), .int (48 : Int32)]) rfl ?_
  refine G.static (y := ⟨"com/example/mynah/mynah/PlainDecimalParseCappedPinLaw", "p10", "(I)J"⟩) (argsL := [.int (9 : Int32)]) (rest := [.long (Int64.ofNat V), .int (48 : Int32)]) (W := 3) (by decide +kernel) (tw 6 rfl) (tw 7 rfl) (tw 4 rfl) (tw 8 rfl) (by decide) ((p10C l Z a0 n0 h 9 (by decide)).pays (tw 8 rfl) (tw 4 rfl) (lb rfl) (lb rfl)) (lenOf pd18 rfl) rfl (Nat.le_of_eq rfl) rfl (lb rfl) (lb rfl) ?_
  rintro _ h1 ⟨K1, rfl⟩
  rw [show Int64.ofNat (10 ^ 9) = (1000000000 : Int64) from rfl]
  refine G.seg [(7, .ldiv, 1)] (by decide +kernel) (pc' := 8) (L' := #[.val (.long (Int64.ofNat V)), .second, .val (.int (9 : Int32))]) (S' := [.long ((Int64.ofNat V) / (1000000000 : Int64)), .int (48 : Int32)]) rfl ?_
  refine G.ldcJ (by decide +kernel) (tw 10 rfl) ?_
  refine G.seg [(11, .lrem, 1), (12, .l2i, 1), (13, .iadd, 1), (14, .i2c, 1)] (by decide +kernel) (pc' := 15) (L' := #[.val (.long (Int64.ofNat V)), .second, .val (.int (9 : Int32))]) (S' := [.int (((48 : Int32) + ((((Int64.ofNat V) / (1000000000 : Int64)) % (10 : Int64)).toInt32)).toUInt32.toUInt16.toUInt32.toInt32)]) rfl ?_
  exact G.retN (by decide +kernel) rfl (Or.inr (Or.inr (Or.inl rfl))) (nar_dig (r := V) (p := 1000000000) hV (by decide)) ⟨K1, rfl⟩ (lb rfl) (lb rfl)

set_option maxRecDepth 65536 in
set_option maxHeartbeats 4000000 in
theorem dig10C (l : Launch) (Z : State) (a0 : Array Value) (n0 : Nat) (h : Heap) (V : Nat) (hV : V < 2 ^ 63) :
    Ct l Z a0 consts_1 tables_1 [] n0 ⟨"com/example/mynah/mynah/PlainDecimalParseCappedPinLaw", "dig", "(JI)C"⟩ method_4_code 3 (some (.char)) ({ frames := 1, cells := 1, slots := 19, locals := 20 } : Room) #[.long (Int64.ofNat V), .int (10 : Int32)] h (fun v h' => Keep h h' [] ∧ v = some (.int (chd (V / 10000000000 % 10)))) := by
  refine Ct.of_body pn7 (L0 := #[.val (.long (Int64.ofNat V)), .second, .val (.int (10 : Int32))]) (fun m => by exact ef_of rfl) (fun hEL hw hO => ?_)
  refine G.seg [(0, .bipush 48, 2), (2, .lload_n 0, 1), (3, .iload_n 2, 1)] (by decide +kernel) (pc' := 4) (L' := #[.val (.long (Int64.ofNat V)), .second, .val (.int (10 : Int32))]) (S' := [.int (10 : Int32), .long (Int64.ofNat V), .int (48 : Int32)]) rfl ?_
  refine G.static (y := ⟨"com/example/mynah/mynah/PlainDecimalParseCappedPinLaw", "p10", "(I)J"⟩) (argsL := [.int (10 : Int32)]) (rest := [.long (Int64.ofNat V), .int (48 : Int32)]) (W := 3) (by decide +kernel) (tw 6 rfl) (tw 7 rfl) (tw 4 rfl) (tw 8 rfl) (by decide) ((p10C l Z a0 n0 h 10 (by decide)).pays (tw 8 rfl) (tw 4 rfl) (lb rfl) (lb rfl)) (lenOf pd18 rfl) rfl (Nat.le_of_eq rfl) rfl (lb rfl) (lb rfl) ?_
  rintro _ h1 ⟨K1, rfl⟩
  rw [show Int64.ofNat (10 ^ 10) = (10000000000 : Int64) from rfl]
  refine G.seg [(7, .ldiv, 1)] (by decide +kernel) (pc' := 8) (L' := #[.val (.long (Int64.ofNat V)), .second, .val (.int (10 : Int32))]) (S' := [.long ((Int64.ofNat V) / (10000000000 : Int64)), .int (48 : Int32)]) rfl ?_
  refine G.ldcJ (by decide +kernel) (tw 10 rfl) ?_
  refine G.seg [(11, .lrem, 1), (12, .l2i, 1), (13, .iadd, 1), (14, .i2c, 1)] (by decide +kernel) (pc' := 15) (L' := #[.val (.long (Int64.ofNat V)), .second, .val (.int (10 : Int32))]) (S' := [.int (((48 : Int32) + ((((Int64.ofNat V) / (10000000000 : Int64)) % (10 : Int64)).toInt32)).toUInt32.toUInt16.toUInt32.toInt32)]) rfl ?_
  exact G.retN (by decide +kernel) rfl (Or.inr (Or.inr (Or.inl rfl))) (nar_dig (r := V) (p := 10000000000) hV (by decide)) ⟨K1, rfl⟩ (lb rfl) (lb rfl)

set_option maxRecDepth 65536 in
set_option maxHeartbeats 4000000 in
theorem dig11C (l : Launch) (Z : State) (a0 : Array Value) (n0 : Nat) (h : Heap) (V : Nat) (hV : V < 2 ^ 63) :
    Ct l Z a0 consts_1 tables_1 [] n0 ⟨"com/example/mynah/mynah/PlainDecimalParseCappedPinLaw", "dig", "(JI)C"⟩ method_4_code 3 (some (.char)) ({ frames := 1, cells := 1, slots := 19, locals := 20 } : Room) #[.long (Int64.ofNat V), .int (11 : Int32)] h (fun v h' => Keep h h' [] ∧ v = some (.int (chd (V / 100000000000 % 10)))) := by
  refine Ct.of_body pn7 (L0 := #[.val (.long (Int64.ofNat V)), .second, .val (.int (11 : Int32))]) (fun m => by exact ef_of rfl) (fun hEL hw hO => ?_)
  refine G.seg [(0, .bipush 48, 2), (2, .lload_n 0, 1), (3, .iload_n 2, 1)] (by decide +kernel) (pc' := 4) (L' := #[.val (.long (Int64.ofNat V)), .second, .val (.int (11 : Int32))]) (S' := [.int (11 : Int32), .long (Int64.ofNat V), .int (48 : Int32)]) rfl ?_
  refine G.static (y := ⟨"com/example/mynah/mynah/PlainDecimalParseCappedPinLaw", "p10", "(I)J"⟩) (argsL := [.int (11 : Int32)]) (rest := [.long (Int64.ofNat V), .int (48 : Int32)]) (W := 3) (by decide +kernel) (tw 6 rfl) (tw 7 rfl) (tw 4 rfl) (tw 8 rfl) (by decide) ((p10C l Z a0 n0 h 11 (by decide)).pays (tw 8 rfl) (tw 4 rfl) (lb rfl) (lb rfl)) (lenOf pd18 rfl) rfl (Nat.le_of_eq rfl) rfl (lb rfl) (lb rfl) ?_
  rintro _ h1 ⟨K1, rfl⟩
  rw [show Int64.ofNat (10 ^ 11) = (100000000000 : Int64) from rfl]
  refine G.seg [(7, .ldiv, 1)] (by decide +kernel) (pc' := 8) (L' := #[.val (.long (Int64.ofNat V)), .second, .val (.int (11 : Int32))]) (S' := [.long ((Int64.ofNat V) / (100000000000 : Int64)), .int (48 : Int32)]) rfl ?_
  refine G.ldcJ (by decide +kernel) (tw 10 rfl) ?_
  refine G.seg [(11, .lrem, 1), (12, .l2i, 1), (13, .iadd, 1), (14, .i2c, 1)] (by decide +kernel) (pc' := 15) (L' := #[.val (.long (Int64.ofNat V)), .second, .val (.int (11 : Int32))]) (S' := [.int (((48 : Int32) + ((((Int64.ofNat V) / (100000000000 : Int64)) % (10 : Int64)).toInt32)).toUInt32.toUInt16.toUInt32.toInt32)]) rfl ?_
  exact G.retN (by decide +kernel) rfl (Or.inr (Or.inr (Or.inl rfl))) (nar_dig (r := V) (p := 100000000000) hV (by decide)) ⟨K1, rfl⟩ (lb rfl) (lb rfl)

set_option maxRecDepth 65536 in
set_option maxHeartbeats 4000000 in
theorem dig12C (l : Launch) (Z : State) (a0 : Array Value) (n0 : Nat) (h : Heap) (V : Nat) (hV : V < 2 ^ 63) :
    Ct l Z a0 consts_1 tables_1 [] n0 ⟨"com/example/mynah/mynah/PlainDecimalParseCappedPinLaw", "dig", "(JI)C"⟩ method_4_code 3 (some (.char)) ({ frames := 1, cells := 1, slots := 19, locals := 20 } : Room) #[.long (Int64.ofNat V), .int (12 : Int32)] h (fun v h' => Keep h h' [] ∧ v = some (.int (chd (V / 1000000000000 % 10)))) := by
  refine Ct.of_body pn7 (L0 := #[.val (.long (Int64.ofNat V)), .second, .val (.int (12 : Int32))]) (fun m => by exact ef_of rfl) (fun hEL hw hO => ?_)
  refine G.seg [(0, .bipush 48, 2), (2, .lload_n 0, 1), (3, .iload_n 2, 1)] (by decide +kernel) (pc' := 4) (L' := #[.val (.long (Int64.ofNat V)), .second, .val (.int (12 : Int32))]) (S' := [.int (12 : Int32), .long (Int64.ofNat V), .int (48 : Int32)]) rfl ?_
  refine G.static (y := ⟨"com/example/mynah/mynah/PlainDecimalParseCappedPinLaw", "p10", "(I)J"⟩) (argsL := [.int (12 : Int32)]) (rest := [.long (Int64.ofNat V), .int (48 : Int32)]) (W := 3) (by decide +kernel) (tw 6 rfl) (tw 7 rfl) (tw 4 rfl) (tw 8 rfl) (by decide) ((p10C l Z a0 n0 h 12 (by decide)).pays (tw 8 rfl) (tw 4 rfl) (lb rfl) (lb rfl)) (lenOf pd18 rfl) rfl (Nat.le_of_eq rfl) rfl (lb rfl) (lb rfl) ?_
  rintro _ h1 ⟨K1, rfl⟩
  rw [show Int64.ofNat (10 ^ 12) = (1000000000000 : Int64) from rfl]
  refine G.seg [(7, .ldiv, 1)] (by decide +kernel) (pc' := 8) (L' := #[.val (.long (Int64.ofNat V)), .second, .val (.int (12 : Int32))]) (S' := [.long ((Int64.ofNat V) / (1000000000000 : Int64)), .int (48 : Int32)]) rfl ?_
  refine G.ldcJ (by decide +kernel) (tw 10 rfl) ?_
  refine G.seg [(11, .lrem, 1), (12, .l2i, 1), (13, .iadd, 1), (14, .i2c, 1)] (by decide +kernel) (pc' := 15) (L' := #[.val (.long (Int64.ofNat V)), .second, .val (.int (12 : Int32))]) (S' := [.int (((48 : Int32) + ((((Int64.ofNat V) / (1000000000000 : Int64)) % (10 : Int64)).toInt32)).toUInt32.toUInt16.toUInt32.toInt32)]) rfl ?_
  exact G.retN (by decide +kernel) rfl (Or.inr (Or.inr (Or.inl rfl))) (nar_dig (r := V) (p := 1000000000000) hV (by decide)) ⟨K1, rfl⟩ (lb rfl) (lb rfl)

set_option maxRecDepth 65536 in
set_option maxHeartbeats 4000000 in
theorem dig13C (l : Launch) (Z : State) (a0 : Array Value) (n0 : Nat) (h : Heap) (V : Nat) (hV : V < 2 ^ 63) :
    Ct l Z a0 consts_1 tables_1 [] n0 ⟨"com/example/mynah/mynah/PlainDecimalParseCappedPinLaw", "dig", "(JI)C"⟩ method_4_code 3 (some (.char)) ({ frames := 1, cells := 1, slots := 19, locals := 20 } : Room) #[.long (Int64.ofNat V), .int (13 : Int32)] h (fun v h' => Keep h h' [] ∧ v = some (.int (chd (V / 10000000000000 % 10)))) := by
  refine Ct.of_body pn7 (L0 := #[.val (.long (Int64.ofNat V)), .second, .val (.int (13 : Int32))]) (fun m => by exact ef_of rfl) (fun hEL hw hO => ?_)
  refine G.seg [(0, .bipush 48, 2), (2, .lload_n 0, 1), (3, .iload_n 2, 1)] (by decide +kernel) (pc' := 4) (L' := #[.val (.long (Int64.ofNat V)), .second, .val (.int (13 : Int32))]) (S' := [.int (13 : Int32), .long (Int64.ofNat V), .int (48 : Int32)]) rfl ?_
  refine G.static (y := ⟨"com/example/mynah/mynah/PlainDecimalParseCappedPinLaw", "p10", "(I)J"⟩) (argsL := [.int (13 : Int32)]) (rest := [.long (Int64.ofNat V), .int (48 : Int32)]) (W := 3) (by decide +kernel) (tw 6 rfl) (tw 7 rfl) (tw 4 rfl) (tw 8 rfl) (by decide) ((p10C l Z a0 n0 h 13 (by decide)).pays (tw 8 rfl) (tw 4 rfl) (lb rfl) (lb rfl)) (lenOf pd18 rfl) rfl (Nat.le_of_eq rfl) rfl (lb rfl) (lb rfl) ?_
  rintro _ h1 ⟨K1, rfl⟩
  rw [show Int64.ofNat (10 ^ 13) = (10000000000000 : Int64) from rfl]
  refine G.seg [(7, .ldiv, 1)] (by decide +kernel) (pc' := 8) (L' := #[.val (.long (Int64.ofNat V)), .second, .val (.int (13 : Int32))]) (S' := [.long ((Int64.ofNat V) / (10000000000000 : Int64)), .int (48 : Int32)]) rfl ?_
  refine G.ldcJ (by decide +kernel) (tw 10 rfl) ?_
  refine G.seg [(11, .lrem, 1), (12, .l2i, 1), (13, .iadd, 1), (14, .i2c, 1)] (by decide +kernel) (pc' := 15) (L' := #[.val (.long (Int64.ofNat V)), .second, .val (.int (13 : Int32))]) (S' := [.int (((48 : Int32) + ((((Int64.ofNat V) / (10000000000000 : Int64)) % (10 : Int64)).toInt32)).toUInt32.toUInt16.toUInt32.toInt32)]) rfl ?_
  exact G.retN (by decide +kernel) rfl (Or.inr (Or.inr (Or.inl rfl))) (nar_dig (r := V) (p := 10000000000000) hV (by decide)) ⟨K1, rfl⟩ (lb rfl) (lb rfl)

set_option maxRecDepth 65536 in
set_option maxHeartbeats 4000000 in
theorem dig14C (l : Launch) (Z : State) (a0 : Array Value) (n0 : Nat) (h : Heap) (V : Nat) (hV : V < 2 ^ 63) :
    Ct l Z a0 consts_1 tables_1 [] n0 ⟨"com/example/mynah/mynah/PlainDecimalParseCappedPinLaw", "dig", "(JI)C"⟩ method_4_code 3 (some (.char)) ({ frames := 1, cells := 1, slots := 19, locals := 20 } : Room) #[.long (Int64.ofNat V), .int (14 : Int32)] h (fun v h' => Keep h h' [] ∧ v = some (.int (chd (V / 100000000000000 % 10)))) := by
  refine Ct.of_body pn7 (L0 := #[.val (.long (Int64.ofNat V)), .second, .val (.int (14 : Int32))]) (fun m => by exact ef_of rfl) (fun hEL hw hO => ?_)
  refine G.seg [(0, .bipush 48, 2), (2, .lload_n 0, 1), (3, .iload_n 2, 1)] (by decide +kernel) (pc' := 4) (L' := #[.val (.long (Int64.ofNat V)), .second, .val (.int (14 : Int32))]) (S' := [.int (14 : Int32), .long (Int64.ofNat V), .int (48 : Int32)]) rfl ?_
  refine G.static (y := ⟨"com/example/mynah/mynah/PlainDecimalParseCappedPinLaw", "p10", "(I)J"⟩) (argsL := [.int (14 : Int32)]) (rest := [.long (Int64.ofNat V), .int (48 : Int32)]) (W := 3) (by decide +kernel) (tw 6 rfl) (tw 7 rfl) (tw 4 rfl) (tw 8 rfl) (by decide) ((p10C l Z a0 n0 h 14 (by decide)).pays (tw 8 rfl) (tw 4 rfl) (lb rfl) (lb rfl)) (lenOf pd18 rfl) rfl (Nat.le_of_eq rfl) rfl (lb rfl) (lb rfl) ?_
  rintro _ h1 ⟨K1, rfl⟩
  rw [show Int64.ofNat (10 ^ 14) = (100000000000000 : Int64) from rfl]
  refine G.seg [(7, .ldiv, 1)] (by decide +kernel) (pc' := 8) (L' := #[.val (.long (Int64.ofNat V)), .second, .val (.int (14 : Int32))]) (S' := [.long ((Int64.ofNat V) / (100000000000000 : Int64)), .int (48 : Int32)]) rfl ?_
  refine G.ldcJ (by decide +kernel) (tw 10 rfl) ?_
  refine G.seg [(11, .lrem, 1), (12, .l2i, 1), (13, .iadd, 1), (14, .i2c, 1)] (by decide +kernel) (pc' := 15) (L' := #[.val (.long (Int64.ofNat V)), .second, .val (.int (14 : Int32))]) (S' := [.int (((48 : Int32) + ((((Int64.ofNat V) / (100000000000000 : Int64)) % (10 : Int64)).toInt32)).toUInt32.toUInt16.toUInt32.toInt32)]) rfl ?_
  exact G.retN (by decide +kernel) rfl (Or.inr (Or.inr (Or.inl rfl))) (nar_dig (r := V) (p := 100000000000000) hV (by decide)) ⟨K1, rfl⟩ (lb rfl) (lb rfl)

set_option maxRecDepth 65536 in
set_option maxHeartbeats 4000000 in
theorem dig15C (l : Launch) (Z : State) (a0 : Array Value) (n0 : Nat) (h : Heap) (V : Nat) (hV : V < 2 ^ 63) :
    Ct l Z a0 consts_1 tables_1 [] n0 ⟨"com/example/mynah/mynah/PlainDecimalParseCappedPinLaw", "dig", "(JI)C"⟩ method_4_code 3 (some (.char)) ({ frames := 1, cells := 1, slots := 19, locals := 20 } : Room) #[.long (Int64.ofNat V), .int (15 : Int32)] h (fun v h' => Keep h h' [] ∧ v = some (.int (chd (V / 1000000000000000 % 10)))) := by
  refine Ct.of_body pn7 (L0 := #[.val (.long (Int64.ofNat V)), .second, .val (.int (15 : Int32))]) (fun m => by exact ef_of rfl) (fun hEL hw hO => ?_)
  refine G.seg [(0, .bipush 48, 2), (2, .lload_n 0, 1), (3, .iload_n 2, 1)] (by decide +kernel) (pc' := 4) (L' := #[.val (.long (Int64.ofNat V)), .second, .val (.int (15 : Int32))]) (S' := [.int (15 : Int32), .long (Int64.ofNat V), .int (48 : Int32)]) rfl ?_
  refine G.static (y := ⟨"com/example/mynah/mynah/PlainDecimalParseCappedPinLaw", "p10", "(I)J"⟩) (argsL := [.int (15 : Int32)]) (rest := [.long (Int64.ofNat V), .int (48 : Int32)]) (W := 3) (by decide +kernel) (tw 6 rfl) (tw 7 rfl) (tw 4 rfl) (tw 8 rfl) (by decide) ((p10C l Z a0 n0 h 15 (by decide)).pays (tw 8 rfl) (tw 4 rfl) (lb rfl) (lb rfl)) (lenOf pd18 rfl) rfl (Nat.le_of_eq rfl) rfl (lb rfl) (lb rfl) ?_
  rintro _ h1 ⟨K1, rfl⟩
  rw [show Int64.ofNat (10 ^ 15) = (1000000000000000 : Int64) from rfl]
  refine G.seg [(7, .ldiv, 1)] (by decide +kernel) (pc' := 8) (L' := #[.val (.long (Int64.ofNat V)), .second, .val (.int (15 : Int32))]) (S' := [.long ((Int64.ofNat V) / (1000000000000000 : Int64)), .int (48 : Int32)]) rfl ?_
  refine G.ldcJ (by decide +kernel) (tw 10 rfl) ?_
  refine G.seg [(11, .lrem, 1), (12, .l2i, 1), (13, .iadd, 1), (14, .i2c, 1)] (by decide +kernel) (pc' := 15) (L' := #[.val (.long (Int64.ofNat V)), .second, .val (.int (15 : Int32))]) (S' := [.int (((48 : Int32) + ((((Int64.ofNat V) / (1000000000000000 : Int64)) % (10 : Int64)).toInt32)).toUInt32.toUInt16.toUInt32.toInt32)]) rfl ?_
  exact G.retN (by decide +kernel) rfl (Or.inr (Or.inr (Or.inl rfl))) (nar_dig (r := V) (p := 1000000000000000) hV (by decide)) ⟨K1, rfl⟩ (lb rfl) (lb rfl)

set_option maxRecDepth 65536 in
set_option maxHeartbeats 4000000 in
theorem dig16C (l : Launch) (Z : State) (a0 : Array Value) (n0 : Nat) (h : Heap) (V : Nat) (hV : V < 2 ^ 63) :
    Ct l Z a0 consts_1 tables_1 [] n0 ⟨"com/example/mynah/mynah/PlainDecimalParseCappedPinLaw", "dig", "(JI)C"⟩ method_4_code 3 (some (.char)) ({ frames := 1, cells := 1, slots := 19, locals := 20 } : Room) #[.long (Int64.ofNat V), .int (16 : Int32)] h (fun v h' => Keep h h' [] ∧ v = some (.int (chd (V / 10000000000000000 % 10)))) := by
  refine Ct.of_body pn7 (L0 := #[.val (.long (Int64.ofNat V)), .second, .val (.int (16 : Int32))]) (fun m => by exact ef_of rfl) (fun hEL hw hO => ?_)
  refine G.seg [(0, .bipush 48, 2), (2, .lload_n 0, 1), (3, .iload_n 2, 1)] (by decide +kernel) (pc' := 4) (L' := #[.val (.long (Int64.ofNat V)), .second, .val (.int (16 : Int32))]) (S' := [.int (16 : Int32), .long (Int64.ofNat V), .int (48 : Int32)]) rfl ?_
  refine G.static (y := ⟨"com/example/mynah/mynah/PlainDecimalParseCappedPinLaw", "p10", "(I)J"⟩) (argsL := [.int (16 : Int32)]) (rest := [.long (Int64.ofNat V), .int (48 : Int32)]) (W := 3) (by decide +kernel) (tw 6 rfl) (tw 7 rfl) (tw 4 rfl) (tw 8 rfl) (by decide) ((p10C l Z a0 n0 h 16 (by decide)).pays (tw 8 rfl) (tw 4 rfl) (lb rfl) (lb rfl)) (lenOf pd18 rfl) rfl (Nat.le_of_eq rfl) rfl (lb rfl) (lb rfl) ?_
  rintro _ h1 ⟨K1, rfl⟩
  rw [show Int64.ofNat (10 ^ 16) = (10000000000000000 : Int64) from rfl]
  refine G.seg [(7, .ldiv, 1)] (by decide +kernel) (pc' := 8) (L' := #[.val (.long (Int64.ofNat V)), .second, .val (.int (16 : Int32))]) (S' := [.long ((Int64.ofNat V) / (10000000000000000 : Int64)), .int (48 : Int32)]) rfl ?_
  refine G.ldcJ (by decide +kernel) (tw 10 rfl) ?_
  refine G.seg [(11, .lrem, 1), (12, .l2i, 1), (13, .iadd, 1), (14, .i2c, 1)] (by decide +kernel) (pc' := 15) (L' := #[.val (.long (Int64.ofNat V)), .second, .val (.int (16 : Int32))]) (S' := [.int (((48 : Int32) + ((((Int64.ofNat V) / (10000000000000000 : Int64)) % (10 : Int64)).toInt32)).toUInt32.toUInt16.toUInt32.toInt32)]) rfl ?_
  exact G.retN (by decide +kernel) rfl (Or.inr (Or.inr (Or.inl rfl))) (nar_dig (r := V) (p := 10000000000000000) hV (by decide)) ⟨K1, rfl⟩ (lb rfl) (lb rfl)

set_option maxRecDepth 65536 in
set_option maxHeartbeats 4000000 in
theorem dig17C (l : Launch) (Z : State) (a0 : Array Value) (n0 : Nat) (h : Heap) (V : Nat) (hV : V < 2 ^ 63) :
    Ct l Z a0 consts_1 tables_1 [] n0 ⟨"com/example/mynah/mynah/PlainDecimalParseCappedPinLaw", "dig", "(JI)C"⟩ method_4_code 3 (some (.char)) ({ frames := 1, cells := 1, slots := 19, locals := 20 } : Room) #[.long (Int64.ofNat V), .int (17 : Int32)] h (fun v h' => Keep h h' [] ∧ v = some (.int (chd (V / 100000000000000000 % 10)))) := by
  refine Ct.of_body pn7 (L0 := #[.val (.long (Int64.ofNat V)), .second, .val (.int (17 : Int32))]) (fun m => by exact ef_of rfl) (fun hEL hw hO => ?_)
  refine G.seg [(0, .bipush 48, 2), (2, .lload_n 0, 1), (3, .iload_n 2, 1)] (by decide +kernel) (pc' := 4) (L' := #[.val (.long (Int64.ofNat V)), .second, .val (.int (17 : Int32))]) (S' := [.int (17 : Int32), .long (Int64.ofNat V), .int (48 : Int32)]) rfl ?_
  refine G.static (y := ⟨"com/example/mynah/mynah/PlainDecimalParseCappedPinLaw", "p10", "(I)J"⟩) (argsL := [.int (17 : Int32)]) (rest := [.long (Int64.ofNat V), .int (48 : Int32)]) (W := 3) (by decide +kernel) (tw 6 rfl) (tw 7 rfl) (tw 4 rfl) (tw 8 rfl) (by decide) ((p10C l Z a0 n0 h 17 (by decide)).pays (tw 8 rfl) (tw 4 rfl) (lb rfl) (lb rfl)) (lenOf pd18 rfl) rfl (Nat.le_of_eq rfl) rfl (lb rfl) (lb rfl) ?_
  rintro _ h1 ⟨K1, rfl⟩
  rw [show Int64.ofNat (10 ^ 17) = (100000000000000000 : Int64) from rfl]
  refine G.seg [(7, .ldiv, 1)] (by decide +kernel) (pc' := 8) (L' := #[.val (.long (Int64.ofNat V)), .second, .val (.int (17 : Int32))]) (S' := [.long ((Int64.ofNat V) / (100000000000000000 : Int64)), .int (48 : Int32)]) rfl ?_
  refine G.ldcJ (by decide +kernel) (tw 10 rfl) ?_
  refine G.seg [(11, .lrem, 1), (12, .l2i, 1), (13, .iadd, 1), (14, .i2c, 1)] (by decide +kernel) (pc' := 15) (L' := #[.val (.long (Int64.ofNat V)), .second, .val (.int (17 : Int32))]) (S' := [.int (((48 : Int32) + ((((Int64.ofNat V) / (100000000000000000 : Int64)) % (10 : Int64)).toInt32)).toUInt32.toUInt16.toUInt32.toInt32)]) rfl ?_
  exact G.retN (by decide +kernel) rfl (Or.inr (Or.inr (Or.inl rfl))) (nar_dig (r := V) (p := 100000000000000000) hV (by decide)) ⟨K1, rfl⟩ (lb rfl) (lb rfl)

set_option maxRecDepth 65536 in
set_option maxHeartbeats 4000000 in
theorem dig18C (l : Launch) (Z : State) (a0 : Array Value) (n0 : Nat) (h : Heap) (V : Nat) (hV : V < 2 ^ 63) :
    Ct l Z a0 consts_1 tables_1 [] n0 ⟨"com/example/mynah/mynah/PlainDecimalParseCappedPinLaw", "dig", "(JI)C"⟩ method_4_code 3 (some (.char)) ({ frames := 1, cells := 1, slots := 19, locals := 20 } : Room) #[.long (Int64.ofNat V), .int (18 : Int32)] h (fun v h' => Keep h h' [] ∧ v = some (.int (chd (V / 1000000000000000000 % 10)))) := by
  refine Ct.of_body pn7 (L0 := #[.val (.long (Int64.ofNat V)), .second, .val (.int (18 : Int32))]) (fun m => by exact ef_of rfl) (fun hEL hw hO => ?_)
  refine G.seg [(0, .bipush 48, 2), (2, .lload_n 0, 1), (3, .iload_n 2, 1)] (by decide +kernel) (pc' := 4) (L' := #[.val (.long (Int64.ofNat V)), .second, .val (.int (18 : Int32))]) (S' := [.int (18 : Int32), .long (Int64.ofNat V), .int (48 : Int32)]) rfl ?_
  refine G.static (y := ⟨"com/example/mynah/mynah/PlainDecimalParseCappedPinLaw", "p10", "(I)J"⟩) (argsL := [.int (18 : Int32)]) (rest := [.long (Int64.ofNat V), .int (48 : Int32)]) (W := 3) (by decide +kernel) (tw 6 rfl) (tw 7 rfl) (tw 4 rfl) (tw 8 rfl) (by decide) ((p10C l Z a0 n0 h 18 (by decide)).pays (tw 8 rfl) (tw 4 rfl) (lb rfl) (lb rfl)) (lenOf pd18 rfl) rfl (Nat.le_of_eq rfl) rfl (lb rfl) (lb rfl) ?_
  rintro _ h1 ⟨K1, rfl⟩
  rw [show Int64.ofNat (10 ^ 18) = (1000000000000000000 : Int64) from rfl]
  refine G.seg [(7, .ldiv, 1)] (by decide +kernel) (pc' := 8) (L' := #[.val (.long (Int64.ofNat V)), .second, .val (.int (18 : Int32))]) (S' := [.long ((Int64.ofNat V) / (1000000000000000000 : Int64)), .int (48 : Int32)]) rfl ?_
  refine G.ldcJ (by decide +kernel) (tw 10 rfl) ?_
  refine G.seg [(11, .lrem, 1), (12, .l2i, 1), (13, .iadd, 1), (14, .i2c, 1)] (by decide +kernel) (pc' := 15) (L' := #[.val (.long (Int64.ofNat V)), .second, .val (.int (18 : Int32))]) (S' := [.int (((48 : Int32) + ((((Int64.ofNat V) / (1000000000000000000 : Int64)) % (10 : Int64)).toInt32)).toUInt32.toUInt16.toUInt32.toInt32)]) rfl ?_
  exact G.retN (by decide +kernel) rfl (Or.inr (Or.inr (Or.inl rfl))) (nar_dig (r := V) (p := 1000000000000000000) hV (by decide)) ⟨K1, rfl⟩ (lb rfl) (lb rfl)

set_option maxRecDepth 65536 in
set_option maxHeartbeats 40000000 in
theorem lawC (l : Launch) (Z : State) (a0 : Array Value) (n0 : Nat) (h : Heap) (vr cr : Int64) (sh rp : Int32) (hCS : CS Z) (hU : US Z) (hFM : FM Z) :
    Ct l Z a0 consts_1 tables_1 tables_1 n0 x code maxLocals ret room_1 #[.long vr, .long cr, .int sh, .int rp] h (fun v _ => v = some (.int 1)) := by
  refine Ct.of_body pn7 (L0 := #[.val (.long vr), .second, .val (.long cr), .second, .val (.int sh), .val (.int rp), .unset, .unset, .unset, .unset, .unset, .unset, .unset, .unset, .unset, .unset, .unset, .unset, .unset, .unset, .unset, .unset, .unset, .unset, .unset, .unset, .unset, .unset]) (fun m => ef_of rfl) (fun hEL hw hO => ?_)
  refine G.seg [(0, .lload_n 0, 1)] (by decide +kernel) (pc' := 1) (L' := #[.val (.long vr), .second, .val (.long cr), .second, .val (.int sh), .val (.int rp), .unset, .unset, .unset, .unset, .unset, .unset, .unset, .unset, .unset, .unset, .unset, .unset, .unset, .unset, .unset, .unset, .unset, .unset, .unset, .unset, .unset, .unset]) (S' := [.long vr]) rfl ?_
  refine G.ldcJ (by decide +kernel) (tw 0 rfl) ?_
  refine G.seg [(4, .land, 1), (5, .iload 4, 2), (7, .bipush 63, 2), (9, .iand, 1), (10, .lushr, 1)] (by decide +kernel) (pc' := 11) (L' := #[.val (.long vr), .second, .val (.long cr), .second, .val (.int sh), .val (.int rp), .unset, .unset, .unset, .unset, .unset, .unset, .unset, .unset, .unset, .unset, .unset, .unset, .unset, .unset, .unset, .unset, .unset, .unset, .unset, .unset, .unset, .unset]) (S' := [.long (XT.ushrL (vr &&& (9223372036854775807 : Int64)) (sh &&& (63 : Int32)))]) rfl ?_
  obtain ⟨V, hV, eV⟩ := ushrV vr (sh &&& (63 : Int32))
  rw [eV]
  refine G.seg [(11, .lstore 6, 2)] (by decide +kernel) (pc' := 13) (L' := #[.val (.long vr), .second, .val (.long cr), .second, .val (.int sh), .val (.int rp), .val (.long (Int64.ofNat V)), .second, .unset, .unset, .unset, .unset, .unset, .unset, .unset, .unset, .unset, .unset, .unset, .unset, .unset, .unset, .unset, .unset, .unset, .unset, .unset, .unset]) (S' := []) rfl ?_
  refine G.seg [(13, .lload_n 2, 1)] (by decide +kernel) (pc' := 14) (L' := #[.val (.long vr), .second, .val (.long cr), .second, .val (.int sh), .val (.int rp), .val (.long (Int64.ofNat V)), .second, .unset, .unset, .unset, .unset, .unset, .unset, .unset, .unset, .unset, .unset, .unset, .unset, .unset, .unset, .unset, .unset, .unset, .unset, .unset, .unset]) (S' := [.long cr]) rfl ?_
  refine G.ldcJ (by decide +kernel) (tw 0 rfl) ?_
  refine G.seg [(17, .land, 1), (18, .iload 4, 2), (20, .bipush 6, 2), (22, .iushr, 1), (23, .bipush 63, 2), (25, .iand, 1), (26, .lushr, 1)] (by decide +kernel) (pc' := 27) (L' := #[.val (.long vr), .second, .val (.long cr), .second, .val (.int sh), .val (.int rp), .val (.long (Int64.ofNat V)), .second, .unset, .unset, .unset, .unset, .unset, .unset, .unset, .unset, .unset, .unset, .unset, .unset, .unset, .unset, .unset, .unset, .unset, .unset, .unset, .unset]) (S' := [.long (XT.ushrL (cr &&& (9223372036854775807 : Int64)) ((XT.ushr sh (6 : Int32)) &&& (63 : Int32)))]) rfl ?_
  obtain ⟨C, hC, eC⟩ := ushrV cr (XT.ushr sh 6 &&& (63 : Int32))
  rw [eC]
  refine G.seg [(27, .lstore 8, 2)] (by decide +kernel) (pc' := 29) (L' := #[.val (.long vr), .second, .val (.long cr), .second, .val (.int sh), .val (.int rp), .val (.long (Int64.ofNat V)), .second, .val (.long (Int64.ofNat C)), .second, .unset, .unset, .unset, .unset, .unset, .unset, .unset, .unset, .unset, .unset, .unset, .unset, .unset, .unset, .unset, .unset, .unset, .unset]) (S' := []) rfl ?_
  refine G.seg [(29, .iload 4, 2), (31, .bipush 12, 2), (33, .iushr, 1), (34, .iconst 3, 1), (35, .iand, 1), (36, .iconst 3, 1), (37, .irem, 1)] (by decide +kernel) (pc' := 38) (L' := #[.val (.long vr), .second, .val (.long cr), .second, .val (.int sh), .val (.int rp), .val (.long (Int64.ofNat V)), .second, .val (.long (Int64.ofNat C)), .second, .unset, .unset, .unset, .unset, .unset, .unset, .unset, .unset, .unset, .unset, .unset, .unset, .unset, .unset, .unset, .unset, .unset, .unset]) (S' := [.int (((XT.ushr sh (12 : Int32)) &&& (3 : Int32)) % (3 : Int32))]) rfl ?_
  obtain ⟨K, hK, eK⟩ := a3r (XT.ushr sh 12)
  rw [eK]
  refine G.seg [(38, .istore 10, 2)] (by decide +kernel) (pc' := 40) (L' := #[.val (.long vr), .second, .val (.long cr), .second, .val (.int sh), .val (.int rp), .val (.long (Int64.ofNat V)), .second, .val (.long (Int64.ofNat C)), .second, .val (.int (Int32.ofNat K)), .unset, .unset, .unset, .unset, .unset, .unset, .unset, .unset, .unset, .unset, .unset, .unset, .unset, .unset, .unset, .unset, .unset]) (S' := []) rfl ?_
  refine G.seg [(40, .iload 4, 2), (42, .bipush 14, 2), (44, .iushr, 1), (45, .bipush 15, 2), (47, .iand, 1), (48, .bipush 10, 2), (50, .irem, 1)] (by decide +kernel) (pc' := 51) (L' := #[.val (.long vr), .second, .val (.long cr), .second, .val (.int sh), .val (.int rp), .val (.long (Int64.ofNat V)), .second, .val (.long (Int64.ofNat C)), .second, .val (.int (Int32.ofNat K)), .unset, .unset, .unset, .unset, .unset, .unset, .unset, .unset, .unset, .unset, .unset, .unset, .unset, .unset, .unset, .unset, .unset]) (S' := [.int (((XT.ushr sh (14 : Int32)) &&& (15 : Int32)) % (10 : Int32))]) rfl ?_
  obtain ⟨S1, hS1, eS1⟩ := a15 (XT.ushr sh 14)
  rw [eS1]
  refine G.seg [(51, .istore 11, 2)] (by decide +kernel) (pc' := 53) (L' := #[.val (.long vr), .second, .val (.long cr), .second, .val (.int sh), .val (.int rp), .val (.long (Int64.ofNat V)), .second, .val (.long (Int64.ofNat C)), .second, .val (.int (Int32.ofNat K)), .val (.int (Int32.ofNat S1)), .unset, .unset, .unset, .unset, .unset, .unset, .unset, .unset, .unset, .unset, .unset, .unset, .unset, .unset, .unset, .unset]) (S' := []) rfl ?_
  refine G.seg [(53, .iload 4, 2), (55, .bipush 18, 2), (57, .iushr, 1), (58, .bipush 15, 2), (60, .iand, 1), (61, .bipush 10, 2), (63, .irem, 1)] (by decide +kernel) (pc' := 64) (L' := #[.val (.long vr), .second, .val (.long cr), .second, .val (.int sh), .val (.int rp), .val (.long (Int64.ofNat V)), .second, .val (.long (Int64.ofNat C)), .second, .val (.int (Int32.ofNat K)), .val (.int (Int32.ofNat S1)), .unset, .unset, .unset, .unset, .unset, .unset, .unset, .unset, .unset, .unset, .unset, .unset, .unset, .unset, .unset, .unset]) (S' := [.int (((XT.ushr sh (18 : Int32)) &&& (15 : Int32)) % (10 : Int32))]) rfl ?_
  obtain ⟨S2, hS2, eS2⟩ := a15 (XT.ushr sh 18)
  rw [eS2]
  refine G.seg [(64, .istore 12, 2)] (by decide +kernel) (pc' := 66) (L' := #[.val (.long vr), .second, .val (.long cr), .second, .val (.int sh), .val (.int rp), .val (.long (Int64.ofNat V)), .second, .val (.long (Int64.ofNat C)), .second, .val (.int (Int32.ofNat K)), .val (.int (Int32.ofNat S1)), .val (.int (Int32.ofNat S2)), .unset, .unset, .unset, .unset, .unset, .unset, .unset, .unset, .unset, .unset, .unset, .unset, .unset, .unset, .unset]) (S' := []) rfl ?_
  refine G.seg [(66, .iload 4, 2), (68, .bipush 22, 2), (70, .iushr, 1), (71, .iconst 3, 1), (72, .iand, 1)] (by decide +kernel) (pc' := 73) (L' := #[.val (.long vr), .second, .val (.long cr), .second, .val (.int sh), .val (.int rp), .val (.long (Int64.ofNat V)), .second, .val (.long (Int64.ofNat C)), .second, .val (.int (Int32.ofNat K)), .val (.int (Int32.ofNat S1)), .val (.int (Int32.ofNat S2)), .unset, .unset, .unset, .unset, .unset, .unset, .unset, .unset, .unset, .unset, .unset, .unset, .unset, .unset, .unset]) (S' := [.int ((XT.ushr sh (22 : Int32)) &&& (3 : Int32))]) rfl ?_
  obtain ⟨mo, hmo, emo⟩ := a3 (XT.ushr sh 22)
  rw [emo]
  refine G.seg [(73, .istore 13, 2)] (by decide +kernel) (pc' := 75) (L' := #[.val (.long vr), .second, .val (.long cr), .second, .val (.int sh), .val (.int rp), .val (.long (Int64.ofNat V)), .second, .val (.long (Int64.ofNat C)), .second, .val (.int (Int32.ofNat K)), .val (.int (Int32.ofNat S1)), .val (.int (Int32.ofNat S2)), .val (.int (Int32.ofNat mo)), .unset, .unset, .unset, .unset, .unset, .unset, .unset, .unset, .unset, .unset, .unset, .unset, .unset, .unset]) (S' := []) rfl ?_
  refine G.seg [(75, .iload 5, 2)] (by decide +kernel) (pc' := 77) (L' := #[.val (.long vr), .second, .val (.long cr), .second, .val (.int sh), .val (.int rp), .val (.long (Int64.ofNat V)), .second, .val (.long (Int64.ofNat C)), .second, .val (.int (Int32.ofNat K)), .val (.int (Int32.ofNat S1)), .val (.int (Int32.ofNat S2)), .val (.int (Int32.ofNat mo)), .unset, .unset, .unset, .unset, .unset, .unset, .unset, .unset, .unset, .unset, .unset, .unset, .unset, .unset]) (S' := [.int rp]) rfl ?_
  refine G.ldcI (by decide +kernel) (tw 1 rfl) ?_
  refine G.seg [(79, .iand, 1), (80, .i2c, 1)] (by decide +kernel) (pc' := 81) (L' := #[.val (.long vr), .second, .val (.long cr), .second, .val (.int sh), .val (.int rp), .val (.long (Int64.ofNat V)), .second, .val (.long (Int64.ofNat C)), .second, .val (.int (Int32.ofNat K)), .val (.int (Int32.ofNat S1)), .val (.int (Int32.ofNat S2)), .val (.int (Int32.ofNat mo)), .unset, .unset, .unset, .unset, .unset, .unset, .unset, .unset, .unset, .unset, .unset, .unset, .unset, .unset]) (S' := [.int ((rp &&& (65535 : Int32)).toUInt32.toUInt16.toUInt32.toInt32)]) rfl ?_
  have hc0 := i2c_rng (rp &&& (65535 : Int32))
  generalize (rp &&& (65535 : Int32)).toUInt32.toUInt16.toUInt32.toInt32 = c0 at hc0 ⊢
  refine G.seg [(81, .istore 14, 2)] (by decide +kernel) (pc' := 83) (L' := #[.val (.long vr), .second, .val (.long cr), .second, .val (.int sh), .val (.int rp), .val (.long (Int64.ofNat V)), .second, .val (.long (Int64.ofNat C)), .second, .val (.int (Int32.ofNat K)), .val (.int (Int32.ofNat S1)), .val (.int (Int32.ofNat S2)), .val (.int (Int32.ofNat mo)), .val (.int c0), .unset, .unset, .unset, .unset, .unset, .unset, .unset, .unset, .unset, .unset, .unset, .unset, .unset]) (S' := []) rfl ?_
  refine G.seg [(83, .iload 14, 2), (85, .bipush 48, 2)] (by decide +kernel) (pc' := 87) (L' := #[.val (.long vr), .second, .val (.long cr), .second, .val (.int sh), .val (.int rp), .val (.long (Int64.ofNat V)), .second, .val (.long (Int64.ofNat C)), .second, .val (.int (Int32.ofNat K)), .val (.int (Int32.ofNat S1)), .val (.int (Int32.ofNat S2)), .val (.int (Int32.ofNat mo)), .val (.int c0), .unset, .unset, .unset, .unset, .unset, .unset, .unset, .unset, .unset, .unset, .unset, .unset, .unset]) (S' := [.int (48 : Int32), .int c0]) rfl ?_
  refine G.join (fun c : Int32 => (¬ c < 0 ∧ ¬ (65535 : Int32) < c) ∧ (c < 48 ∨ (57 : Int32) < c)) (fun c => (h, 0, 0, 105, #[.val (.long vr), .second, .val (.long cr), .second, .val (.int sh), .val (.int rp), .val (.long (Int64.ofNat V)), .second, .val (.long (Int64.ofNat C)), .second, .val (.int (Int32.ofNat K)), .val (.int (Int32.ofNat S1)), .val (.int (Int32.ofNat S2)), .val (.int (Int32.ofNat mo)), .val (.int c), .unset, .unset, .unset, .unset, .unset, .unset, .unset, .unset, .unset, .unset, .unset, .unset, .unset], [])) ?_ ?_
  · intro J
    refine G.iclt (o := (18)) (pc' := 105) (by decide +kernel) (by decide) rfl ?_ ?_
    · intro q1
      exact J c0 ⟨hc0, Or.inl q1⟩
    · intro q1
      refine G.seg [(90, .iload 14, 2), (92, .bipush 57, 2)] (by decide +kernel) (pc' := 94) (L' := #[.val (.long vr), .second, .val (.long cr), .second, .val (.int sh), .val (.int rp), .val (.long (Int64.ofNat V)), .second, .val (.long (Int64.ofNat C)), .second, .val (.int (Int32.ofNat K)), .val (.int (Int32.ofNat S1)), .val (.int (Int32.ofNat S2)), .val (.int (Int32.ofNat mo)), .val (.int c0), .unset, .unset, .unset, .unset, .unset, .unset, .unset, .unset, .unset, .unset, .unset, .unset, .unset]) (S' := [.int (57 : Int32), .int c0]) rfl ?_
      refine G.icgt (o := (11)) (pc' := 105) (by decide +kernel) (by decide) rfl ?_ ?_
      · intro q2
        exact J c0 ⟨hc0, Or.inr q2⟩
      · intro q2
        refine G.seg [(97, .iload 14, 2), (99, .bipush 10, 2), (101, .iadd, 1), (102, .i2c, 1), (103, .istore 14, 2)] (by decide +kernel) (pc' := 105) (L' := #[.val (.long vr), .second, .val (.long cr), .second, .val (.int sh), .val (.int rp), .val (.long (Int64.ofNat V)), .second, .val (.long (Int64.ofNat C)), .second, .val (.int (Int32.ofNat K)), .val (.int (Int32.ofNat S1)), .val (.int (Int32.ofNat S2)), .val (.int (Int32.ofNat mo)), .val (.int ((c0 + (10 : Int32)).toUInt32.toUInt16.toUInt32.toInt32)), .unset, .unset, .unset, .unset, .unset, .unset, .unset, .unset, .unset, .unset, .unset, .unset, .unset]) (S' := []) rfl ?_
        exact J _ ⟨i2c_rng _, nd10 q1 q2⟩
  rintro c ⟨hc, hcd⟩
  dsimp only
  refine G.seg [(105, .iload 13, 2), (107, .iconst 3, 1)] (by decide +kernel) (pc' := 108) (L' := #[.val (.long vr), .second, .val (.long cr), .second, .val (.int sh), .val (.int rp), .val (.long (Int64.ofNat V)), .second, .val (.long (Int64.ofNat C)), .second, .val (.int (Int32.ofNat K)), .val (.int (Int32.ofNat S1)), .val (.int (Int32.ofNat S2)), .val (.int (Int32.ofNat mo)), .val (.int c), .unset, .unset, .unset, .unset, .unset, .unset, .unset, .unset, .unset, .unset, .unset, .unset, .unset]) (S' := [.int (3 : Int32), .int (Int32.ofNat mo)]) rfl ?_
  refine G.icne (o := (31)) (pc' := 139) (by decide +kernel) (by decide) rfl ?_ ?_
  · intro q3
    have h3 : mo ≠ 3 := fun z => q3 (by rw [z]; rfl)
    refine G.seg [(139, .lload 6, 2)] (by decide +kernel) (pc' := 141) (L' := #[.val (.long vr), .second, .val (.long cr), .second, .val (.int sh), .val (.int rp), .val (.long (Int64.ofNat V)), .second, .val (.long (Int64.ofNat C)), .second, .val (.int (Int32.ofNat K)), .val (.int (Int32.ofNat S1)), .val (.int (Int32.ofNat S2)), .val (.int (Int32.ofNat mo)), .val (.int c), .unset, .unset, .unset, .unset, .unset, .unset, .unset, .unset, .unset, .unset, .unset, .unset, .unset]) (S' := [.long (Int64.ofNat V)]) rfl ?_
    refine G.static (y := ⟨"com/example/mynah/mynah/PlainDecimalParseCappedPinLaw", "digits", "(J)I"⟩) (argsL := [.long (Int64.ofNat V)]) (rest := []) (W := 0) (by decide +kernel) (tw 2 rfl) (tw 3 rfl) (tw 4 rfl) (tw 5 rfl) (by decide) ((dgtC l Z a0 n0 h V hV).pays (tw 5 rfl) (tw 4 rfl) (lb rfl) (lb rfl)) (lenOf pd19 rfl) rfl (Nat.le_of_eq rfl) rfl (lb rfl) (lb rfl) ?_
    rintro _ h4 ⟨KD, rfl⟩
    obtain ⟨N, eN⟩ : ∃ N, N = dgs 18 V := ⟨_, rfl⟩
    rw [← eN]
    have hN : 1 ≤ N ∧ N ≤ 19 := by rw [eN]; exact dgs_pos 18 V
    have hN4 : N ≤ 4000 := by omega
    have hK4 : K ≤ 4000 := by omega
    refine G.seg [(144, .istore 15, 2)] (by decide +kernel) (pc' := 146) (L' := #[.val (.long vr), .second, .val (.long cr), .second, .val (.int sh), .val (.int rp), .val (.long (Int64.ofNat V)), .second, .val (.long (Int64.ofNat C)), .second, .val (.int (Int32.ofNat K)), .val (.int (Int32.ofNat S1)), .val (.int (Int32.ofNat S2)), .val (.int (Int32.ofNat mo)), .val (.int c), .val (.int (Int32.ofNat N)), .unset, .unset, .unset, .unset, .unset, .unset, .unset, .unset, .unset, .unset, .unset, .unset]) (S' := []) rfl ?_
    refine G.seg [(146, .iload 13, 2), (148, .iconst 2, 1)] (by decide +kernel) (pc' := 149) (L' := #[.val (.long vr), .second, .val (.long cr), .second, .val (.int sh), .val (.int rp), .val (.long (Int64.ofNat V)), .second, .val (.long (Int64.ofNat C)), .second, .val (.int (Int32.ofNat K)), .val (.int (Int32.ofNat S1)), .val (.int (Int32.ofNat S2)), .val (.int (Int32.ofNat mo)), .val (.int c), .val (.int (Int32.ofNat N)), .unset, .unset, .unset, .unset, .unset, .unset, .unset, .unset, .unset, .unset, .unset, .unset]) (S' := [.int (2 : Int32), .int (Int32.ofNat mo)]) rfl ?_
    refine G.join (fun O : Nat => O = if mo = 2 then 1 else 0) (fun O => (h4, 18, 342, 157, #[.val (.long vr), .second, .val (.long cr), .second, .val (.int sh), .val (.int rp), .val (.long (Int64.ofNat V)), .second, .val (.long (Int64.ofNat C)), .second, .val (.int (Int32.ofNat K)), .val (.int (Int32.ofNat S1)), .val (.int (Int32.ofNat S2)), .val (.int (Int32.ofNat mo)), .val (.int c), .val (.int (Int32.ofNat N)), .unset, .unset, .unset, .unset, .unset, .unset, .unset, .unset, .unset, .unset, .unset, .unset], [.int (Int32.ofNat O)])) ?_ ?_
    · intro J
      refine G.icne (o := (7)) (pc' := 156) (by decide +kernel) (by decide) rfl ?_ ?_
      · intro q5
        refine G.seg [(156, .iconst 0, 1)] (by decide +kernel) (pc' := 157) (L' := #[.val (.long vr), .second, .val (.long cr), .second, .val (.int sh), .val (.int rp), .val (.long (Int64.ofNat V)), .second, .val (.long (Int64.ofNat C)), .second, .val (.int (Int32.ofNat K)), .val (.int (Int32.ofNat S1)), .val (.int (Int32.ofNat S2)), .val (.int (Int32.ofNat mo)), .val (.int c), .val (.int (Int32.ofNat N)), .unset, .unset, .unset, .unset, .unset, .unset, .unset, .unset, .unset, .unset, .unset, .unset]) (S' := [.int (0 : Int32)]) rfl ?_
        exact J 0 (if_neg (fun z => q5 (by rw [z]; rfl))).symm
      · intro q5
        refine G.seg [(152, .iconst 1, 1), (153, .goto 4, 3)] (by decide +kernel) (pc' := 157) (L' := #[.val (.long vr), .second, .val (.long cr), .second, .val (.int sh), .val (.int rp), .val (.long (Int64.ofNat V)), .second, .val (.long (Int64.ofNat C)), .second, .val (.int (Int32.ofNat K)), .val (.int (Int32.ofNat S1)), .val (.int (Int32.ofNat S2)), .val (.int (Int32.ofNat mo)), .val (.int c), .val (.int (Int32.ofNat N)), .unset, .unset, .unset, .unset, .unset, .unset, .unset, .unset, .unset, .unset, .unset, .unset]) (S' := [.int (1 : Int32)]) rfl ?_
        exact J 1 (if_pos (ninj (by omega) (by decide) q5)).symm
    rintro O eO
    dsimp only
    have hO1 : O ≤ 1 := by rw [eO]; split <;> decide
    refine G.seg [(157, .istore 16, 2)] (by decide +kernel) (pc' := 159) (L' := #[.val (.long vr), .second, .val (.long cr), .second, .val (.int sh), .val (.int rp), .val (.long (Int64.ofNat V)), .second, .val (.long (Int64.ofNat C)), .second, .val (.int (Int32.ofNat K)), .val (.int (Int32.ofNat S1)), .val (.int (Int32.ofNat S2)), .val (.int (Int32.ofNat mo)), .val (.int c), .val (.int (Int32.ofNat N)), .val (.int (Int32.ofNat O)), .unset, .unset, .unset, .unset, .unset, .unset, .unset, .unset, .unset, .unset, .unset]) (S' := []) rfl ?_
    refine G.seg [(159, .iload 16, 2), (161, .iload 15, 2), (163, .iadd, 1), (164, .iload 10, 2), (166, .iadd, 1)] (by decide +kernel) (pc' := 167) (L' := #[.val (.long vr), .second, .val (.long cr), .second, .val (.int sh), .val (.int rp), .val (.long (Int64.ofNat V)), .second, .val (.long (Int64.ofNat C)), .second, .val (.int (Int32.ofNat K)), .val (.int (Int32.ofNat S1)), .val (.int (Int32.ofNat S2)), .val (.int (Int32.ofNat mo)), .val (.int c), .val (.int (Int32.ofNat N)), .val (.int (Int32.ofNat O)), .unset, .unset, .unset, .unset, .unset, .unset, .unset, .unset, .unset, .unset, .unset]) (S' := [.int (((Int32.ofNat O) + (Int32.ofNat N)) + (Int32.ofNat K))]) rfl ?_
    rw [addN, addN]
    refine G.seg [(167, .istore 17, 2)] (by decide +kernel) (pc' := 169) (L' := #[.val (.long vr), .second, .val (.long cr), .second, .val (.int sh), .val (.int rp), .val (.long (Int64.ofNat V)), .second, .val (.long (Int64.ofNat C)), .second, .val (.int (Int32.ofNat K)), .val (.int (Int32.ofNat S1)), .val (.int (Int32.ofNat S2)), .val (.int (Int32.ofNat mo)), .val (.int c), .val (.int (Int32.ofNat N)), .val (.int (Int32.ofNat O)), .val (.int (Int32.ofNat (O + N + K))), .unset, .unset, .unset, .unset, .unset, .unset, .unset, .unset, .unset, .unset]) (S' := []) rfl ?_
    refine G.seg [(169, .iload 17, 2)] (by decide +kernel) (pc' := 171) (L' := #[.val (.long vr), .second, .val (.long cr), .second, .val (.int sh), .val (.int rp), .val (.long (Int64.ofNat V)), .second, .val (.long (Int64.ofNat C)), .second, .val (.int (Int32.ofNat K)), .val (.int (Int32.ofNat S1)), .val (.int (Int32.ofNat S2)), .val (.int (Int32.ofNat mo)), .val (.int c), .val (.int (Int32.ofNat N)), .val (.int (Int32.ofNat O)), .val (.int (Int32.ofNat (O + N + K))), .unset, .unset, .unset, .unset, .unset, .unset, .unset, .unset, .unset, .unset]) (S' := [.int (Int32.ofNat (O + N + K))]) rfl ?_
    refine G.newarr (aty := .char) (ty := .char) (cap := 22) rfl (by decide +kernel) (tw 28 rfl) (nneg (by omega)) (by rw [clampk (by omega)]; omega) (lb rfl) (lb rfl) (lb rfl) ?_
    intro h6 a6 k6 g6 n6 K6 A6
    refine G.seg [(173, .astore 18, 2)] (by decide +kernel) (pc' := 175) (L' := #[.val (.long vr), .second, .val (.long cr), .second, .val (.int sh), .val (.int rp), .val (.long (Int64.ofNat V)), .second, .val (.long (Int64.ofNat C)), .second, .val (.int (Int32.ofNat K)), .val (.int (Int32.ofNat S1)), .val (.int (Int32.ofNat S2)), .val (.int (Int32.ofNat mo)), .val (.int c), .val (.int (Int32.ofNat N)), .val (.int (Int32.ofNat O)), .val (.int (Int32.ofNat (O + N + K))), .val (.ref a6), .unset, .unset, .unset, .unset, .unset, .unset, .unset, .unset, .unset]) (S' := []) rfl ?_
    refine G.seg [(175, .iload 16, 2), (177, .iconst 1, 1)] (by decide +kernel) (pc' := 178) (L' := #[.val (.long vr), .second, .val (.long cr), .second, .val (.int sh), .val (.int rp), .val (.long (Int64.ofNat V)), .second, .val (.long (Int64.ofNat C)), .second, .val (.int (Int32.ofNat K)), .val (.int (Int32.ofNat S1)), .val (.int (Int32.ofNat S2)), .val (.int (Int32.ofNat mo)), .val (.int c), .val (.int (Int32.ofNat N)), .val (.int (Int32.ofNat O)), .val (.int (Int32.ofNat (O + N + K))), .val (.ref a6), .unset, .unset, .unset, .unset, .unset, .unset, .unset, .unset, .unset]) (S' := [.int (1 : Int32), .int (Int32.ofNat O)]) rfl ?_
    have VA0 : Arv Z h6 a6 k6 .char (Int32.ofNat (O + N + K)) ((List.replicate (O + N + K) (0 : Int32)).map Value.int) (.int 0) := A6.pad (fun i => rep0 _ 22 i)
    refine G.join (fun z : Heap × List Int32 => Keep h6 z.1 [a6] ∧ z.2.length = O + N + K ∧ Arv Z z.1 a6 k6 .char (Int32.ofNat (O + N + K)) (z.2.map Value.int) (.int 0) ∧ ∀ i, (i < O ∨ (O + N - min 0 N ≤ i ∧ i < O + N)) → z.2.getD i 0 = (TT O V N K S1 S2).getD i 0) (fun z => (z.1, 19, 364, 187, #[.val (.long vr), .second, .val (.long cr), .second, .val (.int sh), .val (.int rp), .val (.long (Int64.ofNat V)), .second, .val (.long (Int64.ofNat C)), .second, .val (.int (Int32.ofNat K)), .val (.int (Int32.ofNat S1)), .val (.int (Int32.ofNat S2)), .val (.int (Int32.ofNat mo)), .val (.int c), .val (.int (Int32.ofNat N)), .val (.int (Int32.ofNat O)), .val (.int (Int32.ofNat (O + N + K))), .val (.ref a6), .unset, .unset, .unset, .unset, .unset, .unset, .unset, .unset, .unset], [])) ?_ ?_
    · intro J
      refine G.icne (o := (9)) (pc' := 187) (by decide +kernel) (by decide) rfl ?_ ?_
      · intro q7
        have O0 : O = 0 := by have : O ≠ 1 := fun z => q7 (by rw [z]; rfl); omega
        exact J (_, List.replicate (O + N + K) 0) ⟨Keep.refl _ _, by simp, VA0, fun i hi => by exfalso; omega⟩
      · intro q7
        have O1 : O = 1 := ninj (by omega) (by decide) q7
        refine G.seg [(181, .aload 18, 2), (183, .iconst 0, 1), (184, .bipush 48, 2)] (by decide +kernel) (pc' := 186) (L' := #[.val (.long vr), .second, .val (.long cr), .second, .val (.int sh), .val (.int rp), .val (.long (Int64.ofNat V)), .second, .val (.long (Int64.ofNat C)), .second, .val (.int (Int32.ofNat K)), .val (.int (Int32.ofNat S1)), .val (.int (Int32.ofNat S2)), .val (.int (Int32.ofNat mo)), .val (.int c), .val (.int (Int32.ofNat N)), .val (.int (Int32.ofNat O)), .val (.int (Int32.ofNat (O + N + K))), .val (.ref a6), .unset, .unset, .unset, .unset, .unset, .unset, .unset, .unset, .unset]) (S' := [.int (48 : Int32), .int (0 : Int32), .ref a6]) rfl ?_
        have l0 : (List.replicate (O + N + K) (0 : Int32)).length = O + N + K := by simp
        refine G.castore (i := 0) (x' := (48 : Int32)) (by decide +kernel) VA0 n6 (iz (j := 0) hO1 hN.2 hK (by omega)).1 rfl (by rw [List.length_map, l0]; exact (by omega)) rfl ?_
        intro h8 K8 A8
        rw [← List.map_set] at A8
        exact J (_, (List.replicate (O + N + K) (0 : Int32)).set (0) (48 : Int32)) ⟨Keep.trans (Keep.refl _ [a6]) K8 (allS (Or.inl (List.mem_singleton.mpr rfl)) all0), by rw [List.length_set]; exact l0, A8, ag_zero O1 l0 (TT_o (by omega)).symm⟩
    rintro ⟨q0, v0⟩ ⟨KQ0, lv0, AQ0, ag0⟩
    dsimp only at KQ0 lv0 AQ0 ag0 ⊢
    refine G.seg [(187, .iload 15, 2)] (by decide +kernel) (pc' := 189) (L' := #[.val (.long vr), .second, .val (.long cr), .second, .val (.int sh), .val (.int rp), .val (.long (Int64.ofNat V)), .second, .val (.long (Int64.ofNat C)), .second, .val (.int (Int32.ofNat K)), .val (.int (Int32.ofNat S1)), .val (.int (Int32.ofNat S2)), .val (.int (Int32.ofNat mo)), .val (.int c), .val (.int (Int32.ofNat N)), .val (.int (Int32.ofNat O)), .val (.int (Int32.ofNat (O + N + K))), .val (.ref a6), .unset, .unset, .unset, .unset, .unset, .unset, .unset, .unset, .unset]) (S' := [.int (Int32.ofNat N)]) rfl ?_
    refine G.join (fun z : Heap × List Int32 => Keep h6 z.1 [a6] ∧ z.2.length = O + N + K ∧ Arv Z z.1 a6 k6 .char (Int32.ofNat (O + N + K)) (z.2.map Value.int) (.int 0) ∧ ∀ i, (i < O ∨ (O + N - min 1 N ≤ i ∧ i < O + N)) → z.2.getD i 0 = (TT O V N K S1 S2).getD i 0) (fun z => (z.1, 20, 383, 208, #[.val (.long vr), .second, .val (.long cr), .second, .val (.int sh), .val (.int rp), .val (.long (Int64.ofNat V)), .second, .val (.long (Int64.ofNat C)), .second, .val (.int (Int32.ofNat K)), .val (.int (Int32.ofNat S1)), .val (.int (Int32.ofNat S2)), .val (.int (Int32.ofNat mo)), .val (.int c), .val (.int (Int32.ofNat N)), .val (.int (Int32.ofNat O)), .val (.int (Int32.ofNat (O + N + K))), .val (.ref a6), .unset, .unset, .unset, .unset, .unset, .unset, .unset, .unset, .unset], [])) ?_ ?_
    · intro J
      refine G.ifle (o := (19)) (pc' := 208) (by decide +kernel) (by decide) rfl ?_ ?_
      · intro q9
        have hj : ¬ 0 < N := fun z => q9 ((ltN (a := 0) (by decide) hN4).mpr z)
        refine G.more (cells' := 20) (slots' := 383) (lb rfl) (lb rfl) ?_
        exact J (_, v0) ⟨KQ0, lv0, AQ0, ag_skip (j := 0) hj ag0⟩
      · intro q9
        have hj : 0 < N := (ltN (a := 0) (by decide) hN4).mp q9
        refine G.seg [(192, .aload 18, 2), (194, .iload 16, 2), (196, .iload 15, 2), (198, .iadd, 1), (199, .iconst 1, 1), (200, .isub, 1), (201, .lload 6, 2), (203, .iconst 0, 1)] (by decide +kernel) (pc' := 204) (L' := #[.val (.long vr), .second, .val (.long cr), .second, .val (.int sh), .val (.int rp), .val (.long (Int64.ofNat V)), .second, .val (.long (Int64.ofNat C)), .second, .val (.int (Int32.ofNat K)), .val (.int (Int32.ofNat S1)), .val (.int (Int32.ofNat S2)), .val (.int (Int32.ofNat mo)), .val (.int c), .val (.int (Int32.ofNat N)), .val (.int (Int32.ofNat O)), .val (.int (Int32.ofNat (O + N + K))), .val (.ref a6), .unset, .unset, .unset, .unset, .unset, .unset, .unset, .unset, .unset]) (S' := [.int (0 : Int32), .long (Int64.ofNat V), .int (((Int32.ofNat O) + (Int32.ofNat N)) - (1 : Int32)), .ref a6]) rfl ?_
        rw [show (Int32.ofNat O + Int32.ofNat N) - (1 : Int32) = Int32.ofNat (O + N - 1) from (ix (j := 0) hO1 hN.2 hK hj).2.2.2]
        refine G.static (y := ⟨"com/example/mynah/mynah/PlainDecimalParseCappedPinLaw", "dig", "(JI)C"⟩) (argsL := [.long (Int64.ofNat V), .int (0 : Int32)]) (rest := [.int (Int32.ofNat (O + N - 1)), .ref a6]) (W := 2) (by decide +kernel) (tw 29 rfl) (tw 30 rfl) (tw 4 rfl) (tw 31 rfl) (by decide) ((dig0C l Z a0 n0 q0 V hV).pays (tw 31 rfl) (tw 4 rfl) (lb rfl) (lb rfl)) (lenOf pd20 rfl) rfl (Nat.le_of_eq rfl) rfl (lb rfl) (lb rfl) ?_
        rintro _ h10 ⟨K10, rfl⟩
        refine G.castore (i := O + N - 1) (x' := chd (V / 1 % 10)) (by decide +kernel) (AQ0.keep K10 nin0) n6 (ix (j := 0) hO1 hN.2 hK hj).1 (ix (j := 0) hO1 hN.2 hK hj).2.1 (by rw [List.length_map, lv0]; exact (ix (j := 0) hO1 hN.2 hK hj).2.2.1) (nar_b8 (b8c (m9 _))) ?_
        intro h11 K11 A11
        rw [← List.map_set] at A11
        exact J (_, v0.set (O + N - 1) (chd (V / 1 % 10))) ⟨Keep.trans (Keep.trans KQ0 K10 all0) K11 (allS (Or.inl (List.mem_singleton.mpr rfl)) all0), by rw [List.length_set]; exact lv0, A11, ag_step (j := 0) hj lv0 (TT_dig (j := 0) hK hj).symm ag0⟩
    rintro ⟨q1, v1⟩ ⟨KQ1, lv1, AQ1, ag1⟩
    dsimp only at KQ1 lv1 AQ1 ag1 ⊢
    clear ag0 AQ0 lv0 KQ0 v0 q0
    refine G.seg [(208, .iload 15, 2), (210, .iconst 1, 1)] (by decide +kernel) (pc' := 211) (L' := #[.val (.long vr), .second, .val (.long cr), .second, .val (.int sh), .val (.int rp), .val (.long (Int64.ofNat V)), .second, .val (.long (Int64.ofNat C)), .second, .val (.int (Int32.ofNat K)), .val (.int (Int32.ofNat S1)), .val (.int (Int32.ofNat S2)), .val (.int (Int32.ofNat mo)), .val (.int c), .val (.int (Int32.ofNat N)), .val (.int (Int32.ofNat O)), .val (.int (Int32.ofNat (O + N + K))), .val (.ref a6), .unset, .unset, .unset, .unset, .unset, .unset, .unset, .unset, .unset]) (S' := [.int (1 : Int32), .int (Int32.ofNat N)]) rfl ?_
    refine G.join (fun z : Heap × List Int32 => Keep h6 z.1 [a6] ∧ z.2.length = O + N + K ∧ Arv Z z.1 a6 k6 .char (Int32.ofNat (O + N + K)) (z.2.map Value.int) (.int 0) ∧ ∀ i, (i < O ∨ (O + N - min 2 N ≤ i ∧ i < O + N)) → z.2.getD i 0 = (TT O V N K S1 S2).getD i 0) (fun z => (z.1, 21, 402, 230, #[.val (.long vr), .second, .val (.long cr), .second, .val (.int sh), .val (.int rp), .val (.long (Int64.ofNat V)), .second, .val (.long (Int64.ofNat C)), .second, .val (.int (Int32.ofNat K)), .val (.int (Int32.ofNat S1)), .val (.int (Int32.ofNat S2)), .val (.int (Int32.ofNat mo)), .val (.int c), .val (.int (Int32.ofNat N)), .val (.int (Int32.ofNat O)), .val (.int (Int32.ofNat (O + N + K))), .val (.ref a6), .unset, .unset, .unset, .unset, .unset, .unset, .unset, .unset, .unset], [])) ?_ ?_
    · intro J
      refine G.icle (o := (19)) (pc' := 230) (by decide +kernel) (by decide) rfl ?_ ?_
      · intro q12
        have hj : ¬ 1 < N := fun z => q12 ((ltN (a := 1) (by decide) hN4).mpr z)
        refine G.more (cells' := 21) (slots' := 402) (lb rfl) (lb rfl) ?_
        exact J (_, v1) ⟨KQ1, lv1, AQ1, ag_skip (j := 1) hj ag1⟩
      · intro q12
        have hj : 1 < N := (ltN (a := 1) (by decide) hN4).mp q12
        refine G.seg [(214, .aload 18, 2), (216, .iload 16, 2), (218, .iload 15, 2), (220, .iadd, 1), (221, .iconst 2, 1), (222, .isub, 1), (223, .lload 6, 2), (225, .iconst 1, 1)] (by decide +kernel) (pc' := 226) (L' := #[.val (.long vr), .second, .val (.long cr), .second, .val (.int sh), .val (.int rp), .val (.long (Int64.ofNat V)), .second, .val (.long (Int64.ofNat C)), .second, .val (.int (Int32.ofNat K)), .val (.int (Int32.ofNat S1)), .val (.int (Int32.ofNat S2)), .val (.int (Int32.ofNat mo)), .val (.int c), .val (.int (Int32.ofNat N)), .val (.int (Int32.ofNat O)), .val (.int (Int32.ofNat (O + N + K))), .val (.ref a6), .unset, .unset, .unset, .unset, .unset, .unset, .unset, .unset, .unset]) (S' := [.int (1 : Int32), .long (Int64.ofNat V), .int (((Int32.ofNat O) + (Int32.ofNat N)) - (2 : Int32)), .ref a6]) rfl ?_
        rw [show (Int32.ofNat O + Int32.ofNat N) - (2 : Int32) = Int32.ofNat (O + N - 2) from (ix (j := 1) hO1 hN.2 hK hj).2.2.2]
        refine G.static (y := ⟨"com/example/mynah/mynah/PlainDecimalParseCappedPinLaw", "dig", "(JI)C"⟩) (argsL := [.long (Int64.ofNat V), .int (1 : Int32)]) (rest := [.int (Int32.ofNat (O + N - 2)), .ref a6]) (W := 2) (by decide +kernel) (tw 29 rfl) (tw 30 rfl) (tw 4 rfl) (tw 31 rfl) (by decide) ((dig1C l Z a0 n0 q1 V hV).pays (tw 31 rfl) (tw 4 rfl) (lb rfl) (lb rfl)) (lenOf pd20 rfl) rfl (Nat.le_of_eq rfl) rfl (lb rfl) (lb rfl) ?_
        rintro _ h13 ⟨K13, rfl⟩
        refine G.castore (i := O + N - 2) (x' := chd (V / 10 % 10)) (by decide +kernel) (AQ1.keep K13 nin0) n6 (ix (j := 1) hO1 hN.2 hK hj).1 (ix (j := 1) hO1 hN.2 hK hj).2.1 (by rw [List.length_map, lv1]; exact (ix (j := 1) hO1 hN.2 hK hj).2.2.1) (nar_b8 (b8c (m9 _))) ?_
        intro h14 K14 A14
        rw [← List.map_set] at A14
        exact J (_, v1.set (O + N - 2) (chd (V / 10 % 10))) ⟨Keep.trans (Keep.trans KQ1 K13 all0) K14 (allS (Or.inl (List.mem_singleton.mpr rfl)) all0), by rw [List.length_set]; exact lv1, A14, ag_step (j := 1) hj lv1 (TT_dig (j := 1) hK hj).symm ag1⟩
    rintro ⟨q2, v2⟩ ⟨KQ2, lv2, AQ2, ag2⟩
    dsimp only at KQ2 lv2 AQ2 ag2 ⊢
    clear ag1 AQ1 lv1 KQ1 v1 q1
    refine G.seg [(230, .iload 15, 2), (232, .iconst 2, 1)] (by decide +kernel) (pc' := 233) (L' := #[.val (.long vr), .second, .val (.long cr), .second, .val (.int sh), .val (.int rp), .val (.long (Int64.ofNat V)), .second, .val (.long (Int64.ofNat C)), .second, .val (.int (Int32.ofNat K)), .val (.int (Int32.ofNat S1)), .val (.int (Int32.ofNat S2)), .val (.int (Int32.ofNat mo)), .val (.int c), .val (.int (Int32.ofNat N)), .val (.int (Int32.ofNat O)), .val (.int (Int32.ofNat (O + N + K))), .val (.ref a6), .unset, .unset, .unset, .unset, .unset, .unset, .unset, .unset, .unset]) (S' := [.int (2 : Int32), .int (Int32.ofNat N)]) rfl ?_
    refine G.join (fun z : Heap × List Int32 => Keep h6 z.1 [a6] ∧ z.2.length = O + N + K ∧ Arv Z z.1 a6 k6 .char (Int32.ofNat (O + N + K)) (z.2.map Value.int) (.int 0) ∧ ∀ i, (i < O ∨ (O + N - min 3 N ≤ i ∧ i < O + N)) → z.2.getD i 0 = (TT O V N K S1 S2).getD i 0) (fun z => (z.1, 22, 421, 252, #[.val (.long vr), .second, .val (.long cr), .second, .val (.int sh), .val (.int rp), .val (.long (Int64.ofNat V)), .second, .val (.long (Int64.ofNat C)), .second, .val (.int (Int32.ofNat K)), .val (.int (Int32.ofNat S1)), .val (.int (Int32.ofNat S2)), .val (.int (Int32.ofNat mo)), .val (.int c), .val (.int (Int32.ofNat N)), .val (.int (Int32.ofNat O)), .val (.int (Int32.ofNat (O + N + K))), .val (.ref a6), .unset, .unset, .unset, .unset, .unset, .unset, .unset, .unset, .unset], [])) ?_ ?_
    · intro J
      refine G.icle (o := (19)) (pc' := 252) (by decide +kernel) (by decide) rfl ?_ ?_
      · intro q15
        have hj : ¬ 2 < N := fun z => q15 ((ltN (a := 2) (by decide) hN4).mpr z)
        refine G.more (cells' := 22) (slots' := 421) (lb rfl) (lb rfl) ?_
        exact J (_, v2) ⟨KQ2, lv2, AQ2, ag_skip (j := 2) hj ag2⟩
      · intro q15
        have hj : 2 < N := (ltN (a := 2) (by decide) hN4).mp q15
        refine G.seg [(236, .aload 18, 2), (238, .iload 16, 2), (240, .iload 15, 2), (242, .iadd, 1), (243, .iconst 3, 1), (244, .isub, 1), (245, .lload 6, 2), (247, .iconst 2, 1)] (by decide +kernel) (pc' := 248) (L' := #[.val (.long vr), .second, .val (.long cr), .second, .val (.int sh), .val (.int rp), .val (.long (Int64.ofNat V)), .second, .val (.long (Int64.ofNat C)), .second, .val (.int (Int32.ofNat K)), .val (.int (Int32.ofNat S1)), .val (.int (Int32.ofNat S2)), .val (.int (Int32.ofNat mo)), .val (.int c), .val (.int (Int32.ofNat N)), .val (.int (Int32.ofNat O)), .val (.int (Int32.ofNat (O + N + K))), .val (.ref a6), .unset, .unset, .unset, .unset, .unset, .unset, .unset, .unset, .unset]) (S' := [.int (2 : Int32), .long (Int64.ofNat V), .int (((Int32.ofNat O) + (Int32.ofNat N)) - (3 : Int32)), .ref a6]) rfl ?_
        rw [show (Int32.ofNat O + Int32.ofNat N) - (3 : Int32) = Int32.ofNat (O + N - 3) from (ix (j := 2) hO1 hN.2 hK hj).2.2.2]
        refine G.static (y := ⟨"com/example/mynah/mynah/PlainDecimalParseCappedPinLaw", "dig", "(JI)C"⟩) (argsL := [.long (Int64.ofNat V), .int (2 : Int32)]) (rest := [.int (Int32.ofNat (O + N - 3)), .ref a6]) (W := 2) (by decide +kernel) (tw 29 rfl) (tw 30 rfl) (tw 4 rfl) (tw 31 rfl) (by decide) ((dig2C l Z a0 n0 q2 V hV).pays (tw 31 rfl) (tw 4 rfl) (lb rfl) (lb rfl)) (lenOf pd20 rfl) rfl (Nat.le_of_eq rfl) rfl (lb rfl) (lb rfl) ?_
        rintro _ h16 ⟨K16, rfl⟩
        refine G.castore (i := O + N - 3) (x' := chd (V / 100 % 10)) (by decide +kernel) (AQ2.keep K16 nin0) n6 (ix (j := 2) hO1 hN.2 hK hj).1 (ix (j := 2) hO1 hN.2 hK hj).2.1 (by rw [List.length_map, lv2]; exact (ix (j := 2) hO1 hN.2 hK hj).2.2.1) (nar_b8 (b8c (m9 _))) ?_
        intro h17 K17 A17
        rw [← List.map_set] at A17
        exact J (_, v2.set (O + N - 3) (chd (V / 100 % 10))) ⟨Keep.trans (Keep.trans KQ2 K16 all0) K17 (allS (Or.inl (List.mem_singleton.mpr rfl)) all0), by rw [List.length_set]; exact lv2, A17, ag_step (j := 2) hj lv2 (TT_dig (j := 2) hK hj).symm ag2⟩
    rintro ⟨q3, v3⟩ ⟨KQ3, lv3, AQ3, ag3⟩
    dsimp only at KQ3 lv3 AQ3 ag3 ⊢
    clear ag2 AQ2 lv2 KQ2 v2 q2
    refine G.seg [(252, .iload 15, 2), (254, .iconst 3, 1)] (by decide +kernel) (pc' := 255) (L' := #[.val (.long vr), .second, .val (.long cr), .second, .val (.int sh), .val (.int rp), .val (.long (Int64.ofNat V)), .second, .val (.long (Int64.ofNat C)), .second, .val (.int (Int32.ofNat K)), .val (.int (Int32.ofNat S1)), .val (.int (Int32.ofNat S2)), .val (.int (Int32.ofNat mo)), .val (.int c), .val (.int (Int32.ofNat N)), .val (.int (Int32.ofNat O)), .val (.int (Int32.ofNat (O + N + K))), .val (.ref a6), .unset, .unset, .unset, .unset, .unset, .unset, .unset, .unset, .unset]) (S' := [.int (3 : Int32), .int (Int32.ofNat N)]) rfl ?_
    refine G.join (fun z : Heap × List Int32 => Keep h6 z.1 [a6] ∧ z.2.length = O + N + K ∧ Arv Z z.1 a6 k6 .char (Int32.ofNat (O + N + K)) (z.2.map Value.int) (.int 0) ∧ ∀ i, (i < O ∨ (O + N - min 4 N ≤ i ∧ i < O + N)) → z.2.getD i 0 = (TT O V N K S1 S2).getD i 0) (fun z => (z.1, 23, 440, 274, #[.val (.long vr), .second, .val (.long cr), .second, .val (.int sh), .val (.int rp), .val (.long (Int64.ofNat V)), .second, .val (.long (Int64.ofNat C)), .second, .val (.int (Int32.ofNat K)), .val (.int (Int32.ofNat S1)), .val (.int (Int32.ofNat S2)), .val (.int (Int32.ofNat mo)), .val (.int c), .val (.int (Int32.ofNat N)), .val (.int (Int32.ofNat O)), .val (.int (Int32.ofNat (O + N + K))), .val (.ref a6), .unset, .unset, .unset, .unset, .unset, .unset, .unset, .unset, .unset], [])) ?_ ?_
    · intro J
      refine G.icle (o := (19)) (pc' := 274) (by decide +kernel) (by decide) rfl ?_ ?_
      · intro q18
        have hj : ¬ 3 < N := fun z => q18 ((ltN (a := 3) (by decide) hN4).mpr z)
        refine G.more (cells' := 23) (slots' := 440) (lb rfl) (lb rfl) ?_
        exact J (_, v3) ⟨KQ3, lv3, AQ3, ag_skip (j := 3) hj ag3⟩
      · intro q18
        have hj : 3 < N := (ltN (a := 3) (by decide) hN4).mp q18
        refine G.seg [(258, .aload 18, 2), (260, .iload 16, 2), (262, .iload 15, 2), (264, .iadd, 1), (265, .iconst 4, 1), (266, .isub, 1), (267, .lload 6, 2), (269, .iconst 3, 1)] (by decide +kernel) (pc' := 270) (L' := #[.val (.long vr), .second, .val (.long cr), .second, .val (.int sh), .val (.int rp), .val (.long (Int64.ofNat V)), .second, .val (.long (Int64.ofNat C)), .second, .val (.int (Int32.ofNat K)), .val (.int (Int32.ofNat S1)), .val (.int (Int32.ofNat S2)), .val (.int (Int32.ofNat mo)), .val (.int c), .val (.int (Int32.ofNat N)), .val (.int (Int32.ofNat O)), .val (.int (Int32.ofNat (O + N + K))), .val (.ref a6), .unset, .unset, .unset, .unset, .unset, .unset, .unset, .unset, .unset]) (S' := [.int (3 : Int32), .long (Int64.ofNat V), .int (((Int32.ofNat O) + (Int32.ofNat N)) - (4 : Int32)), .ref a6]) rfl ?_
        rw [show (Int32.ofNat O + Int32.ofNat N) - (4 : Int32) = Int32.ofNat (O + N - 4) from (ix (j := 3) hO1 hN.2 hK hj).2.2.2]
        refine G.static (y := ⟨"com/example/mynah/mynah/PlainDecimalParseCappedPinLaw", "dig", "(JI)C"⟩) (argsL := [.long (Int64.ofNat V), .int (3 : Int32)]) (rest := [.int (Int32.ofNat (O + N - 4)), .ref a6]) (W := 2) (by decide +kernel) (tw 29 rfl) (tw 30 rfl) (tw 4 rfl) (tw 31 rfl) (by decide) ((dig3C l Z a0 n0 q3 V hV).pays (tw 31 rfl) (tw 4 rfl) (lb rfl) (lb rfl)) (lenOf pd20 rfl) rfl (Nat.le_of_eq rfl) rfl (lb rfl) (lb rfl) ?_
        rintro _ h19 ⟨K19, rfl⟩
        refine G.castore (i := O + N - 4) (x' := chd (V / 1000 % 10)) (by decide +kernel) (AQ3.keep K19 nin0) n6 (ix (j := 3) hO1 hN.2 hK hj).1 (ix (j := 3) hO1 hN.2 hK hj).2.1 (by rw [List.length_map, lv3]; exact (ix (j := 3) hO1 hN.2 hK hj).2.2.1) (nar_b8 (b8c (m9 _))) ?_
        intro h20 K20 A20
        rw [← List.map_set] at A20
        exact J (_, v3.set (O + N - 4) (chd (V / 1000 % 10))) ⟨Keep.trans (Keep.trans KQ3 K19 all0) K20 (allS (Or.inl (List.mem_singleton.mpr rfl)) all0), by rw [List.length_set]; exact lv3, A20, ag_step (j := 3) hj lv3 (TT_dig (j := 3) hK hj).symm ag3⟩
    rintro ⟨q4, v4⟩ ⟨KQ4, lv4, AQ4, ag4⟩
    dsimp only at KQ4 lv4 AQ4 ag4 ⊢
    clear ag3 AQ3 lv3 KQ3 v3 q3
    refine G.seg [(274, .iload 15, 2), (276, .iconst 4, 1)] (by decide +kernel) (pc' := 277) (L' := #[.val (.long vr), .second, .val (.long cr), .second, .val (.int sh), .val (.int rp), .val (.long (Int64.ofNat V)), .second, .val (.long (Int64.ofNat C)), .second, .val (.int (Int32.ofNat K)), .val (.int (Int32.ofNat S1)), .val (.int (Int32.ofNat S2)), .val (.int (Int32.ofNat mo)), .val (.int c), .val (.int (Int32.ofNat N)), .val (.int (Int32.ofNat O)), .val (.int (Int32.ofNat (O + N + K))), .val (.ref a6), .unset, .unset, .unset, .unset, .unset, .unset, .unset, .unset, .unset]) (S' := [.int (4 : Int32), .int (Int32.ofNat N)]) rfl ?_
    refine G.join (fun z : Heap × List Int32 => Keep h6 z.1 [a6] ∧ z.2.length = O + N + K ∧ Arv Z z.1 a6 k6 .char (Int32.ofNat (O + N + K)) (z.2.map Value.int) (.int 0) ∧ ∀ i, (i < O ∨ (O + N - min 5 N ≤ i ∧ i < O + N)) → z.2.getD i 0 = (TT O V N K S1 S2).getD i 0) (fun z => (z.1, 24, 459, 296, #[.val (.long vr), .second, .val (.long cr), .second, .val (.int sh), .val (.int rp), .val (.long (Int64.ofNat V)), .second, .val (.long (Int64.ofNat C)), .second, .val (.int (Int32.ofNat K)), .val (.int (Int32.ofNat S1)), .val (.int (Int32.ofNat S2)), .val (.int (Int32.ofNat mo)), .val (.int c), .val (.int (Int32.ofNat N)), .val (.int (Int32.ofNat O)), .val (.int (Int32.ofNat (O + N + K))), .val (.ref a6), .unset, .unset, .unset, .unset, .unset, .unset, .unset, .unset, .unset], [])) ?_ ?_
    · intro J
      refine G.icle (o := (19)) (pc' := 296) (by decide +kernel) (by decide) rfl ?_ ?_
      · intro q21
        have hj : ¬ 4 < N := fun z => q21 ((ltN (a := 4) (by decide) hN4).mpr z)
        refine G.more (cells' := 24) (slots' := 459) (lb rfl) (lb rfl) ?_
        exact J (_, v4) ⟨KQ4, lv4, AQ4, ag_skip (j := 4) hj ag4⟩
      · intro q21
        have hj : 4 < N := (ltN (a := 4) (by decide) hN4).mp q21
        refine G.seg [(280, .aload 18, 2), (282, .iload 16, 2), (284, .iload 15, 2), (286, .iadd, 1), (287, .iconst 5, 1), (288, .isub, 1), (289, .lload 6, 2), (291, .iconst 4, 1)] (by decide +kernel) (pc' := 292) (L' := #[.val (.long vr), .second, .val (.long cr), .second, .val (.int sh), .val (.int rp), .val (.long (Int64.ofNat V)), .second, .val (.long (Int64.ofNat C)), .second, .val (.int (Int32.ofNat K)), .val (.int (Int32.ofNat S1)), .val (.int (Int32.ofNat S2)), .val (.int (Int32.ofNat mo)), .val (.int c), .val (.int (Int32.ofNat N)), .val (.int (Int32.ofNat O)), .val (.int (Int32.ofNat (O + N + K))), .val (.ref a6), .unset, .unset, .unset, .unset, .unset, .unset, .unset, .unset, .unset]) (S' := [.int (4 : Int32), .long (Int64.ofNat V), .int (((Int32.ofNat O) + (Int32.ofNat N)) - (5 : Int32)), .ref a6]) rfl ?_
        rw [show (Int32.ofNat O + Int32.ofNat N) - (5 : Int32) = Int32.ofNat (O + N - 5) from (ix (j := 4) hO1 hN.2 hK hj).2.2.2]
        refine G.static (y := ⟨"com/example/mynah/mynah/PlainDecimalParseCappedPinLaw", "dig", "(JI)C"⟩) (argsL := [.long (Int64.ofNat V), .int (4 : Int32)]) (rest := [.int (Int32.ofNat (O + N - 5)), .ref a6]) (W := 2) (by decide +kernel) (tw 29 rfl) (tw 30 rfl) (tw 4 rfl) (tw 31 rfl) (by decide) ((dig4C l Z a0 n0 q4 V hV).pays (tw 31 rfl) (tw 4 rfl) (lb rfl) (lb rfl)) (lenOf pd20 rfl) rfl (Nat.le_of_eq rfl) rfl (lb rfl) (lb rfl) ?_
        rintro _ h22 ⟨K22, rfl⟩
        refine G.castore (i := O + N - 5) (x' := chd (V / 10000 % 10)) (by decide +kernel) (AQ4.keep K22 nin0) n6 (ix (j := 4) hO1 hN.2 hK hj).1 (ix (j := 4) hO1 hN.2 hK hj).2.1 (by rw [List.length_map, lv4]; exact (ix (j := 4) hO1 hN.2 hK hj).2.2.1) (nar_b8 (b8c (m9 _))) ?_
        intro h23 K23 A23
        rw [← List.map_set] at A23
        exact J (_, v4.set (O + N - 5) (chd (V / 10000 % 10))) ⟨Keep.trans (Keep.trans KQ4 K22 all0) K23 (allS (Or.inl (List.mem_singleton.mpr rfl)) all0), by rw [List.length_set]; exact lv4, A23, ag_step (j := 4) hj lv4 (TT_dig (j := 4) hK hj).symm ag4⟩
    rintro ⟨q5, v5⟩ ⟨KQ5, lv5, AQ5, ag5⟩
    dsimp only at KQ5 lv5 AQ5 ag5 ⊢
    clear ag4 AQ4 lv4 KQ4 v4 q4
    refine G.seg [(296, .iload 15, 2), (298, .iconst 5, 1)] (by decide +kernel) (pc' := 299) (L' := #[.val (.long vr), .second, .val (.long cr), .second, .val (.int sh), .val (.int rp), .val (.long (Int64.ofNat V)), .second, .val (.long (Int64.ofNat C)), .second, .val (.int (Int32.ofNat K)), .val (.int (Int32.ofNat S1)), .val (.int (Int32.ofNat S2)), .val (.int (Int32.ofNat mo)), .val (.int c), .val (.int (Int32.ofNat N)), .val (.int (Int32.ofNat O)), .val (.int (Int32.ofNat (O + N + K))), .val (.ref a6), .unset, .unset, .unset, .unset, .unset, .unset, .unset, .unset, .unset]) (S' := [.int (5 : Int32), .int (Int32.ofNat N)]) rfl ?_
    refine G.join (fun z : Heap × List Int32 => Keep h6 z.1 [a6] ∧ z.2.length = O + N + K ∧ Arv Z z.1 a6 k6 .char (Int32.ofNat (O + N + K)) (z.2.map Value.int) (.int 0) ∧ ∀ i, (i < O ∨ (O + N - min 6 N ≤ i ∧ i < O + N)) → z.2.getD i 0 = (TT O V N K S1 S2).getD i 0) (fun z => (z.1, 25, 478, 319, #[.val (.long vr), .second, .val (.long cr), .second, .val (.int sh), .val (.int rp), .val (.long (Int64.ofNat V)), .second, .val (.long (Int64.ofNat C)), .second, .val (.int (Int32.ofNat K)), .val (.int (Int32.ofNat S1)), .val (.int (Int32.ofNat S2)), .val (.int (Int32.ofNat mo)), .val (.int c), .val (.int (Int32.ofNat N)), .val (.int (Int32.ofNat O)), .val (.int (Int32.ofNat (O + N + K))), .val (.ref a6), .unset, .unset, .unset, .unset, .unset, .unset, .unset, .unset, .unset], [])) ?_ ?_
    · intro J
      refine G.icle (o := (20)) (pc' := 319) (by decide +kernel) (by decide) rfl ?_ ?_
      · intro q24
        have hj : ¬ 5 < N := fun z => q24 ((ltN (a := 5) (by decide) hN4).mpr z)
        refine G.more (cells' := 25) (slots' := 478) (lb rfl) (lb rfl) ?_
        exact J (_, v5) ⟨KQ5, lv5, AQ5, ag_skip (j := 5) hj ag5⟩
      · intro q24
        have hj : 5 < N := (ltN (a := 5) (by decide) hN4).mp q24
        refine G.seg [(302, .aload 18, 2), (304, .iload 16, 2), (306, .iload 15, 2), (308, .iadd, 1), (309, .bipush 6, 2), (311, .isub, 1), (312, .lload 6, 2), (314, .iconst 5, 1)] (by decide +kernel) (pc' := 315) (L' := #[.val (.long vr), .second, .val (.long cr), .second, .val (.int sh), .val (.int rp), .val (.long (Int64.ofNat V)), .second, .val (.long (Int64.ofNat C)), .second, .val (.int (Int32.ofNat K)), .val (.int (Int32.ofNat S1)), .val (.int (Int32.ofNat S2)), .val (.int (Int32.ofNat mo)), .val (.int c), .val (.int (Int32.ofNat N)), .val (.int (Int32.ofNat O)), .val (.int (Int32.ofNat (O + N + K))), .val (.ref a6), .unset, .unset, .unset, .unset, .unset, .unset, .unset, .unset, .unset]) (S' := [.int (5 : Int32), .long (Int64.ofNat V), .int (((Int32.ofNat O) + (Int32.ofNat N)) - (6 : Int32)), .ref a6]) rfl ?_
        rw [show (Int32.ofNat O + Int32.ofNat N) - (6 : Int32) = Int32.ofNat (O + N - 6) from (ix (j := 5) hO1 hN.2 hK hj).2.2.2]
        refine G.static (y := ⟨"com/example/mynah/mynah/PlainDecimalParseCappedPinLaw", "dig", "(JI)C"⟩) (argsL := [.long (Int64.ofNat V), .int (5 : Int32)]) (rest := [.int (Int32.ofNat (O + N - 6)), .ref a6]) (W := 2) (by decide +kernel) (tw 29 rfl) (tw 30 rfl) (tw 4 rfl) (tw 31 rfl) (by decide) ((dig5C l Z a0 n0 q5 V hV).pays (tw 31 rfl) (tw 4 rfl) (lb rfl) (lb rfl)) (lenOf pd20 rfl) rfl (Nat.le_of_eq rfl) rfl (lb rfl) (lb rfl) ?_
        rintro _ h25 ⟨K25, rfl⟩
        refine G.castore (i := O + N - 6) (x' := chd (V / 100000 % 10)) (by decide +kernel) (AQ5.keep K25 nin0) n6 (ix (j := 5) hO1 hN.2 hK hj).1 (ix (j := 5) hO1 hN.2 hK hj).2.1 (by rw [List.length_map, lv5]; exact (ix (j := 5) hO1 hN.2 hK hj).2.2.1) (nar_b8 (b8c (m9 _))) ?_
        intro h26 K26 A26
        rw [← List.map_set] at A26
        exact J (_, v5.set (O + N - 6) (chd (V / 100000 % 10))) ⟨Keep.trans (Keep.trans KQ5 K25 all0) K26 (allS (Or.inl (List.mem_singleton.mpr rfl)) all0), by rw [List.length_set]; exact lv5, A26, ag_step (j := 5) hj lv5 (TT_dig (j := 5) hK hj).symm ag5⟩
    rintro ⟨q6, v6⟩ ⟨KQ6, lv6, AQ6, ag6⟩
    dsimp only at KQ6 lv6 AQ6 ag6 ⊢
    clear ag5 AQ5 lv5 KQ5 v5 q5
    refine G.seg [(319, .iload 15, 2), (321, .bipush 6, 2)] (by decide +kernel) (pc' := 323) (L' := #[.val (.long vr), .second, .val (.long cr), .second, .val (.int sh), .val (.int rp), .val (.long (Int64.ofNat V)), .second, .val (.long (Int64.ofNat C)), .second, .val (.int (Int32.ofNat K)), .val (.int (Int32.ofNat S1)), .val (.int (Int32.ofNat S2)), .val (.int (Int32.ofNat mo)), .val (.int c), .val (.int (Int32.ofNat N)), .val (.int (Int32.ofNat O)), .val (.int (Int32.ofNat (O + N + K))), .val (.ref a6), .unset, .unset, .unset, .unset, .unset, .unset, .unset, .unset, .unset]) (S' := [.int (6 : Int32), .int (Int32.ofNat N)]) rfl ?_
    refine G.join (fun z : Heap × List Int32 => Keep h6 z.1 [a6] ∧ z.2.length = O + N + K ∧ Arv Z z.1 a6 k6 .char (Int32.ofNat (O + N + K)) (z.2.map Value.int) (.int 0) ∧ ∀ i, (i < O ∨ (O + N - min 7 N ≤ i ∧ i < O + N)) → z.2.getD i 0 = (TT O V N K S1 S2).getD i 0) (fun z => (z.1, 26, 497, 344, #[.val (.long vr), .second, .val (.long cr), .second, .val (.int sh), .val (.int rp), .val (.long (Int64.ofNat V)), .second, .val (.long (Int64.ofNat C)), .second, .val (.int (Int32.ofNat K)), .val (.int (Int32.ofNat S1)), .val (.int (Int32.ofNat S2)), .val (.int (Int32.ofNat mo)), .val (.int c), .val (.int (Int32.ofNat N)), .val (.int (Int32.ofNat O)), .val (.int (Int32.ofNat (O + N + K))), .val (.ref a6), .unset, .unset, .unset, .unset, .unset, .unset, .unset, .unset, .unset], [])) ?_ ?_
    · intro J
      refine G.icle (o := (21)) (pc' := 344) (by decide +kernel) (by decide) rfl ?_ ?_
      · intro q27
        have hj : ¬ 6 < N := fun z => q27 ((ltN (a := 6) (by decide) hN4).mpr z)
        refine G.more (cells' := 26) (slots' := 497) (lb rfl) (lb rfl) ?_
        exact J (_, v6) ⟨KQ6, lv6, AQ6, ag_skip (j := 6) hj ag6⟩
      · intro q27
        have hj : 6 < N := (ltN (a := 6) (by decide) hN4).mp q27
        refine G.seg [(326, .aload 18, 2), (328, .iload 16, 2), (330, .iload 15, 2), (332, .iadd, 1), (333, .bipush 7, 2), (335, .isub, 1), (336, .lload 6, 2), (338, .bipush 6, 2)] (by decide +kernel) (pc' := 340) (L' := #[.val (.long vr), .second, .val (.long cr), .second, .val (.int sh), .val (.int rp), .val (.long (Int64.ofNat V)), .second, .val (.long (Int64.ofNat C)), .second, .val (.int (Int32.ofNat K)), .val (.int (Int32.ofNat S1)), .val (.int (Int32.ofNat S2)), .val (.int (Int32.ofNat mo)), .val (.int c), .val (.int (Int32.ofNat N)), .val (.int (Int32.ofNat O)), .val (.int (Int32.ofNat (O + N + K))), .val (.ref a6), .unset, .unset, .unset, .unset, .unset, .unset, .unset, .unset, .unset]) (S' := [.int (6 : Int32), .long (Int64.ofNat V), .int (((Int32.ofNat O) + (Int32.ofNat N)) - (7 : Int32)), .ref a6]) rfl ?_
        rw [show (Int32.ofNat O + Int32.ofNat N) - (7 : Int32) = Int32.ofNat (O + N - 7) from (ix (j := 6) hO1 hN.2 hK hj).2.2.2]
        refine G.static (y := ⟨"com/example/mynah/mynah/PlainDecimalParseCappedPinLaw", "dig", "(JI)C"⟩) (argsL := [.long (Int64.ofNat V), .int (6 : Int32)]) (rest := [.int (Int32.ofNat (O + N - 7)), .ref a6]) (W := 2) (by decide +kernel) (tw 29 rfl) (tw 30 rfl) (tw 4 rfl) (tw 31 rfl) (by decide) ((dig6C l Z a0 n0 q6 V hV).pays (tw 31 rfl) (tw 4 rfl) (lb rfl) (lb rfl)) (lenOf pd20 rfl) rfl (Nat.le_of_eq rfl) rfl (lb rfl) (lb rfl) ?_
        rintro _ h28 ⟨K28, rfl⟩
        refine G.castore (i := O + N - 7) (x' := chd (V / 1000000 % 10)) (by decide +kernel) (AQ6.keep K28 nin0) n6 (ix (j := 6) hO1 hN.2 hK hj).1 (ix (j := 6) hO1 hN.2 hK hj).2.1 (by rw [List.length_map, lv6]; exact (ix (j := 6) hO1 hN.2 hK hj).2.2.1) (nar_b8 (b8c (m9 _))) ?_
        intro h29 K29 A29
        rw [← List.map_set] at A29
        exact J (_, v6.set (O + N - 7) (chd (V / 1000000 % 10))) ⟨Keep.trans (Keep.trans KQ6 K28 all0) K29 (allS (Or.inl (List.mem_singleton.mpr rfl)) all0), by rw [List.length_set]; exact lv6, A29, ag_step (j := 6) hj lv6 (TT_dig (j := 6) hK hj).symm ag6⟩
    rintro ⟨q7, v7⟩ ⟨KQ7, lv7, AQ7, ag7⟩
    dsimp only at KQ7 lv7 AQ7 ag7 ⊢
    clear ag6 AQ6 lv6 KQ6 v6 q6
    refine G.seg [(344, .iload 15, 2), (346, .bipush 7, 2)] (by decide +kernel) (pc' := 348) (L' := #[.val (.long vr), .second, .val (.long cr), .second, .val (.int sh), .val (.int rp), .val (.long (Int64.ofNat V)), .second, .val (.long (Int64.ofNat C)), .second, .val (.int (Int32.ofNat K)), .val (.int (Int32.ofNat S1)), .val (.int (Int32.ofNat S2)), .val (.int (Int32.ofNat mo)), .val (.int c), .val (.int (Int32.ofNat N)), .val (.int (Int32.ofNat O)), .val (.int (Int32.ofNat (O + N + K))), .val (.ref a6), .unset, .unset, .unset, .unset, .unset, .unset, .unset, .unset, .unset]) (S' := [.int (7 : Int32), .int (Int32.ofNat N)]) rfl ?_
    refine G.join (fun z : Heap × List Int32 => Keep h6 z.1 [a6] ∧ z.2.length = O + N + K ∧ Arv Z z.1 a6 k6 .char (Int32.ofNat (O + N + K)) (z.2.map Value.int) (.int 0) ∧ ∀ i, (i < O ∨ (O + N - min 8 N ≤ i ∧ i < O + N)) → z.2.getD i 0 = (TT O V N K S1 S2).getD i 0) (fun z => (z.1, 27, 516, 369, #[.val (.long vr), .second, .val (.long cr), .second, .val (.int sh), .val (.int rp), .val (.long (Int64.ofNat V)), .second, .val (.long (Int64.ofNat C)), .second, .val (.int (Int32.ofNat K)), .val (.int (Int32.ofNat S1)), .val (.int (Int32.ofNat S2)), .val (.int (Int32.ofNat mo)), .val (.int c), .val (.int (Int32.ofNat N)), .val (.int (Int32.ofNat O)), .val (.int (Int32.ofNat (O + N + K))), .val (.ref a6), .unset, .unset, .unset, .unset, .unset, .unset, .unset, .unset, .unset], [])) ?_ ?_
    · intro J
      refine G.icle (o := (21)) (pc' := 369) (by decide +kernel) (by decide) rfl ?_ ?_
      · intro q30
        have hj : ¬ 7 < N := fun z => q30 ((ltN (a := 7) (by decide) hN4).mpr z)
        refine G.more (cells' := 27) (slots' := 516) (lb rfl) (lb rfl) ?_
        exact J (_, v7) ⟨KQ7, lv7, AQ7, ag_skip (j := 7) hj ag7⟩
      · intro q30
        have hj : 7 < N := (ltN (a := 7) (by decide) hN4).mp q30
        refine G.seg [(351, .aload 18, 2), (353, .iload 16, 2), (355, .iload 15, 2), (357, .iadd, 1), (358, .bipush 8, 2), (360, .isub, 1), (361, .lload 6, 2), (363, .bipush 7, 2)] (by decide +kernel) (pc' := 365) (L' := #[.val (.long vr), .second, .val (.long cr), .second, .val (.int sh), .val (.int rp), .val (.long (Int64.ofNat V)), .second, .val (.long (Int64.ofNat C)), .second, .val (.int (Int32.ofNat K)), .val (.int (Int32.ofNat S1)), .val (.int (Int32.ofNat S2)), .val (.int (Int32.ofNat mo)), .val (.int c), .val (.int (Int32.ofNat N)), .val (.int (Int32.ofNat O)), .val (.int (Int32.ofNat (O + N + K))), .val (.ref a6), .unset, .unset, .unset, .unset, .unset, .unset, .unset, .unset, .unset]) (S' := [.int (7 : Int32), .long (Int64.ofNat V), .int (((Int32.ofNat O) + (Int32.ofNat N)) - (8 : Int32)), .ref a6]) rfl ?_
        rw [show (Int32.ofNat O + Int32.ofNat N) - (8 : Int32) = Int32.ofNat (O + N - 8) from (ix (j := 7) hO1 hN.2 hK hj).2.2.2]
        refine G.static (y := ⟨"com/example/mynah/mynah/PlainDecimalParseCappedPinLaw", "dig", "(JI)C"⟩) (argsL := [.long (Int64.ofNat V), .int (7 : Int32)]) (rest := [.int (Int32.ofNat (O + N - 8)), .ref a6]) (W := 2) (by decide +kernel) (tw 29 rfl) (tw 30 rfl) (tw 4 rfl) (tw 31 rfl) (by decide) ((dig7C l Z a0 n0 q7 V hV).pays (tw 31 rfl) (tw 4 rfl) (lb rfl) (lb rfl)) (lenOf pd20 rfl) rfl (Nat.le_of_eq rfl) rfl (lb rfl) (lb rfl) ?_
        rintro _ h31 ⟨K31, rfl⟩
        refine G.castore (i := O + N - 8) (x' := chd (V / 10000000 % 10)) (by decide +kernel) (AQ7.keep K31 nin0) n6 (ix (j := 7) hO1 hN.2 hK hj).1 (ix (j := 7) hO1 hN.2 hK hj).2.1 (by rw [List.length_map, lv7]; exact (ix (j := 7) hO1 hN.2 hK hj).2.2.1) (nar_b8 (b8c (m9 _))) ?_
        intro h32 K32 A32
        rw [← List.map_set] at A32
        exact J (_, v7.set (O + N - 8) (chd (V / 10000000 % 10))) ⟨Keep.trans (Keep.trans KQ7 K31 all0) K32 (allS (Or.inl (List.mem_singleton.mpr rfl)) all0), by rw [List.length_set]; exact lv7, A32, ag_step (j := 7) hj lv7 (TT_dig (j := 7) hK hj).symm ag7⟩
    rintro ⟨q8, v8⟩ ⟨KQ8, lv8, AQ8, ag8⟩
    dsimp only at KQ8 lv8 AQ8 ag8 ⊢
    clear ag7 AQ7 lv7 KQ7 v7 q7
    refine G.seg [(369, .iload 15, 2), (371, .bipush 8, 2)] (by decide +kernel) (pc' := 373) (L' := #[.val (.long vr), .second, .val (.long cr), .second, .val (.int sh), .val (.int rp), .val (.long (Int64.ofNat V)), .second, .val (.long (Int64.ofNat C)), .second, .val (.int (Int32.ofNat K)), .val (.int (Int32.ofNat S1)), .val (.int (Int32.ofNat S2)), .val (.int (Int32.ofNat mo)), .val (.int c), .val (.int (Int32.ofNat N)), .val (.int (Int32.ofNat O)), .val (.int (Int32.ofNat (O + N + K))), .val (.ref a6), .unset, .unset, .unset, .unset, .unset, .unset, .unset, .unset, .unset]) (S' := [.int (8 : Int32), .int (Int32.ofNat N)]) rfl ?_
    refine G.join (fun z : Heap × List Int32 => Keep h6 z.1 [a6] ∧ z.2.length = O + N + K ∧ Arv Z z.1 a6 k6 .char (Int32.ofNat (O + N + K)) (z.2.map Value.int) (.int 0) ∧ ∀ i, (i < O ∨ (O + N - min 9 N ≤ i ∧ i < O + N)) → z.2.getD i 0 = (TT O V N K S1 S2).getD i 0) (fun z => (z.1, 28, 535, 394, #[.val (.long vr), .second, .val (.long cr), .second, .val (.int sh), .val (.int rp), .val (.long (Int64.ofNat V)), .second, .val (.long (Int64.ofNat C)), .second, .val (.int (Int32.ofNat K)), .val (.int (Int32.ofNat S1)), .val (.int (Int32.ofNat S2)), .val (.int (Int32.ofNat mo)), .val (.int c), .val (.int (Int32.ofNat N)), .val (.int (Int32.ofNat O)), .val (.int (Int32.ofNat (O + N + K))), .val (.ref a6), .unset, .unset, .unset, .unset, .unset, .unset, .unset, .unset, .unset], [])) ?_ ?_
    · intro J
      refine G.icle (o := (21)) (pc' := 394) (by decide +kernel) (by decide) rfl ?_ ?_
      · intro q33
        have hj : ¬ 8 < N := fun z => q33 ((ltN (a := 8) (by decide) hN4).mpr z)
        refine G.more (cells' := 28) (slots' := 535) (lb rfl) (lb rfl) ?_
        exact J (_, v8) ⟨KQ8, lv8, AQ8, ag_skip (j := 8) hj ag8⟩
      · intro q33
        have hj : 8 < N := (ltN (a := 8) (by decide) hN4).mp q33
        refine G.seg [(376, .aload 18, 2), (378, .iload 16, 2), (380, .iload 15, 2), (382, .iadd, 1), (383, .bipush 9, 2), (385, .isub, 1), (386, .lload 6, 2), (388, .bipush 8, 2)] (by decide +kernel) (pc' := 390) (L' := #[.val (.long vr), .second, .val (.long cr), .second, .val (.int sh), .val (.int rp), .val (.long (Int64.ofNat V)), .second, .val (.long (Int64.ofNat C)), .second, .val (.int (Int32.ofNat K)), .val (.int (Int32.ofNat S1)), .val (.int (Int32.ofNat S2)), .val (.int (Int32.ofNat mo)), .val (.int c), .val (.int (Int32.ofNat N)), .val (.int (Int32.ofNat O)), .val (.int (Int32.ofNat (O + N + K))), .val (.ref a6), .unset, .unset, .unset, .unset, .unset, .unset, .unset, .unset, .unset]) (S' := [.int (8 : Int32), .long (Int64.ofNat V), .int (((Int32.ofNat O) + (Int32.ofNat N)) - (9 : Int32)), .ref a6]) rfl ?_
        rw [show (Int32.ofNat O + Int32.ofNat N) - (9 : Int32) = Int32.ofNat (O + N - 9) from (ix (j := 8) hO1 hN.2 hK hj).2.2.2]
        refine G.static (y := ⟨"com/example/mynah/mynah/PlainDecimalParseCappedPinLaw", "dig", "(JI)C"⟩) (argsL := [.long (Int64.ofNat V), .int (8 : Int32)]) (rest := [.int (Int32.ofNat (O + N - 9)), .ref a6]) (W := 2) (by decide +kernel) (tw 29 rfl) (tw 30 rfl) (tw 4 rfl) (tw 31 rfl) (by decide) ((dig8C l Z a0 n0 q8 V hV).pays (tw 31 rfl) (tw 4 rfl) (lb rfl) (lb rfl)) (lenOf pd20 rfl) rfl (Nat.le_of_eq rfl) rfl (lb rfl) (lb rfl) ?_
        rintro _ h34 ⟨K34, rfl⟩
        refine G.castore (i := O + N - 9) (x' := chd (V / 100000000 % 10)) (by decide +kernel) (AQ8.keep K34 nin0) n6 (ix (j := 8) hO1 hN.2 hK hj).1 (ix (j := 8) hO1 hN.2 hK hj).2.1 (by rw [List.length_map, lv8]; exact (ix (j := 8) hO1 hN.2 hK hj).2.2.1) (nar_b8 (b8c (m9 _))) ?_
        intro h35 K35 A35
        rw [← List.map_set] at A35
        exact J (_, v8.set (O + N - 9) (chd (V / 100000000 % 10))) ⟨Keep.trans (Keep.trans KQ8 K34 all0) K35 (allS (Or.inl (List.mem_singleton.mpr rfl)) all0), by rw [List.length_set]; exact lv8, A35, ag_step (j := 8) hj lv8 (TT_dig (j := 8) hK hj).symm ag8⟩
    rintro ⟨q9, v9⟩ ⟨KQ9, lv9, AQ9, ag9⟩
    dsimp only at KQ9 lv9 AQ9 ag9 ⊢
    clear ag8 AQ8 lv8 KQ8 v8 q8
    refine G.seg [(394, .iload 15, 2), (396, .bipush 9, 2)] (by decide +kernel) (pc' := 398) (L' := #[.val (.long vr), .second, .val (.long cr), .second, .val (.int sh), .val (.int rp), .val (.long (Int64.ofNat V)), .second, .val (.long (Int64.ofNat C)), .second, .val (.int (Int32.ofNat K)), .val (.int (Int32.ofNat S1)), .val (.int (Int32.ofNat S2)), .val (.int (Int32.ofNat mo)), .val (.int c), .val (.int (Int32.ofNat N)), .val (.int (Int32.ofNat O)), .val (.int (Int32.ofNat (O + N + K))), .val (.ref a6), .unset, .unset, .unset, .unset, .unset, .unset, .unset, .unset, .unset]) (S' := [.int (9 : Int32), .int (Int32.ofNat N)]) rfl ?_
    refine G.join (fun z : Heap × List Int32 => Keep h6 z.1 [a6] ∧ z.2.length = O + N + K ∧ Arv Z z.1 a6 k6 .char (Int32.ofNat (O + N + K)) (z.2.map Value.int) (.int 0) ∧ ∀ i, (i < O ∨ (O + N - min 10 N ≤ i ∧ i < O + N)) → z.2.getD i 0 = (TT O V N K S1 S2).getD i 0) (fun z => (z.1, 29, 554, 419, #[.val (.long vr), .second, .val (.long cr), .second, .val (.int sh), .val (.int rp), .val (.long (Int64.ofNat V)), .second, .val (.long (Int64.ofNat C)), .second, .val (.int (Int32.ofNat K)), .val (.int (Int32.ofNat S1)), .val (.int (Int32.ofNat S2)), .val (.int (Int32.ofNat mo)), .val (.int c), .val (.int (Int32.ofNat N)), .val (.int (Int32.ofNat O)), .val (.int (Int32.ofNat (O + N + K))), .val (.ref a6), .unset, .unset, .unset, .unset, .unset, .unset, .unset, .unset, .unset], [])) ?_ ?_
    · intro J
      refine G.icle (o := (21)) (pc' := 419) (by decide +kernel) (by decide) rfl ?_ ?_
      · intro q36
        have hj : ¬ 9 < N := fun z => q36 ((ltN (a := 9) (by decide) hN4).mpr z)
        refine G.more (cells' := 29) (slots' := 554) (lb rfl) (lb rfl) ?_
        exact J (_, v9) ⟨KQ9, lv9, AQ9, ag_skip (j := 9) hj ag9⟩
      · intro q36
        have hj : 9 < N := (ltN (a := 9) (by decide) hN4).mp q36
        refine G.seg [(401, .aload 18, 2), (403, .iload 16, 2), (405, .iload 15, 2), (407, .iadd, 1), (408, .bipush 10, 2), (410, .isub, 1), (411, .lload 6, 2), (413, .bipush 9, 2)] (by decide +kernel) (pc' := 415) (L' := #[.val (.long vr), .second, .val (.long cr), .second, .val (.int sh), .val (.int rp), .val (.long (Int64.ofNat V)), .second, .val (.long (Int64.ofNat C)), .second, .val (.int (Int32.ofNat K)), .val (.int (Int32.ofNat S1)), .val (.int (Int32.ofNat S2)), .val (.int (Int32.ofNat mo)), .val (.int c), .val (.int (Int32.ofNat N)), .val (.int (Int32.ofNat O)), .val (.int (Int32.ofNat (O + N + K))), .val (.ref a6), .unset, .unset, .unset, .unset, .unset, .unset, .unset, .unset, .unset]) (S' := [.int (9 : Int32), .long (Int64.ofNat V), .int (((Int32.ofNat O) + (Int32.ofNat N)) - (10 : Int32)), .ref a6]) rfl ?_
        rw [show (Int32.ofNat O + Int32.ofNat N) - (10 : Int32) = Int32.ofNat (O + N - 10) from (ix (j := 9) hO1 hN.2 hK hj).2.2.2]
        refine G.static (y := ⟨"com/example/mynah/mynah/PlainDecimalParseCappedPinLaw", "dig", "(JI)C"⟩) (argsL := [.long (Int64.ofNat V), .int (9 : Int32)]) (rest := [.int (Int32.ofNat (O + N - 10)), .ref a6]) (W := 2) (by decide +kernel) (tw 29 rfl) (tw 30 rfl) (tw 4 rfl) (tw 31 rfl) (by decide) ((dig9C l Z a0 n0 q9 V hV).pays (tw 31 rfl) (tw 4 rfl) (lb rfl) (lb rfl)) (lenOf pd20 rfl) rfl (Nat.le_of_eq rfl) rfl (lb rfl) (lb rfl) ?_
        rintro _ h37 ⟨K37, rfl⟩
        refine G.castore (i := O + N - 10) (x' := chd (V / 1000000000 % 10)) (by decide +kernel) (AQ9.keep K37 nin0) n6 (ix (j := 9) hO1 hN.2 hK hj).1 (ix (j := 9) hO1 hN.2 hK hj).2.1 (by rw [List.length_map, lv9]; exact (ix (j := 9) hO1 hN.2 hK hj).2.2.1) (nar_b8 (b8c (m9 _))) ?_
        intro h38 K38 A38
        rw [← List.map_set] at A38
        exact J (_, v9.set (O + N - 10) (chd (V / 1000000000 % 10))) ⟨Keep.trans (Keep.trans KQ9 K37 all0) K38 (allS (Or.inl (List.mem_singleton.mpr rfl)) all0), by rw [List.length_set]; exact lv9, A38, ag_step (j := 9) hj lv9 (TT_dig (j := 9) hK hj).symm ag9⟩
    rintro ⟨q10, v10⟩ ⟨KQ10, lv10, AQ10, ag10⟩
    dsimp only at KQ10 lv10 AQ10 ag10 ⊢
    clear ag9 AQ9 lv9 KQ9 v9 q9
    refine G.seg [(419, .iload 15, 2), (421, .bipush 10, 2)] (by decide +kernel) (pc' := 423) (L' := #[.val (.long vr), .second, .val (.long cr), .second, .val (.int sh), .val (.int rp), .val (.long (Int64.ofNat V)), .second, .val (.long (Int64.ofNat C)), .second, .val (.int (Int32.ofNat K)), .val (.int (Int32.ofNat S1)), .val (.int (Int32.ofNat S2)), .val (.int (Int32.ofNat mo)), .val (.int c), .val (.int (Int32.ofNat N)), .val (.int (Int32.ofNat O)), .val (.int (Int32.ofNat (O + N + K))), .val (.ref a6), .unset, .unset, .unset, .unset, .unset, .unset, .unset, .unset, .unset]) (S' := [.int (10 : Int32), .int (Int32.ofNat N)]) rfl ?_
    refine G.join (fun z : Heap × List Int32 => Keep h6 z.1 [a6] ∧ z.2.length = O + N + K ∧ Arv Z z.1 a6 k6 .char (Int32.ofNat (O + N + K)) (z.2.map Value.int) (.int 0) ∧ ∀ i, (i < O ∨ (O + N - min 11 N ≤ i ∧ i < O + N)) → z.2.getD i 0 = (TT O V N K S1 S2).getD i 0) (fun z => (z.1, 30, 573, 444, #[.val (.long vr), .second, .val (.long cr), .second, .val (.int sh), .val (.int rp), .val (.long (Int64.ofNat V)), .second, .val (.long (Int64.ofNat C)), .second, .val (.int (Int32.ofNat K)), .val (.int (Int32.ofNat S1)), .val (.int (Int32.ofNat S2)), .val (.int (Int32.ofNat mo)), .val (.int c), .val (.int (Int32.ofNat N)), .val (.int (Int32.ofNat O)), .val (.int (Int32.ofNat (O + N + K))), .val (.ref a6), .unset, .unset, .unset, .unset, .unset, .unset, .unset, .unset, .unset], [])) ?_ ?_
    · intro J
      refine G.icle (o := (21)) (pc' := 444) (by decide +kernel) (by decide) rfl ?_ ?_
      · intro q39
        have hj : ¬ 10 < N := fun z => q39 ((ltN (a := 10) (by decide) hN4).mpr z)
        refine G.more (cells' := 30) (slots' := 573) (lb rfl) (lb rfl) ?_
        exact J (_, v10) ⟨KQ10, lv10, AQ10, ag_skip (j := 10) hj ag10⟩
      · intro q39
        have hj : 10 < N := (ltN (a := 10) (by decide) hN4).mp q39
        refine G.seg [(426, .aload 18, 2), (428, .iload 16, 2), (430, .iload 15, 2), (432, .iadd, 1), (433, .bipush 11, 2), (435, .isub, 1), (436, .lload 6, 2), (438, .bipush 10, 2)] (by decide +kernel) (pc' := 440) (L' := #[.val (.long vr), .second, .val (.long cr), .second, .val (.int sh), .val (.int rp), .val (.long (Int64.ofNat V)), .second, .val (.long (Int64.ofNat C)), .second, .val (.int (Int32.ofNat K)), .val (.int (Int32.ofNat S1)), .val (.int (Int32.ofNat S2)), .val (.int (Int32.ofNat mo)), .val (.int c), .val (.int (Int32.ofNat N)), .val (.int (Int32.ofNat O)), .val (.int (Int32.ofNat (O + N + K))), .val (.ref a6), .unset, .unset, .unset, .unset, .unset, .unset, .unset, .unset, .unset]) (S' := [.int (10 : Int32), .long (Int64.ofNat V), .int (((Int32.ofNat O) + (Int32.ofNat N)) - (11 : Int32)), .ref a6]) rfl ?_
        rw [show (Int32.ofNat O + Int32.ofNat N) - (11 : Int32) = Int32.ofNat (O + N - 11) from (ix (j := 10) hO1 hN.2 hK hj).2.2.2]
        refine G.static (y := ⟨"com/example/mynah/mynah/PlainDecimalParseCappedPinLaw", "dig", "(JI)C"⟩) (argsL := [.long (Int64.ofNat V), .int (10 : Int32)]) (rest := [.int (Int32.ofNat (O + N - 11)), .ref a6]) (W := 2) (by decide +kernel) (tw 29 rfl) (tw 30 rfl) (tw 4 rfl) (tw 31 rfl) (by decide) ((dig10C l Z a0 n0 q10 V hV).pays (tw 31 rfl) (tw 4 rfl) (lb rfl) (lb rfl)) (lenOf pd20 rfl) rfl (Nat.le_of_eq rfl) rfl (lb rfl) (lb rfl) ?_
        rintro _ h40 ⟨K40, rfl⟩
        refine G.castore (i := O + N - 11) (x' := chd (V / 10000000000 % 10)) (by decide +kernel) (AQ10.keep K40 nin0) n6 (ix (j := 10) hO1 hN.2 hK hj).1 (ix (j := 10) hO1 hN.2 hK hj).2.1 (by rw [List.length_map, lv10]; exact (ix (j := 10) hO1 hN.2 hK hj).2.2.1) (nar_b8 (b8c (m9 _))) ?_
        intro h41 K41 A41
        rw [← List.map_set] at A41
        exact J (_, v10.set (O + N - 11) (chd (V / 10000000000 % 10))) ⟨Keep.trans (Keep.trans KQ10 K40 all0) K41 (allS (Or.inl (List.mem_singleton.mpr rfl)) all0), by rw [List.length_set]; exact lv10, A41, ag_step (j := 10) hj lv10 (TT_dig (j := 10) hK hj).symm ag10⟩
    rintro ⟨q11, v11⟩ ⟨KQ11, lv11, AQ11, ag11⟩
    dsimp only at KQ11 lv11 AQ11 ag11 ⊢
    clear ag10 AQ10 lv10 KQ10 v10 q10
    refine G.seg [(444, .iload 15, 2), (446, .bipush 11, 2)] (by decide +kernel) (pc' := 448) (L' := #[.val (.long vr), .second, .val (.long cr), .second, .val (.int sh), .val (.int rp), .val (.long (Int64.ofNat V)), .second, .val (.long (Int64.ofNat C)), .second, .val (.int (Int32.ofNat K)), .val (.int (Int32.ofNat S1)), .val (.int (Int32.ofNat S2)), .val (.int (Int32.ofNat mo)), .val (.int c), .val (.int (Int32.ofNat N)), .val (.int (Int32.ofNat O)), .val (.int (Int32.ofNat (O + N + K))), .val (.ref a6), .unset, .unset, .unset, .unset, .unset, .unset, .unset, .unset, .unset]) (S' := [.int (11 : Int32), .int (Int32.ofNat N)]) rfl ?_
    refine G.join (fun z : Heap × List Int32 => Keep h6 z.1 [a6] ∧ z.2.length = O + N + K ∧ Arv Z z.1 a6 k6 .char (Int32.ofNat (O + N + K)) (z.2.map Value.int) (.int 0) ∧ ∀ i, (i < O ∨ (O + N - min 12 N ≤ i ∧ i < O + N)) → z.2.getD i 0 = (TT O V N K S1 S2).getD i 0) (fun z => (z.1, 31, 592, 469, #[.val (.long vr), .second, .val (.long cr), .second, .val (.int sh), .val (.int rp), .val (.long (Int64.ofNat V)), .second, .val (.long (Int64.ofNat C)), .second, .val (.int (Int32.ofNat K)), .val (.int (Int32.ofNat S1)), .val (.int (Int32.ofNat S2)), .val (.int (Int32.ofNat mo)), .val (.int c), .val (.int (Int32.ofNat N)), .val (.int (Int32.ofNat O)), .val (.int (Int32.ofNat (O + N + K))), .val (.ref a6), .unset, .unset, .unset, .unset, .unset, .unset, .unset, .unset, .unset], [])) ?_ ?_
    · intro J
      refine G.icle (o := (21)) (pc' := 469) (by decide +kernel) (by decide) rfl ?_ ?_
      · intro q42
        have hj : ¬ 11 < N := fun z => q42 ((ltN (a := 11) (by decide) hN4).mpr z)
        refine G.more (cells' := 31) (slots' := 592) (lb rfl) (lb rfl) ?_
        exact J (_, v11) ⟨KQ11, lv11, AQ11, ag_skip (j := 11) hj ag11⟩
      · intro q42
        have hj : 11 < N := (ltN (a := 11) (by decide) hN4).mp q42
        refine G.seg [(451, .aload 18, 2), (453, .iload 16, 2), (455, .iload 15, 2), (457, .iadd, 1), (458, .bipush 12, 2), (460, .isub, 1), (461, .lload 6, 2), (463, .bipush 11, 2)] (by decide +kernel) (pc' := 465) (L' := #[.val (.long vr), .second, .val (.long cr), .second, .val (.int sh), .val (.int rp), .val (.long (Int64.ofNat V)), .second, .val (.long (Int64.ofNat C)), .second, .val (.int (Int32.ofNat K)), .val (.int (Int32.ofNat S1)), .val (.int (Int32.ofNat S2)), .val (.int (Int32.ofNat mo)), .val (.int c), .val (.int (Int32.ofNat N)), .val (.int (Int32.ofNat O)), .val (.int (Int32.ofNat (O + N + K))), .val (.ref a6), .unset, .unset, .unset, .unset, .unset, .unset, .unset, .unset, .unset]) (S' := [.int (11 : Int32), .long (Int64.ofNat V), .int (((Int32.ofNat O) + (Int32.ofNat N)) - (12 : Int32)), .ref a6]) rfl ?_
        rw [show (Int32.ofNat O + Int32.ofNat N) - (12 : Int32) = Int32.ofNat (O + N - 12) from (ix (j := 11) hO1 hN.2 hK hj).2.2.2]
        refine G.static (y := ⟨"com/example/mynah/mynah/PlainDecimalParseCappedPinLaw", "dig", "(JI)C"⟩) (argsL := [.long (Int64.ofNat V), .int (11 : Int32)]) (rest := [.int (Int32.ofNat (O + N - 12)), .ref a6]) (W := 2) (by decide +kernel) (tw 29 rfl) (tw 30 rfl) (tw 4 rfl) (tw 31 rfl) (by decide) ((dig11C l Z a0 n0 q11 V hV).pays (tw 31 rfl) (tw 4 rfl) (lb rfl) (lb rfl)) (lenOf pd20 rfl) rfl (Nat.le_of_eq rfl) rfl (lb rfl) (lb rfl) ?_
        rintro _ h43 ⟨K43, rfl⟩
        refine G.castore (i := O + N - 12) (x' := chd (V / 100000000000 % 10)) (by decide +kernel) (AQ11.keep K43 nin0) n6 (ix (j := 11) hO1 hN.2 hK hj).1 (ix (j := 11) hO1 hN.2 hK hj).2.1 (by rw [List.length_map, lv11]; exact (ix (j := 11) hO1 hN.2 hK hj).2.2.1) (nar_b8 (b8c (m9 _))) ?_
        intro h44 K44 A44
        rw [← List.map_set] at A44
        exact J (_, v11.set (O + N - 12) (chd (V / 100000000000 % 10))) ⟨Keep.trans (Keep.trans KQ11 K43 all0) K44 (allS (Or.inl (List.mem_singleton.mpr rfl)) all0), by rw [List.length_set]; exact lv11, A44, ag_step (j := 11) hj lv11 (TT_dig (j := 11) hK hj).symm ag11⟩
    rintro ⟨q12, v12⟩ ⟨KQ12, lv12, AQ12, ag12⟩
    dsimp only at KQ12 lv12 AQ12 ag12 ⊢
    clear ag11 AQ11 lv11 KQ11 v11 q11
    refine G.seg [(469, .iload 15, 2), (471, .bipush 12, 2)] (by decide +kernel) (pc' := 473) (L' := #[.val (.long vr), .second, .val (.long cr), .second, .val (.int sh), .val (.int rp), .val (.long (Int64.ofNat V)), .second, .val (.long (Int64.ofNat C)), .second, .val (.int (Int32.ofNat K)), .val (.int (Int32.ofNat S1)), .val (.int (Int32.ofNat S2)), .val (.int (Int32.ofNat mo)), .val (.int c), .val (.int (Int32.ofNat N)), .val (.int (Int32.ofNat O)), .val (.int (Int32.ofNat (O + N + K))), .val (.ref a6), .unset, .unset, .unset, .unset, .unset, .unset, .unset, .unset, .unset]) (S' := [.int (12 : Int32), .int (Int32.ofNat N)]) rfl ?_
    refine G.join (fun z : Heap × List Int32 => Keep h6 z.1 [a6] ∧ z.2.length = O + N + K ∧ Arv Z z.1 a6 k6 .char (Int32.ofNat (O + N + K)) (z.2.map Value.int) (.int 0) ∧ ∀ i, (i < O ∨ (O + N - min 13 N ≤ i ∧ i < O + N)) → z.2.getD i 0 = (TT O V N K S1 S2).getD i 0) (fun z => (z.1, 32, 611, 494, #[.val (.long vr), .second, .val (.long cr), .second, .val (.int sh), .val (.int rp), .val (.long (Int64.ofNat V)), .second, .val (.long (Int64.ofNat C)), .second, .val (.int (Int32.ofNat K)), .val (.int (Int32.ofNat S1)), .val (.int (Int32.ofNat S2)), .val (.int (Int32.ofNat mo)), .val (.int c), .val (.int (Int32.ofNat N)), .val (.int (Int32.ofNat O)), .val (.int (Int32.ofNat (O + N + K))), .val (.ref a6), .unset, .unset, .unset, .unset, .unset, .unset, .unset, .unset, .unset], [])) ?_ ?_
    · intro J
      refine G.icle (o := (21)) (pc' := 494) (by decide +kernel) (by decide) rfl ?_ ?_
      · intro q45
        have hj : ¬ 12 < N := fun z => q45 ((ltN (a := 12) (by decide) hN4).mpr z)
        refine G.more (cells' := 32) (slots' := 611) (lb rfl) (lb rfl) ?_
        exact J (_, v12) ⟨KQ12, lv12, AQ12, ag_skip (j := 12) hj ag12⟩
      · intro q45
        have hj : 12 < N := (ltN (a := 12) (by decide) hN4).mp q45
        refine G.seg [(476, .aload 18, 2), (478, .iload 16, 2), (480, .iload 15, 2), (482, .iadd, 1), (483, .bipush 13, 2), (485, .isub, 1), (486, .lload 6, 2), (488, .bipush 12, 2)] (by decide +kernel) (pc' := 490) (L' := #[.val (.long vr), .second, .val (.long cr), .second, .val (.int sh), .val (.int rp), .val (.long (Int64.ofNat V)), .second, .val (.long (Int64.ofNat C)), .second, .val (.int (Int32.ofNat K)), .val (.int (Int32.ofNat S1)), .val (.int (Int32.ofNat S2)), .val (.int (Int32.ofNat mo)), .val (.int c), .val (.int (Int32.ofNat N)), .val (.int (Int32.ofNat O)), .val (.int (Int32.ofNat (O + N + K))), .val (.ref a6), .unset, .unset, .unset, .unset, .unset, .unset, .unset, .unset, .unset]) (S' := [.int (12 : Int32), .long (Int64.ofNat V), .int (((Int32.ofNat O) + (Int32.ofNat N)) - (13 : Int32)), .ref a6]) rfl ?_
        rw [show (Int32.ofNat O + Int32.ofNat N) - (13 : Int32) = Int32.ofNat (O + N - 13) from (ix (j := 12) hO1 hN.2 hK hj).2.2.2]
        refine G.static (y := ⟨"com/example/mynah/mynah/PlainDecimalParseCappedPinLaw", "dig", "(JI)C"⟩) (argsL := [.long (Int64.ofNat V), .int (12 : Int32)]) (rest := [.int (Int32.ofNat (O + N - 13)), .ref a6]) (W := 2) (by decide +kernel) (tw 29 rfl) (tw 30 rfl) (tw 4 rfl) (tw 31 rfl) (by decide) ((dig12C l Z a0 n0 q12 V hV).pays (tw 31 rfl) (tw 4 rfl) (lb rfl) (lb rfl)) (lenOf pd20 rfl) rfl (Nat.le_of_eq rfl) rfl (lb rfl) (lb rfl) ?_
        rintro _ h46 ⟨K46, rfl⟩
        refine G.castore (i := O + N - 13) (x' := chd (V / 1000000000000 % 10)) (by decide +kernel) (AQ12.keep K46 nin0) n6 (ix (j := 12) hO1 hN.2 hK hj).1 (ix (j := 12) hO1 hN.2 hK hj).2.1 (by rw [List.length_map, lv12]; exact (ix (j := 12) hO1 hN.2 hK hj).2.2.1) (nar_b8 (b8c (m9 _))) ?_
        intro h47 K47 A47
        rw [← List.map_set] at A47
        exact J (_, v12.set (O + N - 13) (chd (V / 1000000000000 % 10))) ⟨Keep.trans (Keep.trans KQ12 K46 all0) K47 (allS (Or.inl (List.mem_singleton.mpr rfl)) all0), by rw [List.length_set]; exact lv12, A47, ag_step (j := 12) hj lv12 (TT_dig (j := 12) hK hj).symm ag12⟩
    rintro ⟨q13, v13⟩ ⟨KQ13, lv13, AQ13, ag13⟩
    dsimp only at KQ13 lv13 AQ13 ag13 ⊢
    clear ag12 AQ12 lv12 KQ12 v12 q12
    refine G.seg [(494, .iload 15, 2), (496, .bipush 13, 2)] (by decide +kernel) (pc' := 498) (L' := #[.val (.long vr), .second, .val (.long cr), .second, .val (.int sh), .val (.int rp), .val (.long (Int64.ofNat V)), .second, .val (.long (Int64.ofNat C)), .second, .val (.int (Int32.ofNat K)), .val (.int (Int32.ofNat S1)), .val (.int (Int32.ofNat S2)), .val (.int (Int32.ofNat mo)), .val (.int c), .val (.int (Int32.ofNat N)), .val (.int (Int32.ofNat O)), .val (.int (Int32.ofNat (O + N + K))), .val (.ref a6), .unset, .unset, .unset, .unset, .unset, .unset, .unset, .unset, .unset]) (S' := [.int (13 : Int32), .int (Int32.ofNat N)]) rfl ?_
    refine G.join (fun z : Heap × List Int32 => Keep h6 z.1 [a6] ∧ z.2.length = O + N + K ∧ Arv Z z.1 a6 k6 .char (Int32.ofNat (O + N + K)) (z.2.map Value.int) (.int 0) ∧ ∀ i, (i < O ∨ (O + N - min 14 N ≤ i ∧ i < O + N)) → z.2.getD i 0 = (TT O V N K S1 S2).getD i 0) (fun z => (z.1, 33, 630, 519, #[.val (.long vr), .second, .val (.long cr), .second, .val (.int sh), .val (.int rp), .val (.long (Int64.ofNat V)), .second, .val (.long (Int64.ofNat C)), .second, .val (.int (Int32.ofNat K)), .val (.int (Int32.ofNat S1)), .val (.int (Int32.ofNat S2)), .val (.int (Int32.ofNat mo)), .val (.int c), .val (.int (Int32.ofNat N)), .val (.int (Int32.ofNat O)), .val (.int (Int32.ofNat (O + N + K))), .val (.ref a6), .unset, .unset, .unset, .unset, .unset, .unset, .unset, .unset, .unset], [])) ?_ ?_
    · intro J
      refine G.icle (o := (21)) (pc' := 519) (by decide +kernel) (by decide) rfl ?_ ?_
      · intro q48
        have hj : ¬ 13 < N := fun z => q48 ((ltN (a := 13) (by decide) hN4).mpr z)
        refine G.more (cells' := 33) (slots' := 630) (lb rfl) (lb rfl) ?_
        exact J (_, v13) ⟨KQ13, lv13, AQ13, ag_skip (j := 13) hj ag13⟩
      · intro q48
        have hj : 13 < N := (ltN (a := 13) (by decide) hN4).mp q48
        refine G.seg [(501, .aload 18, 2), (503, .iload 16, 2), (505, .iload 15, 2), (507, .iadd, 1), (508, .bipush 14, 2), (510, .isub, 1), (511, .lload 6, 2), (513, .bipush 13, 2)] (by decide +kernel) (pc' := 515) (L' := #[.val (.long vr), .second, .val (.long cr), .second, .val (.int sh), .val (.int rp), .val (.long (Int64.ofNat V)), .second, .val (.long (Int64.ofNat C)), .second, .val (.int (Int32.ofNat K)), .val (.int (Int32.ofNat S1)), .val (.int (Int32.ofNat S2)), .val (.int (Int32.ofNat mo)), .val (.int c), .val (.int (Int32.ofNat N)), .val (.int (Int32.ofNat O)), .val (.int (Int32.ofNat (O + N + K))), .val (.ref a6), .unset, .unset, .unset, .unset, .unset, .unset, .unset, .unset, .unset]) (S' := [.int (13 : Int32), .long (Int64.ofNat V), .int (((Int32.ofNat O) + (Int32.ofNat N)) - (14 : Int32)), .ref a6]) rfl ?_
        rw [show (Int32.ofNat O + Int32.ofNat N) - (14 : Int32) = Int32.ofNat (O + N - 14) from (ix (j := 13) hO1 hN.2 hK hj).2.2.2]
        refine G.static (y := ⟨"com/example/mynah/mynah/PlainDecimalParseCappedPinLaw", "dig", "(JI)C"⟩) (argsL := [.long (Int64.ofNat V), .int (13 : Int32)]) (rest := [.int (Int32.ofNat (O + N - 14)), .ref a6]) (W := 2) (by decide +kernel) (tw 29 rfl) (tw 30 rfl) (tw 4 rfl) (tw 31 rfl) (by decide) ((dig13C l Z a0 n0 q13 V hV).pays (tw 31 rfl) (tw 4 rfl) (lb rfl) (lb rfl)) (lenOf pd20 rfl) rfl (Nat.le_of_eq rfl) rfl (lb rfl) (lb rfl) ?_
        rintro _ h49 ⟨K49, rfl⟩
        refine G.castore (i := O + N - 14) (x' := chd (V / 10000000000000 % 10)) (by decide +kernel) (AQ13.keep K49 nin0) n6 (ix (j := 13) hO1 hN.2 hK hj).1 (ix (j := 13) hO1 hN.2 hK hj).2.1 (by rw [List.length_map, lv13]; exact (ix (j := 13) hO1 hN.2 hK hj).2.2.1) (nar_b8 (b8c (m9 _))) ?_
        intro h50 K50 A50
        rw [← List.map_set] at A50
        exact J (_, v13.set (O + N - 14) (chd (V / 10000000000000 % 10))) ⟨Keep.trans (Keep.trans KQ13 K49 all0) K50 (allS (Or.inl (List.mem_singleton.mpr rfl)) all0), by rw [List.length_set]; exact lv13, A50, ag_step (j := 13) hj lv13 (TT_dig (j := 13) hK hj).symm ag13⟩
    rintro ⟨q14, v14⟩ ⟨KQ14, lv14, AQ14, ag14⟩
    dsimp only at KQ14 lv14 AQ14 ag14 ⊢
    clear ag13 AQ13 lv13 KQ13 v13 q13
    refine G.seg [(519, .iload 15, 2), (521, .bipush 14, 2)] (by decide +kernel) (pc' := 523) (L' := #[.val (.long vr), .second, .val (.long cr), .second, .val (.int sh), .val (.int rp), .val (.long (Int64.ofNat V)), .second, .val (.long (Int64.ofNat C)), .second, .val (.int (Int32.ofNat K)), .val (.int (Int32.ofNat S1)), .val (.int (Int32.ofNat S2)), .val (.int (Int32.ofNat mo)), .val (.int c), .val (.int (Int32.ofNat N)), .val (.int (Int32.ofNat O)), .val (.int (Int32.ofNat (O + N + K))), .val (.ref a6), .unset, .unset, .unset, .unset, .unset, .unset, .unset, .unset, .unset]) (S' := [.int (14 : Int32), .int (Int32.ofNat N)]) rfl ?_
    refine G.join (fun z : Heap × List Int32 => Keep h6 z.1 [a6] ∧ z.2.length = O + N + K ∧ Arv Z z.1 a6 k6 .char (Int32.ofNat (O + N + K)) (z.2.map Value.int) (.int 0) ∧ ∀ i, (i < O ∨ (O + N - min 15 N ≤ i ∧ i < O + N)) → z.2.getD i 0 = (TT O V N K S1 S2).getD i 0) (fun z => (z.1, 34, 649, 544, #[.val (.long vr), .second, .val (.long cr), .second, .val (.int sh), .val (.int rp), .val (.long (Int64.ofNat V)), .second, .val (.long (Int64.ofNat C)), .second, .val (.int (Int32.ofNat K)), .val (.int (Int32.ofNat S1)), .val (.int (Int32.ofNat S2)), .val (.int (Int32.ofNat mo)), .val (.int c), .val (.int (Int32.ofNat N)), .val (.int (Int32.ofNat O)), .val (.int (Int32.ofNat (O + N + K))), .val (.ref a6), .unset, .unset, .unset, .unset, .unset, .unset, .unset, .unset, .unset], [])) ?_ ?_
    · intro J
      refine G.icle (o := (21)) (pc' := 544) (by decide +kernel) (by decide) rfl ?_ ?_
      · intro q51
        have hj : ¬ 14 < N := fun z => q51 ((ltN (a := 14) (by decide) hN4).mpr z)
        refine G.more (cells' := 34) (slots' := 649) (lb rfl) (lb rfl) ?_
        exact J (_, v14) ⟨KQ14, lv14, AQ14, ag_skip (j := 14) hj ag14⟩
      · intro q51
        have hj : 14 < N := (ltN (a := 14) (by decide) hN4).mp q51
        refine G.seg [(526, .aload 18, 2), (528, .iload 16, 2), (530, .iload 15, 2), (532, .iadd, 1), (533, .bipush 15, 2), (535, .isub, 1), (536, .lload 6, 2), (538, .bipush 14, 2)] (by decide +kernel) (pc' := 540) (L' := #[.val (.long vr), .second, .val (.long cr), .second, .val (.int sh), .val (.int rp), .val (.long (Int64.ofNat V)), .second, .val (.long (Int64.ofNat C)), .second, .val (.int (Int32.ofNat K)), .val (.int (Int32.ofNat S1)), .val (.int (Int32.ofNat S2)), .val (.int (Int32.ofNat mo)), .val (.int c), .val (.int (Int32.ofNat N)), .val (.int (Int32.ofNat O)), .val (.int (Int32.ofNat (O + N + K))), .val (.ref a6), .unset, .unset, .unset, .unset, .unset, .unset, .unset, .unset, .unset]) (S' := [.int (14 : Int32), .long (Int64.ofNat V), .int (((Int32.ofNat O) + (Int32.ofNat N)) - (15 : Int32)), .ref a6]) rfl ?_
        rw [show (Int32.ofNat O + Int32.ofNat N) - (15 : Int32) = Int32.ofNat (O + N - 15) from (ix (j := 14) hO1 hN.2 hK hj).2.2.2]
        refine G.static (y := ⟨"com/example/mynah/mynah/PlainDecimalParseCappedPinLaw", "dig", "(JI)C"⟩) (argsL := [.long (Int64.ofNat V), .int (14 : Int32)]) (rest := [.int (Int32.ofNat (O + N - 15)), .ref a6]) (W := 2) (by decide +kernel) (tw 29 rfl) (tw 30 rfl) (tw 4 rfl) (tw 31 rfl) (by decide) ((dig14C l Z a0 n0 q14 V hV).pays (tw 31 rfl) (tw 4 rfl) (lb rfl) (lb rfl)) (lenOf pd20 rfl) rfl (Nat.le_of_eq rfl) rfl (lb rfl) (lb rfl) ?_
        rintro _ h52 ⟨K52, rfl⟩
        refine G.castore (i := O + N - 15) (x' := chd (V / 100000000000000 % 10)) (by decide +kernel) (AQ14.keep K52 nin0) n6 (ix (j := 14) hO1 hN.2 hK hj).1 (ix (j := 14) hO1 hN.2 hK hj).2.1 (by rw [List.length_map, lv14]; exact (ix (j := 14) hO1 hN.2 hK hj).2.2.1) (nar_b8 (b8c (m9 _))) ?_
        intro h53 K53 A53
        rw [← List.map_set] at A53
        exact J (_, v14.set (O + N - 15) (chd (V / 100000000000000 % 10))) ⟨Keep.trans (Keep.trans KQ14 K52 all0) K53 (allS (Or.inl (List.mem_singleton.mpr rfl)) all0), by rw [List.length_set]; exact lv14, A53, ag_step (j := 14) hj lv14 (TT_dig (j := 14) hK hj).symm ag14⟩
    rintro ⟨q15, v15⟩ ⟨KQ15, lv15, AQ15, ag15⟩
    dsimp only at KQ15 lv15 AQ15 ag15 ⊢
    clear ag14 AQ14 lv14 KQ14 v14 q14
    refine G.seg [(544, .iload 15, 2), (546, .bipush 15, 2)] (by decide +kernel) (pc' := 548) (L' := #[.val (.long vr), .second, .val (.long cr), .second, .val (.int sh), .val (.int rp), .val (.long (Int64.ofNat V)), .second, .val (.long (Int64.ofNat C)), .second, .val (.int (Int32.ofNat K)), .val (.int (Int32.ofNat S1)), .val (.int (Int32.ofNat S2)), .val (.int (Int32.ofNat mo)), .val (.int c), .val (.int (Int32.ofNat N)), .val (.int (Int32.ofNat O)), .val (.int (Int32.ofNat (O + N + K))), .val (.ref a6), .unset, .unset, .unset, .unset, .unset, .unset, .unset, .unset, .unset]) (S' := [.int (15 : Int32), .int (Int32.ofNat N)]) rfl ?_
    refine G.join (fun z : Heap × List Int32 => Keep h6 z.1 [a6] ∧ z.2.length = O + N + K ∧ Arv Z z.1 a6 k6 .char (Int32.ofNat (O + N + K)) (z.2.map Value.int) (.int 0) ∧ ∀ i, (i < O ∨ (O + N - min 16 N ≤ i ∧ i < O + N)) → z.2.getD i 0 = (TT O V N K S1 S2).getD i 0) (fun z => (z.1, 35, 668, 569, #[.val (.long vr), .second, .val (.long cr), .second, .val (.int sh), .val (.int rp), .val (.long (Int64.ofNat V)), .second, .val (.long (Int64.ofNat C)), .second, .val (.int (Int32.ofNat K)), .val (.int (Int32.ofNat S1)), .val (.int (Int32.ofNat S2)), .val (.int (Int32.ofNat mo)), .val (.int c), .val (.int (Int32.ofNat N)), .val (.int (Int32.ofNat O)), .val (.int (Int32.ofNat (O + N + K))), .val (.ref a6), .unset, .unset, .unset, .unset, .unset, .unset, .unset, .unset, .unset], [])) ?_ ?_
    · intro J
      refine G.icle (o := (21)) (pc' := 569) (by decide +kernel) (by decide) rfl ?_ ?_
      · intro q54
        have hj : ¬ 15 < N := fun z => q54 ((ltN (a := 15) (by decide) hN4).mpr z)
        refine G.more (cells' := 35) (slots' := 668) (lb rfl) (lb rfl) ?_
        exact J (_, v15) ⟨KQ15, lv15, AQ15, ag_skip (j := 15) hj ag15⟩
      · intro q54
        have hj : 15 < N := (ltN (a := 15) (by decide) hN4).mp q54
        refine G.seg [(551, .aload 18, 2), (553, .iload 16, 2), (555, .iload 15, 2), (557, .iadd, 1), (558, .bipush 16, 2), (560, .isub, 1), (561, .lload 6, 2), (563, .bipush 15, 2)] (by decide +kernel) (pc' := 565) (L' := #[.val (.long vr), .second, .val (.long cr), .second, .val (.int sh), .val (.int rp), .val (.long (Int64.ofNat V)), .second, .val (.long (Int64.ofNat C)), .second, .val (.int (Int32.ofNat K)), .val (.int (Int32.ofNat S1)), .val (.int (Int32.ofNat S2)), .val (.int (Int32.ofNat mo)), .val (.int c), .val (.int (Int32.ofNat N)), .val (.int (Int32.ofNat O)), .val (.int (Int32.ofNat (O + N + K))), .val (.ref a6), .unset, .unset, .unset, .unset, .unset, .unset, .unset, .unset, .unset]) (S' := [.int (15 : Int32), .long (Int64.ofNat V), .int (((Int32.ofNat O) + (Int32.ofNat N)) - (16 : Int32)), .ref a6]) rfl ?_
        rw [show (Int32.ofNat O + Int32.ofNat N) - (16 : Int32) = Int32.ofNat (O + N - 16) from (ix (j := 15) hO1 hN.2 hK hj).2.2.2]
        refine G.static (y := ⟨"com/example/mynah/mynah/PlainDecimalParseCappedPinLaw", "dig", "(JI)C"⟩) (argsL := [.long (Int64.ofNat V), .int (15 : Int32)]) (rest := [.int (Int32.ofNat (O + N - 16)), .ref a6]) (W := 2) (by decide +kernel) (tw 29 rfl) (tw 30 rfl) (tw 4 rfl) (tw 31 rfl) (by decide) ((dig15C l Z a0 n0 q15 V hV).pays (tw 31 rfl) (tw 4 rfl) (lb rfl) (lb rfl)) (lenOf pd20 rfl) rfl (Nat.le_of_eq rfl) rfl (lb rfl) (lb rfl) ?_
        rintro _ h55 ⟨K55, rfl⟩
        refine G.castore (i := O + N - 16) (x' := chd (V / 1000000000000000 % 10)) (by decide +kernel) (AQ15.keep K55 nin0) n6 (ix (j := 15) hO1 hN.2 hK hj).1 (ix (j := 15) hO1 hN.2 hK hj).2.1 (by rw [List.length_map, lv15]; exact (ix (j := 15) hO1 hN.2 hK hj).2.2.1) (nar_b8 (b8c (m9 _))) ?_
        intro h56 K56 A56
        rw [← List.map_set] at A56
        exact J (_, v15.set (O + N - 16) (chd (V / 1000000000000000 % 10))) ⟨Keep.trans (Keep.trans KQ15 K55 all0) K56 (allS (Or.inl (List.mem_singleton.mpr rfl)) all0), by rw [List.length_set]; exact lv15, A56, ag_step (j := 15) hj lv15 (TT_dig (j := 15) hK hj).symm ag15⟩
    rintro ⟨q16, v16⟩ ⟨KQ16, lv16, AQ16, ag16⟩
    dsimp only at KQ16 lv16 AQ16 ag16 ⊢
    clear ag15 AQ15 lv15 KQ15 v15 q15
    refine G.seg [(569, .iload 15, 2), (571, .bipush 16, 2)] (by decide +kernel) (pc' := 573) (L' := #[.val (.long vr), .second, .val (.long cr), .second, .val (.int sh), .val (.int rp), .val (.long (Int64.ofNat V)), .second, .val (.long (Int64.ofNat C)), .second, .val (.int (Int32.ofNat K)), .val (.int (Int32.ofNat S1)), .val (.int (Int32.ofNat S2)), .val (.int (Int32.ofNat mo)), .val (.int c), .val (.int (Int32.ofNat N)), .val (.int (Int32.ofNat O)), .val (.int (Int32.ofNat (O + N + K))), .val (.ref a6), .unset, .unset, .unset, .unset, .unset, .unset, .unset, .unset, .unset]) (S' := [.int (16 : Int32), .int (Int32.ofNat N)]) rfl ?_
    refine G.join (fun z : Heap × List Int32 => Keep h6 z.1 [a6] ∧ z.2.length = O + N + K ∧ Arv Z z.1 a6 k6 .char (Int32.ofNat (O + N + K)) (z.2.map Value.int) (.int 0) ∧ ∀ i, (i < O ∨ (O + N - min 17 N ≤ i ∧ i < O + N)) → z.2.getD i 0 = (TT O V N K S1 S2).getD i 0) (fun z => (z.1, 36, 687, 594, #[.val (.long vr), .second, .val (.long cr), .second, .val (.int sh), .val (.int rp), .val (.long (Int64.ofNat V)), .second, .val (.long (Int64.ofNat C)), .second, .val (.int (Int32.ofNat K)), .val (.int (Int32.ofNat S1)), .val (.int (Int32.ofNat S2)), .val (.int (Int32.ofNat mo)), .val (.int c), .val (.int (Int32.ofNat N)), .val (.int (Int32.ofNat O)), .val (.int (Int32.ofNat (O + N + K))), .val (.ref a6), .unset, .unset, .unset, .unset, .unset, .unset, .unset, .unset, .unset], [])) ?_ ?_
    · intro J
      refine G.icle (o := (21)) (pc' := 594) (by decide +kernel) (by decide) rfl ?_ ?_
      · intro q57
        have hj : ¬ 16 < N := fun z => q57 ((ltN (a := 16) (by decide) hN4).mpr z)
        refine G.more (cells' := 36) (slots' := 687) (lb rfl) (lb rfl) ?_
        exact J (_, v16) ⟨KQ16, lv16, AQ16, ag_skip (j := 16) hj ag16⟩
      · intro q57
        have hj : 16 < N := (ltN (a := 16) (by decide) hN4).mp q57
        refine G.seg [(576, .aload 18, 2), (578, .iload 16, 2), (580, .iload 15, 2), (582, .iadd, 1), (583, .bipush 17, 2), (585, .isub, 1), (586, .lload 6, 2), (588, .bipush 16, 2)] (by decide +kernel) (pc' := 590) (L' := #[.val (.long vr), .second, .val (.long cr), .second, .val (.int sh), .val (.int rp), .val (.long (Int64.ofNat V)), .second, .val (.long (Int64.ofNat C)), .second, .val (.int (Int32.ofNat K)), .val (.int (Int32.ofNat S1)), .val (.int (Int32.ofNat S2)), .val (.int (Int32.ofNat mo)), .val (.int c), .val (.int (Int32.ofNat N)), .val (.int (Int32.ofNat O)), .val (.int (Int32.ofNat (O + N + K))), .val (.ref a6), .unset, .unset, .unset, .unset, .unset, .unset, .unset, .unset, .unset]) (S' := [.int (16 : Int32), .long (Int64.ofNat V), .int (((Int32.ofNat O) + (Int32.ofNat N)) - (17 : Int32)), .ref a6]) rfl ?_
        rw [show (Int32.ofNat O + Int32.ofNat N) - (17 : Int32) = Int32.ofNat (O + N - 17) from (ix (j := 16) hO1 hN.2 hK hj).2.2.2]
        refine G.static (y := ⟨"com/example/mynah/mynah/PlainDecimalParseCappedPinLaw", "dig", "(JI)C"⟩) (argsL := [.long (Int64.ofNat V), .int (16 : Int32)]) (rest := [.int (Int32.ofNat (O + N - 17)), .ref a6]) (W := 2) (by decide +kernel) (tw 29 rfl) (tw 30 rfl) (tw 4 rfl) (tw 31 rfl) (by decide) ((dig16C l Z a0 n0 q16 V hV).pays (tw 31 rfl) (tw 4 rfl) (lb rfl) (lb rfl)) (lenOf pd20 rfl) rfl (Nat.le_of_eq rfl) rfl (lb rfl) (lb rfl) ?_
        rintro _ h58 ⟨K58, rfl⟩
        refine G.castore (i := O + N - 17) (x' := chd (V / 10000000000000000 % 10)) (by decide +kernel) (AQ16.keep K58 nin0) n6 (ix (j := 16) hO1 hN.2 hK hj).1 (ix (j := 16) hO1 hN.2 hK hj).2.1 (by rw [List.length_map, lv16]; exact (ix (j := 16) hO1 hN.2 hK hj).2.2.1) (nar_b8 (b8c (m9 _))) ?_
        intro h59 K59 A59
        rw [← List.map_set] at A59
        exact J (_, v16.set (O + N - 17) (chd (V / 10000000000000000 % 10))) ⟨Keep.trans (Keep.trans KQ16 K58 all0) K59 (allS (Or.inl (List.mem_singleton.mpr rfl)) all0), by rw [List.length_set]; exact lv16, A59, ag_step (j := 16) hj lv16 (TT_dig (j := 16) hK hj).symm ag16⟩
    rintro ⟨q17, v17⟩ ⟨KQ17, lv17, AQ17, ag17⟩
    dsimp only at KQ17 lv17 AQ17 ag17 ⊢
    clear ag16 AQ16 lv16 KQ16 v16 q16
    refine G.seg [(594, .iload 15, 2), (596, .bipush 17, 2)] (by decide +kernel) (pc' := 598) (L' := #[.val (.long vr), .second, .val (.long cr), .second, .val (.int sh), .val (.int rp), .val (.long (Int64.ofNat V)), .second, .val (.long (Int64.ofNat C)), .second, .val (.int (Int32.ofNat K)), .val (.int (Int32.ofNat S1)), .val (.int (Int32.ofNat S2)), .val (.int (Int32.ofNat mo)), .val (.int c), .val (.int (Int32.ofNat N)), .val (.int (Int32.ofNat O)), .val (.int (Int32.ofNat (O + N + K))), .val (.ref a6), .unset, .unset, .unset, .unset, .unset, .unset, .unset, .unset, .unset]) (S' := [.int (17 : Int32), .int (Int32.ofNat N)]) rfl ?_
    refine G.join (fun z : Heap × List Int32 => Keep h6 z.1 [a6] ∧ z.2.length = O + N + K ∧ Arv Z z.1 a6 k6 .char (Int32.ofNat (O + N + K)) (z.2.map Value.int) (.int 0) ∧ ∀ i, (i < O ∨ (O + N - min 18 N ≤ i ∧ i < O + N)) → z.2.getD i 0 = (TT O V N K S1 S2).getD i 0) (fun z => (z.1, 37, 706, 619, #[.val (.long vr), .second, .val (.long cr), .second, .val (.int sh), .val (.int rp), .val (.long (Int64.ofNat V)), .second, .val (.long (Int64.ofNat C)), .second, .val (.int (Int32.ofNat K)), .val (.int (Int32.ofNat S1)), .val (.int (Int32.ofNat S2)), .val (.int (Int32.ofNat mo)), .val (.int c), .val (.int (Int32.ofNat N)), .val (.int (Int32.ofNat O)), .val (.int (Int32.ofNat (O + N + K))), .val (.ref a6), .unset, .unset, .unset, .unset, .unset, .unset, .unset, .unset, .unset], [])) ?_ ?_
    · intro J
      refine G.icle (o := (21)) (pc' := 619) (by decide +kernel) (by decide) rfl ?_ ?_
      · intro q60
        have hj : ¬ 17 < N := fun z => q60 ((ltN (a := 17) (by decide) hN4).mpr z)
        refine G.more (cells' := 37) (slots' := 706) (lb rfl) (lb rfl) ?_
        exact J (_, v17) ⟨KQ17, lv17, AQ17, ag_skip (j := 17) hj ag17⟩
      · intro q60
        have hj : 17 < N := (ltN (a := 17) (by decide) hN4).mp q60
        refine G.seg [(601, .aload 18, 2), (603, .iload 16, 2), (605, .iload 15, 2), (607, .iadd, 1), (608, .bipush 18, 2), (610, .isub, 1), (611, .lload 6, 2), (613, .bipush 17, 2)] (by decide +kernel) (pc' := 615) (L' := #[.val (.long vr), .second, .val (.long cr), .second, .val (.int sh), .val (.int rp), .val (.long (Int64.ofNat V)), .second, .val (.long (Int64.ofNat C)), .second, .val (.int (Int32.ofNat K)), .val (.int (Int32.ofNat S1)), .val (.int (Int32.ofNat S2)), .val (.int (Int32.ofNat mo)), .val (.int c), .val (.int (Int32.ofNat N)), .val (.int (Int32.ofNat O)), .val (.int (Int32.ofNat (O + N + K))), .val (.ref a6), .unset, .unset, .unset, .unset, .unset, .unset, .unset, .unset, .unset]) (S' := [.int (17 : Int32), .long (Int64.ofNat V), .int (((Int32.ofNat O) + (Int32.ofNat N)) - (18 : Int32)), .ref a6]) rfl ?_
        rw [show (Int32.ofNat O + Int32.ofNat N) - (18 : Int32) = Int32.ofNat (O + N - 18) from (ix (j := 17) hO1 hN.2 hK hj).2.2.2]
        refine G.static (y := ⟨"com/example/mynah/mynah/PlainDecimalParseCappedPinLaw", "dig", "(JI)C"⟩) (argsL := [.long (Int64.ofNat V), .int (17 : Int32)]) (rest := [.int (Int32.ofNat (O + N - 18)), .ref a6]) (W := 2) (by decide +kernel) (tw 29 rfl) (tw 30 rfl) (tw 4 rfl) (tw 31 rfl) (by decide) ((dig17C l Z a0 n0 q17 V hV).pays (tw 31 rfl) (tw 4 rfl) (lb rfl) (lb rfl)) (lenOf pd20 rfl) rfl (Nat.le_of_eq rfl) rfl (lb rfl) (lb rfl) ?_
        rintro _ h61 ⟨K61, rfl⟩
        refine G.castore (i := O + N - 18) (x' := chd (V / 100000000000000000 % 10)) (by decide +kernel) (AQ17.keep K61 nin0) n6 (ix (j := 17) hO1 hN.2 hK hj).1 (ix (j := 17) hO1 hN.2 hK hj).2.1 (by rw [List.length_map, lv17]; exact (ix (j := 17) hO1 hN.2 hK hj).2.2.1) (nar_b8 (b8c (m9 _))) ?_
        intro h62 K62 A62
        rw [← List.map_set] at A62
        exact J (_, v17.set (O + N - 18) (chd (V / 100000000000000000 % 10))) ⟨Keep.trans (Keep.trans KQ17 K61 all0) K62 (allS (Or.inl (List.mem_singleton.mpr rfl)) all0), by rw [List.length_set]; exact lv17, A62, ag_step (j := 17) hj lv17 (TT_dig (j := 17) hK hj).symm ag17⟩
    rintro ⟨q18, v18⟩ ⟨KQ18, lv18, AQ18, ag18⟩
    dsimp only at KQ18 lv18 AQ18 ag18 ⊢
    clear ag17 AQ17 lv17 KQ17 v17 q17
    refine G.seg [(619, .iload 15, 2), (621, .bipush 18, 2)] (by decide +kernel) (pc' := 623) (L' := #[.val (.long vr), .second, .val (.long cr), .second, .val (.int sh), .val (.int rp), .val (.long (Int64.ofNat V)), .second, .val (.long (Int64.ofNat C)), .second, .val (.int (Int32.ofNat K)), .val (.int (Int32.ofNat S1)), .val (.int (Int32.ofNat S2)), .val (.int (Int32.ofNat mo)), .val (.int c), .val (.int (Int32.ofNat N)), .val (.int (Int32.ofNat O)), .val (.int (Int32.ofNat (O + N + K))), .val (.ref a6), .unset, .unset, .unset, .unset, .unset, .unset, .unset, .unset, .unset]) (S' := [.int (18 : Int32), .int (Int32.ofNat N)]) rfl ?_
    refine G.join (fun z : Heap × List Int32 => Keep h6 z.1 [a6] ∧ z.2.length = O + N + K ∧ Arv Z z.1 a6 k6 .char (Int32.ofNat (O + N + K)) (z.2.map Value.int) (.int 0) ∧ ∀ i, (i < O ∨ (O + N - min 19 N ≤ i ∧ i < O + N)) → z.2.getD i 0 = (TT O V N K S1 S2).getD i 0) (fun z => (z.1, 38, 725, 644, #[.val (.long vr), .second, .val (.long cr), .second, .val (.int sh), .val (.int rp), .val (.long (Int64.ofNat V)), .second, .val (.long (Int64.ofNat C)), .second, .val (.int (Int32.ofNat K)), .val (.int (Int32.ofNat S1)), .val (.int (Int32.ofNat S2)), .val (.int (Int32.ofNat mo)), .val (.int c), .val (.int (Int32.ofNat N)), .val (.int (Int32.ofNat O)), .val (.int (Int32.ofNat (O + N + K))), .val (.ref a6), .unset, .unset, .unset, .unset, .unset, .unset, .unset, .unset, .unset], [])) ?_ ?_
    · intro J
      refine G.icle (o := (21)) (pc' := 644) (by decide +kernel) (by decide) rfl ?_ ?_
      · intro q63
        have hj : ¬ 18 < N := fun z => q63 ((ltN (a := 18) (by decide) hN4).mpr z)
        refine G.more (cells' := 38) (slots' := 725) (lb rfl) (lb rfl) ?_
        exact J (_, v18) ⟨KQ18, lv18, AQ18, ag_skip (j := 18) hj ag18⟩
      · intro q63
        have hj : 18 < N := (ltN (a := 18) (by decide) hN4).mp q63
        refine G.seg [(626, .aload 18, 2), (628, .iload 16, 2), (630, .iload 15, 2), (632, .iadd, 1), (633, .bipush 19, 2), (635, .isub, 1), (636, .lload 6, 2), (638, .bipush 18, 2)] (by decide +kernel) (pc' := 640) (L' := #[.val (.long vr), .second, .val (.long cr), .second, .val (.int sh), .val (.int rp), .val (.long (Int64.ofNat V)), .second, .val (.long (Int64.ofNat C)), .second, .val (.int (Int32.ofNat K)), .val (.int (Int32.ofNat S1)), .val (.int (Int32.ofNat S2)), .val (.int (Int32.ofNat mo)), .val (.int c), .val (.int (Int32.ofNat N)), .val (.int (Int32.ofNat O)), .val (.int (Int32.ofNat (O + N + K))), .val (.ref a6), .unset, .unset, .unset, .unset, .unset, .unset, .unset, .unset, .unset]) (S' := [.int (18 : Int32), .long (Int64.ofNat V), .int (((Int32.ofNat O) + (Int32.ofNat N)) - (19 : Int32)), .ref a6]) rfl ?_
        rw [show (Int32.ofNat O + Int32.ofNat N) - (19 : Int32) = Int32.ofNat (O + N - 19) from (ix (j := 18) hO1 hN.2 hK hj).2.2.2]
        refine G.static (y := ⟨"com/example/mynah/mynah/PlainDecimalParseCappedPinLaw", "dig", "(JI)C"⟩) (argsL := [.long (Int64.ofNat V), .int (18 : Int32)]) (rest := [.int (Int32.ofNat (O + N - 19)), .ref a6]) (W := 2) (by decide +kernel) (tw 29 rfl) (tw 30 rfl) (tw 4 rfl) (tw 31 rfl) (by decide) ((dig18C l Z a0 n0 q18 V hV).pays (tw 31 rfl) (tw 4 rfl) (lb rfl) (lb rfl)) (lenOf pd20 rfl) rfl (Nat.le_of_eq rfl) rfl (lb rfl) (lb rfl) ?_
        rintro _ h64 ⟨K64, rfl⟩
        refine G.castore (i := O + N - 19) (x' := chd (V / 1000000000000000000 % 10)) (by decide +kernel) (AQ18.keep K64 nin0) n6 (ix (j := 18) hO1 hN.2 hK hj).1 (ix (j := 18) hO1 hN.2 hK hj).2.1 (by rw [List.length_map, lv18]; exact (ix (j := 18) hO1 hN.2 hK hj).2.2.1) (nar_b8 (b8c (m9 _))) ?_
        intro h65 K65 A65
        rw [← List.map_set] at A65
        exact J (_, v18.set (O + N - 19) (chd (V / 1000000000000000000 % 10))) ⟨Keep.trans (Keep.trans KQ18 K64 all0) K65 (allS (Or.inl (List.mem_singleton.mpr rfl)) all0), by rw [List.length_set]; exact lv18, A65, ag_step (j := 18) hj lv18 (TT_dig (j := 18) hK hj).symm ag18⟩
    rintro ⟨q19, v19⟩ ⟨KQ19, lv19, AQ19, ag19⟩
    dsimp only at KQ19 lv19 AQ19 ag19 ⊢
    clear ag18 AQ18 lv18 KQ18 v18 q18
    refine G.seg [(644, .iload 10, 2)] (by decide +kernel) (pc' := 646) (L' := #[.val (.long vr), .second, .val (.long cr), .second, .val (.int sh), .val (.int rp), .val (.long (Int64.ofNat V)), .second, .val (.long (Int64.ofNat C)), .second, .val (.int (Int32.ofNat K)), .val (.int (Int32.ofNat S1)), .val (.int (Int32.ofNat S2)), .val (.int (Int32.ofNat mo)), .val (.int c), .val (.int (Int32.ofNat N)), .val (.int (Int32.ofNat O)), .val (.int (Int32.ofNat (O + N + K))), .val (.ref a6), .unset, .unset, .unset, .unset, .unset, .unset, .unset, .unset, .unset]) (S' := [.int (Int32.ofNat K)]) rfl ?_
    refine G.join (fun z : Heap × List Int32 => Keep h6 z.1 [a6] ∧ z.2.length = O + N + K ∧ Arv Z z.1 a6 k6 .char (Int32.ofNat (O + N + K)) (z.2.map Value.int) (.int 0) ∧ ∀ i, (i < O + N + min 1 K) → z.2.getD i 0 = (TT O V N K S1 S2).getD i 0) (fun z => (z.1, 38, 725, 663, #[.val (.long vr), .second, .val (.long cr), .second, .val (.int sh), .val (.int rp), .val (.long (Int64.ofNat V)), .second, .val (.long (Int64.ofNat C)), .second, .val (.int (Int32.ofNat K)), .val (.int (Int32.ofNat S1)), .val (.int (Int32.ofNat S2)), .val (.int (Int32.ofNat mo)), .val (.int c), .val (.int (Int32.ofNat N)), .val (.int (Int32.ofNat O)), .val (.int (Int32.ofNat (O + N + K))), .val (.ref a6), .unset, .unset, .unset, .unset, .unset, .unset, .unset, .unset, .unset], [])) ?_ ?_
    · intro J
      refine G.ifle (o := (17)) (pc' := 663) (by decide +kernel) (by decide) rfl ?_ ?_
      · intro q66
        have hj : ¬ 0 < K := fun z => q66 ((ltN (a := 0) (by decide) hK4).mpr z)
        exact J (_, v19) ⟨KQ19, lv19, AQ19, ag_n1 hN.2 hj ag19⟩
      · intro q66
        have hj : 0 < K := (ltN (a := 0) (by decide) hK4).mp q66
        refine G.seg [(649, .aload 18, 2), (651, .iload 16, 2), (653, .iload 15, 2), (655, .iadd, 1), (656, .bipush 48, 2), (658, .iload 11, 2), (660, .iadd, 1), (661, .i2c, 1)] (by decide +kernel) (pc' := 662) (L' := #[.val (.long vr), .second, .val (.long cr), .second, .val (.int sh), .val (.int rp), .val (.long (Int64.ofNat V)), .second, .val (.long (Int64.ofNat C)), .second, .val (.int (Int32.ofNat K)), .val (.int (Int32.ofNat S1)), .val (.int (Int32.ofNat S2)), .val (.int (Int32.ofNat mo)), .val (.int c), .val (.int (Int32.ofNat N)), .val (.int (Int32.ofNat O)), .val (.int (Int32.ofNat (O + N + K))), .val (.ref a6), .unset, .unset, .unset, .unset, .unset, .unset, .unset, .unset, .unset]) (S' := [.int (((48 : Int32) + (Int32.ofNat S1)).toUInt32.toUInt16.toUInt32.toInt32), .int ((Int32.ofNat O) + (Int32.ofNat N)), .ref a6]) rfl ?_
        rw [c48 hS1]
        rw [addN O N]
        refine G.castore (i := O + N) (x' := chd S1) (by decide +kernel) AQ19 n6 (iz (j := O + N) hO1 hN.2 hK (by omega)).1 (iz (j := O + N) hO1 hN.2 hK (by omega)).2 (by rw [List.length_map, lv19]; exact (by omega)) (nar_b8 (b8c hS1)) ?_
        intro h67 K67 A67
        rw [← List.map_set] at A67
        exact J (_, v19.set (O + N) (chd S1)) ⟨Keep.trans KQ19 K67 (allS (Or.inl (List.mem_singleton.mpr rfl)) all0), by rw [List.length_set]; exact lv19, A67, ag_s1 hN.2 hj lv19 (TT_1 hK hj).symm ag19⟩
    rintro ⟨q20, v20⟩ ⟨KQ20, lv20, AQ20, ag20⟩
    dsimp only at KQ20 lv20 AQ20 ag20 ⊢
    clear ag19 AQ19 lv19 KQ19 v19 q19
    refine G.seg [(663, .iload 10, 2), (665, .iconst 1, 1)] (by decide +kernel) (pc' := 666) (L' := #[.val (.long vr), .second, .val (.long cr), .second, .val (.int sh), .val (.int rp), .val (.long (Int64.ofNat V)), .second, .val (.long (Int64.ofNat C)), .second, .val (.int (Int32.ofNat K)), .val (.int (Int32.ofNat S1)), .val (.int (Int32.ofNat S2)), .val (.int (Int32.ofNat mo)), .val (.int c), .val (.int (Int32.ofNat N)), .val (.int (Int32.ofNat O)), .val (.int (Int32.ofNat (O + N + K))), .val (.ref a6), .unset, .unset, .unset, .unset, .unset, .unset, .unset, .unset, .unset]) (S' := [.int (1 : Int32), .int (Int32.ofNat K)]) rfl ?_
    refine G.join (fun z : Heap × List Int32 => Keep h6 z.1 [a6] ∧ z.2.length = O + N + K ∧ Arv Z z.1 a6 k6 .char (Int32.ofNat (O + N + K)) (z.2.map Value.int) (.int 0) ∧ ∀ i, (i < O + N + min 2 K) → z.2.getD i 0 = (TT O V N K S1 S2).getD i 0) (fun z => (z.1, 38, 725, 685, #[.val (.long vr), .second, .val (.long cr), .second, .val (.int sh), .val (.int rp), .val (.long (Int64.ofNat V)), .second, .val (.long (Int64.ofNat C)), .second, .val (.int (Int32.ofNat K)), .val (.int (Int32.ofNat S1)), .val (.int (Int32.ofNat S2)), .val (.int (Int32.ofNat mo)), .val (.int c), .val (.int (Int32.ofNat N)), .val (.int (Int32.ofNat O)), .val (.int (Int32.ofNat (O + N + K))), .val (.ref a6), .unset, .unset, .unset, .unset, .unset, .unset, .unset, .unset, .unset], [])) ?_ ?_
    · intro J
      refine G.icle (o := (19)) (pc' := 685) (by decide +kernel) (by decide) rfl ?_ ?_
      · intro q68
        have hj : ¬ 1 < K := fun z => q68 ((ltN (a := 1) (by decide) hK4).mpr z)
        exact J (_, v20) ⟨KQ20, lv20, AQ20, ag_n2 hj ag20⟩
      · intro q68
        have hj : 1 < K := (ltN (a := 1) (by decide) hK4).mp q68
        refine G.seg [(669, .aload 18, 2), (671, .iload 16, 2), (673, .iload 15, 2), (675, .iadd, 1), (676, .iconst 1, 1), (677, .iadd, 1), (678, .bipush 48, 2), (680, .iload 12, 2), (682, .iadd, 1), (683, .i2c, 1)] (by decide +kernel) (pc' := 684) (L' := #[.val (.long vr), .second, .val (.long cr), .second, .val (.int sh), .val (.int rp), .val (.long (Int64.ofNat V)), .second, .val (.long (Int64.ofNat C)), .second, .val (.int (Int32.ofNat K)), .val (.int (Int32.ofNat S1)), .val (.int (Int32.ofNat S2)), .val (.int (Int32.ofNat mo)), .val (.int c), .val (.int (Int32.ofNat N)), .val (.int (Int32.ofNat O)), .val (.int (Int32.ofNat (O + N + K))), .val (.ref a6), .unset, .unset, .unset, .unset, .unset, .unset, .unset, .unset, .unset]) (S' := [.int (((48 : Int32) + (Int32.ofNat S2)).toUInt32.toUInt16.toUInt32.toInt32), .int (((Int32.ofNat O) + (Int32.ofNat N)) + (1 : Int32)), .ref a6]) rfl ?_
        rw [c48 hS2]
        rw [addN O N, show Int32.ofNat (O + N) + (1 : Int32) = Int32.ofNat (O + N + 1) from ofN1 _]
        refine G.castore (i := O + N + 1) (x' := chd S2) (by decide +kernel) AQ20 n6 (iz (j := O + N + 1) hO1 hN.2 hK (by omega)).1 (iz (j := O + N + 1) hO1 hN.2 hK (by omega)).2 (by rw [List.length_map, lv20]; exact (by omega)) (nar_b8 (b8c hS2)) ?_
        intro h69 K69 A69
        rw [← List.map_set] at A69
        exact J (_, v20.set (O + N + 1) (chd S2)) ⟨Keep.trans KQ20 K69 (allS (Or.inl (List.mem_singleton.mpr rfl)) all0), by rw [List.length_set]; exact lv20, A69, ag_s2 hj lv20 (TT_2 hK hj).symm ag20⟩
    rintro ⟨q21, v21⟩ ⟨KQ21, lv21, AQ21, ag21⟩
    dsimp only at KQ21 lv21 AQ21 ag21 ⊢
    clear ag20 AQ20 lv20 KQ20 v20 q20
    have eT : v21 = (TT O V N K S1 S2) := ag_all (by rw [lv21, TT_len hK]) (ag_fin hK lv21 ag21)
    rw [eT] at AQ21
    refine G.seg [(685, .iload 13, 2), (687, .iconst 1, 1)] (by decide +kernel) (pc' := 688) (L' := #[.val (.long vr), .second, .val (.long cr), .second, .val (.int sh), .val (.int rp), .val (.long (Int64.ofNat V)), .second, .val (.long (Int64.ofNat C)), .second, .val (.int (Int32.ofNat K)), .val (.int (Int32.ofNat S1)), .val (.int (Int32.ofNat S2)), .val (.int (Int32.ofNat mo)), .val (.int c), .val (.int (Int32.ofNat N)), .val (.int (Int32.ofNat O)), .val (.int (Int32.ofNat (O + N + K))), .val (.ref a6), .unset, .unset, .unset, .unset, .unset, .unset, .unset, .unset, .unset]) (S' := [.int (1 : Int32), .int (Int32.ofNat mo)]) rfl ?_
    refine G.join (fun z : Heap × List Int32 => Arv Z z.1 a6 k6 .char (Int32.ofNat (O + N + K)) (z.2.map Value.int) (.int 0) ∧ ((mo ≠ 1 ∧ z.2 = (TT O V N K S1 S2)) ∨ (mo = 1 ∧ ∃ i, i < O + N + K ∧ z.2 = (TT O V N K S1 S2).set i c))) (fun z => (z.1, 38, 725, 707, #[.val (.long vr), .second, .val (.long cr), .second, .val (.int sh), .val (.int rp), .val (.long (Int64.ofNat V)), .second, .val (.long (Int64.ofNat C)), .second, .val (.int (Int32.ofNat K)), .val (.int (Int32.ofNat S1)), .val (.int (Int32.ofNat S2)), .val (.int (Int32.ofNat mo)), .val (.int c), .val (.int (Int32.ofNat N)), .val (.int (Int32.ofNat O)), .val (.int (Int32.ofNat (O + N + K))), .val (.ref a6), .unset, .unset, .unset, .unset, .unset, .unset, .unset, .unset, .unset], [])) ?_ ?_
    · intro J
      refine G.icne (o := (19)) (pc' := 707) (by decide +kernel) (by decide) rfl ?_ ?_
      · intro q70
        exact J (_, (TT O V N K S1 S2)) ⟨AQ21, Or.inl ⟨fun z => q70 (by rw [z]; rfl), rfl⟩⟩
      · intro q70
        have m1 : mo = 1 := ninj (by omega) (by decide) q70
        refine G.seg [(691, .aload 18, 2), (693, .iload 4, 2), (695, .bipush 24, 2), (697, .iushr, 1), (698, .bipush 31, 2), (700, .iand, 1), (701, .iload 17, 2)] (by decide +kernel) (pc' := 703) (L' := #[.val (.long vr), .second, .val (.long cr), .second, .val (.int sh), .val (.int rp), .val (.long (Int64.ofNat V)), .second, .val (.long (Int64.ofNat C)), .second, .val (.int (Int32.ofNat K)), .val (.int (Int32.ofNat S1)), .val (.int (Int32.ofNat S2)), .val (.int (Int32.ofNat mo)), .val (.int c), .val (.int (Int32.ofNat N)), .val (.int (Int32.ofNat O)), .val (.int (Int32.ofNat (O + N + K))), .val (.ref a6), .unset, .unset, .unset, .unset, .unset, .unset, .unset, .unset, .unset]) (S' := [.int (Int32.ofNat (O + N + K)), .int ((XT.ushr sh (24 : Int32)) &&& (31 : Int32)), .ref a6]) rfl ?_
        obtain ⟨I, hI, eI⟩ := a31 (XT.ushr sh 24)
        rw [eI]
        refine G.irem (by decide +kernel) (fun z => absurd (ninj (n := 0) (by omega) (by decide) z) (by omega)) ?_
        rw [modN (by omega) (by omega)]
        refine G.seg [(704, .iload 14, 2)] (by decide +kernel) (pc' := 706) (L' := #[.val (.long vr), .second, .val (.long cr), .second, .val (.int sh), .val (.int rp), .val (.long (Int64.ofNat V)), .second, .val (.long (Int64.ofNat C)), .second, .val (.int (Int32.ofNat K)), .val (.int (Int32.ofNat S1)), .val (.int (Int32.ofNat S2)), .val (.int (Int32.ofNat mo)), .val (.int c), .val (.int (Int32.ofNat N)), .val (.int (Int32.ofNat O)), .val (.int (Int32.ofNat (O + N + K))), .val (.ref a6), .unset, .unset, .unset, .unset, .unset, .unset, .unset, .unset, .unset]) (S' := [.int c, .int (Int32.ofNat (I % (O + N + K))), .ref a6]) rfl ?_
        have hI2 : I % (O + N + K) < O + N + K := Nat.mod_lt _ (by omega)
        refine G.castore (i := I % (O + N + K)) (x' := c) (by decide +kernel) AQ21 n6 (nlt (n := O + N + K) (by omega) hI2) (clampk (by omega)) (by rw [List.length_map, TT_len hK]; exact hI2) (nar_ch hc) ?_
        intro h71 K71 A71
        rw [← List.map_set] at A71
        exact J (_, (TT O V N K S1 S2).set (I % (O + N + K)) c) ⟨A71, Or.inr ⟨m1, _, hI2, rfl⟩⟩
    rintro ⟨qf, cs⟩ ⟨AF, hcs⟩
    dsimp only at AF hcs ⊢
    have lT : (TT O V N K S1 S2).length = O + N + K := TT_len hK
    have lcs : cs.length = O + N + K := by rcases hcs with ⟨-, e⟩ | ⟨-, i, -, e⟩; rw [e, lT]; rw [e, List.length_set, lT]
    have latT : lat (TT O V N K S1 S2) := latd (TT_digs hS1 hS2)
    have wcs : wid cs := by rcases hcs with ⟨-, e⟩ | ⟨-, i, -, e⟩; rw [e]; exact up latT; rw [e]; intro x hx; rcases List.mem_or_eq_of_mem_set hx with h | h; exact up latT x h; rw [h]; exact hc
    have hneg : mo ≠ 0 → capF (Int64.ofNat C) cs = -1 := by
      intro hm0
      rcases hcs with ⟨h1, e⟩ | ⟨-, i, hi, e⟩
      · have O1 : O = 1 := by rw [eO, if_pos (by omega)]
        rw [e]; exact cap_zero (TT_o (by omega)) (by omega) _
      · exact cap_bad ⟨c, by rw [e]; exact List.mem_set (by rw [lT]; exact hi) c, hcd⟩ _
    refine G.new (by decide +kernel) (tw 32 rfl) (tw 33 rfl) (tw 34 rfl) (lb rfl) (lb rfl) ?_
    intro h72 a72 g72 n72 K72 E72 D72
    refine G.seg [(710, .dup, 1), (711, .aload 18, 2)] (by decide +kernel) (pc' := 713) (L' := #[.val (.long vr), .second, .val (.long cr), .second, .val (.int sh), .val (.int rp), .val (.long (Int64.ofNat V)), .second, .val (.long (Int64.ofNat C)), .second, .val (.int (Int32.ofNat K)), .val (.int (Int32.ofNat S1)), .val (.int (Int32.ofNat S2)), .val (.int (Int32.ofNat mo)), .val (.int c), .val (.int (Int32.ofNat N)), .val (.int (Int32.ofNat O)), .val (.int (Int32.ofNat (O + N + K))), .val (.ref a6), .unset, .unset, .unset, .unset, .unset, .unset, .unset, .unset, .unset]) (S' := [.ref a6, .ref a72, .ref a72]) rfl ?_
    refine G.special (y := N1) (a := a72) (argsL := [.ref a6]) (rest := [.ref a72]) (W := 1) rfl (by decide +kernel) (tw 35 rfl) (tw 36 rfl) (tw 37 rfl) (by decide)
      (newU (cs := cs) n72 E72 (D72 (Or.inr (tw 60 rfl)) (ty := .array (.byte)) (by decide)) (D72 (Or.inr (tw 58 rfl)) (ty := .byte) (by decide)) (by rw [lcs]; exact AF.keep K72 nin0) hCS hU wcs (by omega) (by omega) (lb rfl) (lb rfl)) (lenOf pdN1 rfl) rfl (Nat.le_of_eq rfl) rfl (lb rfl) (lb rfl) ?_
    rintro _ h73 ⟨rfl, K73, F73⟩
    refine G.seg [(716, .lload 8, 2)] (by decide +kernel) (pc' := 718) (L' := #[.val (.long vr), .second, .val (.long cr), .second, .val (.int sh), .val (.int rp), .val (.long (Int64.ofNat V)), .second, .val (.long (Int64.ofNat C)), .second, .val (.int (Int32.ofNat K)), .val (.int (Int32.ofNat S1)), .val (.int (Int32.ofNat S2)), .val (.int (Int32.ofNat mo)), .val (.int c), .val (.int (Int32.ofNat N)), .val (.int (Int32.ofNat O)), .val (.int (Int32.ofNat (O + N + K))), .val (.ref a6), .unset, .unset, .unset, .unset, .unset, .unset, .unset, .unset, .unset]) (S' := [.long (Int64.ofNat C), .ref a72]) rfl ?_
    refine G.static (y := ⟨"com/example/mynah/mynah/PlainDecimal", "parseCapped", "(Ljava/lang/String;J)J"⟩) (argsL := [.ref a72, .long (Int64.ofNat C)]) (rest := []) (W := 0) (by decide +kernel) (tw 61 rfl) (tw 62 rfl) (tw 63 rfl) (tw 64 rfl) (by decide) ((capC l Z a0 n0 h73 a72 cs (Int64.ofNat C) F73 hCS hU hFM).pays (tw 64 rfl) (tw 63 rfl) (lb rfl) (lb rfl)) (lenOf pd17 rfl) rfl (Nat.le_of_eq rfl) rfl (lb rfl) (lb rfl) ?_
    rintro _ h74 ⟨rfl, rfl⟩
    refine G.seg [(721, .lstore 19, 2)] (by decide +kernel) (pc' := 723) (L' := #[.val (.long vr), .second, .val (.long cr), .second, .val (.int sh), .val (.int rp), .val (.long (Int64.ofNat V)), .second, .val (.long (Int64.ofNat C)), .second, .val (.int (Int32.ofNat K)), .val (.int (Int32.ofNat S1)), .val (.int (Int32.ofNat S2)), .val (.int (Int32.ofNat mo)), .val (.int c), .val (.int (Int32.ofNat N)), .val (.int (Int32.ofNat O)), .val (.int (Int32.ofNat (O + N + K))), .val (.ref a6), .val (.long (capF (Int64.ofNat C) cs)), .second, .unset, .unset, .unset, .unset, .unset, .unset, .unset]) (S' := []) rfl ?_
    refine G.seg [(723, .iload 13, 2)] (by decide +kernel) (pc' := 725) (L' := #[.val (.long vr), .second, .val (.long cr), .second, .val (.int sh), .val (.int rp), .val (.long (Int64.ofNat V)), .second, .val (.long (Int64.ofNat C)), .second, .val (.int (Int32.ofNat K)), .val (.int (Int32.ofNat S1)), .val (.int (Int32.ofNat S2)), .val (.int (Int32.ofNat mo)), .val (.int c), .val (.int (Int32.ofNat N)), .val (.int (Int32.ofNat O)), .val (.int (Int32.ofNat (O + N + K))), .val (.ref a6), .val (.long (capF (Int64.ofNat C) cs)), .second, .unset, .unset, .unset, .unset, .unset, .unset, .unset]) (S' := [.int (Int32.ofNat mo)]) rfl ?_
    refine G.ifne (o := (15)) (pc' := 740) (by decide +kernel) (by decide) rfl ?_ ?_
    · intro q75
      refine G.ldcJ (by decide +kernel) (tw 113 rfl) ?_
      refine G.seg [(743, .lstore 21, 2)] (by decide +kernel) (pc' := 745) (L' := #[.val (.long vr), .second, .val (.long cr), .second, .val (.int sh), .val (.int rp), .val (.long (Int64.ofNat V)), .second, .val (.long (Int64.ofNat C)), .second, .val (.int (Int32.ofNat K)), .val (.int (Int32.ofNat S1)), .val (.int (Int32.ofNat S2)), .val (.int (Int32.ofNat mo)), .val (.int c), .val (.int (Int32.ofNat N)), .val (.int (Int32.ofNat O)), .val (.int (Int32.ofNat (O + N + K))), .val (.ref a6), .val (.long (capF (Int64.ofNat C) cs)), .second, .val (.long (-1 : Int64)), .second, .unset, .unset, .unset, .unset, .unset]) (S' := []) rfl ?_
      refine G.seg [(745, .goto 112, 3)] (by decide +kernel) (pc' := 857) (L' := #[.val (.long vr), .second, .val (.long cr), .second, .val (.int sh), .val (.int rp), .val (.long (Int64.ofNat V)), .second, .val (.long (Int64.ofNat C)), .second, .val (.int (Int32.ofNat K)), .val (.int (Int32.ofNat S1)), .val (.int (Int32.ofNat S2)), .val (.int (Int32.ofNat mo)), .val (.int c), .val (.int (Int32.ofNat N)), .val (.int (Int32.ofNat O)), .val (.int (Int32.ofNat (O + N + K))), .val (.ref a6), .val (.long (capF (Int64.ofNat C) cs)), .second, .val (.long (-1 : Int64)), .second, .unset, .unset, .unset, .unset, .unset]) (S' := []) rfl ?_
      refine G.seg [(857, .lload 19, 2), (859, .lload 21, 2), (861, .lcmp, 1)] (by decide +kernel) (pc' := 862) (L' := #[.val (.long vr), .second, .val (.long cr), .second, .val (.int sh), .val (.int rp), .val (.long (Int64.ofNat V)), .second, .val (.long (Int64.ofNat C)), .second, .val (.int (Int32.ofNat K)), .val (.int (Int32.ofNat S1)), .val (.int (Int32.ofNat S2)), .val (.int (Int32.ofNat mo)), .val (.int c), .val (.int (Int32.ofNat N)), .val (.int (Int32.ofNat O)), .val (.int (Int32.ofNat (O + N + K))), .val (.ref a6), .val (.long (capF (Int64.ofNat C) cs)), .second, .val (.long (-1 : Int64)), .second, .unset, .unset, .unset, .unset, .unset]) (S' := [.int (XT.cmpL (capF (Int64.ofNat C) cs) (-1 : Int64))]) rfl ?_
      refine G.ifne (o := (7)) (pc' := 869) (by decide +kernel) (by decide) rfl (fun q76 => absurd (cmp_zero.mpr (hneg (fun z => q75 (by rw [z]; rfl)))) q76) ?_
      intro _
      refine G.seg [(865, .iconst 1, 1), (866, .goto 4, 3)] (by decide +kernel) (pc' := 870) (L' := #[.val (.long vr), .second, .val (.long cr), .second, .val (.int sh), .val (.int rp), .val (.long (Int64.ofNat V)), .second, .val (.long (Int64.ofNat C)), .second, .val (.int (Int32.ofNat K)), .val (.int (Int32.ofNat S1)), .val (.int (Int32.ofNat S2)), .val (.int (Int32.ofNat mo)), .val (.int c), .val (.int (Int32.ofNat N)), .val (.int (Int32.ofNat O)), .val (.int (Int32.ofNat (O + N + K))), .val (.ref a6), .val (.long (capF (Int64.ofNat C) cs)), .second, .val (.long (-1 : Int64)), .second, .unset, .unset, .unset, .unset, .unset]) (S' := [.int (1 : Int32)]) rfl ?_
      exact G.retN (by decide +kernel) rfl (Or.inl rfl) rfl rfl (lb rfl) (lb rfl)
    · intro q75
      have m0 : mo = 0 := ninj (by omega) (by decide) q75
      have O0 : O = 0 := by rw [eO, if_neg (by omega)]
      have ecs : cs = TT 0 V (dgs 18 V) K S1 S2 := by rcases hcs with ⟨-, e⟩ | ⟨z, -⟩; rw [e, O0, eN]; exact absurd z (by omega)
      refine G.seg [(728, .lload 6, 2), (730, .lconst 0, 1), (731, .lcmp, 1)] (by decide +kernel) (pc' := 732) (L' := #[.val (.long vr), .second, .val (.long cr), .second, .val (.int sh), .val (.int rp), .val (.long (Int64.ofNat V)), .second, .val (.long (Int64.ofNat C)), .second, .val (.int (Int32.ofNat K)), .val (.int (Int32.ofNat S1)), .val (.int (Int32.ofNat S2)), .val (.int (Int32.ofNat mo)), .val (.int c), .val (.int (Int32.ofNat N)), .val (.int (Int32.ofNat O)), .val (.int (Int32.ofNat (O + N + K))), .val (.ref a6), .val (.long (capF (Int64.ofNat C) cs)), .second, .unset, .unset, .unset, .unset, .unset, .unset, .unset]) (S' := [.int (XT.cmpL (Int64.ofNat V) (0 : Int64))]) rfl ?_
      refine G.ifne (o := (16)) (pc' := 748) (by decide +kernel) (by decide) rfl ?_ ?_
      · intro q77
        have hz : ¬ (V = 0 ∧ 0 < K) := fun z => q77 (cmp_zero.mpr (by rw [z.1]; rfl))
        have key := m0_ok hC hV hK hS1 hS2 hz
        rw [← ecs] at key
        clear hcs eT ag21 hneg
        clear ecs
        obtain rfl | rfl | rfl : K = 0 ∨ K = 1 ∨ K = 2 := by omega
        · refine G.seg [(748, .iload 10, 2)] (by decide +kernel) (pc' := 750) (L' := #[.val (.long vr), .second, .val (.long cr), .second, .val (.int sh), .val (.int rp), .val (.long (Int64.ofNat V)), .second, .val (.long (Int64.ofNat C)), .second, .val (.int (Int32.ofNat 0)), .val (.int (Int32.ofNat S1)), .val (.int (Int32.ofNat S2)), .val (.int (Int32.ofNat mo)), .val (.int c), .val (.int (Int32.ofNat N)), .val (.int (Int32.ofNat O)), .val (.int (Int32.ofNat (O + N + 0))), .val (.ref a6), .val (.long (capF (Int64.ofNat C) cs)), .second, .unset, .unset, .unset, .unset, .unset, .unset, .unset]) (S' := [.int (Int32.ofNat 0)]) rfl ?_
          refine G.ifne (o := (7)) (pc' := 757) (by decide +kernel) (by decide) rfl (fun q78 => absurd rfl q78) ?_
          intro _
          refine G.seg [(753, .lconst 1, 1), (754, .goto 18, 3), (772, .lstore 23, 2)] (by decide +kernel) (pc' := 774) (L' := #[.val (.long vr), .second, .val (.long cr), .second, .val (.int sh), .val (.int rp), .val (.long (Int64.ofNat V)), .second, .val (.long (Int64.ofNat C)), .second, .val (.int (Int32.ofNat 0)), .val (.int (Int32.ofNat S1)), .val (.int (Int32.ofNat S2)), .val (.int (Int32.ofNat mo)), .val (.int c), .val (.int (Int32.ofNat N)), .val (.int (Int32.ofNat O)), .val (.int (Int32.ofNat (O + N + 0))), .val (.ref a6), .val (.long (capF (Int64.ofNat C) cs)), .second, .unset, .unset, .val (.long (1 : Int64)), .second, .unset, .unset, .unset]) (S' := []) rfl ?_
          refine G.seg [(774, .iload 10, 2)] (by decide +kernel) (pc' := 776) (L' := #[.val (.long vr), .second, .val (.long cr), .second, .val (.int sh), .val (.int rp), .val (.long (Int64.ofNat V)), .second, .val (.long (Int64.ofNat C)), .second, .val (.int (Int32.ofNat 0)), .val (.int (Int32.ofNat S1)), .val (.int (Int32.ofNat S2)), .val (.int (Int32.ofNat mo)), .val (.int c), .val (.int (Int32.ofNat N)), .val (.int (Int32.ofNat O)), .val (.int (Int32.ofNat (O + N + 0))), .val (.ref a6), .val (.long (capF (Int64.ofNat C) cs)), .second, .unset, .unset, .val (.long (1 : Int64)), .second, .unset, .unset, .unset]) (S' := [.int (Int32.ofNat 0)]) rfl ?_
          refine G.ifne (o := (7)) (pc' := 783) (by decide +kernel) (by decide) rfl (fun q79 => absurd rfl q79) ?_
          intro _
          refine G.seg [(779, .lconst 0, 1), (780, .goto 26, 3)] (by decide +kernel) (pc' := 806) (L' := #[.val (.long vr), .second, .val (.long cr), .second, .val (.int sh), .val (.int rp), .val (.long (Int64.ofNat V)), .second, .val (.long (Int64.ofNat C)), .second, .val (.int (Int32.ofNat 0)), .val (.int (Int32.ofNat S1)), .val (.int (Int32.ofNat S2)), .val (.int (Int32.ofNat mo)), .val (.int c), .val (.int (Int32.ofNat N)), .val (.int (Int32.ofNat O)), .val (.int (Int32.ofNat (O + N + 0))), .val (.ref a6), .val (.long (capF (Int64.ofNat C) cs)), .second, .unset, .unset, .val (.long (1 : Int64)), .second, .unset, .unset, .unset]) (S' := [.long (0 : Int64)]) rfl ?_
          refine G.seg [(806, .lstore 25, 2)] (by decide +kernel) (pc' := 808) (L' := #[.val (.long vr), .second, .val (.long cr), .second, .val (.int sh), .val (.int rp), .val (.long (Int64.ofNat V)), .second, .val (.long (Int64.ofNat C)), .second, .val (.int (Int32.ofNat 0)), .val (.int (Int32.ofNat S1)), .val (.int (Int32.ofNat S2)), .val (.int (Int32.ofNat mo)), .val (.int c), .val (.int (Int32.ofNat N)), .val (.int (Int32.ofNat O)), .val (.int (Int32.ofNat (O + N + 0))), .val (.ref a6), .val (.long (capF (Int64.ofNat C) cs)), .second, .unset, .unset, .val (.long (1 : Int64)), .second, .val (.long (0 : Int64)), .second, .unset]) (S' := []) rfl ?_
          refine G.seg [(808, .lload 8, 2), (810, .lload 25, 2), (812, .lcmp, 1)] (by decide +kernel) (pc' := 813) (L' := #[.val (.long vr), .second, .val (.long cr), .second, .val (.int sh), .val (.int rp), .val (.long (Int64.ofNat V)), .second, .val (.long (Int64.ofNat C)), .second, .val (.int (Int32.ofNat 0)), .val (.int (Int32.ofNat S1)), .val (.int (Int32.ofNat S2)), .val (.int (Int32.ofNat mo)), .val (.int c), .val (.int (Int32.ofNat N)), .val (.int (Int32.ofNat O)), .val (.int (Int32.ofNat (O + N + 0))), .val (.ref a6), .val (.long (capF (Int64.ofNat C) cs)), .second, .unset, .unset, .val (.long (1 : Int64)), .second, .val (.long (0 : Int64)), .second, .unset]) (S' := [.int (XT.cmpL (Int64.ofNat C) (0 : Int64))]) rfl ?_
          refine G.iflt (o := (17)) (pc' := 830) (by decide +kernel) (by decide) rfl ?_ ?_
          · intro q80
            have ab : C < V * 10 ^ 0 + sdN 0 S1 S2 := by have := (c64n (b := 0) hC (by omega)).mp q80; show C < V * 1 + 0; omega
            refine G.seg [(830, .iconst 1, 1), (831, .goto 4, 3), (835, .istore 27, 2)] (by decide +kernel) (pc' := 837) (L' := #[.val (.long vr), .second, .val (.long cr), .second, .val (.int sh), .val (.int rp), .val (.long (Int64.ofNat V)), .second, .val (.long (Int64.ofNat C)), .second, .val (.int (Int32.ofNat 0)), .val (.int (Int32.ofNat S1)), .val (.int (Int32.ofNat S2)), .val (.int (Int32.ofNat mo)), .val (.int c), .val (.int (Int32.ofNat N)), .val (.int (Int32.ofNat O)), .val (.int (Int32.ofNat (O + N + 0))), .val (.ref a6), .val (.long (capF (Int64.ofNat C) cs)), .second, .unset, .unset, .val (.long (1 : Int64)), .second, .val (.long (0 : Int64)), .second, .val (.int (1 : Int32))]) (S' := []) rfl ?_
            refine G.seg [(837, .iload 27, 2)] (by decide +kernel) (pc' := 839) (L' := #[.val (.long vr), .second, .val (.long cr), .second, .val (.int sh), .val (.int rp), .val (.long (Int64.ofNat V)), .second, .val (.long (Int64.ofNat C)), .second, .val (.int (Int32.ofNat 0)), .val (.int (Int32.ofNat S1)), .val (.int (Int32.ofNat S2)), .val (.int (Int32.ofNat mo)), .val (.int c), .val (.int (Int32.ofNat N)), .val (.int (Int32.ofNat O)), .val (.int (Int32.ofNat (O + N + 0))), .val (.ref a6), .val (.long (capF (Int64.ofNat C) cs)), .second, .unset, .unset, .val (.long (1 : Int64)), .second, .val (.long (0 : Int64)), .second, .val (.int (1 : Int32))]) (S' := [.int (1 : Int32)]) rfl ?_
            refine G.ifeq (o := (8)) (pc' := 847) (by decide +kernel) (by decide) rfl (fun q81 => absurd q81 (by decide)) ?_
            intro _
            refine G.seg [(842, .lload 8, 2), (844, .goto 11, 3), (855, .lstore 21, 2)] (by decide +kernel) (pc' := 857) (L' := #[.val (.long vr), .second, .val (.long cr), .second, .val (.int sh), .val (.int rp), .val (.long (Int64.ofNat V)), .second, .val (.long (Int64.ofNat C)), .second, .val (.int (Int32.ofNat 0)), .val (.int (Int32.ofNat S1)), .val (.int (Int32.ofNat S2)), .val (.int (Int32.ofNat mo)), .val (.int c), .val (.int (Int32.ofNat N)), .val (.int (Int32.ofNat O)), .val (.int (Int32.ofNat (O + N + 0))), .val (.ref a6), .val (.long (capF (Int64.ofNat C) cs)), .second, .val (.long (Int64.ofNat C)), .second, .val (.long (1 : Int64)), .second, .val (.long (0 : Int64)), .second, .val (.int (1 : Int32))]) (S' := []) rfl ?_
            refine G.seg [(857, .lload 19, 2), (859, .lload 21, 2), (861, .lcmp, 1)] (by decide +kernel) (pc' := 862) (L' := #[.val (.long vr), .second, .val (.long cr), .second, .val (.int sh), .val (.int rp), .val (.long (Int64.ofNat V)), .second, .val (.long (Int64.ofNat C)), .second, .val (.int (Int32.ofNat 0)), .val (.int (Int32.ofNat S1)), .val (.int (Int32.ofNat S2)), .val (.int (Int32.ofNat mo)), .val (.int c), .val (.int (Int32.ofNat N)), .val (.int (Int32.ofNat O)), .val (.int (Int32.ofNat (O + N + 0))), .val (.ref a6), .val (.long (capF (Int64.ofNat C) cs)), .second, .val (.long (Int64.ofNat C)), .second, .val (.long (1 : Int64)), .second, .val (.long (0 : Int64)), .second, .val (.int (1 : Int32))]) (S' := [.int (XT.cmpL (capF (Int64.ofNat C) cs) (Int64.ofNat C))]) rfl ?_
            refine G.ifne (o := (7)) (pc' := 869) (by decide +kernel) (by decide) rfl (fun q82 => absurd (cmp_zero.mpr (key.trans (congrArg Int64.ofNat (if_pos ab)))) q82) ?_
            intro _
            refine G.seg [(865, .iconst 1, 1), (866, .goto 4, 3)] (by decide +kernel) (pc' := 870) (L' := #[.val (.long vr), .second, .val (.long cr), .second, .val (.int sh), .val (.int rp), .val (.long (Int64.ofNat V)), .second, .val (.long (Int64.ofNat C)), .second, .val (.int (Int32.ofNat 0)), .val (.int (Int32.ofNat S1)), .val (.int (Int32.ofNat S2)), .val (.int (Int32.ofNat mo)), .val (.int c), .val (.int (Int32.ofNat N)), .val (.int (Int32.ofNat O)), .val (.int (Int32.ofNat (O + N + 0))), .val (.ref a6), .val (.long (capF (Int64.ofNat C) cs)), .second, .val (.long (Int64.ofNat C)), .second, .val (.long (1 : Int64)), .second, .val (.long (0 : Int64)), .second, .val (.int (1 : Int32))]) (S' := [.int (1 : Int32)]) rfl ?_
            exact G.retN (by decide +kernel) rfl (Or.inl rfl) rfl rfl (lb rfl) (lb rfl)
          · intro q80
            refine G.seg [(816, .lload 6, 2), (818, .lload 8, 2), (820, .lload 25, 2), (822, .lsub, 1), (823, .lload 23, 2), (825, .ldiv, 1), (826, .lcmp, 1)] (by decide +kernel) (pc' := 827) (L' := #[.val (.long vr), .second, .val (.long cr), .second, .val (.int sh), .val (.int rp), .val (.long (Int64.ofNat V)), .second, .val (.long (Int64.ofNat C)), .second, .val (.int (Int32.ofNat 0)), .val (.int (Int32.ofNat S1)), .val (.int (Int32.ofNat S2)), .val (.int (Int32.ofNat mo)), .val (.int c), .val (.int (Int32.ofNat N)), .val (.int (Int32.ofNat O)), .val (.int (Int32.ofNat (O + N + 0))), .val (.ref a6), .val (.long (capF (Int64.ofNat C) cs)), .second, .unset, .unset, .val (.long (1 : Int64)), .second, .val (.long (0 : Int64)), .second, .unset]) (S' := [.int (XT.cmpL (Int64.ofNat V) (((Int64.ofNat C) - (0 : Int64)) / (1 : Int64)))]) rfl ?_
            refine G.ifle (o := (7)) (pc' := 834) (by decide +kernel) (by decide) rfl ?_ ?_
            · intro q83
              have nb : ¬ C < V * 10 ^ 0 + sdN 0 S1 S2 := fun z => q83 ((above_ok (p := 1) (sd := 0) hC hV (by omega) (Or.inl rfl) q80).mpr z)
              refine G.seg [(834, .iconst 0, 1), (835, .istore 27, 2)] (by decide +kernel) (pc' := 837) (L' := #[.val (.long vr), .second, .val (.long cr), .second, .val (.int sh), .val (.int rp), .val (.long (Int64.ofNat V)), .second, .val (.long (Int64.ofNat C)), .second, .val (.int (Int32.ofNat 0)), .val (.int (Int32.ofNat S1)), .val (.int (Int32.ofNat S2)), .val (.int (Int32.ofNat mo)), .val (.int c), .val (.int (Int32.ofNat N)), .val (.int (Int32.ofNat O)), .val (.int (Int32.ofNat (O + N + 0))), .val (.ref a6), .val (.long (capF (Int64.ofNat C) cs)), .second, .unset, .unset, .val (.long (1 : Int64)), .second, .val (.long (0 : Int64)), .second, .val (.int (0 : Int32))]) (S' := []) rfl ?_
              refine G.seg [(837, .iload 27, 2)] (by decide +kernel) (pc' := 839) (L' := #[.val (.long vr), .second, .val (.long cr), .second, .val (.int sh), .val (.int rp), .val (.long (Int64.ofNat V)), .second, .val (.long (Int64.ofNat C)), .second, .val (.int (Int32.ofNat 0)), .val (.int (Int32.ofNat S1)), .val (.int (Int32.ofNat S2)), .val (.int (Int32.ofNat mo)), .val (.int c), .val (.int (Int32.ofNat N)), .val (.int (Int32.ofNat O)), .val (.int (Int32.ofNat (O + N + 0))), .val (.ref a6), .val (.long (capF (Int64.ofNat C) cs)), .second, .unset, .unset, .val (.long (1 : Int64)), .second, .val (.long (0 : Int64)), .second, .val (.int (0 : Int32))]) (S' := [.int (0 : Int32)]) rfl ?_
              refine G.ifeq (o := (8)) (pc' := 847) (by decide +kernel) (by decide) rfl ?_ (fun q84 => absurd rfl q84)
              intro _
              refine G.seg [(847, .lload 6, 2), (849, .lload 23, 2), (851, .lmul, 1), (852, .lload 25, 2), (854, .ladd, 1), (855, .lstore 21, 2)] (by decide +kernel) (pc' := 857) (L' := #[.val (.long vr), .second, .val (.long cr), .second, .val (.int sh), .val (.int rp), .val (.long (Int64.ofNat V)), .second, .val (.long (Int64.ofNat C)), .second, .val (.int (Int32.ofNat 0)), .val (.int (Int32.ofNat S1)), .val (.int (Int32.ofNat S2)), .val (.int (Int32.ofNat mo)), .val (.int c), .val (.int (Int32.ofNat N)), .val (.int (Int32.ofNat O)), .val (.int (Int32.ofNat (O + N + 0))), .val (.ref a6), .val (.long (capF (Int64.ofNat C) cs)), .second, .val (.long (((Int64.ofNat V) * (1 : Int64)) + (0 : Int64))), .second, .val (.long (1 : Int64)), .second, .val (.long (0 : Int64)), .second, .val (.int (0 : Int32))]) (S' := []) rfl ?_
              refine G.seg [(857, .lload 19, 2), (859, .lload 21, 2), (861, .lcmp, 1)] (by decide +kernel) (pc' := 862) (L' := #[.val (.long vr), .second, .val (.long cr), .second, .val (.int sh), .val (.int rp), .val (.long (Int64.ofNat V)), .second, .val (.long (Int64.ofNat C)), .second, .val (.int (Int32.ofNat 0)), .val (.int (Int32.ofNat S1)), .val (.int (Int32.ofNat S2)), .val (.int (Int32.ofNat mo)), .val (.int c), .val (.int (Int32.ofNat N)), .val (.int (Int32.ofNat O)), .val (.int (Int32.ofNat (O + N + 0))), .val (.ref a6), .val (.long (capF (Int64.ofNat C) cs)), .second, .val (.long (((Int64.ofNat V) * (1 : Int64)) + (0 : Int64))), .second, .val (.long (1 : Int64)), .second, .val (.long (0 : Int64)), .second, .val (.int (0 : Int32))]) (S' := [.int (XT.cmpL (capF (Int64.ofNat C) cs) (((Int64.ofNat V) * (1 : Int64)) + (0 : Int64)))]) rfl ?_
              refine G.ifne (o := (7)) (pc' := 869) (by decide +kernel) (by decide) rfl (fun q85 => absurd (cmp_zero.mpr (key.trans ((congrArg Int64.ofNat (if_neg nb)).trans (by rw [Int64.ofNat_add, Int64.ofNat_mul]; rfl)))) q85) ?_
              intro _
              refine G.seg [(865, .iconst 1, 1), (866, .goto 4, 3)] (by decide +kernel) (pc' := 870) (L' := #[.val (.long vr), .second, .val (.long cr), .second, .val (.int sh), .val (.int rp), .val (.long (Int64.ofNat V)), .second, .val (.long (Int64.ofNat C)), .second, .val (.int (Int32.ofNat 0)), .val (.int (Int32.ofNat S1)), .val (.int (Int32.ofNat S2)), .val (.int (Int32.ofNat mo)), .val (.int c), .val (.int (Int32.ofNat N)), .val (.int (Int32.ofNat O)), .val (.int (Int32.ofNat (O + N + 0))), .val (.ref a6), .val (.long (capF (Int64.ofNat C) cs)), .second, .val (.long (((Int64.ofNat V) * (1 : Int64)) + (0 : Int64))), .second, .val (.long (1 : Int64)), .second, .val (.long (0 : Int64)), .second, .val (.int (0 : Int32))]) (S' := [.int (1 : Int32)]) rfl ?_
              exact G.retN (by decide +kernel) rfl (Or.inl rfl) rfl rfl (lb rfl) (lb rfl)
            · intro q83
              have ab : C < V * 10 ^ 0 + sdN 0 S1 S2 := (above_ok (p := 1) (sd := 0) hC hV (by omega) (Or.inl rfl) q80).mp q83
              refine G.seg [(830, .iconst 1, 1), (831, .goto 4, 3), (835, .istore 27, 2)] (by decide +kernel) (pc' := 837) (L' := #[.val (.long vr), .second, .val (.long cr), .second, .val (.int sh), .val (.int rp), .val (.long (Int64.ofNat V)), .second, .val (.long (Int64.ofNat C)), .second, .val (.int (Int32.ofNat 0)), .val (.int (Int32.ofNat S1)), .val (.int (Int32.ofNat S2)), .val (.int (Int32.ofNat mo)), .val (.int c), .val (.int (Int32.ofNat N)), .val (.int (Int32.ofNat O)), .val (.int (Int32.ofNat (O + N + 0))), .val (.ref a6), .val (.long (capF (Int64.ofNat C) cs)), .second, .unset, .unset, .val (.long (1 : Int64)), .second, .val (.long (0 : Int64)), .second, .val (.int (1 : Int32))]) (S' := []) rfl ?_
              refine G.seg [(837, .iload 27, 2)] (by decide +kernel) (pc' := 839) (L' := #[.val (.long vr), .second, .val (.long cr), .second, .val (.int sh), .val (.int rp), .val (.long (Int64.ofNat V)), .second, .val (.long (Int64.ofNat C)), .second, .val (.int (Int32.ofNat 0)), .val (.int (Int32.ofNat S1)), .val (.int (Int32.ofNat S2)), .val (.int (Int32.ofNat mo)), .val (.int c), .val (.int (Int32.ofNat N)), .val (.int (Int32.ofNat O)), .val (.int (Int32.ofNat (O + N + 0))), .val (.ref a6), .val (.long (capF (Int64.ofNat C) cs)), .second, .unset, .unset, .val (.long (1 : Int64)), .second, .val (.long (0 : Int64)), .second, .val (.int (1 : Int32))]) (S' := [.int (1 : Int32)]) rfl ?_
              refine G.ifeq (o := (8)) (pc' := 847) (by decide +kernel) (by decide) rfl (fun q86 => absurd q86 (by decide)) ?_
              intro _
              refine G.seg [(842, .lload 8, 2), (844, .goto 11, 3), (855, .lstore 21, 2)] (by decide +kernel) (pc' := 857) (L' := #[.val (.long vr), .second, .val (.long cr), .second, .val (.int sh), .val (.int rp), .val (.long (Int64.ofNat V)), .second, .val (.long (Int64.ofNat C)), .second, .val (.int (Int32.ofNat 0)), .val (.int (Int32.ofNat S1)), .val (.int (Int32.ofNat S2)), .val (.int (Int32.ofNat mo)), .val (.int c), .val (.int (Int32.ofNat N)), .val (.int (Int32.ofNat O)), .val (.int (Int32.ofNat (O + N + 0))), .val (.ref a6), .val (.long (capF (Int64.ofNat C) cs)), .second, .val (.long (Int64.ofNat C)), .second, .val (.long (1 : Int64)), .second, .val (.long (0 : Int64)), .second, .val (.int (1 : Int32))]) (S' := []) rfl ?_
              refine G.seg [(857, .lload 19, 2), (859, .lload 21, 2), (861, .lcmp, 1)] (by decide +kernel) (pc' := 862) (L' := #[.val (.long vr), .second, .val (.long cr), .second, .val (.int sh), .val (.int rp), .val (.long (Int64.ofNat V)), .second, .val (.long (Int64.ofNat C)), .second, .val (.int (Int32.ofNat 0)), .val (.int (Int32.ofNat S1)), .val (.int (Int32.ofNat S2)), .val (.int (Int32.ofNat mo)), .val (.int c), .val (.int (Int32.ofNat N)), .val (.int (Int32.ofNat O)), .val (.int (Int32.ofNat (O + N + 0))), .val (.ref a6), .val (.long (capF (Int64.ofNat C) cs)), .second, .val (.long (Int64.ofNat C)), .second, .val (.long (1 : Int64)), .second, .val (.long (0 : Int64)), .second, .val (.int (1 : Int32))]) (S' := [.int (XT.cmpL (capF (Int64.ofNat C) cs) (Int64.ofNat C))]) rfl ?_
              refine G.ifne (o := (7)) (pc' := 869) (by decide +kernel) (by decide) rfl (fun q87 => absurd (cmp_zero.mpr (key.trans (congrArg Int64.ofNat (if_pos ab)))) q87) ?_
              intro _
              refine G.seg [(865, .iconst 1, 1), (866, .goto 4, 3)] (by decide +kernel) (pc' := 870) (L' := #[.val (.long vr), .second, .val (.long cr), .second, .val (.int sh), .val (.int rp), .val (.long (Int64.ofNat V)), .second, .val (.long (Int64.ofNat C)), .second, .val (.int (Int32.ofNat 0)), .val (.int (Int32.ofNat S1)), .val (.int (Int32.ofNat S2)), .val (.int (Int32.ofNat mo)), .val (.int c), .val (.int (Int32.ofNat N)), .val (.int (Int32.ofNat O)), .val (.int (Int32.ofNat (O + N + 0))), .val (.ref a6), .val (.long (capF (Int64.ofNat C) cs)), .second, .val (.long (Int64.ofNat C)), .second, .val (.long (1 : Int64)), .second, .val (.long (0 : Int64)), .second, .val (.int (1 : Int32))]) (S' := [.int (1 : Int32)]) rfl ?_
              exact G.retN (by decide +kernel) rfl (Or.inl rfl) rfl rfl (lb rfl) (lb rfl)
        · refine G.seg [(748, .iload 10, 2)] (by decide +kernel) (pc' := 750) (L' := #[.val (.long vr), .second, .val (.long cr), .second, .val (.int sh), .val (.int rp), .val (.long (Int64.ofNat V)), .second, .val (.long (Int64.ofNat C)), .second, .val (.int (Int32.ofNat 1)), .val (.int (Int32.ofNat S1)), .val (.int (Int32.ofNat S2)), .val (.int (Int32.ofNat mo)), .val (.int c), .val (.int (Int32.ofNat N)), .val (.int (Int32.ofNat O)), .val (.int (Int32.ofNat (O + N + 1))), .val (.ref a6), .val (.long (capF (Int64.ofNat C) cs)), .second, .unset, .unset, .unset, .unset, .unset, .unset, .unset]) (S' := [.int (Int32.ofNat 1)]) rfl ?_
          refine G.ifne (o := (7)) (pc' := 757) (by decide +kernel) (by decide) rfl ?_ (fun q88 => absurd q88 (by decide))
          intro _
          refine G.seg [(757, .iload 10, 2), (759, .iconst 1, 1)] (by decide +kernel) (pc' := 760) (L' := #[.val (.long vr), .second, .val (.long cr), .second, .val (.int sh), .val (.int rp), .val (.long (Int64.ofNat V)), .second, .val (.long (Int64.ofNat C)), .second, .val (.int (Int32.ofNat 1)), .val (.int (Int32.ofNat S1)), .val (.int (Int32.ofNat S2)), .val (.int (Int32.ofNat mo)), .val (.int c), .val (.int (Int32.ofNat N)), .val (.int (Int32.ofNat O)), .val (.int (Int32.ofNat (O + N + 1))), .val (.ref a6), .val (.long (capF (Int64.ofNat C) cs)), .second, .unset, .unset, .unset, .unset, .unset, .unset, .unset]) (S' := [.int (1 : Int32), .int (Int32.ofNat 1)]) rfl ?_
          refine G.icne (o := (9)) (pc' := 769) (by decide +kernel) (by decide) rfl (fun q89 => absurd rfl q89) ?_
          intro _
          refine G.ldcJ (by decide +kernel) (tw 10 rfl) ?_
          refine G.seg [(766, .goto 6, 3), (772, .lstore 23, 2)] (by decide +kernel) (pc' := 774) (L' := #[.val (.long vr), .second, .val (.long cr), .second, .val (.int sh), .val (.int rp), .val (.long (Int64.ofNat V)), .second, .val (.long (Int64.ofNat C)), .second, .val (.int (Int32.ofNat 1)), .val (.int (Int32.ofNat S1)), .val (.int (Int32.ofNat S2)), .val (.int (Int32.ofNat mo)), .val (.int c), .val (.int (Int32.ofNat N)), .val (.int (Int32.ofNat O)), .val (.int (Int32.ofNat (O + N + 1))), .val (.ref a6), .val (.long (capF (Int64.ofNat C) cs)), .second, .unset, .unset, .val (.long (10 : Int64)), .second, .unset, .unset, .unset]) (S' := []) rfl ?_
          refine G.seg [(774, .iload 10, 2)] (by decide +kernel) (pc' := 776) (L' := #[.val (.long vr), .second, .val (.long cr), .second, .val (.int sh), .val (.int rp), .val (.long (Int64.ofNat V)), .second, .val (.long (Int64.ofNat C)), .second, .val (.int (Int32.ofNat 1)), .val (.int (Int32.ofNat S1)), .val (.int (Int32.ofNat S2)), .val (.int (Int32.ofNat mo)), .val (.int c), .val (.int (Int32.ofNat N)), .val (.int (Int32.ofNat O)), .val (.int (Int32.ofNat (O + N + 1))), .val (.ref a6), .val (.long (capF (Int64.ofNat C) cs)), .second, .unset, .unset, .val (.long (10 : Int64)), .second, .unset, .unset, .unset]) (S' := [.int (Int32.ofNat 1)]) rfl ?_
          refine G.ifne (o := (7)) (pc' := 783) (by decide +kernel) (by decide) rfl ?_ (fun q90 => absurd q90 (by decide))
          intro _
          refine G.seg [(783, .iload 10, 2), (785, .iconst 1, 1)] (by decide +kernel) (pc' := 786) (L' := #[.val (.long vr), .second, .val (.long cr), .second, .val (.int sh), .val (.int rp), .val (.long (Int64.ofNat V)), .second, .val (.long (Int64.ofNat C)), .second, .val (.int (Int32.ofNat 1)), .val (.int (Int32.ofNat S1)), .val (.int (Int32.ofNat S2)), .val (.int (Int32.ofNat mo)), .val (.int c), .val (.int (Int32.ofNat N)), .val (.int (Int32.ofNat O)), .val (.int (Int32.ofNat (O + N + 1))), .val (.ref a6), .val (.long (capF (Int64.ofNat C) cs)), .second, .unset, .unset, .val (.long (10 : Int64)), .second, .unset, .unset, .unset]) (S' := [.int (1 : Int32), .int (Int32.ofNat 1)]) rfl ?_
          refine G.icne (o := (9)) (pc' := 795) (by decide +kernel) (by decide) rfl (fun q91 => absurd rfl q91) ?_
          intro _
          refine G.seg [(789, .iload 11, 2), (791, .i2l, 1), (792, .goto 14, 3)] (by decide +kernel) (pc' := 806) (L' := #[.val (.long vr), .second, .val (.long cr), .second, .val (.int sh), .val (.int rp), .val (.long (Int64.ofNat V)), .second, .val (.long (Int64.ofNat C)), .second, .val (.int (Int32.ofNat 1)), .val (.int (Int32.ofNat S1)), .val (.int (Int32.ofNat S2)), .val (.int (Int32.ofNat mo)), .val (.int c), .val (.int (Int32.ofNat N)), .val (.int (Int32.ofNat O)), .val (.int (Int32.ofNat (O + N + 1))), .val (.ref a6), .val (.long (capF (Int64.ofNat C) cs)), .second, .unset, .unset, .val (.long (10 : Int64)), .second, .unset, .unset, .unset]) (S' := [.long ((Int32.ofNat S1).toInt64)]) rfl ?_
          rw [sd1 hS1]
          refine G.seg [(806, .lstore 25, 2)] (by decide +kernel) (pc' := 808) (L' := #[.val (.long vr), .second, .val (.long cr), .second, .val (.int sh), .val (.int rp), .val (.long (Int64.ofNat V)), .second, .val (.long (Int64.ofNat C)), .second, .val (.int (Int32.ofNat 1)), .val (.int (Int32.ofNat S1)), .val (.int (Int32.ofNat S2)), .val (.int (Int32.ofNat mo)), .val (.int c), .val (.int (Int32.ofNat N)), .val (.int (Int32.ofNat O)), .val (.int (Int32.ofNat (O + N + 1))), .val (.ref a6), .val (.long (capF (Int64.ofNat C) cs)), .second, .unset, .unset, .val (.long (10 : Int64)), .second, .val (.long (Int64.ofNat S1)), .second, .unset]) (S' := []) rfl ?_
          refine G.seg [(808, .lload 8, 2), (810, .lload 25, 2), (812, .lcmp, 1)] (by decide +kernel) (pc' := 813) (L' := #[.val (.long vr), .second, .val (.long cr), .second, .val (.int sh), .val (.int rp), .val (.long (Int64.ofNat V)), .second, .val (.long (Int64.ofNat C)), .second, .val (.int (Int32.ofNat 1)), .val (.int (Int32.ofNat S1)), .val (.int (Int32.ofNat S2)), .val (.int (Int32.ofNat mo)), .val (.int c), .val (.int (Int32.ofNat N)), .val (.int (Int32.ofNat O)), .val (.int (Int32.ofNat (O + N + 1))), .val (.ref a6), .val (.long (capF (Int64.ofNat C) cs)), .second, .unset, .unset, .val (.long (10 : Int64)), .second, .val (.long (Int64.ofNat S1)), .second, .unset]) (S' := [.int (XT.cmpL (Int64.ofNat C) (Int64.ofNat S1))]) rfl ?_
          refine G.iflt (o := (17)) (pc' := 830) (by decide +kernel) (by decide) rfl ?_ ?_
          · intro q92
            have ab : C < V * 10 ^ 1 + sdN 1 S1 S2 := by have := (c64n (b := S1) hC (by omega)).mp q92; show C < V * 10 + S1; omega
            refine G.seg [(830, .iconst 1, 1), (831, .goto 4, 3), (835, .istore 27, 2)] (by decide +kernel) (pc' := 837) (L' := #[.val (.long vr), .second, .val (.long cr), .second, .val (.int sh), .val (.int rp), .val (.long (Int64.ofNat V)), .second, .val (.long (Int64.ofNat C)), .second, .val (.int (Int32.ofNat 1)), .val (.int (Int32.ofNat S1)), .val (.int (Int32.ofNat S2)), .val (.int (Int32.ofNat mo)), .val (.int c), .val (.int (Int32.ofNat N)), .val (.int (Int32.ofNat O)), .val (.int (Int32.ofNat (O + N + 1))), .val (.ref a6), .val (.long (capF (Int64.ofNat C) cs)), .second, .unset, .unset, .val (.long (10 : Int64)), .second, .val (.long (Int64.ofNat S1)), .second, .val (.int (1 : Int32))]) (S' := []) rfl ?_
            refine G.seg [(837, .iload 27, 2)] (by decide +kernel) (pc' := 839) (L' := #[.val (.long vr), .second, .val (.long cr), .second, .val (.int sh), .val (.int rp), .val (.long (Int64.ofNat V)), .second, .val (.long (Int64.ofNat C)), .second, .val (.int (Int32.ofNat 1)), .val (.int (Int32.ofNat S1)), .val (.int (Int32.ofNat S2)), .val (.int (Int32.ofNat mo)), .val (.int c), .val (.int (Int32.ofNat N)), .val (.int (Int32.ofNat O)), .val (.int (Int32.ofNat (O + N + 1))), .val (.ref a6), .val (.long (capF (Int64.ofNat C) cs)), .second, .unset, .unset, .val (.long (10 : Int64)), .second, .val (.long (Int64.ofNat S1)), .second, .val (.int (1 : Int32))]) (S' := [.int (1 : Int32)]) rfl ?_
            refine G.ifeq (o := (8)) (pc' := 847) (by decide +kernel) (by decide) rfl (fun q93 => absurd q93 (by decide)) ?_
            intro _
            refine G.seg [(842, .lload 8, 2), (844, .goto 11, 3), (855, .lstore 21, 2)] (by decide +kernel) (pc' := 857) (L' := #[.val (.long vr), .second, .val (.long cr), .second, .val (.int sh), .val (.int rp), .val (.long (Int64.ofNat V)), .second, .val (.long (Int64.ofNat C)), .second, .val (.int (Int32.ofNat 1)), .val (.int (Int32.ofNat S1)), .val (.int (Int32.ofNat S2)), .val (.int (Int32.ofNat mo)), .val (.int c), .val (.int (Int32.ofNat N)), .val (.int (Int32.ofNat O)), .val (.int (Int32.ofNat (O + N + 1))), .val (.ref a6), .val (.long (capF (Int64.ofNat C) cs)), .second, .val (.long (Int64.ofNat C)), .second, .val (.long (10 : Int64)), .second, .val (.long (Int64.ofNat S1)), .second, .val (.int (1 : Int32))]) (S' := []) rfl ?_
            refine G.seg [(857, .lload 19, 2), (859, .lload 21, 2), (861, .lcmp, 1)] (by decide +kernel) (pc' := 862) (L' := #[.val (.long vr), .second, .val (.long cr), .second, .val (.int sh), .val (.int rp), .val (.long (Int64.ofNat V)), .second, .val (.long (Int64.ofNat C)), .second, .val (.int (Int32.ofNat 1)), .val (.int (Int32.ofNat S1)), .val (.int (Int32.ofNat S2)), .val (.int (Int32.ofNat mo)), .val (.int c), .val (.int (Int32.ofNat N)), .val (.int (Int32.ofNat O)), .val (.int (Int32.ofNat (O + N + 1))), .val (.ref a6), .val (.long (capF (Int64.ofNat C) cs)), .second, .val (.long (Int64.ofNat C)), .second, .val (.long (10 : Int64)), .second, .val (.long (Int64.ofNat S1)), .second, .val (.int (1 : Int32))]) (S' := [.int (XT.cmpL (capF (Int64.ofNat C) cs) (Int64.ofNat C))]) rfl ?_
            refine G.ifne (o := (7)) (pc' := 869) (by decide +kernel) (by decide) rfl (fun q94 => absurd (cmp_zero.mpr (key.trans (congrArg Int64.ofNat (if_pos ab)))) q94) ?_
            intro _
            refine G.seg [(865, .iconst 1, 1), (866, .goto 4, 3)] (by decide +kernel) (pc' := 870) (L' := #[.val (.long vr), .second, .val (.long cr), .second, .val (.int sh), .val (.int rp), .val (.long (Int64.ofNat V)), .second, .val (.long (Int64.ofNat C)), .second, .val (.int (Int32.ofNat 1)), .val (.int (Int32.ofNat S1)), .val (.int (Int32.ofNat S2)), .val (.int (Int32.ofNat mo)), .val (.int c), .val (.int (Int32.ofNat N)), .val (.int (Int32.ofNat O)), .val (.int (Int32.ofNat (O + N + 1))), .val (.ref a6), .val (.long (capF (Int64.ofNat C) cs)), .second, .val (.long (Int64.ofNat C)), .second, .val (.long (10 : Int64)), .second, .val (.long (Int64.ofNat S1)), .second, .val (.int (1 : Int32))]) (S' := [.int (1 : Int32)]) rfl ?_
            exact G.retN (by decide +kernel) rfl (Or.inl rfl) rfl rfl (lb rfl) (lb rfl)
          · intro q92
            refine G.seg [(816, .lload 6, 2), (818, .lload 8, 2), (820, .lload 25, 2), (822, .lsub, 1), (823, .lload 23, 2), (825, .ldiv, 1), (826, .lcmp, 1)] (by decide +kernel) (pc' := 827) (L' := #[.val (.long vr), .second, .val (.long cr), .second, .val (.int sh), .val (.int rp), .val (.long (Int64.ofNat V)), .second, .val (.long (Int64.ofNat C)), .second, .val (.int (Int32.ofNat 1)), .val (.int (Int32.ofNat S1)), .val (.int (Int32.ofNat S2)), .val (.int (Int32.ofNat mo)), .val (.int c), .val (.int (Int32.ofNat N)), .val (.int (Int32.ofNat O)), .val (.int (Int32.ofNat (O + N + 1))), .val (.ref a6), .val (.long (capF (Int64.ofNat C) cs)), .second, .unset, .unset, .val (.long (10 : Int64)), .second, .val (.long (Int64.ofNat S1)), .second, .unset]) (S' := [.int (XT.cmpL (Int64.ofNat V) (((Int64.ofNat C) - (Int64.ofNat S1)) / (10 : Int64)))]) rfl ?_
            refine G.ifle (o := (7)) (pc' := 834) (by decide +kernel) (by decide) rfl ?_ ?_
            · intro q95
              have nb : ¬ C < V * 10 ^ 1 + sdN 1 S1 S2 := fun z => q95 ((above_ok (p := 10) (sd := S1) hC hV (by omega) (Or.inr (Or.inl rfl)) q92).mpr z)
              refine G.seg [(834, .iconst 0, 1), (835, .istore 27, 2)] (by decide +kernel) (pc' := 837) (L' := #[.val (.long vr), .second, .val (.long cr), .second, .val (.int sh), .val (.int rp), .val (.long (Int64.ofNat V)), .second, .val (.long (Int64.ofNat C)), .second, .val (.int (Int32.ofNat 1)), .val (.int (Int32.ofNat S1)), .val (.int (Int32.ofNat S2)), .val (.int (Int32.ofNat mo)), .val (.int c), .val (.int (Int32.ofNat N)), .val (.int (Int32.ofNat O)), .val (.int (Int32.ofNat (O + N + 1))), .val (.ref a6), .val (.long (capF (Int64.ofNat C) cs)), .second, .unset, .unset, .val (.long (10 : Int64)), .second, .val (.long (Int64.ofNat S1)), .second, .val (.int (0 : Int32))]) (S' := []) rfl ?_
              refine G.seg [(837, .iload 27, 2)] (by decide +kernel) (pc' := 839) (L' := #[.val (.long vr), .second, .val (.long cr), .second, .val (.int sh), .val (.int rp), .val (.long (Int64.ofNat V)), .second, .val (.long (Int64.ofNat C)), .second, .val (.int (Int32.ofNat 1)), .val (.int (Int32.ofNat S1)), .val (.int (Int32.ofNat S2)), .val (.int (Int32.ofNat mo)), .val (.int c), .val (.int (Int32.ofNat N)), .val (.int (Int32.ofNat O)), .val (.int (Int32.ofNat (O + N + 1))), .val (.ref a6), .val (.long (capF (Int64.ofNat C) cs)), .second, .unset, .unset, .val (.long (10 : Int64)), .second, .val (.long (Int64.ofNat S1)), .second, .val (.int (0 : Int32))]) (S' := [.int (0 : Int32)]) rfl ?_
              refine G.ifeq (o := (8)) (pc' := 847) (by decide +kernel) (by decide) rfl ?_ (fun q96 => absurd rfl q96)
              intro _
              refine G.seg [(847, .lload 6, 2), (849, .lload 23, 2), (851, .lmul, 1), (852, .lload 25, 2), (854, .ladd, 1), (855, .lstore 21, 2)] (by decide +kernel) (pc' := 857) (L' := #[.val (.long vr), .second, .val (.long cr), .second, .val (.int sh), .val (.int rp), .val (.long (Int64.ofNat V)), .second, .val (.long (Int64.ofNat C)), .second, .val (.int (Int32.ofNat 1)), .val (.int (Int32.ofNat S1)), .val (.int (Int32.ofNat S2)), .val (.int (Int32.ofNat mo)), .val (.int c), .val (.int (Int32.ofNat N)), .val (.int (Int32.ofNat O)), .val (.int (Int32.ofNat (O + N + 1))), .val (.ref a6), .val (.long (capF (Int64.ofNat C) cs)), .second, .val (.long (((Int64.ofNat V) * (10 : Int64)) + (Int64.ofNat S1))), .second, .val (.long (10 : Int64)), .second, .val (.long (Int64.ofNat S1)), .second, .val (.int (0 : Int32))]) (S' := []) rfl ?_
              refine G.seg [(857, .lload 19, 2), (859, .lload 21, 2), (861, .lcmp, 1)] (by decide +kernel) (pc' := 862) (L' := #[.val (.long vr), .second, .val (.long cr), .second, .val (.int sh), .val (.int rp), .val (.long (Int64.ofNat V)), .second, .val (.long (Int64.ofNat C)), .second, .val (.int (Int32.ofNat 1)), .val (.int (Int32.ofNat S1)), .val (.int (Int32.ofNat S2)), .val (.int (Int32.ofNat mo)), .val (.int c), .val (.int (Int32.ofNat N)), .val (.int (Int32.ofNat O)), .val (.int (Int32.ofNat (O + N + 1))), .val (.ref a6), .val (.long (capF (Int64.ofNat C) cs)), .second, .val (.long (((Int64.ofNat V) * (10 : Int64)) + (Int64.ofNat S1))), .second, .val (.long (10 : Int64)), .second, .val (.long (Int64.ofNat S1)), .second, .val (.int (0 : Int32))]) (S' := [.int (XT.cmpL (capF (Int64.ofNat C) cs) (((Int64.ofNat V) * (10 : Int64)) + (Int64.ofNat S1)))]) rfl ?_
              refine G.ifne (o := (7)) (pc' := 869) (by decide +kernel) (by decide) rfl (fun q97 => absurd (cmp_zero.mpr (key.trans ((congrArg Int64.ofNat (if_neg nb)).trans (by rw [Int64.ofNat_add, Int64.ofNat_mul]; rfl)))) q97) ?_
              intro _
              refine G.seg [(865, .iconst 1, 1), (866, .goto 4, 3)] (by decide +kernel) (pc' := 870) (L' := #[.val (.long vr), .second, .val (.long cr), .second, .val (.int sh), .val (.int rp), .val (.long (Int64.ofNat V)), .second, .val (.long (Int64.ofNat C)), .second, .val (.int (Int32.ofNat 1)), .val (.int (Int32.ofNat S1)), .val (.int (Int32.ofNat S2)), .val (.int (Int32.ofNat mo)), .val (.int c), .val (.int (Int32.ofNat N)), .val (.int (Int32.ofNat O)), .val (.int (Int32.ofNat (O + N + 1))), .val (.ref a6), .val (.long (capF (Int64.ofNat C) cs)), .second, .val (.long (((Int64.ofNat V) * (10 : Int64)) + (Int64.ofNat S1))), .second, .val (.long (10 : Int64)), .second, .val (.long (Int64.ofNat S1)), .second, .val (.int (0 : Int32))]) (S' := [.int (1 : Int32)]) rfl ?_
              exact G.retN (by decide +kernel) rfl (Or.inl rfl) rfl rfl (lb rfl) (lb rfl)
            · intro q95
              have ab : C < V * 10 ^ 1 + sdN 1 S1 S2 := (above_ok (p := 10) (sd := S1) hC hV (by omega) (Or.inr (Or.inl rfl)) q92).mp q95
              refine G.seg [(830, .iconst 1, 1), (831, .goto 4, 3), (835, .istore 27, 2)] (by decide +kernel) (pc' := 837) (L' := #[.val (.long vr), .second, .val (.long cr), .second, .val (.int sh), .val (.int rp), .val (.long (Int64.ofNat V)), .second, .val (.long (Int64.ofNat C)), .second, .val (.int (Int32.ofNat 1)), .val (.int (Int32.ofNat S1)), .val (.int (Int32.ofNat S2)), .val (.int (Int32.ofNat mo)), .val (.int c), .val (.int (Int32.ofNat N)), .val (.int (Int32.ofNat O)), .val (.int (Int32.ofNat (O + N + 1))), .val (.ref a6), .val (.long (capF (Int64.ofNat C) cs)), .second, .unset, .unset, .val (.long (10 : Int64)), .second, .val (.long (Int64.ofNat S1)), .second, .val (.int (1 : Int32))]) (S' := []) rfl ?_
              refine G.seg [(837, .iload 27, 2)] (by decide +kernel) (pc' := 839) (L' := #[.val (.long vr), .second, .val (.long cr), .second, .val (.int sh), .val (.int rp), .val (.long (Int64.ofNat V)), .second, .val (.long (Int64.ofNat C)), .second, .val (.int (Int32.ofNat 1)), .val (.int (Int32.ofNat S1)), .val (.int (Int32.ofNat S2)), .val (.int (Int32.ofNat mo)), .val (.int c), .val (.int (Int32.ofNat N)), .val (.int (Int32.ofNat O)), .val (.int (Int32.ofNat (O + N + 1))), .val (.ref a6), .val (.long (capF (Int64.ofNat C) cs)), .second, .unset, .unset, .val (.long (10 : Int64)), .second, .val (.long (Int64.ofNat S1)), .second, .val (.int (1 : Int32))]) (S' := [.int (1 : Int32)]) rfl ?_
              refine G.ifeq (o := (8)) (pc' := 847) (by decide +kernel) (by decide) rfl (fun q98 => absurd q98 (by decide)) ?_
              intro _
              refine G.seg [(842, .lload 8, 2), (844, .goto 11, 3), (855, .lstore 21, 2)] (by decide +kernel) (pc' := 857) (L' := #[.val (.long vr), .second, .val (.long cr), .second, .val (.int sh), .val (.int rp), .val (.long (Int64.ofNat V)), .second, .val (.long (Int64.ofNat C)), .second, .val (.int (Int32.ofNat 1)), .val (.int (Int32.ofNat S1)), .val (.int (Int32.ofNat S2)), .val (.int (Int32.ofNat mo)), .val (.int c), .val (.int (Int32.ofNat N)), .val (.int (Int32.ofNat O)), .val (.int (Int32.ofNat (O + N + 1))), .val (.ref a6), .val (.long (capF (Int64.ofNat C) cs)), .second, .val (.long (Int64.ofNat C)), .second, .val (.long (10 : Int64)), .second, .val (.long (Int64.ofNat S1)), .second, .val (.int (1 : Int32))]) (S' := []) rfl ?_
              refine G.seg [(857, .lload 19, 2), (859, .lload 21, 2), (861, .lcmp, 1)] (by decide +kernel) (pc' := 862) (L' := #[.val (.long vr), .second, .val (.long cr), .second, .val (.int sh), .val (.int rp), .val (.long (Int64.ofNat V)), .second, .val (.long (Int64.ofNat C)), .second, .val (.int (Int32.ofNat 1)), .val (.int (Int32.ofNat S1)), .val (.int (Int32.ofNat S2)), .val (.int (Int32.ofNat mo)), .val (.int c), .val (.int (Int32.ofNat N)), .val (.int (Int32.ofNat O)), .val (.int (Int32.ofNat (O + N + 1))), .val (.ref a6), .val (.long (capF (Int64.ofNat C) cs)), .second, .val (.long (Int64.ofNat C)), .second, .val (.long (10 : Int64)), .second, .val (.long (Int64.ofNat S1)), .second, .val (.int (1 : Int32))]) (S' := [.int (XT.cmpL (capF (Int64.ofNat C) cs) (Int64.ofNat C))]) rfl ?_
              refine G.ifne (o := (7)) (pc' := 869) (by decide +kernel) (by decide) rfl (fun q99 => absurd (cmp_zero.mpr (key.trans (congrArg Int64.ofNat (if_pos ab)))) q99) ?_
              intro _
              refine G.seg [(865, .iconst 1, 1), (866, .goto 4, 3)] (by decide +kernel) (pc' := 870) (L' := #[.val (.long vr), .second, .val (.long cr), .second, .val (.int sh), .val (.int rp), .val (.long (Int64.ofNat V)), .second, .val (.long (Int64.ofNat C)), .second, .val (.int (Int32.ofNat 1)), .val (.int (Int32.ofNat S1)), .val (.int (Int32.ofNat S2)), .val (.int (Int32.ofNat mo)), .val (.int c), .val (.int (Int32.ofNat N)), .val (.int (Int32.ofNat O)), .val (.int (Int32.ofNat (O + N + 1))), .val (.ref a6), .val (.long (capF (Int64.ofNat C) cs)), .second, .val (.long (Int64.ofNat C)), .second, .val (.long (10 : Int64)), .second, .val (.long (Int64.ofNat S1)), .second, .val (.int (1 : Int32))]) (S' := [.int (1 : Int32)]) rfl ?_
              exact G.retN (by decide +kernel) rfl (Or.inl rfl) rfl rfl (lb rfl) (lb rfl)
        · refine G.seg [(748, .iload 10, 2)] (by decide +kernel) (pc' := 750) (L' := #[.val (.long vr), .second, .val (.long cr), .second, .val (.int sh), .val (.int rp), .val (.long (Int64.ofNat V)), .second, .val (.long (Int64.ofNat C)), .second, .val (.int (Int32.ofNat 2)), .val (.int (Int32.ofNat S1)), .val (.int (Int32.ofNat S2)), .val (.int (Int32.ofNat mo)), .val (.int c), .val (.int (Int32.ofNat N)), .val (.int (Int32.ofNat O)), .val (.int (Int32.ofNat (O + N + 2))), .val (.ref a6), .val (.long (capF (Int64.ofNat C) cs)), .second, .unset, .unset, .unset, .unset, .unset, .unset, .unset]) (S' := [.int (Int32.ofNat 2)]) rfl ?_
          refine G.ifne (o := (7)) (pc' := 757) (by decide +kernel) (by decide) rfl ?_ (fun q100 => absurd q100 (by decide))
          intro _
          refine G.seg [(757, .iload 10, 2), (759, .iconst 1, 1)] (by decide +kernel) (pc' := 760) (L' := #[.val (.long vr), .second, .val (.long cr), .second, .val (.int sh), .val (.int rp), .val (.long (Int64.ofNat V)), .second, .val (.long (Int64.ofNat C)), .second, .val (.int (Int32.ofNat 2)), .val (.int (Int32.ofNat S1)), .val (.int (Int32.ofNat S2)), .val (.int (Int32.ofNat mo)), .val (.int c), .val (.int (Int32.ofNat N)), .val (.int (Int32.ofNat O)), .val (.int (Int32.ofNat (O + N + 2))), .val (.ref a6), .val (.long (capF (Int64.ofNat C) cs)), .second, .unset, .unset, .unset, .unset, .unset, .unset, .unset]) (S' := [.int (1 : Int32), .int (Int32.ofNat 2)]) rfl ?_
          refine G.icne (o := (9)) (pc' := 769) (by decide +kernel) (by decide) rfl ?_ (fun q101 => absurd q101 (by decide))
          intro _
          refine G.ldcJ (by decide +kernel) (tw 11 rfl) ?_
          refine G.seg [(772, .lstore 23, 2)] (by decide +kernel) (pc' := 774) (L' := #[.val (.long vr), .second, .val (.long cr), .second, .val (.int sh), .val (.int rp), .val (.long (Int64.ofNat V)), .second, .val (.long (Int64.ofNat C)), .second, .val (.int (Int32.ofNat 2)), .val (.int (Int32.ofNat S1)), .val (.int (Int32.ofNat S2)), .val (.int (Int32.ofNat mo)), .val (.int c), .val (.int (Int32.ofNat N)), .val (.int (Int32.ofNat O)), .val (.int (Int32.ofNat (O + N + 2))), .val (.ref a6), .val (.long (capF (Int64.ofNat C) cs)), .second, .unset, .unset, .val (.long (100 : Int64)), .second, .unset, .unset, .unset]) (S' := []) rfl ?_
          refine G.seg [(774, .iload 10, 2)] (by decide +kernel) (pc' := 776) (L' := #[.val (.long vr), .second, .val (.long cr), .second, .val (.int sh), .val (.int rp), .val (.long (Int64.ofNat V)), .second, .val (.long (Int64.ofNat C)), .second, .val (.int (Int32.ofNat 2)), .val (.int (Int32.ofNat S1)), .val (.int (Int32.ofNat S2)), .val (.int (Int32.ofNat mo)), .val (.int c), .val (.int (Int32.ofNat N)), .val (.int (Int32.ofNat O)), .val (.int (Int32.ofNat (O + N + 2))), .val (.ref a6), .val (.long (capF (Int64.ofNat C) cs)), .second, .unset, .unset, .val (.long (100 : Int64)), .second, .unset, .unset, .unset]) (S' := [.int (Int32.ofNat 2)]) rfl ?_
          refine G.ifne (o := (7)) (pc' := 783) (by decide +kernel) (by decide) rfl ?_ (fun q102 => absurd q102 (by decide))
          intro _
          refine G.seg [(783, .iload 10, 2), (785, .iconst 1, 1)] (by decide +kernel) (pc' := 786) (L' := #[.val (.long vr), .second, .val (.long cr), .second, .val (.int sh), .val (.int rp), .val (.long (Int64.ofNat V)), .second, .val (.long (Int64.ofNat C)), .second, .val (.int (Int32.ofNat 2)), .val (.int (Int32.ofNat S1)), .val (.int (Int32.ofNat S2)), .val (.int (Int32.ofNat mo)), .val (.int c), .val (.int (Int32.ofNat N)), .val (.int (Int32.ofNat O)), .val (.int (Int32.ofNat (O + N + 2))), .val (.ref a6), .val (.long (capF (Int64.ofNat C) cs)), .second, .unset, .unset, .val (.long (100 : Int64)), .second, .unset, .unset, .unset]) (S' := [.int (1 : Int32), .int (Int32.ofNat 2)]) rfl ?_
          refine G.icne (o := (9)) (pc' := 795) (by decide +kernel) (by decide) rfl ?_ (fun q103 => absurd q103 (by decide))
          intro _
          refine G.seg [(795, .iload 11, 2), (797, .i2l, 1)] (by decide +kernel) (pc' := 798) (L' := #[.val (.long vr), .second, .val (.long cr), .second, .val (.int sh), .val (.int rp), .val (.long (Int64.ofNat V)), .second, .val (.long (Int64.ofNat C)), .second, .val (.int (Int32.ofNat 2)), .val (.int (Int32.ofNat S1)), .val (.int (Int32.ofNat S2)), .val (.int (Int32.ofNat mo)), .val (.int c), .val (.int (Int32.ofNat N)), .val (.int (Int32.ofNat O)), .val (.int (Int32.ofNat (O + N + 2))), .val (.ref a6), .val (.long (capF (Int64.ofNat C) cs)), .second, .unset, .unset, .val (.long (100 : Int64)), .second, .unset, .unset, .unset]) (S' := [.long ((Int32.ofNat S1).toInt64)]) rfl ?_
          refine G.ldcJ (by decide +kernel) (tw 10 rfl) ?_
          refine G.seg [(801, .lmul, 1), (802, .iload 12, 2), (804, .i2l, 1), (805, .ladd, 1)] (by decide +kernel) (pc' := 806) (L' := #[.val (.long vr), .second, .val (.long cr), .second, .val (.int sh), .val (.int rp), .val (.long (Int64.ofNat V)), .second, .val (.long (Int64.ofNat C)), .second, .val (.int (Int32.ofNat 2)), .val (.int (Int32.ofNat S1)), .val (.int (Int32.ofNat S2)), .val (.int (Int32.ofNat mo)), .val (.int c), .val (.int (Int32.ofNat N)), .val (.int (Int32.ofNat O)), .val (.int (Int32.ofNat (O + N + 2))), .val (.ref a6), .val (.long (capF (Int64.ofNat C) cs)), .second, .unset, .unset, .val (.long (100 : Int64)), .second, .unset, .unset, .unset]) (S' := [.long ((((Int32.ofNat S1).toInt64) * (10 : Int64)) + ((Int32.ofNat S2).toInt64))]) rfl ?_
          rw [sd2 hS1 hS2]
          refine G.seg [(806, .lstore 25, 2)] (by decide +kernel) (pc' := 808) (L' := #[.val (.long vr), .second, .val (.long cr), .second, .val (.int sh), .val (.int rp), .val (.long (Int64.ofNat V)), .second, .val (.long (Int64.ofNat C)), .second, .val (.int (Int32.ofNat 2)), .val (.int (Int32.ofNat S1)), .val (.int (Int32.ofNat S2)), .val (.int (Int32.ofNat mo)), .val (.int c), .val (.int (Int32.ofNat N)), .val (.int (Int32.ofNat O)), .val (.int (Int32.ofNat (O + N + 2))), .val (.ref a6), .val (.long (capF (Int64.ofNat C) cs)), .second, .unset, .unset, .val (.long (100 : Int64)), .second, .val (.long (Int64.ofNat (S1 * 10 + S2))), .second, .unset]) (S' := []) rfl ?_
          refine G.seg [(808, .lload 8, 2), (810, .lload 25, 2), (812, .lcmp, 1)] (by decide +kernel) (pc' := 813) (L' := #[.val (.long vr), .second, .val (.long cr), .second, .val (.int sh), .val (.int rp), .val (.long (Int64.ofNat V)), .second, .val (.long (Int64.ofNat C)), .second, .val (.int (Int32.ofNat 2)), .val (.int (Int32.ofNat S1)), .val (.int (Int32.ofNat S2)), .val (.int (Int32.ofNat mo)), .val (.int c), .val (.int (Int32.ofNat N)), .val (.int (Int32.ofNat O)), .val (.int (Int32.ofNat (O + N + 2))), .val (.ref a6), .val (.long (capF (Int64.ofNat C) cs)), .second, .unset, .unset, .val (.long (100 : Int64)), .second, .val (.long (Int64.ofNat (S1 * 10 + S2))), .second, .unset]) (S' := [.int (XT.cmpL (Int64.ofNat C) (Int64.ofNat (S1 * 10 + S2)))]) rfl ?_
          refine G.iflt (o := (17)) (pc' := 830) (by decide +kernel) (by decide) rfl ?_ ?_
          · intro q104
            have ab : C < V * 10 ^ 2 + sdN 2 S1 S2 := by have := (c64n (b := (S1 * 10 + S2)) hC (by omega)).mp q104; show C < V * 100 + (S1 * 10 + S2); omega
            refine G.seg [(830, .iconst 1, 1), (831, .goto 4, 3), (835, .istore 27, 2)] (by decide +kernel) (pc' := 837) (L' := #[.val (.long vr), .second, .val (.long cr), .second, .val (.int sh), .val (.int rp), .val (.long (Int64.ofNat V)), .second, .val (.long (Int64.ofNat C)), .second, .val (.int (Int32.ofNat 2)), .val (.int (Int32.ofNat S1)), .val (.int (Int32.ofNat S2)), .val (.int (Int32.ofNat mo)), .val (.int c), .val (.int (Int32.ofNat N)), .val (.int (Int32.ofNat O)), .val (.int (Int32.ofNat (O + N + 2))), .val (.ref a6), .val (.long (capF (Int64.ofNat C) cs)), .second, .unset, .unset, .val (.long (100 : Int64)), .second, .val (.long (Int64.ofNat (S1 * 10 + S2))), .second, .val (.int (1 : Int32))]) (S' := []) rfl ?_
            refine G.seg [(837, .iload 27, 2)] (by decide +kernel) (pc' := 839) (L' := #[.val (.long vr), .second, .val (.long cr), .second, .val (.int sh), .val (.int rp), .val (.long (Int64.ofNat V)), .second, .val (.long (Int64.ofNat C)), .second, .val (.int (Int32.ofNat 2)), .val (.int (Int32.ofNat S1)), .val (.int (Int32.ofNat S2)), .val (.int (Int32.ofNat mo)), .val (.int c), .val (.int (Int32.ofNat N)), .val (.int (Int32.ofNat O)), .val (.int (Int32.ofNat (O + N + 2))), .val (.ref a6), .val (.long (capF (Int64.ofNat C) cs)), .second, .unset, .unset, .val (.long (100 : Int64)), .second, .val (.long (Int64.ofNat (S1 * 10 + S2))), .second, .val (.int (1 : Int32))]) (S' := [.int (1 : Int32)]) rfl ?_
            refine G.ifeq (o := (8)) (pc' := 847) (by decide +kernel) (by decide) rfl (fun q105 => absurd q105 (by decide)) ?_
            intro _
            refine G.seg [(842, .lload 8, 2), (844, .goto 11, 3), (855, .lstore 21, 2)] (by decide +kernel) (pc' := 857) (L' := #[.val (.long vr), .second, .val (.long cr), .second, .val (.int sh), .val (.int rp), .val (.long (Int64.ofNat V)), .second, .val (.long (Int64.ofNat C)), .second, .val (.int (Int32.ofNat 2)), .val (.int (Int32.ofNat S1)), .val (.int (Int32.ofNat S2)), .val (.int (Int32.ofNat mo)), .val (.int c), .val (.int (Int32.ofNat N)), .val (.int (Int32.ofNat O)), .val (.int (Int32.ofNat (O + N + 2))), .val (.ref a6), .val (.long (capF (Int64.ofNat C) cs)), .second, .val (.long (Int64.ofNat C)), .second, .val (.long (100 : Int64)), .second, .val (.long (Int64.ofNat (S1 * 10 + S2))), .second, .val (.int (1 : Int32))]) (S' := []) rfl ?_
            refine G.seg [(857, .lload 19, 2), (859, .lload 21, 2), (861, .lcmp, 1)] (by decide +kernel) (pc' := 862) (L' := #[.val (.long vr), .second, .val (.long cr), .second, .val (.int sh), .val (.int rp), .val (.long (Int64.ofNat V)), .second, .val (.long (Int64.ofNat C)), .second, .val (.int (Int32.ofNat 2)), .val (.int (Int32.ofNat S1)), .val (.int (Int32.ofNat S2)), .val (.int (Int32.ofNat mo)), .val (.int c), .val (.int (Int32.ofNat N)), .val (.int (Int32.ofNat O)), .val (.int (Int32.ofNat (O + N + 2))), .val (.ref a6), .val (.long (capF (Int64.ofNat C) cs)), .second, .val (.long (Int64.ofNat C)), .second, .val (.long (100 : Int64)), .second, .val (.long (Int64.ofNat (S1 * 10 + S2))), .second, .val (.int (1 : Int32))]) (S' := [.int (XT.cmpL (capF (Int64.ofNat C) cs) (Int64.ofNat C))]) rfl ?_
            refine G.ifne (o := (7)) (pc' := 869) (by decide +kernel) (by decide) rfl (fun q106 => absurd (cmp_zero.mpr (key.trans (congrArg Int64.ofNat (if_pos ab)))) q106) ?_
            intro _
            refine G.seg [(865, .iconst 1, 1), (866, .goto 4, 3)] (by decide +kernel) (pc' := 870) (L' := #[.val (.long vr), .second, .val (.long cr), .second, .val (.int sh), .val (.int rp), .val (.long (Int64.ofNat V)), .second, .val (.long (Int64.ofNat C)), .second, .val (.int (Int32.ofNat 2)), .val (.int (Int32.ofNat S1)), .val (.int (Int32.ofNat S2)), .val (.int (Int32.ofNat mo)), .val (.int c), .val (.int (Int32.ofNat N)), .val (.int (Int32.ofNat O)), .val (.int (Int32.ofNat (O + N + 2))), .val (.ref a6), .val (.long (capF (Int64.ofNat C) cs)), .second, .val (.long (Int64.ofNat C)), .second, .val (.long (100 : Int64)), .second, .val (.long (Int64.ofNat (S1 * 10 + S2))), .second, .val (.int (1 : Int32))]) (S' := [.int (1 : Int32)]) rfl ?_
            exact G.retN (by decide +kernel) rfl (Or.inl rfl) rfl rfl (lb rfl) (lb rfl)
          · intro q104
            refine G.seg [(816, .lload 6, 2), (818, .lload 8, 2), (820, .lload 25, 2), (822, .lsub, 1), (823, .lload 23, 2), (825, .ldiv, 1), (826, .lcmp, 1)] (by decide +kernel) (pc' := 827) (L' := #[.val (.long vr), .second, .val (.long cr), .second, .val (.int sh), .val (.int rp), .val (.long (Int64.ofNat V)), .second, .val (.long (Int64.ofNat C)), .second, .val (.int (Int32.ofNat 2)), .val (.int (Int32.ofNat S1)), .val (.int (Int32.ofNat S2)), .val (.int (Int32.ofNat mo)), .val (.int c), .val (.int (Int32.ofNat N)), .val (.int (Int32.ofNat O)), .val (.int (Int32.ofNat (O + N + 2))), .val (.ref a6), .val (.long (capF (Int64.ofNat C) cs)), .second, .unset, .unset, .val (.long (100 : Int64)), .second, .val (.long (Int64.ofNat (S1 * 10 + S2))), .second, .unset]) (S' := [.int (XT.cmpL (Int64.ofNat V) (((Int64.ofNat C) - (Int64.ofNat (S1 * 10 + S2))) / (100 : Int64)))]) rfl ?_
            refine G.ifle (o := (7)) (pc' := 834) (by decide +kernel) (by decide) rfl ?_ ?_
            · intro q107
              have nb : ¬ C < V * 10 ^ 2 + sdN 2 S1 S2 := fun z => q107 ((above_ok (p := 100) (sd := (S1 * 10 + S2)) hC hV (by omega) (Or.inr (Or.inr rfl)) q104).mpr z)
              refine G.seg [(834, .iconst 0, 1), (835, .istore 27, 2)] (by decide +kernel) (pc' := 837) (L' := #[.val (.long vr), .second, .val (.long cr), .second, .val (.int sh), .val (.int rp), .val (.long (Int64.ofNat V)), .second, .val (.long (Int64.ofNat C)), .second, .val (.int (Int32.ofNat 2)), .val (.int (Int32.ofNat S1)), .val (.int (Int32.ofNat S2)), .val (.int (Int32.ofNat mo)), .val (.int c), .val (.int (Int32.ofNat N)), .val (.int (Int32.ofNat O)), .val (.int (Int32.ofNat (O + N + 2))), .val (.ref a6), .val (.long (capF (Int64.ofNat C) cs)), .second, .unset, .unset, .val (.long (100 : Int64)), .second, .val (.long (Int64.ofNat (S1 * 10 + S2))), .second, .val (.int (0 : Int32))]) (S' := []) rfl ?_
              refine G.seg [(837, .iload 27, 2)] (by decide +kernel) (pc' := 839) (L' := #[.val (.long vr), .second, .val (.long cr), .second, .val (.int sh), .val (.int rp), .val (.long (Int64.ofNat V)), .second, .val (.long (Int64.ofNat C)), .second, .val (.int (Int32.ofNat 2)), .val (.int (Int32.ofNat S1)), .val (.int (Int32.ofNat S2)), .val (.int (Int32.ofNat mo)), .val (.int c), .val (.int (Int32.ofNat N)), .val (.int (Int32.ofNat O)), .val (.int (Int32.ofNat (O + N + 2))), .val (.ref a6), .val (.long (capF (Int64.ofNat C) cs)), .second, .unset, .unset, .val (.long (100 : Int64)), .second, .val (.long (Int64.ofNat (S1 * 10 + S2))), .second, .val (.int (0 : Int32))]) (S' := [.int (0 : Int32)]) rfl ?_
              refine G.ifeq (o := (8)) (pc' := 847) (by decide +kernel) (by decide) rfl ?_ (fun q108 => absurd rfl q108)
              intro _
              refine G.seg [(847, .lload 6, 2), (849, .lload 23, 2), (851, .lmul, 1), (852, .lload 25, 2), (854, .ladd, 1), (855, .lstore 21, 2)] (by decide +kernel) (pc' := 857) (L' := #[.val (.long vr), .second, .val (.long cr), .second, .val (.int sh), .val (.int rp), .val (.long (Int64.ofNat V)), .second, .val (.long (Int64.ofNat C)), .second, .val (.int (Int32.ofNat 2)), .val (.int (Int32.ofNat S1)), .val (.int (Int32.ofNat S2)), .val (.int (Int32.ofNat mo)), .val (.int c), .val (.int (Int32.ofNat N)), .val (.int (Int32.ofNat O)), .val (.int (Int32.ofNat (O + N + 2))), .val (.ref a6), .val (.long (capF (Int64.ofNat C) cs)), .second, .val (.long (((Int64.ofNat V) * (100 : Int64)) + (Int64.ofNat (S1 * 10 + S2)))), .second, .val (.long (100 : Int64)), .second, .val (.long (Int64.ofNat (S1 * 10 + S2))), .second, .val (.int (0 : Int32))]) (S' := []) rfl ?_
              refine G.seg [(857, .lload 19, 2), (859, .lload 21, 2), (861, .lcmp, 1)] (by decide +kernel) (pc' := 862) (L' := #[.val (.long vr), .second, .val (.long cr), .second, .val (.int sh), .val (.int rp), .val (.long (Int64.ofNat V)), .second, .val (.long (Int64.ofNat C)), .second, .val (.int (Int32.ofNat 2)), .val (.int (Int32.ofNat S1)), .val (.int (Int32.ofNat S2)), .val (.int (Int32.ofNat mo)), .val (.int c), .val (.int (Int32.ofNat N)), .val (.int (Int32.ofNat O)), .val (.int (Int32.ofNat (O + N + 2))), .val (.ref a6), .val (.long (capF (Int64.ofNat C) cs)), .second, .val (.long (((Int64.ofNat V) * (100 : Int64)) + (Int64.ofNat (S1 * 10 + S2)))), .second, .val (.long (100 : Int64)), .second, .val (.long (Int64.ofNat (S1 * 10 + S2))), .second, .val (.int (0 : Int32))]) (S' := [.int (XT.cmpL (capF (Int64.ofNat C) cs) (((Int64.ofNat V) * (100 : Int64)) + (Int64.ofNat (S1 * 10 + S2))))]) rfl ?_
              refine G.ifne (o := (7)) (pc' := 869) (by decide +kernel) (by decide) rfl (fun q109 => absurd (cmp_zero.mpr (key.trans ((congrArg Int64.ofNat (if_neg nb)).trans (by rw [Int64.ofNat_add, Int64.ofNat_mul]; rfl)))) q109) ?_
              intro _
              refine G.seg [(865, .iconst 1, 1), (866, .goto 4, 3)] (by decide +kernel) (pc' := 870) (L' := #[.val (.long vr), .second, .val (.long cr), .second, .val (.int sh), .val (.int rp), .val (.long (Int64.ofNat V)), .second, .val (.long (Int64.ofNat C)), .second, .val (.int (Int32.ofNat 2)), .val (.int (Int32.ofNat S1)), .val (.int (Int32.ofNat S2)), .val (.int (Int32.ofNat mo)), .val (.int c), .val (.int (Int32.ofNat N)), .val (.int (Int32.ofNat O)), .val (.int (Int32.ofNat (O + N + 2))), .val (.ref a6), .val (.long (capF (Int64.ofNat C) cs)), .second, .val (.long (((Int64.ofNat V) * (100 : Int64)) + (Int64.ofNat (S1 * 10 + S2)))), .second, .val (.long (100 : Int64)), .second, .val (.long (Int64.ofNat (S1 * 10 + S2))), .second, .val (.int (0 : Int32))]) (S' := [.int (1 : Int32)]) rfl ?_
              exact G.retN (by decide +kernel) rfl (Or.inl rfl) rfl rfl (lb rfl) (lb rfl)
            · intro q107
              have ab : C < V * 10 ^ 2 + sdN 2 S1 S2 := (above_ok (p := 100) (sd := (S1 * 10 + S2)) hC hV (by omega) (Or.inr (Or.inr rfl)) q104).mp q107
              refine G.seg [(830, .iconst 1, 1), (831, .goto 4, 3), (835, .istore 27, 2)] (by decide +kernel) (pc' := 837) (L' := #[.val (.long vr), .second, .val (.long cr), .second, .val (.int sh), .val (.int rp), .val (.long (Int64.ofNat V)), .second, .val (.long (Int64.ofNat C)), .second, .val (.int (Int32.ofNat 2)), .val (.int (Int32.ofNat S1)), .val (.int (Int32.ofNat S2)), .val (.int (Int32.ofNat mo)), .val (.int c), .val (.int (Int32.ofNat N)), .val (.int (Int32.ofNat O)), .val (.int (Int32.ofNat (O + N + 2))), .val (.ref a6), .val (.long (capF (Int64.ofNat C) cs)), .second, .unset, .unset, .val (.long (100 : Int64)), .second, .val (.long (Int64.ofNat (S1 * 10 + S2))), .second, .val (.int (1 : Int32))]) (S' := []) rfl ?_
              refine G.seg [(837, .iload 27, 2)] (by decide +kernel) (pc' := 839) (L' := #[.val (.long vr), .second, .val (.long cr), .second, .val (.int sh), .val (.int rp), .val (.long (Int64.ofNat V)), .second, .val (.long (Int64.ofNat C)), .second, .val (.int (Int32.ofNat 2)), .val (.int (Int32.ofNat S1)), .val (.int (Int32.ofNat S2)), .val (.int (Int32.ofNat mo)), .val (.int c), .val (.int (Int32.ofNat N)), .val (.int (Int32.ofNat O)), .val (.int (Int32.ofNat (O + N + 2))), .val (.ref a6), .val (.long (capF (Int64.ofNat C) cs)), .second, .unset, .unset, .val (.long (100 : Int64)), .second, .val (.long (Int64.ofNat (S1 * 10 + S2))), .second, .val (.int (1 : Int32))]) (S' := [.int (1 : Int32)]) rfl ?_
              refine G.ifeq (o := (8)) (pc' := 847) (by decide +kernel) (by decide) rfl (fun q110 => absurd q110 (by decide)) ?_
              intro _
              refine G.seg [(842, .lload 8, 2), (844, .goto 11, 3), (855, .lstore 21, 2)] (by decide +kernel) (pc' := 857) (L' := #[.val (.long vr), .second, .val (.long cr), .second, .val (.int sh), .val (.int rp), .val (.long (Int64.ofNat V)), .second, .val (.long (Int64.ofNat C)), .second, .val (.int (Int32.ofNat 2)), .val (.int (Int32.ofNat S1)), .val (.int (Int32.ofNat S2)), .val (.int (Int32.ofNat mo)), .val (.int c), .val (.int (Int32.ofNat N)), .val (.int (Int32.ofNat O)), .val (.int (Int32.ofNat (O + N + 2))), .val (.ref a6), .val (.long (capF (Int64.ofNat C) cs)), .second, .val (.long (Int64.ofNat C)), .second, .val (.long (100 : Int64)), .second, .val (.long (Int64.ofNat (S1 * 10 + S2))), .second, .val (.int (1 : Int32))]) (S' := []) rfl ?_
              refine G.seg [(857, .lload 19, 2), (859, .lload 21, 2), (861, .lcmp, 1)] (by decide +kernel) (pc' := 862) (L' := #[.val (.long vr), .second, .val (.long cr), .second, .val (.int sh), .val (.int rp), .val (.long (Int64.ofNat V)), .second, .val (.long (Int64.ofNat C)), .second, .val (.int (Int32.ofNat 2)), .val (.int (Int32.ofNat S1)), .val (.int (Int32.ofNat S2)), .val (.int (Int32.ofNat mo)), .val (.int c), .val (.int (Int32.ofNat N)), .val (.int (Int32.ofNat O)), .val (.int (Int32.ofNat (O + N + 2))), .val (.ref a6), .val (.long (capF (Int64.ofNat C) cs)), .second, .val (.long (Int64.ofNat C)), .second, .val (.long (100 : Int64)), .second, .val (.long (Int64.ofNat (S1 * 10 + S2))), .second, .val (.int (1 : Int32))]) (S' := [.int (XT.cmpL (capF (Int64.ofNat C) cs) (Int64.ofNat C))]) rfl ?_
              refine G.ifne (o := (7)) (pc' := 869) (by decide +kernel) (by decide) rfl (fun q111 => absurd (cmp_zero.mpr (key.trans (congrArg Int64.ofNat (if_pos ab)))) q111) ?_
              intro _
              refine G.seg [(865, .iconst 1, 1), (866, .goto 4, 3)] (by decide +kernel) (pc' := 870) (L' := #[.val (.long vr), .second, .val (.long cr), .second, .val (.int sh), .val (.int rp), .val (.long (Int64.ofNat V)), .second, .val (.long (Int64.ofNat C)), .second, .val (.int (Int32.ofNat 2)), .val (.int (Int32.ofNat S1)), .val (.int (Int32.ofNat S2)), .val (.int (Int32.ofNat mo)), .val (.int c), .val (.int (Int32.ofNat N)), .val (.int (Int32.ofNat O)), .val (.int (Int32.ofNat (O + N + 2))), .val (.ref a6), .val (.long (capF (Int64.ofNat C) cs)), .second, .val (.long (Int64.ofNat C)), .second, .val (.long (100 : Int64)), .second, .val (.long (Int64.ofNat (S1 * 10 + S2))), .second, .val (.int (1 : Int32))]) (S' := [.int (1 : Int32)]) rfl ?_
              exact G.retN (by decide +kernel) rfl (Or.inl rfl) rfl rfl (lb rfl) (lb rfl)
      · intro q77
        refine G.seg [(735, .iload 10, 2)] (by decide +kernel) (pc' := 737) (L' := #[.val (.long vr), .second, .val (.long cr), .second, .val (.int sh), .val (.int rp), .val (.long (Int64.ofNat V)), .second, .val (.long (Int64.ofNat C)), .second, .val (.int (Int32.ofNat K)), .val (.int (Int32.ofNat S1)), .val (.int (Int32.ofNat S2)), .val (.int (Int32.ofNat mo)), .val (.int c), .val (.int (Int32.ofNat N)), .val (.int (Int32.ofNat O)), .val (.int (Int32.ofNat (O + N + K))), .val (.ref a6), .val (.long (capF (Int64.ofNat C) cs)), .second, .unset, .unset, .unset, .unset, .unset, .unset, .unset]) (S' := [.int (Int32.ofNat K)]) rfl ?_
        refine G.ifle (o := (11)) (pc' := 748) (by decide +kernel) (by decide) rfl ?_ ?_
        · intro q112
          have hz : ¬ (V = 0 ∧ 0 < K) := fun z => q112 ((ltN (a := 0) (by decide) (by omega)).mpr z.2)
          have key := m0_ok hC hV hK hS1 hS2 hz
          rw [← ecs] at key
          clear hcs eT ag21 hneg
          clear ecs
          obtain rfl | rfl | rfl : K = 0 ∨ K = 1 ∨ K = 2 := by omega
          · refine G.seg [(748, .iload 10, 2)] (by decide +kernel) (pc' := 750) (L' := #[.val (.long vr), .second, .val (.long cr), .second, .val (.int sh), .val (.int rp), .val (.long (Int64.ofNat V)), .second, .val (.long (Int64.ofNat C)), .second, .val (.int (Int32.ofNat 0)), .val (.int (Int32.ofNat S1)), .val (.int (Int32.ofNat S2)), .val (.int (Int32.ofNat mo)), .val (.int c), .val (.int (Int32.ofNat N)), .val (.int (Int32.ofNat O)), .val (.int (Int32.ofNat (O + N + 0))), .val (.ref a6), .val (.long (capF (Int64.ofNat C) cs)), .second, .unset, .unset, .unset, .unset, .unset, .unset, .unset]) (S' := [.int (Int32.ofNat 0)]) rfl ?_
            refine G.ifne (o := (7)) (pc' := 757) (by decide +kernel) (by decide) rfl (fun q113 => absurd rfl q113) ?_
            intro _
            refine G.seg [(753, .lconst 1, 1), (754, .goto 18, 3), (772, .lstore 23, 2)] (by decide +kernel) (pc' := 774) (L' := #[.val (.long vr), .second, .val (.long cr), .second, .val (.int sh), .val (.int rp), .val (.long (Int64.ofNat V)), .second, .val (.long (Int64.ofNat C)), .second, .val (.int (Int32.ofNat 0)), .val (.int (Int32.ofNat S1)), .val (.int (Int32.ofNat S2)), .val (.int (Int32.ofNat mo)), .val (.int c), .val (.int (Int32.ofNat N)), .val (.int (Int32.ofNat O)), .val (.int (Int32.ofNat (O + N + 0))), .val (.ref a6), .val (.long (capF (Int64.ofNat C) cs)), .second, .unset, .unset, .val (.long (1 : Int64)), .second, .unset, .unset, .unset]) (S' := []) rfl ?_
            refine G.seg [(774, .iload 10, 2)] (by decide +kernel) (pc' := 776) (L' := #[.val (.long vr), .second, .val (.long cr), .second, .val (.int sh), .val (.int rp), .val (.long (Int64.ofNat V)), .second, .val (.long (Int64.ofNat C)), .second, .val (.int (Int32.ofNat 0)), .val (.int (Int32.ofNat S1)), .val (.int (Int32.ofNat S2)), .val (.int (Int32.ofNat mo)), .val (.int c), .val (.int (Int32.ofNat N)), .val (.int (Int32.ofNat O)), .val (.int (Int32.ofNat (O + N + 0))), .val (.ref a6), .val (.long (capF (Int64.ofNat C) cs)), .second, .unset, .unset, .val (.long (1 : Int64)), .second, .unset, .unset, .unset]) (S' := [.int (Int32.ofNat 0)]) rfl ?_
            refine G.ifne (o := (7)) (pc' := 783) (by decide +kernel) (by decide) rfl (fun q114 => absurd rfl q114) ?_
            intro _
            refine G.seg [(779, .lconst 0, 1), (780, .goto 26, 3)] (by decide +kernel) (pc' := 806) (L' := #[.val (.long vr), .second, .val (.long cr), .second, .val (.int sh), .val (.int rp), .val (.long (Int64.ofNat V)), .second, .val (.long (Int64.ofNat C)), .second, .val (.int (Int32.ofNat 0)), .val (.int (Int32.ofNat S1)), .val (.int (Int32.ofNat S2)), .val (.int (Int32.ofNat mo)), .val (.int c), .val (.int (Int32.ofNat N)), .val (.int (Int32.ofNat O)), .val (.int (Int32.ofNat (O + N + 0))), .val (.ref a6), .val (.long (capF (Int64.ofNat C) cs)), .second, .unset, .unset, .val (.long (1 : Int64)), .second, .unset, .unset, .unset]) (S' := [.long (0 : Int64)]) rfl ?_
            refine G.seg [(806, .lstore 25, 2)] (by decide +kernel) (pc' := 808) (L' := #[.val (.long vr), .second, .val (.long cr), .second, .val (.int sh), .val (.int rp), .val (.long (Int64.ofNat V)), .second, .val (.long (Int64.ofNat C)), .second, .val (.int (Int32.ofNat 0)), .val (.int (Int32.ofNat S1)), .val (.int (Int32.ofNat S2)), .val (.int (Int32.ofNat mo)), .val (.int c), .val (.int (Int32.ofNat N)), .val (.int (Int32.ofNat O)), .val (.int (Int32.ofNat (O + N + 0))), .val (.ref a6), .val (.long (capF (Int64.ofNat C) cs)), .second, .unset, .unset, .val (.long (1 : Int64)), .second, .val (.long (0 : Int64)), .second, .unset]) (S' := []) rfl ?_
            refine G.seg [(808, .lload 8, 2), (810, .lload 25, 2), (812, .lcmp, 1)] (by decide +kernel) (pc' := 813) (L' := #[.val (.long vr), .second, .val (.long cr), .second, .val (.int sh), .val (.int rp), .val (.long (Int64.ofNat V)), .second, .val (.long (Int64.ofNat C)), .second, .val (.int (Int32.ofNat 0)), .val (.int (Int32.ofNat S1)), .val (.int (Int32.ofNat S2)), .val (.int (Int32.ofNat mo)), .val (.int c), .val (.int (Int32.ofNat N)), .val (.int (Int32.ofNat O)), .val (.int (Int32.ofNat (O + N + 0))), .val (.ref a6), .val (.long (capF (Int64.ofNat C) cs)), .second, .unset, .unset, .val (.long (1 : Int64)), .second, .val (.long (0 : Int64)), .second, .unset]) (S' := [.int (XT.cmpL (Int64.ofNat C) (0 : Int64))]) rfl ?_
            refine G.iflt (o := (17)) (pc' := 830) (by decide +kernel) (by decide) rfl ?_ ?_
            · intro q115
              have ab : C < V * 10 ^ 0 + sdN 0 S1 S2 := by have := (c64n (b := 0) hC (by omega)).mp q115; show C < V * 1 + 0; omega
              refine G.seg [(830, .iconst 1, 1), (831, .goto 4, 3), (835, .istore 27, 2)] (by decide +kernel) (pc' := 837) (L' := #[.val (.long vr), .second, .val (.long cr), .second, .val (.int sh), .val (.int rp), .val (.long (Int64.ofNat V)), .second, .val (.long (Int64.ofNat C)), .second, .val (.int (Int32.ofNat 0)), .val (.int (Int32.ofNat S1)), .val (.int (Int32.ofNat S2)), .val (.int (Int32.ofNat mo)), .val (.int c), .val (.int (Int32.ofNat N)), .val (.int (Int32.ofNat O)), .val (.int (Int32.ofNat (O + N + 0))), .val (.ref a6), .val (.long (capF (Int64.ofNat C) cs)), .second, .unset, .unset, .val (.long (1 : Int64)), .second, .val (.long (0 : Int64)), .second, .val (.int (1 : Int32))]) (S' := []) rfl ?_
              refine G.seg [(837, .iload 27, 2)] (by decide +kernel) (pc' := 839) (L' := #[.val (.long vr), .second, .val (.long cr), .second, .val (.int sh), .val (.int rp), .val (.long (Int64.ofNat V)), .second, .val (.long (Int64.ofNat C)), .second, .val (.int (Int32.ofNat 0)), .val (.int (Int32.ofNat S1)), .val (.int (Int32.ofNat S2)), .val (.int (Int32.ofNat mo)), .val (.int c), .val (.int (Int32.ofNat N)), .val (.int (Int32.ofNat O)), .val (.int (Int32.ofNat (O + N + 0))), .val (.ref a6), .val (.long (capF (Int64.ofNat C) cs)), .second, .unset, .unset, .val (.long (1 : Int64)), .second, .val (.long (0 : Int64)), .second, .val (.int (1 : Int32))]) (S' := [.int (1 : Int32)]) rfl ?_
              refine G.ifeq (o := (8)) (pc' := 847) (by decide +kernel) (by decide) rfl (fun q116 => absurd q116 (by decide)) ?_
              intro _
              refine G.seg [(842, .lload 8, 2), (844, .goto 11, 3), (855, .lstore 21, 2)] (by decide +kernel) (pc' := 857) (L' := #[.val (.long vr), .second, .val (.long cr), .second, .val (.int sh), .val (.int rp), .val (.long (Int64.ofNat V)), .second, .val (.long (Int64.ofNat C)), .second, .val (.int (Int32.ofNat 0)), .val (.int (Int32.ofNat S1)), .val (.int (Int32.ofNat S2)), .val (.int (Int32.ofNat mo)), .val (.int c), .val (.int (Int32.ofNat N)), .val (.int (Int32.ofNat O)), .val (.int (Int32.ofNat (O + N + 0))), .val (.ref a6), .val (.long (capF (Int64.ofNat C) cs)), .second, .val (.long (Int64.ofNat C)), .second, .val (.long (1 : Int64)), .second, .val (.long (0 : Int64)), .second, .val (.int (1 : Int32))]) (S' := []) rfl ?_
              refine G.seg [(857, .lload 19, 2), (859, .lload 21, 2), (861, .lcmp, 1)] (by decide +kernel) (pc' := 862) (L' := #[.val (.long vr), .second, .val (.long cr), .second, .val (.int sh), .val (.int rp), .val (.long (Int64.ofNat V)), .second, .val (.long (Int64.ofNat C)), .second, .val (.int (Int32.ofNat 0)), .val (.int (Int32.ofNat S1)), .val (.int (Int32.ofNat S2)), .val (.int (Int32.ofNat mo)), .val (.int c), .val (.int (Int32.ofNat N)), .val (.int (Int32.ofNat O)), .val (.int (Int32.ofNat (O + N + 0))), .val (.ref a6), .val (.long (capF (Int64.ofNat C) cs)), .second, .val (.long (Int64.ofNat C)), .second, .val (.long (1 : Int64)), .second, .val (.long (0 : Int64)), .second, .val (.int (1 : Int32))]) (S' := [.int (XT.cmpL (capF (Int64.ofNat C) cs) (Int64.ofNat C))]) rfl ?_
              refine G.ifne (o := (7)) (pc' := 869) (by decide +kernel) (by decide) rfl (fun q117 => absurd (cmp_zero.mpr (key.trans (congrArg Int64.ofNat (if_pos ab)))) q117) ?_
              intro _
              refine G.seg [(865, .iconst 1, 1), (866, .goto 4, 3)] (by decide +kernel) (pc' := 870) (L' := #[.val (.long vr), .second, .val (.long cr), .second, .val (.int sh), .val (.int rp), .val (.long (Int64.ofNat V)), .second, .val (.long (Int64.ofNat C)), .second, .val (.int (Int32.ofNat 0)), .val (.int (Int32.ofNat S1)), .val (.int (Int32.ofNat S2)), .val (.int (Int32.ofNat mo)), .val (.int c), .val (.int (Int32.ofNat N)), .val (.int (Int32.ofNat O)), .val (.int (Int32.ofNat (O + N + 0))), .val (.ref a6), .val (.long (capF (Int64.ofNat C) cs)), .second, .val (.long (Int64.ofNat C)), .second, .val (.long (1 : Int64)), .second, .val (.long (0 : Int64)), .second, .val (.int (1 : Int32))]) (S' := [.int (1 : Int32)]) rfl ?_
              exact G.retN (by decide +kernel) rfl (Or.inl rfl) rfl rfl (lb rfl) (lb rfl)
            · intro q115
              refine G.seg [(816, .lload 6, 2), (818, .lload 8, 2), (820, .lload 25, 2), (822, .lsub, 1), (823, .lload 23, 2), (825, .ldiv, 1), (826, .lcmp, 1)] (by decide +kernel) (pc' := 827) (L' := #[.val (.long vr), .second, .val (.long cr), .second, .val (.int sh), .val (.int rp), .val (.long (Int64.ofNat V)), .second, .val (.long (Int64.ofNat C)), .second, .val (.int (Int32.ofNat 0)), .val (.int (Int32.ofNat S1)), .val (.int (Int32.ofNat S2)), .val (.int (Int32.ofNat mo)), .val (.int c), .val (.int (Int32.ofNat N)), .val (.int (Int32.ofNat O)), .val (.int (Int32.ofNat (O + N + 0))), .val (.ref a6), .val (.long (capF (Int64.ofNat C) cs)), .second, .unset, .unset, .val (.long (1 : Int64)), .second, .val (.long (0 : Int64)), .second, .unset]) (S' := [.int (XT.cmpL (Int64.ofNat V) (((Int64.ofNat C) - (0 : Int64)) / (1 : Int64)))]) rfl ?_
              refine G.ifle (o := (7)) (pc' := 834) (by decide +kernel) (by decide) rfl ?_ ?_
              · intro q118
                have nb : ¬ C < V * 10 ^ 0 + sdN 0 S1 S2 := fun z => q118 ((above_ok (p := 1) (sd := 0) hC hV (by omega) (Or.inl rfl) q115).mpr z)
                refine G.seg [(834, .iconst 0, 1), (835, .istore 27, 2)] (by decide +kernel) (pc' := 837) (L' := #[.val (.long vr), .second, .val (.long cr), .second, .val (.int sh), .val (.int rp), .val (.long (Int64.ofNat V)), .second, .val (.long (Int64.ofNat C)), .second, .val (.int (Int32.ofNat 0)), .val (.int (Int32.ofNat S1)), .val (.int (Int32.ofNat S2)), .val (.int (Int32.ofNat mo)), .val (.int c), .val (.int (Int32.ofNat N)), .val (.int (Int32.ofNat O)), .val (.int (Int32.ofNat (O + N + 0))), .val (.ref a6), .val (.long (capF (Int64.ofNat C) cs)), .second, .unset, .unset, .val (.long (1 : Int64)), .second, .val (.long (0 : Int64)), .second, .val (.int (0 : Int32))]) (S' := []) rfl ?_
                refine G.seg [(837, .iload 27, 2)] (by decide +kernel) (pc' := 839) (L' := #[.val (.long vr), .second, .val (.long cr), .second, .val (.int sh), .val (.int rp), .val (.long (Int64.ofNat V)), .second, .val (.long (Int64.ofNat C)), .second, .val (.int (Int32.ofNat 0)), .val (.int (Int32.ofNat S1)), .val (.int (Int32.ofNat S2)), .val (.int (Int32.ofNat mo)), .val (.int c), .val (.int (Int32.ofNat N)), .val (.int (Int32.ofNat O)), .val (.int (Int32.ofNat (O + N + 0))), .val (.ref a6), .val (.long (capF (Int64.ofNat C) cs)), .second, .unset, .unset, .val (.long (1 : Int64)), .second, .val (.long (0 : Int64)), .second, .val (.int (0 : Int32))]) (S' := [.int (0 : Int32)]) rfl ?_
                refine G.ifeq (o := (8)) (pc' := 847) (by decide +kernel) (by decide) rfl ?_ (fun q119 => absurd rfl q119)
                intro _
                refine G.seg [(847, .lload 6, 2), (849, .lload 23, 2), (851, .lmul, 1), (852, .lload 25, 2), (854, .ladd, 1), (855, .lstore 21, 2)] (by decide +kernel) (pc' := 857) (L' := #[.val (.long vr), .second, .val (.long cr), .second, .val (.int sh), .val (.int rp), .val (.long (Int64.ofNat V)), .second, .val (.long (Int64.ofNat C)), .second, .val (.int (Int32.ofNat 0)), .val (.int (Int32.ofNat S1)), .val (.int (Int32.ofNat S2)), .val (.int (Int32.ofNat mo)), .val (.int c), .val (.int (Int32.ofNat N)), .val (.int (Int32.ofNat O)), .val (.int (Int32.ofNat (O + N + 0))), .val (.ref a6), .val (.long (capF (Int64.ofNat C) cs)), .second, .val (.long (((Int64.ofNat V) * (1 : Int64)) + (0 : Int64))), .second, .val (.long (1 : Int64)), .second, .val (.long (0 : Int64)), .second, .val (.int (0 : Int32))]) (S' := []) rfl ?_
                refine G.seg [(857, .lload 19, 2), (859, .lload 21, 2), (861, .lcmp, 1)] (by decide +kernel) (pc' := 862) (L' := #[.val (.long vr), .second, .val (.long cr), .second, .val (.int sh), .val (.int rp), .val (.long (Int64.ofNat V)), .second, .val (.long (Int64.ofNat C)), .second, .val (.int (Int32.ofNat 0)), .val (.int (Int32.ofNat S1)), .val (.int (Int32.ofNat S2)), .val (.int (Int32.ofNat mo)), .val (.int c), .val (.int (Int32.ofNat N)), .val (.int (Int32.ofNat O)), .val (.int (Int32.ofNat (O + N + 0))), .val (.ref a6), .val (.long (capF (Int64.ofNat C) cs)), .second, .val (.long (((Int64.ofNat V) * (1 : Int64)) + (0 : Int64))), .second, .val (.long (1 : Int64)), .second, .val (.long (0 : Int64)), .second, .val (.int (0 : Int32))]) (S' := [.int (XT.cmpL (capF (Int64.ofNat C) cs) (((Int64.ofNat V) * (1 : Int64)) + (0 : Int64)))]) rfl ?_
                refine G.ifne (o := (7)) (pc' := 869) (by decide +kernel) (by decide) rfl (fun q120 => absurd (cmp_zero.mpr (key.trans ((congrArg Int64.ofNat (if_neg nb)).trans (by rw [Int64.ofNat_add, Int64.ofNat_mul]; rfl)))) q120) ?_
                intro _
                refine G.seg [(865, .iconst 1, 1), (866, .goto 4, 3)] (by decide +kernel) (pc' := 870) (L' := #[.val (.long vr), .second, .val (.long cr), .second, .val (.int sh), .val (.int rp), .val (.long (Int64.ofNat V)), .second, .val (.long (Int64.ofNat C)), .second, .val (.int (Int32.ofNat 0)), .val (.int (Int32.ofNat S1)), .val (.int (Int32.ofNat S2)), .val (.int (Int32.ofNat mo)), .val (.int c), .val (.int (Int32.ofNat N)), .val (.int (Int32.ofNat O)), .val (.int (Int32.ofNat (O + N + 0))), .val (.ref a6), .val (.long (capF (Int64.ofNat C) cs)), .second, .val (.long (((Int64.ofNat V) * (1 : Int64)) + (0 : Int64))), .second, .val (.long (1 : Int64)), .second, .val (.long (0 : Int64)), .second, .val (.int (0 : Int32))]) (S' := [.int (1 : Int32)]) rfl ?_
                exact G.retN (by decide +kernel) rfl (Or.inl rfl) rfl rfl (lb rfl) (lb rfl)
              · intro q118
                have ab : C < V * 10 ^ 0 + sdN 0 S1 S2 := (above_ok (p := 1) (sd := 0) hC hV (by omega) (Or.inl rfl) q115).mp q118
                refine G.seg [(830, .iconst 1, 1), (831, .goto 4, 3), (835, .istore 27, 2)] (by decide +kernel) (pc' := 837) (L' := #[.val (.long vr), .second, .val (.long cr), .second, .val (.int sh), .val (.int rp), .val (.long (Int64.ofNat V)), .second, .val (.long (Int64.ofNat C)), .second, .val (.int (Int32.ofNat 0)), .val (.int (Int32.ofNat S1)), .val (.int (Int32.ofNat S2)), .val (.int (Int32.ofNat mo)), .val (.int c), .val (.int (Int32.ofNat N)), .val (.int (Int32.ofNat O)), .val (.int (Int32.ofNat (O + N + 0))), .val (.ref a6), .val (.long (capF (Int64.ofNat C) cs)), .second, .unset, .unset, .val (.long (1 : Int64)), .second, .val (.long (0 : Int64)), .second, .val (.int (1 : Int32))]) (S' := []) rfl ?_
                refine G.seg [(837, .iload 27, 2)] (by decide +kernel) (pc' := 839) (L' := #[.val (.long vr), .second, .val (.long cr), .second, .val (.int sh), .val (.int rp), .val (.long (Int64.ofNat V)), .second, .val (.long (Int64.ofNat C)), .second, .val (.int (Int32.ofNat 0)), .val (.int (Int32.ofNat S1)), .val (.int (Int32.ofNat S2)), .val (.int (Int32.ofNat mo)), .val (.int c), .val (.int (Int32.ofNat N)), .val (.int (Int32.ofNat O)), .val (.int (Int32.ofNat (O + N + 0))), .val (.ref a6), .val (.long (capF (Int64.ofNat C) cs)), .second, .unset, .unset, .val (.long (1 : Int64)), .second, .val (.long (0 : Int64)), .second, .val (.int (1 : Int32))]) (S' := [.int (1 : Int32)]) rfl ?_
                refine G.ifeq (o := (8)) (pc' := 847) (by decide +kernel) (by decide) rfl (fun q121 => absurd q121 (by decide)) ?_
                intro _
                refine G.seg [(842, .lload 8, 2), (844, .goto 11, 3), (855, .lstore 21, 2)] (by decide +kernel) (pc' := 857) (L' := #[.val (.long vr), .second, .val (.long cr), .second, .val (.int sh), .val (.int rp), .val (.long (Int64.ofNat V)), .second, .val (.long (Int64.ofNat C)), .second, .val (.int (Int32.ofNat 0)), .val (.int (Int32.ofNat S1)), .val (.int (Int32.ofNat S2)), .val (.int (Int32.ofNat mo)), .val (.int c), .val (.int (Int32.ofNat N)), .val (.int (Int32.ofNat O)), .val (.int (Int32.ofNat (O + N + 0))), .val (.ref a6), .val (.long (capF (Int64.ofNat C) cs)), .second, .val (.long (Int64.ofNat C)), .second, .val (.long (1 : Int64)), .second, .val (.long (0 : Int64)), .second, .val (.int (1 : Int32))]) (S' := []) rfl ?_
                refine G.seg [(857, .lload 19, 2), (859, .lload 21, 2), (861, .lcmp, 1)] (by decide +kernel) (pc' := 862) (L' := #[.val (.long vr), .second, .val (.long cr), .second, .val (.int sh), .val (.int rp), .val (.long (Int64.ofNat V)), .second, .val (.long (Int64.ofNat C)), .second, .val (.int (Int32.ofNat 0)), .val (.int (Int32.ofNat S1)), .val (.int (Int32.ofNat S2)), .val (.int (Int32.ofNat mo)), .val (.int c), .val (.int (Int32.ofNat N)), .val (.int (Int32.ofNat O)), .val (.int (Int32.ofNat (O + N + 0))), .val (.ref a6), .val (.long (capF (Int64.ofNat C) cs)), .second, .val (.long (Int64.ofNat C)), .second, .val (.long (1 : Int64)), .second, .val (.long (0 : Int64)), .second, .val (.int (1 : Int32))]) (S' := [.int (XT.cmpL (capF (Int64.ofNat C) cs) (Int64.ofNat C))]) rfl ?_
                refine G.ifne (o := (7)) (pc' := 869) (by decide +kernel) (by decide) rfl (fun q122 => absurd (cmp_zero.mpr (key.trans (congrArg Int64.ofNat (if_pos ab)))) q122) ?_
                intro _
                refine G.seg [(865, .iconst 1, 1), (866, .goto 4, 3)] (by decide +kernel) (pc' := 870) (L' := #[.val (.long vr), .second, .val (.long cr), .second, .val (.int sh), .val (.int rp), .val (.long (Int64.ofNat V)), .second, .val (.long (Int64.ofNat C)), .second, .val (.int (Int32.ofNat 0)), .val (.int (Int32.ofNat S1)), .val (.int (Int32.ofNat S2)), .val (.int (Int32.ofNat mo)), .val (.int c), .val (.int (Int32.ofNat N)), .val (.int (Int32.ofNat O)), .val (.int (Int32.ofNat (O + N + 0))), .val (.ref a6), .val (.long (capF (Int64.ofNat C) cs)), .second, .val (.long (Int64.ofNat C)), .second, .val (.long (1 : Int64)), .second, .val (.long (0 : Int64)), .second, .val (.int (1 : Int32))]) (S' := [.int (1 : Int32)]) rfl ?_
                exact G.retN (by decide +kernel) rfl (Or.inl rfl) rfl rfl (lb rfl) (lb rfl)
          · refine G.seg [(748, .iload 10, 2)] (by decide +kernel) (pc' := 750) (L' := #[.val (.long vr), .second, .val (.long cr), .second, .val (.int sh), .val (.int rp), .val (.long (Int64.ofNat V)), .second, .val (.long (Int64.ofNat C)), .second, .val (.int (Int32.ofNat 1)), .val (.int (Int32.ofNat S1)), .val (.int (Int32.ofNat S2)), .val (.int (Int32.ofNat mo)), .val (.int c), .val (.int (Int32.ofNat N)), .val (.int (Int32.ofNat O)), .val (.int (Int32.ofNat (O + N + 1))), .val (.ref a6), .val (.long (capF (Int64.ofNat C) cs)), .second, .unset, .unset, .unset, .unset, .unset, .unset, .unset]) (S' := [.int (Int32.ofNat 1)]) rfl ?_
            refine G.ifne (o := (7)) (pc' := 757) (by decide +kernel) (by decide) rfl ?_ (fun q123 => absurd q123 (by decide))
            intro _
            refine G.seg [(757, .iload 10, 2), (759, .iconst 1, 1)] (by decide +kernel) (pc' := 760) (L' := #[.val (.long vr), .second, .val (.long cr), .second, .val (.int sh), .val (.int rp), .val (.long (Int64.ofNat V)), .second, .val (.long (Int64.ofNat C)), .second, .val (.int (Int32.ofNat 1)), .val (.int (Int32.ofNat S1)), .val (.int (Int32.ofNat S2)), .val (.int (Int32.ofNat mo)), .val (.int c), .val (.int (Int32.ofNat N)), .val (.int (Int32.ofNat O)), .val (.int (Int32.ofNat (O + N + 1))), .val (.ref a6), .val (.long (capF (Int64.ofNat C) cs)), .second, .unset, .unset, .unset, .unset, .unset, .unset, .unset]) (S' := [.int (1 : Int32), .int (Int32.ofNat 1)]) rfl ?_
            refine G.icne (o := (9)) (pc' := 769) (by decide +kernel) (by decide) rfl (fun q124 => absurd rfl q124) ?_
            intro _
            refine G.ldcJ (by decide +kernel) (tw 10 rfl) ?_
            refine G.seg [(766, .goto 6, 3), (772, .lstore 23, 2)] (by decide +kernel) (pc' := 774) (L' := #[.val (.long vr), .second, .val (.long cr), .second, .val (.int sh), .val (.int rp), .val (.long (Int64.ofNat V)), .second, .val (.long (Int64.ofNat C)), .second, .val (.int (Int32.ofNat 1)), .val (.int (Int32.ofNat S1)), .val (.int (Int32.ofNat S2)), .val (.int (Int32.ofNat mo)), .val (.int c), .val (.int (Int32.ofNat N)), .val (.int (Int32.ofNat O)), .val (.int (Int32.ofNat (O + N + 1))), .val (.ref a6), .val (.long (capF (Int64.ofNat C) cs)), .second, .unset, .unset, .val (.long (10 : Int64)), .second, .unset, .unset, .unset]) (S' := []) rfl ?_
            refine G.seg [(774, .iload 10, 2)] (by decide +kernel) (pc' := 776) (L' := #[.val (.long vr), .second, .val (.long cr), .second, .val (.int sh), .val (.int rp), .val (.long (Int64.ofNat V)), .second, .val (.long (Int64.ofNat C)), .second, .val (.int (Int32.ofNat 1)), .val (.int (Int32.ofNat S1)), .val (.int (Int32.ofNat S2)), .val (.int (Int32.ofNat mo)), .val (.int c), .val (.int (Int32.ofNat N)), .val (.int (Int32.ofNat O)), .val (.int (Int32.ofNat (O + N + 1))), .val (.ref a6), .val (.long (capF (Int64.ofNat C) cs)), .second, .unset, .unset, .val (.long (10 : Int64)), .second, .unset, .unset, .unset]) (S' := [.int (Int32.ofNat 1)]) rfl ?_
            refine G.ifne (o := (7)) (pc' := 783) (by decide +kernel) (by decide) rfl ?_ (fun q125 => absurd q125 (by decide))
            intro _
            refine G.seg [(783, .iload 10, 2), (785, .iconst 1, 1)] (by decide +kernel) (pc' := 786) (L' := #[.val (.long vr), .second, .val (.long cr), .second, .val (.int sh), .val (.int rp), .val (.long (Int64.ofNat V)), .second, .val (.long (Int64.ofNat C)), .second, .val (.int (Int32.ofNat 1)), .val (.int (Int32.ofNat S1)), .val (.int (Int32.ofNat S2)), .val (.int (Int32.ofNat mo)), .val (.int c), .val (.int (Int32.ofNat N)), .val (.int (Int32.ofNat O)), .val (.int (Int32.ofNat (O + N + 1))), .val (.ref a6), .val (.long (capF (Int64.ofNat C) cs)), .second, .unset, .unset, .val (.long (10 : Int64)), .second, .unset, .unset, .unset]) (S' := [.int (1 : Int32), .int (Int32.ofNat 1)]) rfl ?_
            refine G.icne (o := (9)) (pc' := 795) (by decide +kernel) (by decide) rfl (fun q126 => absurd rfl q126) ?_
            intro _
            refine G.seg [(789, .iload 11, 2), (791, .i2l, 1), (792, .goto 14, 3)] (by decide +kernel) (pc' := 806) (L' := #[.val (.long vr), .second, .val (.long cr), .second, .val (.int sh), .val (.int rp), .val (.long (Int64.ofNat V)), .second, .val (.long (Int64.ofNat C)), .second, .val (.int (Int32.ofNat 1)), .val (.int (Int32.ofNat S1)), .val (.int (Int32.ofNat S2)), .val (.int (Int32.ofNat mo)), .val (.int c), .val (.int (Int32.ofNat N)), .val (.int (Int32.ofNat O)), .val (.int (Int32.ofNat (O + N + 1))), .val (.ref a6), .val (.long (capF (Int64.ofNat C) cs)), .second, .unset, .unset, .val (.long (10 : Int64)), .second, .unset, .unset, .unset]) (S' := [.long ((Int32.ofNat S1).toInt64)]) rfl ?_
            rw [sd1 hS1]
            refine G.seg [(806, .lstore 25, 2)] (by decide +kernel) (pc' := 808) (L' := #[.val (.long vr), .second, .val (.long cr), .second, .val (.int sh), .val (.int rp), .val (.long (Int64.ofNat V)), .second, .val (.long (Int64.ofNat C)), .second, .val (.int (Int32.ofNat 1)), .val (.int (Int32.ofNat S1)), .val (.int (Int32.ofNat S2)), .val (.int (Int32.ofNat mo)), .val (.int c), .val (.int (Int32.ofNat N)), .val (.int (Int32.ofNat O)), .val (.int (Int32.ofNat (O + N + 1))), .val (.ref a6), .val (.long (capF (Int64.ofNat C) cs)), .second, .unset, .unset, .val (.long (10 : Int64)), .second, .val (.long (Int64.ofNat S1)), .second, .unset]) (S' := []) rfl ?_
            refine G.seg [(808, .lload 8, 2), (810, .lload 25, 2), (812, .lcmp, 1)] (by decide +kernel) (pc' := 813) (L' := #[.val (.long vr), .second, .val (.long cr), .second, .val (.int sh), .val (.int rp), .val (.long (Int64.ofNat V)), .second, .val (.long (Int64.ofNat C)), .second, .val (.int (Int32.ofNat 1)), .val (.int (Int32.ofNat S1)), .val (.int (Int32.ofNat S2)), .val (.int (Int32.ofNat mo)), .val (.int c), .val (.int (Int32.ofNat N)), .val (.int (Int32.ofNat O)), .val (.int (Int32.ofNat (O + N + 1))), .val (.ref a6), .val (.long (capF (Int64.ofNat C) cs)), .second, .unset, .unset, .val (.long (10 : Int64)), .second, .val (.long (Int64.ofNat S1)), .second, .unset]) (S' := [.int (XT.cmpL (Int64.ofNat C) (Int64.ofNat S1))]) rfl ?_
            refine G.iflt (o := (17)) (pc' := 830) (by decide +kernel) (by decide) rfl ?_ ?_
            · intro q127
              have ab : C < V * 10 ^ 1 + sdN 1 S1 S2 := by have := (c64n (b := S1) hC (by omega)).mp q127; show C < V * 10 + S1; omega
              refine G.seg [(830, .iconst 1, 1), (831, .goto 4, 3), (835, .istore 27, 2)] (by decide +kernel) (pc' := 837) (L' := #[.val (.long vr), .second, .val (.long cr), .second, .val (.int sh), .val (.int rp), .val (.long (Int64.ofNat V)), .second, .val (.long (Int64.ofNat C)), .second, .val (.int (Int32.ofNat 1)), .val (.int (Int32.ofNat S1)), .val (.int (Int32.ofNat S2)), .val (.int (Int32.ofNat mo)), .val (.int c), .val (.int (Int32.ofNat N)), .val (.int (Int32.ofNat O)), .val (.int (Int32.ofNat (O + N + 1))), .val (.ref a6), .val (.long (capF (Int64.ofNat C) cs)), .second, .unset, .unset, .val (.long (10 : Int64)), .second, .val (.long (Int64.ofNat S1)), .second, .val (.int (1 : Int32))]) (S' := []) rfl ?_
              refine G.seg [(837, .iload 27, 2)] (by decide +kernel) (pc' := 839) (L' := #[.val (.long vr), .second, .val (.long cr), .second, .val (.int sh), .val (.int rp), .val (.long (Int64.ofNat V)), .second, .val (.long (Int64.ofNat C)), .second, .val (.int (Int32.ofNat 1)), .val (.int (Int32.ofNat S1)), .val (.int (Int32.ofNat S2)), .val (.int (Int32.ofNat mo)), .val (.int c), .val (.int (Int32.ofNat N)), .val (.int (Int32.ofNat O)), .val (.int (Int32.ofNat (O + N + 1))), .val (.ref a6), .val (.long (capF (Int64.ofNat C) cs)), .second, .unset, .unset, .val (.long (10 : Int64)), .second, .val (.long (Int64.ofNat S1)), .second, .val (.int (1 : Int32))]) (S' := [.int (1 : Int32)]) rfl ?_
              refine G.ifeq (o := (8)) (pc' := 847) (by decide +kernel) (by decide) rfl (fun q128 => absurd q128 (by decide)) ?_
              intro _
              refine G.seg [(842, .lload 8, 2), (844, .goto 11, 3), (855, .lstore 21, 2)] (by decide +kernel) (pc' := 857) (L' := #[.val (.long vr), .second, .val (.long cr), .second, .val (.int sh), .val (.int rp), .val (.long (Int64.ofNat V)), .second, .val (.long (Int64.ofNat C)), .second, .val (.int (Int32.ofNat 1)), .val (.int (Int32.ofNat S1)), .val (.int (Int32.ofNat S2)), .val (.int (Int32.ofNat mo)), .val (.int c), .val (.int (Int32.ofNat N)), .val (.int (Int32.ofNat O)), .val (.int (Int32.ofNat (O + N + 1))), .val (.ref a6), .val (.long (capF (Int64.ofNat C) cs)), .second, .val (.long (Int64.ofNat C)), .second, .val (.long (10 : Int64)), .second, .val (.long (Int64.ofNat S1)), .second, .val (.int (1 : Int32))]) (S' := []) rfl ?_
              refine G.seg [(857, .lload 19, 2), (859, .lload 21, 2), (861, .lcmp, 1)] (by decide +kernel) (pc' := 862) (L' := #[.val (.long vr), .second, .val (.long cr), .second, .val (.int sh), .val (.int rp), .val (.long (Int64.ofNat V)), .second, .val (.long (Int64.ofNat C)), .second, .val (.int (Int32.ofNat 1)), .val (.int (Int32.ofNat S1)), .val (.int (Int32.ofNat S2)), .val (.int (Int32.ofNat mo)), .val (.int c), .val (.int (Int32.ofNat N)), .val (.int (Int32.ofNat O)), .val (.int (Int32.ofNat (O + N + 1))), .val (.ref a6), .val (.long (capF (Int64.ofNat C) cs)), .second, .val (.long (Int64.ofNat C)), .second, .val (.long (10 : Int64)), .second, .val (.long (Int64.ofNat S1)), .second, .val (.int (1 : Int32))]) (S' := [.int (XT.cmpL (capF (Int64.ofNat C) cs) (Int64.ofNat C))]) rfl ?_
              refine G.ifne (o := (7)) (pc' := 869) (by decide +kernel) (by decide) rfl (fun q129 => absurd (cmp_zero.mpr (key.trans (congrArg Int64.ofNat (if_pos ab)))) q129) ?_
              intro _
              refine G.seg [(865, .iconst 1, 1), (866, .goto 4, 3)] (by decide +kernel) (pc' := 870) (L' := #[.val (.long vr), .second, .val (.long cr), .second, .val (.int sh), .val (.int rp), .val (.long (Int64.ofNat V)), .second, .val (.long (Int64.ofNat C)), .second, .val (.int (Int32.ofNat 1)), .val (.int (Int32.ofNat S1)), .val (.int (Int32.ofNat S2)), .val (.int (Int32.ofNat mo)), .val (.int c), .val (.int (Int32.ofNat N)), .val (.int (Int32.ofNat O)), .val (.int (Int32.ofNat (O + N + 1))), .val (.ref a6), .val (.long (capF (Int64.ofNat C) cs)), .second, .val (.long (Int64.ofNat C)), .second, .val (.long (10 : Int64)), .second, .val (.long (Int64.ofNat S1)), .second, .val (.int (1 : Int32))]) (S' := [.int (1 : Int32)]) rfl ?_
              exact G.retN (by decide +kernel) rfl (Or.inl rfl) rfl rfl (lb rfl) (lb rfl)
            · intro q127
              refine G.seg [(816, .lload 6, 2), (818, .lload 8, 2), (820, .lload 25, 2), (822, .lsub, 1), (823, .lload 23, 2), (825, .ldiv, 1), (826, .lcmp, 1)] (by decide +kernel) (pc' := 827) (L' := #[.val (.long vr), .second, .val (.long cr), .second, .val (.int sh), .val (.int rp), .val (.long (Int64.ofNat V)), .second, .val (.long (Int64.ofNat C)), .second, .val (.int (Int32.ofNat 1)), .val (.int (Int32.ofNat S1)), .val (.int (Int32.ofNat S2)), .val (.int (Int32.ofNat mo)), .val (.int c), .val (.int (Int32.ofNat N)), .val (.int (Int32.ofNat O)), .val (.int (Int32.ofNat (O + N + 1))), .val (.ref a6), .val (.long (capF (Int64.ofNat C) cs)), .second, .unset, .unset, .val (.long (10 : Int64)), .second, .val (.long (Int64.ofNat S1)), .second, .unset]) (S' := [.int (XT.cmpL (Int64.ofNat V) (((Int64.ofNat C) - (Int64.ofNat S1)) / (10 : Int64)))]) rfl ?_
              refine G.ifle (o := (7)) (pc' := 834) (by decide +kernel) (by decide) rfl ?_ ?_
              · intro q130
                have nb : ¬ C < V * 10 ^ 1 + sdN 1 S1 S2 := fun z => q130 ((above_ok (p := 10) (sd := S1) hC hV (by omega) (Or.inr (Or.inl rfl)) q127).mpr z)
                refine G.seg [(834, .iconst 0, 1), (835, .istore 27, 2)] (by decide +kernel) (pc' := 837) (L' := #[.val (.long vr), .second, .val (.long cr), .second, .val (.int sh), .val (.int rp), .val (.long (Int64.ofNat V)), .second, .val (.long (Int64.ofNat C)), .second, .val (.int (Int32.ofNat 1)), .val (.int (Int32.ofNat S1)), .val (.int (Int32.ofNat S2)), .val (.int (Int32.ofNat mo)), .val (.int c), .val (.int (Int32.ofNat N)), .val (.int (Int32.ofNat O)), .val (.int (Int32.ofNat (O + N + 1))), .val (.ref a6), .val (.long (capF (Int64.ofNat C) cs)), .second, .unset, .unset, .val (.long (10 : Int64)), .second, .val (.long (Int64.ofNat S1)), .second, .val (.int (0 : Int32))]) (S' := []) rfl ?_
                refine G.seg [(837, .iload 27, 2)] (by decide +kernel) (pc' := 839) (L' := #[.val (.long vr), .second, .val (.long cr), .second, .val (.int sh), .val (.int rp), .val (.long (Int64.ofNat V)), .second, .val (.long (Int64.ofNat C)), .second, .val (.int (Int32.ofNat 1)), .val (.int (Int32.ofNat S1)), .val (.int (Int32.ofNat S2)), .val (.int (Int32.ofNat mo)), .val (.int c), .val (.int (Int32.ofNat N)), .val (.int (Int32.ofNat O)), .val (.int (Int32.ofNat (O + N + 1))), .val (.ref a6), .val (.long (capF (Int64.ofNat C) cs)), .second, .unset, .unset, .val (.long (10 : Int64)), .second, .val (.long (Int64.ofNat S1)), .second, .val (.int (0 : Int32))]) (S' := [.int (0 : Int32)]) rfl ?_
                refine G.ifeq (o := (8)) (pc' := 847) (by decide +kernel) (by decide) rfl ?_ (fun q131 => absurd rfl q131)
                intro _
                refine G.seg [(847, .lload 6, 2), (849, .lload 23, 2), (851, .lmul, 1), (852, .lload 25, 2), (854, .ladd, 1), (855, .lstore 21, 2)] (by decide +kernel) (pc' := 857) (L' := #[.val (.long vr), .second, .val (.long cr), .second, .val (.int sh), .val (.int rp), .val (.long (Int64.ofNat V)), .second, .val (.long (Int64.ofNat C)), .second, .val (.int (Int32.ofNat 1)), .val (.int (Int32.ofNat S1)), .val (.int (Int32.ofNat S2)), .val (.int (Int32.ofNat mo)), .val (.int c), .val (.int (Int32.ofNat N)), .val (.int (Int32.ofNat O)), .val (.int (Int32.ofNat (O + N + 1))), .val (.ref a6), .val (.long (capF (Int64.ofNat C) cs)), .second, .val (.long (((Int64.ofNat V) * (10 : Int64)) + (Int64.ofNat S1))), .second, .val (.long (10 : Int64)), .second, .val (.long (Int64.ofNat S1)), .second, .val (.int (0 : Int32))]) (S' := []) rfl ?_
                refine G.seg [(857, .lload 19, 2), (859, .lload 21, 2), (861, .lcmp, 1)] (by decide +kernel) (pc' := 862) (L' := #[.val (.long vr), .second, .val (.long cr), .second, .val (.int sh), .val (.int rp), .val (.long (Int64.ofNat V)), .second, .val (.long (Int64.ofNat C)), .second, .val (.int (Int32.ofNat 1)), .val (.int (Int32.ofNat S1)), .val (.int (Int32.ofNat S2)), .val (.int (Int32.ofNat mo)), .val (.int c), .val (.int (Int32.ofNat N)), .val (.int (Int32.ofNat O)), .val (.int (Int32.ofNat (O + N + 1))), .val (.ref a6), .val (.long (capF (Int64.ofNat C) cs)), .second, .val (.long (((Int64.ofNat V) * (10 : Int64)) + (Int64.ofNat S1))), .second, .val (.long (10 : Int64)), .second, .val (.long (Int64.ofNat S1)), .second, .val (.int (0 : Int32))]) (S' := [.int (XT.cmpL (capF (Int64.ofNat C) cs) (((Int64.ofNat V) * (10 : Int64)) + (Int64.ofNat S1)))]) rfl ?_
                refine G.ifne (o := (7)) (pc' := 869) (by decide +kernel) (by decide) rfl (fun q132 => absurd (cmp_zero.mpr (key.trans ((congrArg Int64.ofNat (if_neg nb)).trans (by rw [Int64.ofNat_add, Int64.ofNat_mul]; rfl)))) q132) ?_
                intro _
                refine G.seg [(865, .iconst 1, 1), (866, .goto 4, 3)] (by decide +kernel) (pc' := 870) (L' := #[.val (.long vr), .second, .val (.long cr), .second, .val (.int sh), .val (.int rp), .val (.long (Int64.ofNat V)), .second, .val (.long (Int64.ofNat C)), .second, .val (.int (Int32.ofNat 1)), .val (.int (Int32.ofNat S1)), .val (.int (Int32.ofNat S2)), .val (.int (Int32.ofNat mo)), .val (.int c), .val (.int (Int32.ofNat N)), .val (.int (Int32.ofNat O)), .val (.int (Int32.ofNat (O + N + 1))), .val (.ref a6), .val (.long (capF (Int64.ofNat C) cs)), .second, .val (.long (((Int64.ofNat V) * (10 : Int64)) + (Int64.ofNat S1))), .second, .val (.long (10 : Int64)), .second, .val (.long (Int64.ofNat S1)), .second, .val (.int (0 : Int32))]) (S' := [.int (1 : Int32)]) rfl ?_
                exact G.retN (by decide +kernel) rfl (Or.inl rfl) rfl rfl (lb rfl) (lb rfl)
              · intro q130
                have ab : C < V * 10 ^ 1 + sdN 1 S1 S2 := (above_ok (p := 10) (sd := S1) hC hV (by omega) (Or.inr (Or.inl rfl)) q127).mp q130
                refine G.seg [(830, .iconst 1, 1), (831, .goto 4, 3), (835, .istore 27, 2)] (by decide +kernel) (pc' := 837) (L' := #[.val (.long vr), .second, .val (.long cr), .second, .val (.int sh), .val (.int rp), .val (.long (Int64.ofNat V)), .second, .val (.long (Int64.ofNat C)), .second, .val (.int (Int32.ofNat 1)), .val (.int (Int32.ofNat S1)), .val (.int (Int32.ofNat S2)), .val (.int (Int32.ofNat mo)), .val (.int c), .val (.int (Int32.ofNat N)), .val (.int (Int32.ofNat O)), .val (.int (Int32.ofNat (O + N + 1))), .val (.ref a6), .val (.long (capF (Int64.ofNat C) cs)), .second, .unset, .unset, .val (.long (10 : Int64)), .second, .val (.long (Int64.ofNat S1)), .second, .val (.int (1 : Int32))]) (S' := []) rfl ?_
                refine G.seg [(837, .iload 27, 2)] (by decide +kernel) (pc' := 839) (L' := #[.val (.long vr), .second, .val (.long cr), .second, .val (.int sh), .val (.int rp), .val (.long (Int64.ofNat V)), .second, .val (.long (Int64.ofNat C)), .second, .val (.int (Int32.ofNat 1)), .val (.int (Int32.ofNat S1)), .val (.int (Int32.ofNat S2)), .val (.int (Int32.ofNat mo)), .val (.int c), .val (.int (Int32.ofNat N)), .val (.int (Int32.ofNat O)), .val (.int (Int32.ofNat (O + N + 1))), .val (.ref a6), .val (.long (capF (Int64.ofNat C) cs)), .second, .unset, .unset, .val (.long (10 : Int64)), .second, .val (.long (Int64.ofNat S1)), .second, .val (.int (1 : Int32))]) (S' := [.int (1 : Int32)]) rfl ?_
                refine G.ifeq (o := (8)) (pc' := 847) (by decide +kernel) (by decide) rfl (fun q133 => absurd q133 (by decide)) ?_
                intro _
                refine G.seg [(842, .lload 8, 2), (844, .goto 11, 3), (855, .lstore 21, 2)] (by decide +kernel) (pc' := 857) (L' := #[.val (.long vr), .second, .val (.long cr), .second, .val (.int sh), .val (.int rp), .val (.long (Int64.ofNat V)), .second, .val (.long (Int64.ofNat C)), .second, .val (.int (Int32.ofNat 1)), .val (.int (Int32.ofNat S1)), .val (.int (Int32.ofNat S2)), .val (.int (Int32.ofNat mo)), .val (.int c), .val (.int (Int32.ofNat N)), .val (.int (Int32.ofNat O)), .val (.int (Int32.ofNat (O + N + 1))), .val (.ref a6), .val (.long (capF (Int64.ofNat C) cs)), .second, .val (.long (Int64.ofNat C)), .second, .val (.long (10 : Int64)), .second, .val (.long (Int64.ofNat S1)), .second, .val (.int (1 : Int32))]) (S' := []) rfl ?_
                refine G.seg [(857, .lload 19, 2), (859, .lload 21, 2), (861, .lcmp, 1)] (by decide +kernel) (pc' := 862) (L' := #[.val (.long vr), .second, .val (.long cr), .second, .val (.int sh), .val (.int rp), .val (.long (Int64.ofNat V)), .second, .val (.long (Int64.ofNat C)), .second, .val (.int (Int32.ofNat 1)), .val (.int (Int32.ofNat S1)), .val (.int (Int32.ofNat S2)), .val (.int (Int32.ofNat mo)), .val (.int c), .val (.int (Int32.ofNat N)), .val (.int (Int32.ofNat O)), .val (.int (Int32.ofNat (O + N + 1))), .val (.ref a6), .val (.long (capF (Int64.ofNat C) cs)), .second, .val (.long (Int64.ofNat C)), .second, .val (.long (10 : Int64)), .second, .val (.long (Int64.ofNat S1)), .second, .val (.int (1 : Int32))]) (S' := [.int (XT.cmpL (capF (Int64.ofNat C) cs) (Int64.ofNat C))]) rfl ?_
                refine G.ifne (o := (7)) (pc' := 869) (by decide +kernel) (by decide) rfl (fun q134 => absurd (cmp_zero.mpr (key.trans (congrArg Int64.ofNat (if_pos ab)))) q134) ?_
                intro _
                refine G.seg [(865, .iconst 1, 1), (866, .goto 4, 3)] (by decide +kernel) (pc' := 870) (L' := #[.val (.long vr), .second, .val (.long cr), .second, .val (.int sh), .val (.int rp), .val (.long (Int64.ofNat V)), .second, .val (.long (Int64.ofNat C)), .second, .val (.int (Int32.ofNat 1)), .val (.int (Int32.ofNat S1)), .val (.int (Int32.ofNat S2)), .val (.int (Int32.ofNat mo)), .val (.int c), .val (.int (Int32.ofNat N)), .val (.int (Int32.ofNat O)), .val (.int (Int32.ofNat (O + N + 1))), .val (.ref a6), .val (.long (capF (Int64.ofNat C) cs)), .second, .val (.long (Int64.ofNat C)), .second, .val (.long (10 : Int64)), .second, .val (.long (Int64.ofNat S1)), .second, .val (.int (1 : Int32))]) (S' := [.int (1 : Int32)]) rfl ?_
                exact G.retN (by decide +kernel) rfl (Or.inl rfl) rfl rfl (lb rfl) (lb rfl)
          · refine G.seg [(748, .iload 10, 2)] (by decide +kernel) (pc' := 750) (L' := #[.val (.long vr), .second, .val (.long cr), .second, .val (.int sh), .val (.int rp), .val (.long (Int64.ofNat V)), .second, .val (.long (Int64.ofNat C)), .second, .val (.int (Int32.ofNat 2)), .val (.int (Int32.ofNat S1)), .val (.int (Int32.ofNat S2)), .val (.int (Int32.ofNat mo)), .val (.int c), .val (.int (Int32.ofNat N)), .val (.int (Int32.ofNat O)), .val (.int (Int32.ofNat (O + N + 2))), .val (.ref a6), .val (.long (capF (Int64.ofNat C) cs)), .second, .unset, .unset, .unset, .unset, .unset, .unset, .unset]) (S' := [.int (Int32.ofNat 2)]) rfl ?_
            refine G.ifne (o := (7)) (pc' := 757) (by decide +kernel) (by decide) rfl ?_ (fun q135 => absurd q135 (by decide))
            intro _
            refine G.seg [(757, .iload 10, 2), (759, .iconst 1, 1)] (by decide +kernel) (pc' := 760) (L' := #[.val (.long vr), .second, .val (.long cr), .second, .val (.int sh), .val (.int rp), .val (.long (Int64.ofNat V)), .second, .val (.long (Int64.ofNat C)), .second, .val (.int (Int32.ofNat 2)), .val (.int (Int32.ofNat S1)), .val (.int (Int32.ofNat S2)), .val (.int (Int32.ofNat mo)), .val (.int c), .val (.int (Int32.ofNat N)), .val (.int (Int32.ofNat O)), .val (.int (Int32.ofNat (O + N + 2))), .val (.ref a6), .val (.long (capF (Int64.ofNat C) cs)), .second, .unset, .unset, .unset, .unset, .unset, .unset, .unset]) (S' := [.int (1 : Int32), .int (Int32.ofNat 2)]) rfl ?_
            refine G.icne (o := (9)) (pc' := 769) (by decide +kernel) (by decide) rfl ?_ (fun q136 => absurd q136 (by decide))
            intro _
            refine G.ldcJ (by decide +kernel) (tw 11 rfl) ?_
            refine G.seg [(772, .lstore 23, 2)] (by decide +kernel) (pc' := 774) (L' := #[.val (.long vr), .second, .val (.long cr), .second, .val (.int sh), .val (.int rp), .val (.long (Int64.ofNat V)), .second, .val (.long (Int64.ofNat C)), .second, .val (.int (Int32.ofNat 2)), .val (.int (Int32.ofNat S1)), .val (.int (Int32.ofNat S2)), .val (.int (Int32.ofNat mo)), .val (.int c), .val (.int (Int32.ofNat N)), .val (.int (Int32.ofNat O)), .val (.int (Int32.ofNat (O + N + 2))), .val (.ref a6), .val (.long (capF (Int64.ofNat C) cs)), .second, .unset, .unset, .val (.long (100 : Int64)), .second, .unset, .unset, .unset]) (S' := []) rfl ?_
            refine G.seg [(774, .iload 10, 2)] (by decide +kernel) (pc' := 776) (L' := #[.val (.long vr), .second, .val (.long cr), .second, .val (.int sh), .val (.int rp), .val (.long (Int64.ofNat V)), .second, .val (.long (Int64.ofNat C)), .second, .val (.int (Int32.ofNat 2)), .val (.int (Int32.ofNat S1)), .val (.int (Int32.ofNat S2)), .val (.int (Int32.ofNat mo)), .val (.int c), .val (.int (Int32.ofNat N)), .val (.int (Int32.ofNat O)), .val (.int (Int32.ofNat (O + N + 2))), .val (.ref a6), .val (.long (capF (Int64.ofNat C) cs)), .second, .unset, .unset, .val (.long (100 : Int64)), .second, .unset, .unset, .unset]) (S' := [.int (Int32.ofNat 2)]) rfl ?_
            refine G.ifne (o := (7)) (pc' := 783) (by decide +kernel) (by decide) rfl ?_ (fun q137 => absurd q137 (by decide))
            intro _
            refine G.seg [(783, .iload 10, 2), (785, .iconst 1, 1)] (by decide +kernel) (pc' := 786) (L' := #[.val (.long vr), .second, .val (.long cr), .second, .val (.int sh), .val (.int rp), .val (.long (Int64.ofNat V)), .second, .val (.long (Int64.ofNat C)), .second, .val (.int (Int32.ofNat 2)), .val (.int (Int32.ofNat S1)), .val (.int (Int32.ofNat S2)), .val (.int (Int32.ofNat mo)), .val (.int c), .val (.int (Int32.ofNat N)), .val (.int (Int32.ofNat O)), .val (.int (Int32.ofNat (O + N + 2))), .val (.ref a6), .val (.long (capF (Int64.ofNat C) cs)), .second, .unset, .unset, .val (.long (100 : Int64)), .second, .unset, .unset, .unset]) (S' := [.int (1 : Int32), .int (Int32.ofNat 2)]) rfl ?_
            refine G.icne (o := (9)) (pc' := 795) (by decide +kernel) (by decide) rfl ?_ (fun q138 => absurd q138 (by decide))
            intro _
            refine G.seg [(795, .iload 11, 2), (797, .i2l, 1)] (by decide +kernel) (pc' := 798) (L' := #[.val (.long vr), .second, .val (.long cr), .second, .val (.int sh), .val (.int rp), .val (.long (Int64.ofNat V)), .second, .val (.long (Int64.ofNat C)), .second, .val (.int (Int32.ofNat 2)), .val (.int (Int32.ofNat S1)), .val (.int (Int32.ofNat S2)), .val (.int (Int32.ofNat mo)), .val (.int c), .val (.int (Int32.ofNat N)), .val (.int (Int32.ofNat O)), .val (.int (Int32.ofNat (O + N + 2))), .val (.ref a6), .val (.long (capF (Int64.ofNat C) cs)), .second, .unset, .unset, .val (.long (100 : Int64)), .second, .unset, .unset, .unset]) (S' := [.long ((Int32.ofNat S1).toInt64)]) rfl ?_
            refine G.ldcJ (by decide +kernel) (tw 10 rfl) ?_
            refine G.seg [(801, .lmul, 1), (802, .iload 12, 2), (804, .i2l, 1), (805, .ladd, 1)] (by decide +kernel) (pc' := 806) (L' := #[.val (.long vr), .second, .val (.long cr), .second, .val (.int sh), .val (.int rp), .val (.long (Int64.ofNat V)), .second, .val (.long (Int64.ofNat C)), .second, .val (.int (Int32.ofNat 2)), .val (.int (Int32.ofNat S1)), .val (.int (Int32.ofNat S2)), .val (.int (Int32.ofNat mo)), .val (.int c), .val (.int (Int32.ofNat N)), .val (.int (Int32.ofNat O)), .val (.int (Int32.ofNat (O + N + 2))), .val (.ref a6), .val (.long (capF (Int64.ofNat C) cs)), .second, .unset, .unset, .val (.long (100 : Int64)), .second, .unset, .unset, .unset]) (S' := [.long ((((Int32.ofNat S1).toInt64) * (10 : Int64)) + ((Int32.ofNat S2).toInt64))]) rfl ?_
            rw [sd2 hS1 hS2]
            refine G.seg [(806, .lstore 25, 2)] (by decide +kernel) (pc' := 808) (L' := #[.val (.long vr), .second, .val (.long cr), .second, .val (.int sh), .val (.int rp), .val (.long (Int64.ofNat V)), .second, .val (.long (Int64.ofNat C)), .second, .val (.int (Int32.ofNat 2)), .val (.int (Int32.ofNat S1)), .val (.int (Int32.ofNat S2)), .val (.int (Int32.ofNat mo)), .val (.int c), .val (.int (Int32.ofNat N)), .val (.int (Int32.ofNat O)), .val (.int (Int32.ofNat (O + N + 2))), .val (.ref a6), .val (.long (capF (Int64.ofNat C) cs)), .second, .unset, .unset, .val (.long (100 : Int64)), .second, .val (.long (Int64.ofNat (S1 * 10 + S2))), .second, .unset]) (S' := []) rfl ?_
            refine G.seg [(808, .lload 8, 2), (810, .lload 25, 2), (812, .lcmp, 1)] (by decide +kernel) (pc' := 813) (L' := #[.val (.long vr), .second, .val (.long cr), .second, .val (.int sh), .val (.int rp), .val (.long (Int64.ofNat V)), .second, .val (.long (Int64.ofNat C)), .second, .val (.int (Int32.ofNat 2)), .val (.int (Int32.ofNat S1)), .val (.int (Int32.ofNat S2)), .val (.int (Int32.ofNat mo)), .val (.int c), .val (.int (Int32.ofNat N)), .val (.int (Int32.ofNat O)), .val (.int (Int32.ofNat (O + N + 2))), .val (.ref a6), .val (.long (capF (Int64.ofNat C) cs)), .second, .unset, .unset, .val (.long (100 : Int64)), .second, .val (.long (Int64.ofNat (S1 * 10 + S2))), .second, .unset]) (S' := [.int (XT.cmpL (Int64.ofNat C) (Int64.ofNat (S1 * 10 + S2)))]) rfl ?_
            refine G.iflt (o := (17)) (pc' := 830) (by decide +kernel) (by decide) rfl ?_ ?_
            · intro q139
              have ab : C < V * 10 ^ 2 + sdN 2 S1 S2 := by have := (c64n (b := (S1 * 10 + S2)) hC (by omega)).mp q139; show C < V * 100 + (S1 * 10 + S2); omega
              refine G.seg [(830, .iconst 1, 1), (831, .goto 4, 3), (835, .istore 27, 2)] (by decide +kernel) (pc' := 837) (L' := #[.val (.long vr), .second, .val (.long cr), .second, .val (.int sh), .val (.int rp), .val (.long (Int64.ofNat V)), .second, .val (.long (Int64.ofNat C)), .second, .val (.int (Int32.ofNat 2)), .val (.int (Int32.ofNat S1)), .val (.int (Int32.ofNat S2)), .val (.int (Int32.ofNat mo)), .val (.int c), .val (.int (Int32.ofNat N)), .val (.int (Int32.ofNat O)), .val (.int (Int32.ofNat (O + N + 2))), .val (.ref a6), .val (.long (capF (Int64.ofNat C) cs)), .second, .unset, .unset, .val (.long (100 : Int64)), .second, .val (.long (Int64.ofNat (S1 * 10 + S2))), .second, .val (.int (1 : Int32))]) (S' := []) rfl ?_
              refine G.seg [(837, .iload 27, 2)] (by decide +kernel) (pc' := 839) (L' := #[.val (.long vr), .second, .val (.long cr), .second, .val (.int sh), .val (.int rp), .val (.long (Int64.ofNat V)), .second, .val (.long (Int64.ofNat C)), .second, .val (.int (Int32.ofNat 2)), .val (.int (Int32.ofNat S1)), .val (.int (Int32.ofNat S2)), .val (.int (Int32.ofNat mo)), .val (.int c), .val (.int (Int32.ofNat N)), .val (.int (Int32.ofNat O)), .val (.int (Int32.ofNat (O + N + 2))), .val (.ref a6), .val (.long (capF (Int64.ofNat C) cs)), .second, .unset, .unset, .val (.long (100 : Int64)), .second, .val (.long (Int64.ofNat (S1 * 10 + S2))), .second, .val (.int (1 : Int32))]) (S' := [.int (1 : Int32)]) rfl ?_
              refine G.ifeq (o := (8)) (pc' := 847) (by decide +kernel) (by decide) rfl (fun q140 => absurd q140 (by decide)) ?_
              intro _
              refine G.seg [(842, .lload 8, 2), (844, .goto 11, 3), (855, .lstore 21, 2)] (by decide +kernel) (pc' := 857) (L' := #[.val (.long vr), .second, .val (.long cr), .second, .val (.int sh), .val (.int rp), .val (.long (Int64.ofNat V)), .second, .val (.long (Int64.ofNat C)), .second, .val (.int (Int32.ofNat 2)), .val (.int (Int32.ofNat S1)), .val (.int (Int32.ofNat S2)), .val (.int (Int32.ofNat mo)), .val (.int c), .val (.int (Int32.ofNat N)), .val (.int (Int32.ofNat O)), .val (.int (Int32.ofNat (O + N + 2))), .val (.ref a6), .val (.long (capF (Int64.ofNat C) cs)), .second, .val (.long (Int64.ofNat C)), .second, .val (.long (100 : Int64)), .second, .val (.long (Int64.ofNat (S1 * 10 + S2))), .second, .val (.int (1 : Int32))]) (S' := []) rfl ?_
              refine G.seg [(857, .lload 19, 2), (859, .lload 21, 2), (861, .lcmp, 1)] (by decide +kernel) (pc' := 862) (L' := #[.val (.long vr), .second, .val (.long cr), .second, .val (.int sh), .val (.int rp), .val (.long (Int64.ofNat V)), .second, .val (.long (Int64.ofNat C)), .second, .val (.int (Int32.ofNat 2)), .val (.int (Int32.ofNat S1)), .val (.int (Int32.ofNat S2)), .val (.int (Int32.ofNat mo)), .val (.int c), .val (.int (Int32.ofNat N)), .val (.int (Int32.ofNat O)), .val (.int (Int32.ofNat (O + N + 2))), .val (.ref a6), .val (.long (capF (Int64.ofNat C) cs)), .second, .val (.long (Int64.ofNat C)), .second, .val (.long (100 : Int64)), .second, .val (.long (Int64.ofNat (S1 * 10 + S2))), .second, .val (.int (1 : Int32))]) (S' := [.int (XT.cmpL (capF (Int64.ofNat C) cs) (Int64.ofNat C))]) rfl ?_
              refine G.ifne (o := (7)) (pc' := 869) (by decide +kernel) (by decide) rfl (fun q141 => absurd (cmp_zero.mpr (key.trans (congrArg Int64.ofNat (if_pos ab)))) q141) ?_
              intro _
              refine G.seg [(865, .iconst 1, 1), (866, .goto 4, 3)] (by decide +kernel) (pc' := 870) (L' := #[.val (.long vr), .second, .val (.long cr), .second, .val (.int sh), .val (.int rp), .val (.long (Int64.ofNat V)), .second, .val (.long (Int64.ofNat C)), .second, .val (.int (Int32.ofNat 2)), .val (.int (Int32.ofNat S1)), .val (.int (Int32.ofNat S2)), .val (.int (Int32.ofNat mo)), .val (.int c), .val (.int (Int32.ofNat N)), .val (.int (Int32.ofNat O)), .val (.int (Int32.ofNat (O + N + 2))), .val (.ref a6), .val (.long (capF (Int64.ofNat C) cs)), .second, .val (.long (Int64.ofNat C)), .second, .val (.long (100 : Int64)), .second, .val (.long (Int64.ofNat (S1 * 10 + S2))), .second, .val (.int (1 : Int32))]) (S' := [.int (1 : Int32)]) rfl ?_
              exact G.retN (by decide +kernel) rfl (Or.inl rfl) rfl rfl (lb rfl) (lb rfl)
            · intro q139
              refine G.seg [(816, .lload 6, 2), (818, .lload 8, 2), (820, .lload 25, 2), (822, .lsub, 1), (823, .lload 23, 2), (825, .ldiv, 1), (826, .lcmp, 1)] (by decide +kernel) (pc' := 827) (L' := #[.val (.long vr), .second, .val (.long cr), .second, .val (.int sh), .val (.int rp), .val (.long (Int64.ofNat V)), .second, .val (.long (Int64.ofNat C)), .second, .val (.int (Int32.ofNat 2)), .val (.int (Int32.ofNat S1)), .val (.int (Int32.ofNat S2)), .val (.int (Int32.ofNat mo)), .val (.int c), .val (.int (Int32.ofNat N)), .val (.int (Int32.ofNat O)), .val (.int (Int32.ofNat (O + N + 2))), .val (.ref a6), .val (.long (capF (Int64.ofNat C) cs)), .second, .unset, .unset, .val (.long (100 : Int64)), .second, .val (.long (Int64.ofNat (S1 * 10 + S2))), .second, .unset]) (S' := [.int (XT.cmpL (Int64.ofNat V) (((Int64.ofNat C) - (Int64.ofNat (S1 * 10 + S2))) / (100 : Int64)))]) rfl ?_
              refine G.ifle (o := (7)) (pc' := 834) (by decide +kernel) (by decide) rfl ?_ ?_
              · intro q142
                have nb : ¬ C < V * 10 ^ 2 + sdN 2 S1 S2 := fun z => q142 ((above_ok (p := 100) (sd := (S1 * 10 + S2)) hC hV (by omega) (Or.inr (Or.inr rfl)) q139).mpr z)
                refine G.seg [(834, .iconst 0, 1), (835, .istore 27, 2)] (by decide +kernel) (pc' := 837) (L' := #[.val (.long vr), .second, .val (.long cr), .second, .val (.int sh), .val (.int rp), .val (.long (Int64.ofNat V)), .second, .val (.long (Int64.ofNat C)), .second, .val (.int (Int32.ofNat 2)), .val (.int (Int32.ofNat S1)), .val (.int (Int32.ofNat S2)), .val (.int (Int32.ofNat mo)), .val (.int c), .val (.int (Int32.ofNat N)), .val (.int (Int32.ofNat O)), .val (.int (Int32.ofNat (O + N + 2))), .val (.ref a6), .val (.long (capF (Int64.ofNat C) cs)), .second, .unset, .unset, .val (.long (100 : Int64)), .second, .val (.long (Int64.ofNat (S1 * 10 + S2))), .second, .val (.int (0 : Int32))]) (S' := []) rfl ?_
                refine G.seg [(837, .iload 27, 2)] (by decide +kernel) (pc' := 839) (L' := #[.val (.long vr), .second, .val (.long cr), .second, .val (.int sh), .val (.int rp), .val (.long (Int64.ofNat V)), .second, .val (.long (Int64.ofNat C)), .second, .val (.int (Int32.ofNat 2)), .val (.int (Int32.ofNat S1)), .val (.int (Int32.ofNat S2)), .val (.int (Int32.ofNat mo)), .val (.int c), .val (.int (Int32.ofNat N)), .val (.int (Int32.ofNat O)), .val (.int (Int32.ofNat (O + N + 2))), .val (.ref a6), .val (.long (capF (Int64.ofNat C) cs)), .second, .unset, .unset, .val (.long (100 : Int64)), .second, .val (.long (Int64.ofNat (S1 * 10 + S2))), .second, .val (.int (0 : Int32))]) (S' := [.int (0 : Int32)]) rfl ?_
                refine G.ifeq (o := (8)) (pc' := 847) (by decide +kernel) (by decide) rfl ?_ (fun q143 => absurd rfl q143)
                intro _
                refine G.seg [(847, .lload 6, 2), (849, .lload 23, 2), (851, .lmul, 1), (852, .lload 25, 2), (854, .ladd, 1), (855, .lstore 21, 2)] (by decide +kernel) (pc' := 857) (L' := #[.val (.long vr), .second, .val (.long cr), .second, .val (.int sh), .val (.int rp), .val (.long (Int64.ofNat V)), .second, .val (.long (Int64.ofNat C)), .second, .val (.int (Int32.ofNat 2)), .val (.int (Int32.ofNat S1)), .val (.int (Int32.ofNat S2)), .val (.int (Int32.ofNat mo)), .val (.int c), .val (.int (Int32.ofNat N)), .val (.int (Int32.ofNat O)), .val (.int (Int32.ofNat (O + N + 2))), .val (.ref a6), .val (.long (capF (Int64.ofNat C) cs)), .second, .val (.long (((Int64.ofNat V) * (100 : Int64)) + (Int64.ofNat (S1 * 10 + S2)))), .second, .val (.long (100 : Int64)), .second, .val (.long (Int64.ofNat (S1 * 10 + S2))), .second, .val (.int (0 : Int32))]) (S' := []) rfl ?_
                refine G.seg [(857, .lload 19, 2), (859, .lload 21, 2), (861, .lcmp, 1)] (by decide +kernel) (pc' := 862) (L' := #[.val (.long vr), .second, .val (.long cr), .second, .val (.int sh), .val (.int rp), .val (.long (Int64.ofNat V)), .second, .val (.long (Int64.ofNat C)), .second, .val (.int (Int32.ofNat 2)), .val (.int (Int32.ofNat S1)), .val (.int (Int32.ofNat S2)), .val (.int (Int32.ofNat mo)), .val (.int c), .val (.int (Int32.ofNat N)), .val (.int (Int32.ofNat O)), .val (.int (Int32.ofNat (O + N + 2))), .val (.ref a6), .val (.long (capF (Int64.ofNat C) cs)), .second, .val (.long (((Int64.ofNat V) * (100 : Int64)) + (Int64.ofNat (S1 * 10 + S2)))), .second, .val (.long (100 : Int64)), .second, .val (.long (Int64.ofNat (S1 * 10 + S2))), .second, .val (.int (0 : Int32))]) (S' := [.int (XT.cmpL (capF (Int64.ofNat C) cs) (((Int64.ofNat V) * (100 : Int64)) + (Int64.ofNat (S1 * 10 + S2))))]) rfl ?_
                refine G.ifne (o := (7)) (pc' := 869) (by decide +kernel) (by decide) rfl (fun q144 => absurd (cmp_zero.mpr (key.trans ((congrArg Int64.ofNat (if_neg nb)).trans (by rw [Int64.ofNat_add, Int64.ofNat_mul]; rfl)))) q144) ?_
                intro _
                refine G.seg [(865, .iconst 1, 1), (866, .goto 4, 3)] (by decide +kernel) (pc' := 870) (L' := #[.val (.long vr), .second, .val (.long cr), .second, .val (.int sh), .val (.int rp), .val (.long (Int64.ofNat V)), .second, .val (.long (Int64.ofNat C)), .second, .val (.int (Int32.ofNat 2)), .val (.int (Int32.ofNat S1)), .val (.int (Int32.ofNat S2)), .val (.int (Int32.ofNat mo)), .val (.int c), .val (.int (Int32.ofNat N)), .val (.int (Int32.ofNat O)), .val (.int (Int32.ofNat (O + N + 2))), .val (.ref a6), .val (.long (capF (Int64.ofNat C) cs)), .second, .val (.long (((Int64.ofNat V) * (100 : Int64)) + (Int64.ofNat (S1 * 10 + S2)))), .second, .val (.long (100 : Int64)), .second, .val (.long (Int64.ofNat (S1 * 10 + S2))), .second, .val (.int (0 : Int32))]) (S' := [.int (1 : Int32)]) rfl ?_
                exact G.retN (by decide +kernel) rfl (Or.inl rfl) rfl rfl (lb rfl) (lb rfl)
              · intro q142
                have ab : C < V * 10 ^ 2 + sdN 2 S1 S2 := (above_ok (p := 100) (sd := (S1 * 10 + S2)) hC hV (by omega) (Or.inr (Or.inr rfl)) q139).mp q142
                refine G.seg [(830, .iconst 1, 1), (831, .goto 4, 3), (835, .istore 27, 2)] (by decide +kernel) (pc' := 837) (L' := #[.val (.long vr), .second, .val (.long cr), .second, .val (.int sh), .val (.int rp), .val (.long (Int64.ofNat V)), .second, .val (.long (Int64.ofNat C)), .second, .val (.int (Int32.ofNat 2)), .val (.int (Int32.ofNat S1)), .val (.int (Int32.ofNat S2)), .val (.int (Int32.ofNat mo)), .val (.int c), .val (.int (Int32.ofNat N)), .val (.int (Int32.ofNat O)), .val (.int (Int32.ofNat (O + N + 2))), .val (.ref a6), .val (.long (capF (Int64.ofNat C) cs)), .second, .unset, .unset, .val (.long (100 : Int64)), .second, .val (.long (Int64.ofNat (S1 * 10 + S2))), .second, .val (.int (1 : Int32))]) (S' := []) rfl ?_
                refine G.seg [(837, .iload 27, 2)] (by decide +kernel) (pc' := 839) (L' := #[.val (.long vr), .second, .val (.long cr), .second, .val (.int sh), .val (.int rp), .val (.long (Int64.ofNat V)), .second, .val (.long (Int64.ofNat C)), .second, .val (.int (Int32.ofNat 2)), .val (.int (Int32.ofNat S1)), .val (.int (Int32.ofNat S2)), .val (.int (Int32.ofNat mo)), .val (.int c), .val (.int (Int32.ofNat N)), .val (.int (Int32.ofNat O)), .val (.int (Int32.ofNat (O + N + 2))), .val (.ref a6), .val (.long (capF (Int64.ofNat C) cs)), .second, .unset, .unset, .val (.long (100 : Int64)), .second, .val (.long (Int64.ofNat (S1 * 10 + S2))), .second, .val (.int (1 : Int32))]) (S' := [.int (1 : Int32)]) rfl ?_
                refine G.ifeq (o := (8)) (pc' := 847) (by decide +kernel) (by decide) rfl (fun q145 => absurd q145 (by decide)) ?_
                intro _
                refine G.seg [(842, .lload 8, 2), (844, .goto 11, 3), (855, .lstore 21, 2)] (by decide +kernel) (pc' := 857) (L' := #[.val (.long vr), .second, .val (.long cr), .second, .val (.int sh), .val (.int rp), .val (.long (Int64.ofNat V)), .second, .val (.long (Int64.ofNat C)), .second, .val (.int (Int32.ofNat 2)), .val (.int (Int32.ofNat S1)), .val (.int (Int32.ofNat S2)), .val (.int (Int32.ofNat mo)), .val (.int c), .val (.int (Int32.ofNat N)), .val (.int (Int32.ofNat O)), .val (.int (Int32.ofNat (O + N + 2))), .val (.ref a6), .val (.long (capF (Int64.ofNat C) cs)), .second, .val (.long (Int64.ofNat C)), .second, .val (.long (100 : Int64)), .second, .val (.long (Int64.ofNat (S1 * 10 + S2))), .second, .val (.int (1 : Int32))]) (S' := []) rfl ?_
                refine G.seg [(857, .lload 19, 2), (859, .lload 21, 2), (861, .lcmp, 1)] (by decide +kernel) (pc' := 862) (L' := #[.val (.long vr), .second, .val (.long cr), .second, .val (.int sh), .val (.int rp), .val (.long (Int64.ofNat V)), .second, .val (.long (Int64.ofNat C)), .second, .val (.int (Int32.ofNat 2)), .val (.int (Int32.ofNat S1)), .val (.int (Int32.ofNat S2)), .val (.int (Int32.ofNat mo)), .val (.int c), .val (.int (Int32.ofNat N)), .val (.int (Int32.ofNat O)), .val (.int (Int32.ofNat (O + N + 2))), .val (.ref a6), .val (.long (capF (Int64.ofNat C) cs)), .second, .val (.long (Int64.ofNat C)), .second, .val (.long (100 : Int64)), .second, .val (.long (Int64.ofNat (S1 * 10 + S2))), .second, .val (.int (1 : Int32))]) (S' := [.int (XT.cmpL (capF (Int64.ofNat C) cs) (Int64.ofNat C))]) rfl ?_
                refine G.ifne (o := (7)) (pc' := 869) (by decide +kernel) (by decide) rfl (fun q146 => absurd (cmp_zero.mpr (key.trans (congrArg Int64.ofNat (if_pos ab)))) q146) ?_
                intro _
                refine G.seg [(865, .iconst 1, 1), (866, .goto 4, 3)] (by decide +kernel) (pc' := 870) (L' := #[.val (.long vr), .second, .val (.long cr), .second, .val (.int sh), .val (.int rp), .val (.long (Int64.ofNat V)), .second, .val (.long (Int64.ofNat C)), .second, .val (.int (Int32.ofNat 2)), .val (.int (Int32.ofNat S1)), .val (.int (Int32.ofNat S2)), .val (.int (Int32.ofNat mo)), .val (.int c), .val (.int (Int32.ofNat N)), .val (.int (Int32.ofNat O)), .val (.int (Int32.ofNat (O + N + 2))), .val (.ref a6), .val (.long (capF (Int64.ofNat C) cs)), .second, .val (.long (Int64.ofNat C)), .second, .val (.long (100 : Int64)), .second, .val (.long (Int64.ofNat (S1 * 10 + S2))), .second, .val (.int (1 : Int32))]) (S' := [.int (1 : Int32)]) rfl ?_
                exact G.retN (by decide +kernel) rfl (Or.inl rfl) rfl rfl (lb rfl) (lb rfl)
        · intro q112
          have kp : 0 < K := (ltN (a := 0) (by decide) (by omega)).mp q112
          have v0 : V = 0 := by have := congrArg Int64.toInt (cmp_zero.mp q77); rw [Int64.toInt_ofNat_of_lt hV] at this; have e0 : (0 : Int64).toInt = 0 := rfl; omega
          have hz1 : capF (Int64.ofNat C) cs = -1 := by rw [ecs, v0]; exact cap_zero (cs := TT 0 0 (dgs 18 0) K S1 S2) rfl (by rw [TT_len hK]; show 1 < 0 + 1 + K; omega) _
          refine G.ldcJ (by decide +kernel) (tw 113 rfl) ?_
          refine G.seg [(743, .lstore 21, 2)] (by decide +kernel) (pc' := 745) (L' := #[.val (.long vr), .second, .val (.long cr), .second, .val (.int sh), .val (.int rp), .val (.long (Int64.ofNat V)), .second, .val (.long (Int64.ofNat C)), .second, .val (.int (Int32.ofNat K)), .val (.int (Int32.ofNat S1)), .val (.int (Int32.ofNat S2)), .val (.int (Int32.ofNat mo)), .val (.int c), .val (.int (Int32.ofNat N)), .val (.int (Int32.ofNat O)), .val (.int (Int32.ofNat (O + N + K))), .val (.ref a6), .val (.long (capF (Int64.ofNat C) cs)), .second, .val (.long (-1 : Int64)), .second, .unset, .unset, .unset, .unset, .unset]) (S' := []) rfl ?_
          refine G.seg [(745, .goto 112, 3)] (by decide +kernel) (pc' := 857) (L' := #[.val (.long vr), .second, .val (.long cr), .second, .val (.int sh), .val (.int rp), .val (.long (Int64.ofNat V)), .second, .val (.long (Int64.ofNat C)), .second, .val (.int (Int32.ofNat K)), .val (.int (Int32.ofNat S1)), .val (.int (Int32.ofNat S2)), .val (.int (Int32.ofNat mo)), .val (.int c), .val (.int (Int32.ofNat N)), .val (.int (Int32.ofNat O)), .val (.int (Int32.ofNat (O + N + K))), .val (.ref a6), .val (.long (capF (Int64.ofNat C) cs)), .second, .val (.long (-1 : Int64)), .second, .unset, .unset, .unset, .unset, .unset]) (S' := []) rfl ?_
          refine G.seg [(857, .lload 19, 2), (859, .lload 21, 2), (861, .lcmp, 1)] (by decide +kernel) (pc' := 862) (L' := #[.val (.long vr), .second, .val (.long cr), .second, .val (.int sh), .val (.int rp), .val (.long (Int64.ofNat V)), .second, .val (.long (Int64.ofNat C)), .second, .val (.int (Int32.ofNat K)), .val (.int (Int32.ofNat S1)), .val (.int (Int32.ofNat S2)), .val (.int (Int32.ofNat mo)), .val (.int c), .val (.int (Int32.ofNat N)), .val (.int (Int32.ofNat O)), .val (.int (Int32.ofNat (O + N + K))), .val (.ref a6), .val (.long (capF (Int64.ofNat C) cs)), .second, .val (.long (-1 : Int64)), .second, .unset, .unset, .unset, .unset, .unset]) (S' := [.int (XT.cmpL (capF (Int64.ofNat C) cs) (-1 : Int64))]) rfl ?_
          refine G.ifne (o := (7)) (pc' := 869) (by decide +kernel) (by decide) rfl (fun q147 => absurd (cmp_zero.mpr hz1) q147) ?_
          intro _
          refine G.seg [(865, .iconst 1, 1), (866, .goto 4, 3)] (by decide +kernel) (pc' := 870) (L' := #[.val (.long vr), .second, .val (.long cr), .second, .val (.int sh), .val (.int rp), .val (.long (Int64.ofNat V)), .second, .val (.long (Int64.ofNat C)), .second, .val (.int (Int32.ofNat K)), .val (.int (Int32.ofNat S1)), .val (.int (Int32.ofNat S2)), .val (.int (Int32.ofNat mo)), .val (.int c), .val (.int (Int32.ofNat N)), .val (.int (Int32.ofNat O)), .val (.int (Int32.ofNat (O + N + K))), .val (.ref a6), .val (.long (capF (Int64.ofNat C) cs)), .second, .val (.long (-1 : Int64)), .second, .unset, .unset, .unset, .unset, .unset]) (S' := [.int (1 : Int32)]) rfl ?_
          exact G.retN (by decide +kernel) rfl (Or.inl rfl) rfl rfl (lb rfl) (lb rfl)
  · intro q3
    refine G.new (by decide +kernel) (tw 32 rfl) (tw 33 rfl) (tw 34 rfl) (lb rfl) (lb rfl) ?_
    intro h148 a148 g148 n148 K148 E148 D148
    refine G.seg [(114, .dup, 1), (115, .iconst 0, 1)] (by decide +kernel) (pc' := 116) (L' := #[.val (.long vr), .second, .val (.long cr), .second, .val (.int sh), .val (.int rp), .val (.long (Int64.ofNat V)), .second, .val (.long (Int64.ofNat C)), .second, .val (.int (Int32.ofNat K)), .val (.int (Int32.ofNat S1)), .val (.int (Int32.ofNat S2)), .val (.int (Int32.ofNat mo)), .val (.int c), .unset, .unset, .unset, .unset, .unset, .unset, .unset, .unset, .unset, .unset, .unset, .unset, .unset]) (S' := [.int (0 : Int32), .ref a148, .ref a148]) rfl ?_
    refine G.newarr (aty := .char) (ty := .char) (cap := 0) rfl (by decide +kernel) (tw 28 rfl) (by decide) (lb rfl) (lb rfl) (lb rfl) (lb rfl) ?_
    intro h149 a149 k149 g149 n149 K149 A149
    refine G.special (y := N1) (a := a148) (argsL := [.ref a149]) (rest := [.ref a148]) (W := 1) rfl (by decide +kernel) (tw 35 rfl) (tw 36 rfl) (tw 37 rfl) (by decide)
      (newStr (cs := []) sw1 swE hm7 n148 (E148.keep K149) ((D148 (Or.inr (tw 60 rfl)) (ty := .array .byte) (by decide)).keep K149 nin0) ((D148 (Or.inr (tw 58 rfl)) (ty := .byte) (by decide)).keep K149 nin0) A149 hCS (lat0) (lb rfl) (lb rfl) (lb rfl)) (lenOf pdN1 rfl) rfl (Nat.le_of_eq rfl) rfl (lb rfl) (lb rfl) ?_
    rintro _ h150 ⟨rfl, K150, F150⟩
    have KS150 : Keep h h150 [] := ((K148.trans K149 all0).trans K150 (allS (Or.inr (Nat.le_of_eq g148.symm)) all0))
    refine G.seg [(121, .lload 8, 2)] (by decide +kernel) (pc' := 123) (L' := #[.val (.long vr), .second, .val (.long cr), .second, .val (.int sh), .val (.int rp), .val (.long (Int64.ofNat V)), .second, .val (.long (Int64.ofNat C)), .second, .val (.int (Int32.ofNat K)), .val (.int (Int32.ofNat S1)), .val (.int (Int32.ofNat S2)), .val (.int (Int32.ofNat mo)), .val (.int c), .unset, .unset, .unset, .unset, .unset, .unset, .unset, .unset, .unset, .unset, .unset, .unset, .unset]) (S' := [.long (Int64.ofNat C), .ref a148]) rfl ?_
    refine G.static (y := ⟨"com/example/mynah/mynah/PlainDecimal", "parseCapped", "(Ljava/lang/String;J)J"⟩) (argsL := [.ref a148, .long (Int64.ofNat C)]) (rest := []) (W := 0) (by decide +kernel) (tw 61 rfl) (tw 62 rfl) (tw 63 rfl) (tw 64 rfl) (by decide) ((capC l Z a0 n0 h150 a148 [] (Int64.ofNat C) (Or.inl F150) hCS hU hFM).pays (tw 64 rfl) (tw 63 rfl) (lb rfl) (lb rfl)) (lenOf pd17 rfl) rfl (Nat.le_of_eq rfl) rfl (lb rfl) (lb rfl) ?_
    rintro _ h151 ⟨rfl, rfl⟩
    refine G.ldcJ (by decide +kernel) (tw 113 rfl) ?_
    refine G.seg [(129, .lcmp, 1)] (by decide +kernel) (pc' := 130) (L' := #[.val (.long vr), .second, .val (.long cr), .second, .val (.int sh), .val (.int rp), .val (.long (Int64.ofNat V)), .second, .val (.long (Int64.ofNat C)), .second, .val (.int (Int32.ofNat K)), .val (.int (Int32.ofNat S1)), .val (.int (Int32.ofNat S2)), .val (.int (Int32.ofNat mo)), .val (.int c), .unset, .unset, .unset, .unset, .unset, .unset, .unset, .unset, .unset, .unset, .unset, .unset, .unset]) (S' := [.int (XT.cmpL (capF (Int64.ofNat C) []) (-1 : Int64))]) rfl ?_
    refine G.ifne (o := (7)) (pc' := 137) (by decide +kernel) (by decide) rfl (fun q152 => absurd (cmp_zero.mpr rfl) q152) ?_
    intro _
    refine G.seg [(133, .iconst 1, 1), (134, .goto 4, 3)] (by decide +kernel) (pc' := 138) (L' := #[.val (.long vr), .second, .val (.long cr), .second, .val (.int sh), .val (.int rp), .val (.long (Int64.ofNat V)), .second, .val (.long (Int64.ofNat C)), .second, .val (.int (Int32.ofNat K)), .val (.int (Int32.ofNat S1)), .val (.int (Int32.ofNat S2)), .val (.int (Int32.ofNat mo)), .val (.int c), .unset, .unset, .unset, .unset, .unset, .unset, .unset, .unset, .unset, .unset, .unset, .unset, .unset]) (S' := [.int (1 : Int32)]) rfl ?_
    exact G.retN (by decide +kernel) rfl (Or.inl rfl) rfl rfl (lb rfl) (lb rfl)

set_option maxRecDepth 65536 in
set_option maxHeartbeats 4000000 in
theorem comes_1 {Post : Tables → Env → Array Value → State → Outcome → State → Prop} (hpost : ∀ tb e args s v u, (limb_1_1.after args s (.returned v) u = true ∧ limb_1_2.after args s (.returned v) u = true ∧ True) → ReturnedEndW s (.returned v) u (Jvm.fieldLocs frame_1_writes args s ++ Jvm.arrayLocs frame_1_arrays args s ++ Jvm.staticLocs frame_1_statics s) room_1.cells room_1.slots → Post tb e args s (.returned v) u) :
    ArmFor flags0 classFile x code maxLocals ret World_1 tables_1 room_1 Calls_1 rest_1 Pre_1 Post := by
  intro l hfl _ _ p e ha hc hk s m args below hf hA hF happ hP
  obtain ⟨hcalls, hrest, hpre⟩ := hP
  obtain ⟨-, -, -, hnamed, -, -, -, hat⟩ := (Spec.applies_iff hf).mp happ
  obtain ⟨hg, hn⟩ := and_e (Cond.before_iff.mp (show (Jvm.Cond.and given_1 narrow_1).before args s = true from hpre))
  obtain ⟨hcount, hz0⟩ := and_e hg
  obtain ⟨ha0, hz1⟩ := and_e hz0
  obtain ⟨ha1, hz2⟩ := and_e hz1
  obtain ⟨ha2, hz3⟩ := and_e hz2
  have ha3 := hz3
  obtain ⟨w0, w1, w2, w3, rfl⟩ : ∃ w0 w1 w2 w3 : Value, args = #[w0, w1, w2, w3] := by
    have hs : args.size = 4 := by simpa [Cond.value, given_1] using hcount
    obtain ⟨L⟩ := args
    match L, hs with
    | [w0, w1, w2, w3], _ => exact ⟨w0, w1, w2, w3, rfl⟩
  obtain ⟨i0, e0⟩ := isL_v ha0
  obtain rfl : w0 = (.long i0) := Option.some.inj e0
  obtain ⟨i1, e1⟩ := isL_v ha1
  obtain rfl : w1 = (.long i1) := Option.some.inj e1
  obtain ⟨i2, e2⟩ := is_v ha2
  obtain rfl : w2 = (.int i2) := Option.some.inj e2
  obtain ⟨i3, e3⟩ := is_v ha3
  obtain rfl : w3 = (.int i3) := Option.some.inj e3
  have hw := fun d (hd : d ∈ tables_1) => atoms_spec (ws := Jvm.Cond.code x code maxLocals ret :: tables_1) hat d (List.mem_cons_of_mem _ hd)
  obtain ⟨hsets, hown0⟩ := atoms_of _ (rest_1_c_eq ▸ (show rest_1_c.before _ s = true from hrest))
  have n5 := not_v (Cond.before_iff.mp (hsets _ (List.mem_of_getElem? (i := 2) rfl)))
  obtain ⟨iC, eC⟩ := is_v (Cond.before_iff.mp (hsets _ (List.mem_of_getElem? (i := 1) rfl)))
  have hCS : CS s := ⟨iC, Sta.start eC (Or.inl (hsets _ (List.mem_of_getElem? (i := 0) rfl))), gotF (Cond.eq_ints eC (Term.int_eval (0))) n5⟩
  obtain ⟨vF, eF, rF⟩ := isR_v (Cond.before_iff.mp (hsets _ (List.mem_of_getElem? (i := 8) rfl)))
  have hFM : FM s := ⟨vF, Sta.start eF (Or.inl (hsets _ (List.mem_of_getElem? (i := 7) rfl))), rF⟩
  have hUS : US s := ⟨Sta.start (eq_v_int (Term.int_eval (1)) (Cond.before_iff.mp (hsets _ (List.mem_of_getElem? (i := 12) rfl)))) (Or.inl (hsets _ (List.mem_of_getElem? (i := 11) rfl))), Sta.start (eq_v_int (Term.int_eval (0)) (Cond.before_iff.mp (hsets _ (List.mem_of_getElem? (i := 15) rfl)))) (Or.inl (hsets _ (List.mem_of_getElem? (i := 14) rfl))), Sta.start (eq_v_int (Term.int_eval (8)) (Cond.before_iff.mp (hsets _ (List.mem_of_getElem? (i := 18) rfl)))) (Or.inl (hsets _ (List.mem_of_getElem? (i := 17) rfl)))⟩
  have hEL : EW s #[.long i0, .long i1, .int i2, .int i3] consts_1 := EW.cons (hw _ (tw 109 rfl)) (by decide) (EW.nil)
  have hCH : CHv s consts_1 s.vm s.heap := CHv.start hEL (fun p hp => hcalls.1 p hp) (hsets _ (List.mem_of_getElem? (i := 2) rfl)) (hw _ (tw 50 rfl)) (hw _ (tw 33 rfl))
  obtain ⟨n, o, h1, h2, h3, v, L, rfl, ⟨N, -, rfl⟩, -, hR, hWm⟩ := (lawC l s _ s.heap.size s.heap i0 i1 i2 i3 hCS hUS hFM) hEL hw (Old.start s) p e ha hc hk s m _ below hf ((Spec.applies_iff_loose hf).mp happ).1 ⟨rfl, State.Warmed39.refl s, rfl, hCH⟩ trivial
  exact ⟨n, _, h1, h2, h3, hpost _ _ _ _ _ _ ⟨Cond.after_iff.mpr rfl, Cond.after_iff.mpr (eq_i res_at (Term.int_eval (1)) rfl), trivial⟩ ⟨hR.1, hR.2.1, hR.2.2.1, (hR.2.2.2.sift fun y hy => Or.inr (N y hy)).mono (Nat.le_refl _) (Nat.le_refl _)⟩⟩
theorem main_1_1 : Claimed_1_1 := comes_1 fun _ _ _ _ _ _ h hF => ⟨h.1, hF⟩
theorem main_1_2 : Claimed_1_2 := comes_1 fun _ _ _ _ _ _ h hF => ⟨h.2.1, hF⟩

end Jvm.Pilot.@@N@@
namespace Jvm.Pilot.@@N@@
open Jvm Jvm.ClassFile Sem Op Lib Jvm.Free Jvm.Stand Jvm.Pilot.@@N@@.Jvm.D
/-! MADE BY PROGRAM (witnessworld.py) out of the Statement's table words and the real class files: 23 classes; the members and pool entries that the words name. The judged class is class 1, her method 4. -/
namespace start1
open Jvm.ClassFile
def u (s : String) : CpInfo := .utf8 (stringToUtf16 s)
/-- a pool by its gaps: so many unusable entries, then the entry; so many at the end -/
def gap : Nat → List CpInfo → List CpInfo
  | 0, r => r
  | n + 1, r => .unusable :: gap n r
def poolList (es : List (Nat × CpInfo)) (last : Nat) : List CpInfo := es.foldr (fun e r => gap e.1 (e.2 :: r)) (gap last [])
def pool (es : List (Nat × CpInfo)) (last : Nat) : Array CpInfo := ⟨poolList es last⟩
def fileOf (pool : Array CpInfo) (this : Nat) (attrs : Array Attribute := #[]) (ms : Array MethodInfo := #[]) (fl : Nat := 33) (sup : Nat := 0) (ifs : Array Nat := #[]) (fds : Array FieldInfo := #[]) : ClassFile where
  minorVersion := 0
  majorVersion := 65
  constantPool := pool
  accessFlags := fl
  thisClass := this
  superClass := sup
  interfaces := ifs
  fields := fds
  methods := ms
  attributes := attrs
def plain (name : String) (sup : Option ClassId) : Class where
  name := name
  kind := .ordinary
  loader := none
  accessFlags := 33
  super := sup
  interfaces := #[]
  cf := none
  fields := #[]
  methods := #[]
  instanceTypes := #[]
  staticTypes := #[]
  resolved := #[]
  callSites := []
  init := .initialized
  statics := none
  mirror := none

def pool0 : Array CpInfo := pool [(5, u "<init>"), (0, u "()V"), (1, .class_ 10), (1, u "java/lang/Object")] 113

def k0c0 : Code := { maxStack := 0, maxLocals := 1, code := object_method_1_code, exceptionTable := #[], attributes := #[] }
def k0m0 : Method := { name := "<init>", desc := "()V", sig := { parameters := [], returnType := none }, accessFlags := 1, code := some k0c0 }
/-- java/lang/Object -/
def k0 : Class := { plain "java/lang/Object" none with
  accessFlags := 33
  interfaces := #[]
  cf := some (fileOf pool0 8 #[] #[{ accessFlags := 1, nameIndex := 5, descriptorIndex := 6, attributes := #[] }] 33 0 #[] #[])
  fields := #[]
  methods := #[k0m0]
  instanceTypes := #[]
  staticTypes := #[]
  resolved := Array.replicate 124 none
  statics := none }

def pool1 : Array CpInfo := pool [(2, .class_ 4), (1, u "java/lang/Object"), (0, u "<init>"), (0, u "()V"), (0, .long 10), (1, .long 100), (1, .long 1000), (1, .long 10000), (1, .long 100000), (1, .long 1000000), (1, .long 10000000), (1, .long 100000000), (1, .long 1000000000), (1, .long 10000000000), (1, .long 100000000000), (1, .long 1000000000000), (1, .long 10000000000000), (1, .long 100000000000000), (1, .long 1000000000000000), (1, .long 10000000000000000), (1, .long 100000000000000000), (1, .long 1000000000000000000), (1, .methodref 44 45), (0, .class_ 46), (0, .nameAndType 47 48), (0, u "com/example/mynah/mynah/PlainDecimalParseCappedPinLaw"), (0, u "p10"), (0, u "(I)J"), (2, .long 9223372036854775807), (1, .integer 65535), (0, .class_ 55), (0, u "java/lang/String"), (0, .methodref 54 57), (0, .nameAndType 5 58), (0, u "([C)V"), (0, .methodref 60 61), (0, .class_ 62), (0, .nameAndType 63 64), (0, u "com/example/mynah/mynah/PlainDecimal"), (0, u "parseCapped"), (0, u "(Ljava/lang/String;J)J"), (0, .long 18446744073709551615), (1, .methodref 44 68), (0, .nameAndType 69 70), (0, u "digits"), (0, u "(J)I"), (0, .methodref 44 72), (0, .nameAndType 73 74), (0, u "dig"), (0, u "(JI)C"), (3, u "law"), (0, u "(JJII)Z")] 4

def k1m0 : Method := { name := "<init>", desc := "()V", sig := { parameters := [], returnType := none }, accessFlags := 2, code := none }
def k1c1 : Code := { maxStack := 5, maxLocals := 2, code := method_2_code, exceptionTable := #[], attributes := #[] }
def k1m1 : Method := { name := "p10", desc := "(I)J", sig := { parameters := [.int], returnType := some .long }, accessFlags := 10, code := some k1c1 }
def k1c2 : Code := { maxStack := 4, maxLocals := 3, code := method_3_code, exceptionTable := #[], attributes := #[] }
def k1m2 : Method := { name := "digits", desc := "(J)I", sig := { parameters := [.long], returnType := some .int }, accessFlags := 10, code := some k1c2 }
def k1c3 : Code := { maxStack := 5, maxLocals := 3, code := method_4_code, exceptionTable := #[], attributes := #[] }
def k1m3 : Method := { name := "dig", desc := "(JI)C", sig := { parameters := [.long, .int], returnType := some .char }, accessFlags := 10, code := some k1c3 }
def k1c4 : Code := { maxStack := 6, maxLocals := 28, code := code, exceptionTable := #[], attributes := #[] }
def k1m4 : Method := { name := "law", desc := "(JJII)Z", sig := { parameters := [.long, .long, .int, .int], returnType := some .boolean }, accessFlags := 9, code := some k1c4 }
/-- com/example/mynah/mynah/PlainDecimalParseCappedPinLaw -/
def k1 : Class := { plain "com/example/mynah/mynah/PlainDecimalParseCappedPinLaw" (some 0) with
  accessFlags := 49
  interfaces := #[]
  cf := some (fileOf pool1 44 #[] #[{ accessFlags := 2, nameIndex := 5, descriptorIndex := 6, attributes := #[] }, { accessFlags := 10, nameIndex := 47, descriptorIndex := 48, attributes := #[] }, { accessFlags := 10, nameIndex := 69, descriptorIndex := 70, attributes := #[] }, { accessFlags := 10, nameIndex := 73, descriptorIndex := 74, attributes := #[] }, { accessFlags := 9, nameIndex := 78, descriptorIndex := 79, attributes := #[] }] 49 2 #[] #[])
  fields := #[]
  methods := #[k1m0, k1m1, k1m2, k1m3, k1m4]
  instanceTypes := #[]
  staticTypes := #[]
  resolved := Array.replicate 84 none
  statics := none }

def pool2 : Array CpInfo := pool [(1, .class_ 2), (0, u "java/io/Serializable"), (0, .class_ 4), (0, u "java/lang/Object")] 2

/-- java/io/Serializable -/
def k2 : Class := { plain "java/io/Serializable" (some 0) with
  accessFlags := 1537
  interfaces := #[]
  cf := some (fileOf pool2 1 #[] #[] 1537 3 #[] #[])
  fields := #[]
  methods := #[]
  instanceTypes := #[]
  staticTypes := #[]
  resolved := Array.replicate 7 none
  statics := none }

def pool3 : Array CpInfo := pool [(1, .class_ 2), (0, u "java/lang/Comparable"), (0, .class_ 4), (0, u "java/lang/Object")] 7

/-- java/lang/Comparable -/
def k3 : Class := { plain "java/lang/Comparable" (some 0) with
  accessFlags := 1537
  interfaces := #[]
  cf := some (fileOf pool3 1 #[] #[] 1537 3 #[] #[])
  fields := #[]
  methods := #[]
  instanceTypes := #[]
  staticTypes := #[]
  resolved := Array.replicate 12 none
  statics := none }

def pool4 : Array CpInfo := pool [(2, .class_ 4), (1, u "java/lang/CharSequence"), (42, .class_ 48), (0, u "java/lang/CharSequence$1CodePointIterator"), (10, .class_ 60), (0, u "java/lang/CharSequence$1CharIterator"), (5, .class_ 67), (0, u "java/lang/Object")] 63

/-- java/lang/CharSequence -/
def k4 : Class := { plain "java/lang/CharSequence" (some 0) with
  accessFlags := 1537
  interfaces := #[]
  cf := some (fileOf pool4 2 #[.nestMembers #[47, 59]] #[] 1537 66 #[] #[])
  fields := #[]
  methods := #[]
  instanceTypes := #[]
  staticTypes := #[]
  resolved := Array.replicate 131 none
  statics := none }

def pool5 : Array CpInfo := pool [(1, .class_ 2), (0, u "java/lang/constant/Constable"), (0, .class_ 4), (0, u "java/lang/Object")] 6

/-- java/lang/constant/Constable -/
def k5 : Class := { plain "java/lang/constant/Constable" (some 0) with
  accessFlags := 1537
  interfaces := #[]
  cf := some (fileOf pool5 1 #[] #[] 1537 3 #[] #[])
  fields := #[]
  methods := #[]
  instanceTypes := #[]
  staticTypes := #[]
  resolved := Array.replicate 11 none
  statics := none }

def pool6 : Array CpInfo := pool [(1, .class_ 2), (0, u "java/lang/constant/ConstantDesc"), (0, .class_ 4), (0, u "java/lang/Object")] 32

/-- java/lang/constant/ConstantDesc -/
def k6 : Class := { plain "java/lang/constant/ConstantDesc" (some 0) with
  accessFlags := 1537
  interfaces := #[]
  cf := some (fileOf pool6 1 #[] #[] 1537 3 #[] #[])
  fields := #[]
  methods := #[]
  instanceTypes := #[]
  staticTypes := #[]
  resolved := Array.replicate 37 none
  statics := none }

def pool7 : Array CpInfo := pool [(1, .methodref 2 3), (0, .class_ 4), (0, .nameAndType 5 6), (0, u "java/lang/Object"), (0, u "<init>"), (0, u "()V"), (0, .string 8), (0, u ""), (0, .fieldref 10 11), (0, .class_ 12), (0, .nameAndType 13 14), (0, u "java/lang/String"), (0, u "value"), (0, u "[B"), (0, .fieldref 10 16), (0, .nameAndType 17 18), (0, u "coder"), (0, u "B"), (2, u "hash"), (0, u "I"), (2, u "hashIsZero"), (0, u "Z"), (0, .methodref 10 28), (0, .nameAndType 5 29), (0, u "([CIILjava/lang/Void;)V"), (8, .fieldref 10 39), (0, .nameAndType 40 26), (0, u "COMPACT_STRINGS"), (1, .class_ 44), (1, u "java/lang/StringUTF16"), (0, u "compress"), (1, .methodref 42 48), (0, .nameAndType 49 50), (0, u "coderFromArrayLen"), (0, u "([BI)B"), (56, .class_ 109), (1, u "java/lang/StringLatin1"), (32, u "()Z"), (34, .methodref 42 178), (0, .nameAndType 45 179), (0, u "([CII)[B"), (154, u "()I"), (0, .methodref 10 336), (0, .nameAndType 17 337), (0, u "()B"), (25, u "([BI)C"), (27, u "(II)V"), (35, u "(I)C"), (64, .methodref 10 493), (0, .nameAndType 494 142), (0, u "isLatin1"), (0, .methodref 107 496), (0, .nameAndType 497 363), (0, u "charAt"), (0, .methodref 42 496), (2, u "checkIndex"), (5, u "length"), (67, .class_ 576), (0, u "java/lang/CharSequence"), (22, u "CASE_INSENSITIVE_ORDER"), (0, u "Ljava/util/Comparator;"), (409, u "([C)V"), (42, .fieldref 1054 1055), (0, .class_ 1056), (0, .nameAndType 1057 1058), (0, u "jdk/internal/util/Preconditions"), (0, u "SIOOBE_FORMATTER"), (0, u "Ljava/util/function/BiFunction;"), (0, .methodref 1054 1060), (0, .nameAndType 501 1061), (0, u "(IILjava/util/function/BiFunction;)I"), (39, u "serialPersistentFields"), (0, u "[Ljava/io/ObjectStreamField;"), (0, .class_ 1104), (0, u "java/lang/String$CaseInsensitiveComparator"), (1, .class_ 1107), (0, u "java/io/Serializable"), (0, .class_ 1109), (0, u "java/lang/Comparable"), (0, .class_ 1111), (0, u "java/lang/constant/Constable"), (0, .class_ 1113), (0, u "java/lang/constant/ConstantDesc"), (2, u "serialVersionUID"), (0, u "J"), (3, u "REPL"), (0, u "C"), (2, u "LATIN1"), (1, u "UTF16")] 323

def k7m0 : Method := { name := "<init>", desc := "()V", sig := { parameters := [], returnType := none }, accessFlags := 1, code := none }
def k7c1 : Code := { maxStack := 5, maxLocals := 2, code := jdk_42_method_3_code, exceptionTable := #[], attributes := #[] }
def k7m1 : Method := { name := "<init>", desc := "([C)V", sig := { parameters := [(.array .char)], returnType := none }, accessFlags := 1, code := some k7c1 }
def k7c2 : Code := { maxStack := 2, maxLocals := 1, code := jdk_42_method_54_code, exceptionTable := #[], attributes := #[] }
def k7m2 : Method := { name := "length", desc := "()I", sig := { parameters := [], returnType := some .int }, accessFlags := 1, code := some k7c2 }
def k7c3 : Code := { maxStack := 2, maxLocals := 2, code := jdk_42_method_56_code, exceptionTable := #[], attributes := #[] }
def k7m3 : Method := { name := "charAt", desc := "(I)C", sig := { parameters := [.int], returnType := some .char }, accessFlags := 1, code := some k7c3 }
def k7c4 : Code := { maxStack := 4, maxLocals := 6, code := jdk_42_method_149_code, exceptionTable := #[], attributes := #[] }
def k7m4 : Method := { name := "<init>", desc := "([CIILjava/lang/Void;)V", sig := { parameters := [(.array .char), .int, .int, (.object "java/lang/Void")], returnType := none }, accessFlags := 2, code := some k7c4 }
def k7c5 : Code := { maxStack := 1, maxLocals := 1, code := jdk_42_method_152_code, exceptionTable := #[], attributes := #[] }
def k7m5 : Method := { name := "coder", desc := "()B", sig := { parameters := [], returnType := some .byte }, accessFlags := 0, code := some k7c5 }
def k7c6 : Code := { maxStack := 1, maxLocals := 1, code := jdk_42_method_154_code, exceptionTable := #[], attributes := #[] }
def k7m6 : Method := { name := "isLatin1", desc := "()Z", sig := { parameters := [], returnType := some .boolean }, accessFlags := 0, code := some k7c6 }
def k7c7 : Code := { maxStack := 3, maxLocals := 2, code := jdk_42_method_155_code, exceptionTable := #[], attributes := #[] }
def k7m7 : Method := { name := "checkIndex", desc := "(II)V", sig := { parameters := [.int, .int], returnType := none }, accessFlags := 8, code := some k7c7 }
/-- java/lang/String -/
def k7 : Class := { plain "java/lang/String" (some 0) with
  accessFlags := 49
  interfaces := #[2, 3, 4, 5, 6]
  cf := some (fileOf pool7 10 #[.nestMembers #[1103]] #[{ accessFlags := 1, nameIndex := 5, descriptorIndex := 6, attributes := #[] }, { accessFlags := 1, nameIndex := 5, descriptorIndex := 1010, attributes := #[] }, { accessFlags := 1, nameIndex := 507, descriptorIndex := 334, attributes := #[] }, { accessFlags := 1, nameIndex := 497, descriptorIndex := 427, attributes := #[] }, { accessFlags := 2, nameIndex := 5, descriptorIndex := 29, attributes := #[] }, { accessFlags := 0, nameIndex := 17, descriptorIndex := 337, attributes := #[] }, { accessFlags := 0, nameIndex := 494, descriptorIndex := 142, attributes := #[] }, { accessFlags := 8, nameIndex := 501, descriptorIndex := 391, attributes := #[] }] 49 2 #[1106, 1108, 575, 1110, 1112] #[{ accessFlags := 18, nameIndex := 13, descriptorIndex := 14, attributes := #[] }, { accessFlags := 18, nameIndex := 17, descriptorIndex := 18, attributes := #[] }, { accessFlags := 2, nameIndex := 21, descriptorIndex := 22, attributes := #[] }, { accessFlags := 2, nameIndex := 25, descriptorIndex := 26, attributes := #[] }, { accessFlags := 26, nameIndex := 1116, descriptorIndex := 1117, attributes := #[] }, { accessFlags := 24, nameIndex := 40, descriptorIndex := 26, attributes := #[] }, { accessFlags := 26, nameIndex := 1101, descriptorIndex := 1102, attributes := #[] }, { accessFlags := 26, nameIndex := 1121, descriptorIndex := 1122, attributes := #[] }, { accessFlags := 25, nameIndex := 599, descriptorIndex := 600, attributes := #[] }, { accessFlags := 24, nameIndex := 1125, descriptorIndex := 18, attributes := #[] }, { accessFlags := 24, nameIndex := 1127, descriptorIndex := 18, attributes := #[] }])
  fields := #[{ name := "value", type := (.array .byte), accessFlags := 18, slot := 0, constantValue := 0 }, { name := "coder", type := .byte, accessFlags := 18, slot := 1, constantValue := 0 }, { name := "hash", type := .int, accessFlags := 2, slot := 2, constantValue := 0 }, { name := "hashIsZero", type := .boolean, accessFlags := 2, slot := 3, constantValue := 0 }, { name := "serialVersionUID", type := .long, accessFlags := 26, slot := 0, constantValue := 0 }, { name := "COMPACT_STRINGS", type := .boolean, accessFlags := 24, slot := 1, constantValue := 0 }, { name := "serialPersistentFields", type := (.array (.object "java/io/ObjectStreamField")), accessFlags := 26, slot := 2, constantValue := 0 }, { name := "REPL", type := .char, accessFlags := 26, slot := 3, constantValue := 0 }, { name := "CASE_INSENSITIVE_ORDER", type := (.object "java/util/Comparator"), accessFlags := 25, slot := 4, constantValue := 0 }, { name := "LATIN1", type := .byte, accessFlags := 24, slot := 5, constantValue := 0 }, { name := "UTF16", type := .byte, accessFlags := 24, slot := 6, constantValue := 0 }]
  methods := #[k7m0, k7m1, k7m2, k7m3, k7m4, k7m5, k7m6, k7m7]
  instanceTypes := #[(.array .byte), .byte, .int, .boolean]
  staticTypes := #[.long, .boolean, (.array (.object "java/io/ObjectStreamField")), .char, (.object "java/util/Comparator"), .byte, .byte]
  resolved := Array.replicate 1451 none
  statics := some 0 }

def pool8 : Array CpInfo := pool [(3, .class_ 4), (0, u "java/lang/String"), (1, .class_ 8), (1, u "java/lang/Object"), (0, u "<init>"), (0, u "()V"), (0, .methodref 12 13), (0, .class_ 14), (0, .nameAndType 15 16), (0, u "java/lang/StringUTF16"), (0, u "newBytesLength"), (0, u "(I)I"), (3, .integer 1073741823), (23, .fieldref 12 45), (0, .nameAndType 46 47), (0, u "$assertionsDisabled"), (0, u "Z"), (0, .methodref 12 49), (0, .nameAndType 50 51), (0, u "length"), (0, u "([B)I"), (7, .fieldref 12 60), (0, .nameAndType 61 62), (0, u "HI_BYTE_SHIFT"), (0, u "I"), (0, .fieldref 12 64), (0, .nameAndType 65 62), (0, u "LO_BYTE_SHIFT"), (1, .methodref 12 68), (0, .nameAndType 69 70), (0, u "checkIndex"), (0, u "(I[B)V"), (0, .methodref 12 72), (0, .nameAndType 73 74), (0, u "getChar"), (0, u "([BI)C"), (32, .methodref 12 108), (0, .nameAndType 109 110), (0, u "newBytesFor"), (0, u "(I)[B"), (0, .methodref 12 112), (0, .nameAndType 113 114), (0, u "putChar"), (0, u "([BII)V"), (0, .methodref 12 116), (0, .nameAndType 117 118), (0, u "compress"), (0, u "([CI[BII)I"), (0, .methodref 12 120), (0, .nameAndType 121 122), (0, u "toBytes"), (0, u "([CII)[B"), (138, u "coderFromArrayLen"), (0, u "([BI)B"), (106, .class_ 371), (1, u "java/lang/StringUTF16$LinesSpliterator"), (20, u "charAt"), (21, .methodref 3 415), (0, .nameAndType 69 416), (0, u "(II)V"), (13, u "MAX_LENGTH"), (196, .class_ 628), (0, u "java/lang/StringUTF16$CodePointsSpliterator"), (0, .class_ 630), (0, u "java/lang/StringUTF16$CharsSpliterator")] 4

def k8m0 : Method := { name := "<init>", desc := "()V", sig := { parameters := [], returnType := none }, accessFlags := 0, code := none }
def k8c1 : Code := { maxStack := 1, maxLocals := 1, code := jdk_52_method_2_code, exceptionTable := #[], attributes := #[] }
def k8m1 : Method := { name := "newBytesFor", desc := "(I)[B", sig := { parameters := [.int], returnType := some (.array .byte) }, accessFlags := 9, code := some k8c1 }
def k8c2 : Code := { maxStack := 4, maxLocals := 1, code := jdk_52_method_3_code, exceptionTable := #[], attributes := #[] }
def k8m2 : Method := { name := "newBytesLength", desc := "(I)I", sig := { parameters := [.int], returnType := some .int }, accessFlags := 9, code := some k8c2 }
def k8c3 : Code := { maxStack := 4, maxLocals := 3, code := jdk_52_method_4_code, exceptionTable := #[], attributes := #[] }
def k8m3 : Method := { name := "putChar", desc := "([BII)V", sig := { parameters := [(.array .byte), .int, .int], returnType := none }, accessFlags := 8, code := some k8c3 }
def k8c4 : Code := { maxStack := 3, maxLocals := 2, code := jdk_52_method_5_code, exceptionTable := #[], attributes := #[] }
def k8m4 : Method := { name := "getChar", desc := "([BI)C", sig := { parameters := [(.array .byte), .int], returnType := some .char }, accessFlags := 8, code := some k8c4 }
def k8c5 : Code := { maxStack := 2, maxLocals := 1, code := jdk_52_method_6_code, exceptionTable := #[], attributes := #[] }
def k8m5 : Method := { name := "length", desc := "([B)I", sig := { parameters := [(.array .byte)], returnType := some .int }, accessFlags := 9, code := some k8c5 }
def k8c6 : Code := { maxStack := 4, maxLocals := 5, code := jdk_52_method_14_code, exceptionTable := #[], attributes := #[] }
def k8m6 : Method := { name := "toBytes", desc := "([CII)[B", sig := { parameters := [(.array .char), .int, .int], returnType := some (.array .byte) }, accessFlags := 9, code := some k8c6 }
def k8c7 : Code := { maxStack := 2, maxLocals := 2, code := jdk_52_method_15_code, exceptionTable := #[], attributes := #[] }
def k8m7 : Method := { name := "coderFromArrayLen", desc := "([BI)B", sig := { parameters := [(.array .byte), .int], returnType := some .byte }, accessFlags := 8, code := some k8c7 }
def k8c8 : Code := { maxStack := 5, maxLocals := 6, code := jdk_52_method_16_code, exceptionTable := #[], attributes := #[] }
def k8m8 : Method := { name := "compress", desc := "([CII)[B", sig := { parameters := [(.array .char), .int, .int], returnType := some (.array .byte) }, accessFlags := 9, code := some k8c8 }
def k8c9 : Code := { maxStack := 3, maxLocals := 7, code := jdk_52_method_21_code, exceptionTable := #[], attributes := #[] }
def k8m9 : Method := { name := "compress", desc := "([CI[BII)I", sig := { parameters := [(.array .char), .int, (.array .byte), .int, .int], returnType := some .int }, accessFlags := 9, code := some k8c9 }
def k8c10 : Code := { maxStack := 2, maxLocals := 2, code := jdk_52_method_83_code, exceptionTable := #[], attributes := #[] }
def k8m10 : Method := { name := "charAt", desc := "([BI)C", sig := { parameters := [(.array .byte), .int], returnType := some .char }, accessFlags := 9, code := some k8c10 }
def k8c11 : Code := { maxStack := 2, maxLocals := 2, code := jdk_52_method_91_code, exceptionTable := #[], attributes := #[] }
def k8m11 : Method := { name := "checkIndex", desc := "(I[B)V", sig := { parameters := [.int, (.array .byte)], returnType := none }, accessFlags := 9, code := some k8c11 }
/-- java/lang/StringUTF16 -/
def k8 : Class := { plain "java/lang/StringUTF16" (some 0) with
  accessFlags := 48
  interfaces := #[]
  cf := some (fileOf pool8 12 #[.nestMembers #[627, 629, 369]] #[{ accessFlags := 0, nameIndex := 9, descriptorIndex := 10, attributes := #[] }, { accessFlags := 9, nameIndex := 109, descriptorIndex := 110, attributes := #[] }, { accessFlags := 9, nameIndex := 15, descriptorIndex := 16, attributes := #[] }, { accessFlags := 8, nameIndex := 113, descriptorIndex := 114, attributes := #[] }, { accessFlags := 8, nameIndex := 73, descriptorIndex := 74, attributes := #[] }, { accessFlags := 9, nameIndex := 50, descriptorIndex := 51, attributes := #[] }, { accessFlags := 9, nameIndex := 121, descriptorIndex := 122, attributes := #[] }, { accessFlags := 8, nameIndex := 261, descriptorIndex := 262, attributes := #[] }, { accessFlags := 9, nameIndex := 117, descriptorIndex := 122, attributes := #[] }, { accessFlags := 9, nameIndex := 117, descriptorIndex := 118, attributes := #[] }, { accessFlags := 9, nameIndex := 392, descriptorIndex := 74, attributes := #[] }, { accessFlags := 9, nameIndex := 69, descriptorIndex := 70, attributes := #[] }] 48 6 #[] #[{ accessFlags := 26, nameIndex := 61, descriptorIndex := 62, attributes := #[] }, { accessFlags := 26, nameIndex := 65, descriptorIndex := 62, attributes := #[] }, { accessFlags := 24, nameIndex := 430, descriptorIndex := 62, attributes := #[] }, { accessFlags := 4120, nameIndex := 46, descriptorIndex := 47, attributes := #[] }])
  fields := #[{ name := "HI_BYTE_SHIFT", type := .int, accessFlags := 26, slot := 0, constantValue := 0 }, { name := "LO_BYTE_SHIFT", type := .int, accessFlags := 26, slot := 1, constantValue := 0 }, { name := "MAX_LENGTH", type := .int, accessFlags := 24, slot := 2, constantValue := 0 }, { name := "$assertionsDisabled", type := .boolean, accessFlags := 4120, slot := 3, constantValue := 0 }]
  methods := #[k8m0, k8m1, k8m2, k8m3, k8m4, k8m5, k8m6, k8m7, k8m8, k8m9, k8m10, k8m11]
  instanceTypes := #[]
  staticTypes := #[.int, .int, .int, .boolean]
  resolved := Array.replicate 635 none
  statics := some 1 }

def pool9 : Array CpInfo := pool [(2, .class_ 4), (1, u "java/lang/Object"), (0, u "<init>"), (0, u "()V"), (0, .methodref 8 9), (0, .class_ 10), (0, .nameAndType 11 12), (0, u "com/example/mynah/mynah/PlainDecimal"), (0, u "read"), (0, u "(Ljava/lang/String;J)J"), (0, .long 18446744073709551614), (1, .long 18446744073709551615), (1, .methodref 18 19), (0, .class_ 20), (0, .nameAndType 21 22), (0, u "java/lang/String"), (0, u "length"), (0, u "()I"), (0, .methodref 18 24), (0, .nameAndType 25 26), (0, u "charAt"), (0, u "(I)C"), (0, .methodref 28 29), (0, .class_ 30), (0, .nameAndType 31 32), (0, u "java/lang/Math"), (0, u "floorDiv"), (0, u "(JI)J"), (0, .long 10), (1, u "NOT_PLAIN"), (0, u "J"), (1, u "ABOVE"), (4, u "parseCapped")] 2

def k9m0 : Method := { name := "<init>", desc := "()V", sig := { parameters := [], returnType := none }, accessFlags := 2, code := none }
def k9c1 : Code := { maxStack := 4, maxLocals := 5, code := prog_20_method_3_code, exceptionTable := #[], attributes := #[] }
def k9m1 : Method := { name := "parseCapped", desc := "(Ljava/lang/String;J)J", sig := { parameters := [(.object "java/lang/String"), .long], returnType := some .long }, accessFlags := 9, code := some k9c1 }
def k9c2 : Code := { maxStack := 6, maxLocals := 10, code := prog_20_method_4_code, exceptionTable := #[], attributes := #[] }
def k9m2 : Method := { name := "read", desc := "(Ljava/lang/String;J)J", sig := { parameters := [(.object "java/lang/String"), .long], returnType := some .long }, accessFlags := 10, code := some k9c2 }
/-- com/example/mynah/mynah/PlainDecimal -/
def k9 : Class := { plain "com/example/mynah/mynah/PlainDecimal" (some 0) with
  accessFlags := 33
  interfaces := #[]
  cf := some (fileOf pool9 8 #[] #[{ accessFlags := 2, nameIndex := 5, descriptorIndex := 6, attributes := #[] }, { accessFlags := 9, nameIndex := 43, descriptorIndex := 12, attributes := #[] }, { accessFlags := 10, nameIndex := 11, descriptorIndex := 12, attributes := #[] }] 33 2 #[] #[{ accessFlags := 26, nameIndex := 35, descriptorIndex := 36, attributes := #[] }, { accessFlags := 26, nameIndex := 38, descriptorIndex := 36, attributes := #[] }])
  fields := #[{ name := "NOT_PLAIN", type := .long, accessFlags := 26, slot := 0, constantValue := 0 }, { name := "ABOVE", type := .long, accessFlags := 26, slot := 1, constantValue := 0 }]
  methods := #[k9m0, k9m1, k9m2]
  instanceTypes := #[]
  staticTypes := #[.long, .long]
  resolved := Array.replicate 46 none
  statics := none }

def pool10 : Array CpInfo := pool [(1, .class_ 2), (0, u "java/lang/String"), (1, .class_ 6), (1, u "java/lang/Object"), (0, u "<init>"), (0, u "()V"), (0, .methodref 1 10), (0, .nameAndType 11 12), (0, u "checkIndex"), (0, u "(II)V"), (1, .class_ 16), (1, u "java/lang/StringLatin1"), (36, u "([BI)C"), (67, u "$assertionsDisabled"), (0, u "Z"), (98, .class_ 223), (1, u "java/lang/StringLatin1$LinesSpliterator"), (28, u "charAt"), (137, .class_ 391), (0, u "java/lang/StringLatin1$CharsSpliterator")] 3

def k10m0 : Method := { name := "<init>", desc := "()V", sig := { parameters := [], returnType := none }, accessFlags := 0, code := none }
def k10c1 : Code := { maxStack := 2, maxLocals := 2, code := jdk_43_method_2_code, exceptionTable := #[], attributes := #[] }
def k10m1 : Method := { name := "charAt", desc := "([BI)C", sig := { parameters := [(.array .byte), .int], returnType := some .char }, accessFlags := 9, code := some k10c1 }
/-- java/lang/StringLatin1 -/
def k10 : Class := { plain "java/lang/StringLatin1" (some 0) with
  accessFlags := 48
  interfaces := #[]
  cf := some (fileOf pool10 14 #[.nestMembers #[390, 221]] #[{ accessFlags := 0, nameIndex := 7, descriptorIndex := 8, attributes := #[] }, { accessFlags := 9, nameIndex := 252, descriptorIndex := 53, attributes := #[] }] 48 4 #[] #[{ accessFlags := 4120, nameIndex := 121, descriptorIndex := 122, attributes := #[] }])
  fields := #[{ name := "$assertionsDisabled", type := .boolean, accessFlags := 4120, slot := 0, constantValue := 0 }]
  methods := #[k10m0, k10m1]
  instanceTypes := #[]
  staticTypes := #[.boolean]
  resolved := Array.replicate 395 none
  statics := none }

def pool11 : Array CpInfo := pool [(2, .class_ 4), (1, u "java/lang/Object"), (0, u "<init>"), (0, u "()V"), (17, .class_ 26), (1, u "jdk/internal/util/Preconditions"), (6, u "checkIndex"), (21, .class_ 56), (0, u "jdk/internal/util/Preconditions$4"), (57, .class_ 115), (0, u "jdk/internal/util/Preconditions$1"), (7, u "SIOOBE_FORMATTER"), (0, u "Ljava/util/function/BiFunction;"), (0, .class_ 126), (0, u "jdk/internal/util/Preconditions$2"), (3, u "AIOOBE_FORMATTER"), (0, .class_ 132), (0, u "jdk/internal/util/Preconditions$3"), (3, u "IOOBE_FORMATTER"), (41, u "(IILjava/util/function/BiFunction;)I")] 15

def k11m0 : Method := { name := "<init>", desc := "()V", sig := { parameters := [], returnType := none }, accessFlags := 1, code := none }
def k11c1 : Code := { maxStack := 3, maxLocals := 3, code := jdk_41_method_11_code, exceptionTable := #[], attributes := #[] }
def k11m1 : Method := { name := "checkIndex", desc := "(IILjava/util/function/BiFunction;)I", sig := { parameters := [.int, .int, (.object "java/util/function/BiFunction")], returnType := some .int }, accessFlags := 9, code := some k11c1 }
/-- jdk/internal/util/Preconditions -/
def k11 : Class := { plain "jdk/internal/util/Preconditions" (some 0) with
  accessFlags := 33
  interfaces := #[]
  cf := some (fileOf pool11 24 #[.nestMembers #[55, 131, 125, 114]] #[{ accessFlags := 1, nameIndex := 5, descriptorIndex := 6, attributes := #[] }, { accessFlags := 9, nameIndex := 33, descriptorIndex := 178, attributes := #[] }] 33 2 #[] #[{ accessFlags := 25, nameIndex := 123, descriptorIndex := 124, attributes := #[] }, { accessFlags := 25, nameIndex := 130, descriptorIndex := 124, attributes := #[] }, { accessFlags := 25, nameIndex := 136, descriptorIndex := 124, attributes := #[] }])
  fields := #[{ name := "SIOOBE_FORMATTER", type := (.object "java/util/function/BiFunction"), accessFlags := 25, slot := 0, constantValue := 0 }, { name := "AIOOBE_FORMATTER", type := (.object "java/util/function/BiFunction"), accessFlags := 25, slot := 1, constantValue := 0 }, { name := "IOOBE_FORMATTER", type := (.object "java/util/function/BiFunction"), accessFlags := 25, slot := 2, constantValue := 0 }]
  methods := #[k11m0, k11m1]
  instanceTypes := #[]
  staticTypes := #[(.object "java/util/function/BiFunction"), (.object "java/util/function/BiFunction"), (.object "java/util/function/BiFunction")]
  resolved := Array.replicate 194 none
  statics := some 2 }

def pool12 : Array CpInfo := pool [(1, .class_ 2), (0, u "java/lang/Math"), (1, .class_ 6), (1, u "java/lang/Object"), (0, u "<init>"), (0, u "()V"), (89, .class_ 100), (1, u "java/lang/Math$RandomNumberGeneratorHolder"), (20, u "(JJ)J"), (21, .methodref 1 144), (0, .nameAndType 145 121), (0, u "floorDiv"), (26, u "negativeZeroFloatBits"), (0, u "J"), (2, u "negativeZeroDoubleBits"), (68, u "$assertionsDisabled"), (0, u "Z"), (91, u "twoToTheDoubleScaleDown"), (0, u "D"), (4, u "twoToTheDoubleScaleUp"), (9, u "E"), (3, u "PI"), (2, u "TAU"), (2, u "DEGREES_TO_RADIANS"), (0, u "RADIANS_TO_DEGREES"), (29, u "(JI)J")] 64

def k12m0 : Method := { name := "<init>", desc := "()V", sig := { parameters := [], returnType := none }, accessFlags := 2, code := none }
def k12c1 : Code := { maxStack := 4, maxLocals := 3, code := jdk_29_method_48_code, exceptionTable := #[], attributes := #[] }
def k12m1 : Method := { name := "floorDiv", desc := "(JI)J", sig := { parameters := [.long, .int], returnType := some .long }, accessFlags := 9, code := some k12c1 }
def k12c2 : Code := { maxStack := 4, maxLocals := 6, code := jdk_29_method_49_code, exceptionTable := #[], attributes := #[] }
def k12m2 : Method := { name := "floorDiv", desc := "(JJ)J", sig := { parameters := [.long, .long], returnType := some .long }, accessFlags := 9, code := some k12c2 }
/-- java/lang/Math -/
def k12 : Class := { plain "java/lang/Math" (some 0) with
  accessFlags := 49
  interfaces := #[]
  cf := some (fileOf pool12 1 #[.nestMembers #[98]] #[{ accessFlags := 2, nameIndex := 7, descriptorIndex := 8, attributes := #[] }, { accessFlags := 9, nameIndex := 145, descriptorIndex := 395, attributes := #[] }, { accessFlags := 9, nameIndex := 145, descriptorIndex := 121, attributes := #[] }] 49 4 #[] #[{ accessFlags := 25, nameIndex := 354, descriptorIndex := 339, attributes := #[] }, { accessFlags := 25, nameIndex := 358, descriptorIndex := 339, attributes := #[] }, { accessFlags := 25, nameIndex := 361, descriptorIndex := 339, attributes := #[] }, { accessFlags := 26, nameIndex := 364, descriptorIndex := 339, attributes := #[] }, { accessFlags := 26, nameIndex := 365, descriptorIndex := 339, attributes := #[] }, { accessFlags := 26, nameIndex := 172, descriptorIndex := 173, attributes := #[] }, { accessFlags := 26, nameIndex := 176, descriptorIndex := 173, attributes := #[] }, { accessFlags := 8, nameIndex := 344, descriptorIndex := 339, attributes := #[] }, { accessFlags := 8, nameIndex := 338, descriptorIndex := 339, attributes := #[] }, { accessFlags := 4120, nameIndex := 245, descriptorIndex := 246, attributes := #[] }])
  fields := #[{ name := "E", type := .double, accessFlags := 25, slot := 0, constantValue := 0 }, { name := "PI", type := .double, accessFlags := 25, slot := 1, constantValue := 0 }, { name := "TAU", type := .double, accessFlags := 25, slot := 2, constantValue := 0 }, { name := "DEGREES_TO_RADIANS", type := .double, accessFlags := 26, slot := 3, constantValue := 0 }, { name := "RADIANS_TO_DEGREES", type := .double, accessFlags := 26, slot := 4, constantValue := 0 }, { name := "negativeZeroFloatBits", type := .long, accessFlags := 26, slot := 5, constantValue := 0 }, { name := "negativeZeroDoubleBits", type := .long, accessFlags := 26, slot := 6, constantValue := 0 }, { name := "twoToTheDoubleScaleUp", type := .double, accessFlags := 8, slot := 7, constantValue := 0 }, { name := "twoToTheDoubleScaleDown", type := .double, accessFlags := 8, slot := 8, constantValue := 0 }, { name := "$assertionsDisabled", type := .boolean, accessFlags := 4120, slot := 9, constantValue := 0 }]
  methods := #[k12m0, k12m1, k12m2]
  instanceTypes := #[]
  staticTypes := #[.double, .double, .double, .double, .double, .long, .long, .double, .double, .boolean]
  resolved := Array.replicate 460 none
  statics := none }

def pool13 : Array CpInfo := pool [(9, u "<init>"), (6, .class_ 18), (1, u "java/lang/Object"), (0, u "()V"), (1, .class_ 23), (1, u "jdk/internal/util/ArraysSupport"), (0, u "LOG2_ARRAY_LONG_INDEX_SCALE"), (0, u "I"), (2, u "U"), (0, u "Ljdk/internal/misc/Unsafe;"), (8, u "BIG_ENDIAN"), (0, u "Z"), (8, u "LOG2_BYTE_BIT_SIZE"), (4, u "LOG2_ARRAY_INT_INDEX_SCALE"), (54, u "JLA"), (0, u "Ljdk/internal/access/JavaLangAccess;"), (11, u "LOG2_ARRAY_BOOLEAN_INDEX_SCALE"), (9, u "LOG2_ARRAY_BYTE_INDEX_SCALE"), (5, u "LOG2_ARRAY_CHAR_INDEX_SCALE"), (5, u "LOG2_ARRAY_SHORT_INDEX_SCALE"), (18, u "LOG2_ARRAY_FLOAT_INDEX_SCALE"), (24, u "LOG2_ARRAY_DOUBLE_INDEX_SCALE"), (89, u "T_BOOLEAN"), (2, u "T_CHAR"), (1, u "T_FLOAT"), (1, u "T_DOUBLE"), (1, u "T_BYTE"), (1, u "T_SHORT"), (1, u "T_INT"), (1, u "T_LONG"), (1, u "SOFT_MAX_ARRAY_LENGTH")] 83

def k13m0 : Method := { name := "<init>", desc := "()V", sig := { parameters := [], returnType := none }, accessFlags := 2, code := none }
/-- jdk/internal/util/ArraysSupport -/
def k13 : Class := { plain "jdk/internal/util/ArraysSupport" (some 0) with
  accessFlags := 33
  interfaces := #[]
  cf := some (fileOf pool13 21 #[] #[{ accessFlags := 2, nameIndex := 9, descriptorIndex := 19, attributes := #[] }] 33 16 #[] #[{ accessFlags := 24, nameIndex := 28, descriptorIndex := 29, attributes := #[] }, { accessFlags := 26, nameIndex := 38, descriptorIndex := 39, attributes := #[] }, { accessFlags := 25, nameIndex := 121, descriptorIndex := 25, attributes := #[] }, { accessFlags := 25, nameIndex := 131, descriptorIndex := 25, attributes := #[] }, { accessFlags := 25, nameIndex := 137, descriptorIndex := 25, attributes := #[] }, { accessFlags := 25, nameIndex := 143, descriptorIndex := 25, attributes := #[] }, { accessFlags := 25, nameIndex := 53, descriptorIndex := 25, attributes := #[] }, { accessFlags := 25, nameIndex := 24, descriptorIndex := 25, attributes := #[] }, { accessFlags := 25, nameIndex := 162, descriptorIndex := 25, attributes := #[] }, { accessFlags := 25, nameIndex := 187, descriptorIndex := 25, attributes := #[] }, { accessFlags := 26, nameIndex := 48, descriptorIndex := 25, attributes := #[] }, { accessFlags := 25, nameIndex := 277, descriptorIndex := 25, attributes := #[] }, { accessFlags := 25, nameIndex := 280, descriptorIndex := 25, attributes := #[] }, { accessFlags := 25, nameIndex := 282, descriptorIndex := 25, attributes := #[] }, { accessFlags := 25, nameIndex := 284, descriptorIndex := 25, attributes := #[] }, { accessFlags := 25, nameIndex := 286, descriptorIndex := 25, attributes := #[] }, { accessFlags := 25, nameIndex := 288, descriptorIndex := 25, attributes := #[] }, { accessFlags := 25, nameIndex := 290, descriptorIndex := 25, attributes := #[] }, { accessFlags := 25, nameIndex := 292, descriptorIndex := 25, attributes := #[] }, { accessFlags := 26, nameIndex := 108, descriptorIndex := 109, attributes := #[] }, { accessFlags := 25, nameIndex := 294, descriptorIndex := 25, attributes := #[] }])
  fields := #[{ name := "U", type := (.object "jdk/internal/misc/Unsafe"), accessFlags := 24, slot := 0, constantValue := 0 }, { name := "BIG_ENDIAN", type := .boolean, accessFlags := 26, slot := 1, constantValue := 0 }, { name := "LOG2_ARRAY_BOOLEAN_INDEX_SCALE", type := .int, accessFlags := 25, slot := 2, constantValue := 0 }, { name := "LOG2_ARRAY_BYTE_INDEX_SCALE", type := .int, accessFlags := 25, slot := 3, constantValue := 0 }, { name := "LOG2_ARRAY_CHAR_INDEX_SCALE", type := .int, accessFlags := 25, slot := 4, constantValue := 0 }, { name := "LOG2_ARRAY_SHORT_INDEX_SCALE", type := .int, accessFlags := 25, slot := 5, constantValue := 0 }, { name := "LOG2_ARRAY_INT_INDEX_SCALE", type := .int, accessFlags := 25, slot := 6, constantValue := 0 }, { name := "LOG2_ARRAY_LONG_INDEX_SCALE", type := .int, accessFlags := 25, slot := 7, constantValue := 0 }, { name := "LOG2_ARRAY_FLOAT_INDEX_SCALE", type := .int, accessFlags := 25, slot := 8, constantValue := 0 }, { name := "LOG2_ARRAY_DOUBLE_INDEX_SCALE", type := .int, accessFlags := 25, slot := 9, constantValue := 0 }, { name := "LOG2_BYTE_BIT_SIZE", type := .int, accessFlags := 26, slot := 10, constantValue := 0 }, { name := "T_BOOLEAN", type := .int, accessFlags := 25, slot := 11, constantValue := 0 }, { name := "T_CHAR", type := .int, accessFlags := 25, slot := 12, constantValue := 0 }, { name := "T_FLOAT", type := .int, accessFlags := 25, slot := 13, constantValue := 0 }, { name := "T_DOUBLE", type := .int, accessFlags := 25, slot := 14, constantValue := 0 }, { name := "T_BYTE", type := .int, accessFlags := 25, slot := 15, constantValue := 0 }, { name := "T_SHORT", type := .int, accessFlags := 25, slot := 16, constantValue := 0 }, { name := "T_INT", type := .int, accessFlags := 25, slot := 17, constantValue := 0 }, { name := "T_LONG", type := .int, accessFlags := 25, slot := 18, constantValue := 0 }, { name := "JLA", type := (.object "jdk/internal/access/JavaLangAccess"), accessFlags := 26, slot := 19, constantValue := 0 }, { name := "SOFT_MAX_ARRAY_LENGTH", type := .int, accessFlags := 25, slot := 20, constantValue := 0 }]
  methods := #[k13m0]
  instanceTypes := #[]
  staticTypes := #[(.object "jdk/internal/misc/Unsafe"), .boolean, .int, .int, .int, .int, .int, .int, .int, .int, .int, .int, .int, .int, .int, .int, .int, .int, .int, (.object "jdk/internal/access/JavaLangAccess"), .int]
  resolved := Array.replicate 378 none
  statics := none }

def pool14 : Array CpInfo := pool [(1, u "java/lang/Cloneable"), (0, .class_ 1), (0, u "java/lang/Object"), (0, .class_ 3)] 3

/-- java/lang/Cloneable -/
def k14 : Class := { plain "java/lang/Cloneable" (some 0) with
  accessFlags := 1537
  interfaces := #[]
  cf := some (fileOf pool14 2 #[] #[] 1537 4 #[] #[])
  fields := #[]
  methods := #[]
  instanceTypes := #[]
  staticTypes := #[]
  resolved := Array.replicate 8 none
  statics := none }

/-- the primitive byte -/
def k15 : Class := { plain "byte" none with kind := .primitive 'B', accessFlags := 0x411 }
/-- [B -/
def k16 : Class := { plain "[B" (some 0) with kind := .array 15 .byte, interfaces := #[14, 2], accessFlags := 1041 }

/-- the primitive char -/
def k17 : Class := { plain "char" none with kind := .primitive 'C', accessFlags := 0x411 }
/-- [C -/
def k18 : Class := { plain "[C" (some 0) with kind := .array 17 .char, interfaces := #[14, 2], accessFlags := 1041 }

/-- the primitive int -/
def k19 : Class := { plain "int" none with kind := .primitive 'I', accessFlags := 0x411 }
/-- [I -/
def k20 : Class := { plain "[I" (some 0) with kind := .array 19 .int, interfaces := #[14, 2], accessFlags := 1041 }

/-- the primitive long -/
def k21 : Class := { plain "long" none with kind := .primitive 'J', accessFlags := 0x411 }
/-- [J -/
def k22 : Class := { plain "[J" (some 0) with kind := .array 21 .long, interfaces := #[14, 2], accessFlags := 1041 }

def heap : Heap := #[{ cls := 7, slots := #[.long 0, .int 1, .null, .int 0, .null, .int 0, .int 0], vm := .statics 7 },
  { cls := 8, slots := #[.int 0, .int 8, .int 0, .int 1], vm := .statics 8 },
  { cls := 11, slots := #[.null, .null, .null], vm := .statics 11 }]
def classes : Array Class := #[k0, k1, k2, k3, k4, k5, k6, k7, k8, k9, k10, k11, k12, k13, k14, k15, k16, k17, k18, k19, k20, k21, k22]
def interned : List (Array UInt16 × Addr) := []
def slotsUsed : Nat := 14
def theMethod : MethodId := ⟨1, 4⟩
def args0 : Array Value := #[.long 2, .long 3, .int 4, .int 5]
def aboutOver (below : List Frame) : State where
  vm := { classes := classes, interned := interned.toArray }
  heap := heap
  slotsUsed := slotsUsed
  threads := #[{ frames := .invoking theMethod args0 :: below }]
def below0 : List Frame := [.native { method := ⟨0, 0⟩, args := #[] }]
def about1 : State := aboutOver below0
def p0 : Program := .bare "" "" ""
def e0 : Env := launch0.env 0 0 0
theorem w_frames : about1.frames = Frame.invoking theMethod args0 :: below0 := rfl
set_option maxRecDepth 65536 in
theorem w_args : argsFit about1.vm theMethod args0 = true := by decide +kernel
set_option maxRecDepth 65536 in
theorem w_heap : heapFits about1 = true := by decide +kernel
set_option maxRecDepth 65536 in
theorem w_runnable : about1.curStatus? = some .runnable := by decide +kernel
set_option maxRecDepth 65536 in
theorem w_alone : about1.alone = true := by decide +kernel
set_option maxRecDepth 65536 in
theorem w_named : about1.methodNamed? x = some theMethod := by decide +kernel
set_option maxRecDepth 65536 in
theorem w_hears : about1.hears theMethod below0 = true := by decide +kernel
set_option maxRecDepth 65536 in
theorem w_ripe : about1.ripe theMethod args0 below0 = true := by decide +kernel
theorem w_running : about1.status = .running := rfl
set_option maxRecDepth 65536 in
theorem w_room : about1.hasRoom e0.platform room_1 = true :=
  launch0.hasRoom_least _ room_1 (by decide +kernel) (by decide +kernel) (by decide +kernel) (by decide +kernel) (by decide +kernel) (by decide +kernel)
theorem allAtoms_all (ts : List Jvm.Cond) (a : Array Jvm.Value) (st : Jvm.State) : (allAtoms ts).before a st = ts.all (fun c => c.before a st) := by
  induction ts with
  | nil => rfl
  | cons c t ih =>
    show (Jvm.Cond.and c (allAtoms t)).before a st = _
    rw [Jvm.Cond.before_and, ih, List.all_cons]
def words1 : List Jvm.Cond := Jvm.Cond.code x code maxLocals ret :: tables_1
/-- a 'code' word, met by the world's own term for the bytes: nothing is compared byte by byte -/
theorem code_word {y : MethodName} {bytes : ByteArray} {mx : Nat} {rt : Option FieldType} {a : Array Value} {s : State} {m : MethodId} {meth : Method} {c : Code} (h1 : s.methodNamed? y = some m) (h2 : s.vm.method? m = some meth) (h3 : meth.code = some c) (h4 : c.code = bytes)
    (h5 : (c.maxLocals == mx && c.exceptionTable.isEmpty && decide (c.maxStack ≤ mostOperands) && decide (meth.sig.returnType = rt) && !meth.locks && decide (parseMethodDescriptor y.desc = some meth.sig)) = true) : (Jvm.Cond.code y bytes mx rt).before a s = true := by
  simp only [Bool.and_eq_true, beq_iff_eq, Bool.not_eq_true', decide_eq_true_eq] at h5
  obtain ⟨⟨⟨⟨⟨g1, g2⟩, g3⟩, g4⟩, g5⟩, g6⟩ := h5
  simp [Cond.before, Cond.holds, Cond.value, h1, h2, h3, h4, g1, g2, g3, g4, g5, g6]
def isCode : Jvm.Cond → Bool
  | .code _ _ _ _ => true
  | _ => false
theorem all_split {L : List Jvm.Cond} {P : Jvm.Cond → Bool} (h1 : L.all (fun c => isCode c || P c) = true) (h2 : ∀ c ∈ L.filter isCode, P c = true) : L.all P = true := by
  refine List.all_eq_true.mpr fun c hc => ?_
  have h := List.all_eq_true.mp h1 c hc
  rcases Bool.eq_false_or_eq_true (isCode c) with hi | hi
  · exact h2 c (List.mem_filter.mpr ⟨hc, hi⟩)
  · simpa [hi] using h
set_option maxRecDepth 65536 in
theorem w_c0 : (Jvm.Cond.code x code maxLocals ret).before args0 about1 = true := code_word (m := ⟨1, 4⟩) (meth := k1m4) (c := k1c4) (by decide +kernel) rfl rfl rfl (by decide +kernel)
set_option maxRecDepth 65536 in
theorem w_c1 : (Jvm.Cond.code ({ cls := "com/example/mynah/mynah/PlainDecimalParseCappedPinLaw", name := "digits", desc := "(J)I" } : Jvm.MethodName) method_3_code (3 : Nat) (Option.some Jvm.ClassFile.FieldType.int)).before args0 about1 = true := code_word (m := ⟨1, 2⟩) (meth := k1m2) (c := k1c2) (by decide +kernel) rfl rfl rfl (by decide +kernel)
set_option maxRecDepth 65536 in
theorem w_c2 : (Jvm.Cond.code ({ cls := "com/example/mynah/mynah/PlainDecimalParseCappedPinLaw", name := "p10", desc := "(I)J" } : Jvm.MethodName) method_2_code (2 : Nat) (Option.some Jvm.ClassFile.FieldType.long)).before args0 about1 = true := code_word (m := ⟨1, 1⟩) (meth := k1m1) (c := k1c1) (by decide +kernel) rfl rfl rfl (by decide +kernel)
set_option maxRecDepth 65536 in
theorem w_c3 : (Jvm.Cond.code ({ cls := "com/example/mynah/mynah/PlainDecimalParseCappedPinLaw", name := "dig", desc := "(JI)C" } : Jvm.MethodName) method_4_code (3 : Nat) (Option.some Jvm.ClassFile.FieldType.char)).before args0 about1 = true := code_word (m := ⟨1, 3⟩) (meth := k1m3) (c := k1c3) (by decide +kernel) rfl rfl rfl (by decide +kernel)
set_option maxRecDepth 65536 in
theorem w_c4 : (Jvm.Cond.code ({ cls := "java/lang/String", name := "<init>", desc := "([C)V" } : Jvm.MethodName) jdk_42_method_3_code (2 : Nat) (Option.none : Option Jvm.ClassFile.FieldType)).before args0 about1 = true := code_word (m := ⟨7, 1⟩) (meth := k7m1) (c := k7c1) (by decide +kernel) rfl rfl rfl (by decide +kernel)
set_option maxRecDepth 65536 in
theorem w_c5 : (Jvm.Cond.code ({ cls := "java/lang/String", name := "<init>", desc := "([CIILjava/lang/Void;)V" } : Jvm.MethodName) jdk_42_method_149_code (6 : Nat) (Option.none : Option Jvm.ClassFile.FieldType)).before args0 about1 = true := code_word (m := ⟨7, 4⟩) (meth := k7m4) (c := k7c4) (by decide +kernel) rfl rfl rfl (by decide +kernel)
set_option maxRecDepth 65536 in
theorem w_c6 : (Jvm.Cond.code ({ cls := "java/lang/Object", name := "<init>", desc := "()V" } : Jvm.MethodName) object_method_1_code (1 : Nat) (Option.none : Option Jvm.ClassFile.FieldType)).before args0 about1 = true := code_word (m := ⟨0, 0⟩) (meth := k0m0) (c := k0c0) (by decide +kernel) rfl rfl rfl (by decide +kernel)
set_option maxRecDepth 65536 in
theorem w_c7 : (Jvm.Cond.code ({ cls := "java/lang/StringUTF16", name := "compress", desc := "([CII)[B" } : Jvm.MethodName) jdk_52_method_16_code (6 : Nat) (Option.some (Jvm.ClassFile.FieldType.array Jvm.ClassFile.FieldType.byte))).before args0 about1 = true := code_word (m := ⟨8, 8⟩) (meth := k8m8) (c := k8c8) (by decide +kernel) rfl rfl rfl (by decide +kernel)
set_option maxRecDepth 65536 in
theorem w_c8 : (Jvm.Cond.code ({ cls := "java/lang/StringUTF16", name := "compress", desc := "([CI[BII)I" } : Jvm.MethodName) jdk_52_method_21_code (7 : Nat) (Option.some Jvm.ClassFile.FieldType.int)).before args0 about1 = true := code_word (m := ⟨8, 9⟩) (meth := k8m9) (c := k8c9) (by decide +kernel) rfl rfl rfl (by decide +kernel)
set_option maxRecDepth 65536 in
theorem w_c9 : (Jvm.Cond.code ({ cls := "java/lang/StringUTF16", name := "coderFromArrayLen", desc := "([BI)B" } : Jvm.MethodName) jdk_52_method_15_code (2 : Nat) (Option.some Jvm.ClassFile.FieldType.byte)).before args0 about1 = true := code_word (m := ⟨8, 7⟩) (meth := k8m7) (c := k8c7) (by decide +kernel) rfl rfl rfl (by decide +kernel)
set_option maxRecDepth 65536 in
theorem w_c10 : (Jvm.Cond.code ({ cls := "com/example/mynah/mynah/PlainDecimal", name := "parseCapped", desc := "(Ljava/lang/String;J)J" } : Jvm.MethodName) prog_20_method_3_code (5 : Nat) (Option.some Jvm.ClassFile.FieldType.long)).before args0 about1 = true := code_word (m := ⟨9, 1⟩) (meth := k9m1) (c := k9c1) (by decide +kernel) rfl rfl rfl (by decide +kernel)
set_option maxRecDepth 65536 in
theorem w_c11 : (Jvm.Cond.code ({ cls := "com/example/mynah/mynah/PlainDecimal", name := "read", desc := "(Ljava/lang/String;J)J" } : Jvm.MethodName) prog_20_method_4_code (10 : Nat) (Option.some Jvm.ClassFile.FieldType.long)).before args0 about1 = true := code_word (m := ⟨9, 2⟩) (meth := k9m2) (c := k9c2) (by decide +kernel) rfl rfl rfl (by decide +kernel)
set_option maxRecDepth 65536 in
theorem w_c12 : (Jvm.Cond.code ({ cls := "java/lang/String", name := "length", desc := "()I" } : Jvm.MethodName) jdk_42_method_54_code (1 : Nat) (Option.some Jvm.ClassFile.FieldType.int)).before args0 about1 = true := code_word (m := ⟨7, 2⟩) (meth := k7m2) (c := k7c2) (by decide +kernel) rfl rfl rfl (by decide +kernel)
set_option maxRecDepth 65536 in
theorem w_c13 : (Jvm.Cond.code ({ cls := "java/lang/String", name := "coder", desc := "()B" } : Jvm.MethodName) jdk_42_method_152_code (1 : Nat) (Option.some Jvm.ClassFile.FieldType.byte)).before args0 about1 = true := code_word (m := ⟨7, 5⟩) (meth := k7m5) (c := k7c5) (by decide +kernel) rfl rfl rfl (by decide +kernel)
set_option maxRecDepth 65536 in
theorem w_c14 : (Jvm.Cond.code ({ cls := "java/lang/String", name := "charAt", desc := "(I)C" } : Jvm.MethodName) jdk_42_method_56_code (2 : Nat) (Option.some Jvm.ClassFile.FieldType.char)).before args0 about1 = true := code_word (m := ⟨7, 3⟩) (meth := k7m3) (c := k7c3) (by decide +kernel) rfl rfl rfl (by decide +kernel)
set_option maxRecDepth 65536 in
theorem w_c15 : (Jvm.Cond.code ({ cls := "java/lang/String", name := "isLatin1", desc := "()Z" } : Jvm.MethodName) jdk_42_method_154_code (1 : Nat) (Option.some Jvm.ClassFile.FieldType.boolean)).before args0 about1 = true := code_word (m := ⟨7, 6⟩) (meth := k7m6) (c := k7c6) (by decide +kernel) rfl rfl rfl (by decide +kernel)
set_option maxRecDepth 65536 in
theorem w_c16 : (Jvm.Cond.code ({ cls := "java/lang/StringLatin1", name := "charAt", desc := "([BI)C" } : Jvm.MethodName) jdk_43_method_2_code (2 : Nat) (Option.some Jvm.ClassFile.FieldType.char)).before args0 about1 = true := code_word (m := ⟨10, 1⟩) (meth := k10m1) (c := k10c1) (by decide +kernel) rfl rfl rfl (by decide +kernel)
set_option maxRecDepth 65536 in
theorem w_c17 : (Jvm.Cond.code ({ cls := "java/lang/String", name := "checkIndex", desc := "(II)V" } : Jvm.MethodName) jdk_42_method_155_code (2 : Nat) (Option.none : Option Jvm.ClassFile.FieldType)).before args0 about1 = true := code_word (m := ⟨7, 7⟩) (meth := k7m7) (c := k7c7) (by decide +kernel) rfl rfl rfl (by decide +kernel)
set_option maxRecDepth 65536 in
theorem w_c18 : (Jvm.Cond.code ({ cls := "jdk/internal/util/Preconditions", name := "checkIndex", desc := "(IILjava/util/function/BiFunction;)I" } : Jvm.MethodName) jdk_41_method_11_code (3 : Nat) (Option.some Jvm.ClassFile.FieldType.int)).before args0 about1 = true := code_word (m := ⟨11, 1⟩) (meth := k11m1) (c := k11c1) (by decide +kernel) rfl rfl rfl (by decide +kernel)
set_option maxRecDepth 65536 in
theorem w_c19 : (Jvm.Cond.code ({ cls := "java/lang/Math", name := "floorDiv", desc := "(JI)J" } : Jvm.MethodName) jdk_29_method_48_code (3 : Nat) (Option.some Jvm.ClassFile.FieldType.long)).before args0 about1 = true := code_word (m := ⟨12, 1⟩) (meth := k12m1) (c := k12c1) (by decide +kernel) rfl rfl rfl (by decide +kernel)
set_option maxRecDepth 65536 in
theorem w_c20 : (Jvm.Cond.code ({ cls := "java/lang/Math", name := "floorDiv", desc := "(JJ)J" } : Jvm.MethodName) jdk_29_method_49_code (6 : Nat) (Option.some Jvm.ClassFile.FieldType.long)).before args0 about1 = true := code_word (m := ⟨12, 2⟩) (meth := k12m2) (c := k12c2) (by decide +kernel) rfl rfl rfl (by decide +kernel)
set_option maxRecDepth 65536 in
theorem w_c21 : (Jvm.Cond.code ({ cls := "java/lang/StringUTF16", name := "toBytes", desc := "([CII)[B" } : Jvm.MethodName) jdk_52_method_14_code (5 : Nat) (Option.some (Jvm.ClassFile.FieldType.array Jvm.ClassFile.FieldType.byte))).before args0 about1 = true := code_word (m := ⟨8, 6⟩) (meth := k8m6) (c := k8c6) (by decide +kernel) rfl rfl rfl (by decide +kernel)
set_option maxRecDepth 65536 in
theorem w_c22 : (Jvm.Cond.code ({ cls := "java/lang/StringUTF16", name := "newBytesFor", desc := "(I)[B" } : Jvm.MethodName) jdk_52_method_2_code (1 : Nat) (Option.some (Jvm.ClassFile.FieldType.array Jvm.ClassFile.FieldType.byte))).before args0 about1 = true := code_word (m := ⟨8, 1⟩) (meth := k8m1) (c := k8c1) (by decide +kernel) rfl rfl rfl (by decide +kernel)
set_option maxRecDepth 65536 in
theorem w_c23 : (Jvm.Cond.code ({ cls := "java/lang/StringUTF16", name := "newBytesLength", desc := "(I)I" } : Jvm.MethodName) jdk_52_method_3_code (1 : Nat) (Option.some Jvm.ClassFile.FieldType.int)).before args0 about1 = true := code_word (m := ⟨8, 2⟩) (meth := k8m2) (c := k8c2) (by decide +kernel) rfl rfl rfl (by decide +kernel)
set_option maxRecDepth 65536 in
theorem w_c24 : (Jvm.Cond.code ({ cls := "java/lang/StringUTF16", name := "putChar", desc := "([BII)V" } : Jvm.MethodName) jdk_52_method_4_code (3 : Nat) (Option.none : Option Jvm.ClassFile.FieldType)).before args0 about1 = true := code_word (m := ⟨8, 3⟩) (meth := k8m3) (c := k8c3) (by decide +kernel) rfl rfl rfl (by decide +kernel)
set_option maxRecDepth 65536 in
theorem w_c25 : (Jvm.Cond.code ({ cls := "java/lang/StringUTF16", name := "getChar", desc := "([BI)C" } : Jvm.MethodName) jdk_52_method_5_code (2 : Nat) (Option.some Jvm.ClassFile.FieldType.char)).before args0 about1 = true := code_word (m := ⟨8, 4⟩) (meth := k8m4) (c := k8c4) (by decide +kernel) rfl rfl rfl (by decide +kernel)
set_option maxRecDepth 65536 in
theorem w_c26 : (Jvm.Cond.code ({ cls := "java/lang/StringUTF16", name := "charAt", desc := "([BI)C" } : Jvm.MethodName) jdk_52_method_83_code (2 : Nat) (Option.some Jvm.ClassFile.FieldType.char)).before args0 about1 = true := code_word (m := ⟨8, 10⟩) (meth := k8m10) (c := k8c10) (by decide +kernel) rfl rfl rfl (by decide +kernel)
set_option maxRecDepth 65536 in
theorem w_c27 : (Jvm.Cond.code ({ cls := "java/lang/StringUTF16", name := "checkIndex", desc := "(I[B)V" } : Jvm.MethodName) jdk_52_method_91_code (2 : Nat) (Option.none : Option Jvm.ClassFile.FieldType)).before args0 about1 = true := code_word (m := ⟨8, 11⟩) (meth := k8m11) (c := k8c11) (by decide +kernel) rfl rfl rfl (by decide +kernel)
set_option maxRecDepth 65536 in
theorem w_c28 : (Jvm.Cond.code ({ cls := "java/lang/StringUTF16", name := "length", desc := "([B)I" } : Jvm.MethodName) jdk_52_method_6_code (1 : Nat) (Option.some Jvm.ClassFile.FieldType.int)).before args0 about1 = true := code_word (m := ⟨8, 5⟩) (meth := k8m5) (c := k8c5) (by decide +kernel) rfl rfl rfl (by decide +kernel)
def codes1 : List Jvm.Cond := [Jvm.Cond.code x code maxLocals ret, Jvm.Cond.code ({ cls := "com/example/mynah/mynah/PlainDecimalParseCappedPinLaw", name := "digits", desc := "(J)I" } : Jvm.MethodName) method_3_code (3 : Nat) (Option.some Jvm.ClassFile.FieldType.int), Jvm.Cond.code ({ cls := "com/example/mynah/mynah/PlainDecimalParseCappedPinLaw", name := "p10", desc := "(I)J" } : Jvm.MethodName) method_2_code (2 : Nat) (Option.some Jvm.ClassFile.FieldType.long), Jvm.Cond.code ({ cls := "com/example/mynah/mynah/PlainDecimalParseCappedPinLaw", name := "dig", desc := "(JI)C" } : Jvm.MethodName) method_4_code (3 : Nat) (Option.some Jvm.ClassFile.FieldType.char), Jvm.Cond.code ({ cls := "java/lang/String", name := "<init>", desc := "([C)V" } : Jvm.MethodName) jdk_42_method_3_code (2 : Nat) (Option.none : Option Jvm.ClassFile.FieldType), Jvm.Cond.code ({ cls := "java/lang/String", name := "<init>", desc := "([CIILjava/lang/Void;)V" } : Jvm.MethodName) jdk_42_method_149_code (6 : Nat) (Option.none : Option Jvm.ClassFile.FieldType), Jvm.Cond.code ({ cls := "java/lang/Object", name := "<init>", desc := "()V" } : Jvm.MethodName) object_method_1_code (1 : Nat) (Option.none : Option Jvm.ClassFile.FieldType), Jvm.Cond.code ({ cls := "java/lang/StringUTF16", name := "compress", desc := "([CII)[B" } : Jvm.MethodName) jdk_52_method_16_code (6 : Nat) (Option.some (Jvm.ClassFile.FieldType.array Jvm.ClassFile.FieldType.byte)), Jvm.Cond.code ({ cls := "java/lang/StringUTF16", name := "compress", desc := "([CI[BII)I" } : Jvm.MethodName) jdk_52_method_21_code (7 : Nat) (Option.some Jvm.ClassFile.FieldType.int), Jvm.Cond.code ({ cls := "java/lang/StringUTF16", name := "coderFromArrayLen", desc := "([BI)B" } : Jvm.MethodName) jdk_52_method_15_code (2 : Nat) (Option.some Jvm.ClassFile.FieldType.byte), Jvm.Cond.code ({ cls := "com/example/mynah/mynah/PlainDecimal", name := "parseCapped", desc := "(Ljava/lang/String;J)J" } : Jvm.MethodName) prog_20_method_3_code (5 : Nat) (Option.some Jvm.ClassFile.FieldType.long), Jvm.Cond.code ({ cls := "com/example/mynah/mynah/PlainDecimal", name := "read", desc := "(Ljava/lang/String;J)J" } : Jvm.MethodName) prog_20_method_4_code (10 : Nat) (Option.some Jvm.ClassFile.FieldType.long), Jvm.Cond.code ({ cls := "java/lang/String", name := "length", desc := "()I" } : Jvm.MethodName) jdk_42_method_54_code (1 : Nat) (Option.some Jvm.ClassFile.FieldType.int), Jvm.Cond.code ({ cls := "java/lang/String", name := "coder", desc := "()B" } : Jvm.MethodName) jdk_42_method_152_code (1 : Nat) (Option.some Jvm.ClassFile.FieldType.byte), Jvm.Cond.code ({ cls := "java/lang/String", name := "charAt", desc := "(I)C" } : Jvm.MethodName) jdk_42_method_56_code (2 : Nat) (Option.some Jvm.ClassFile.FieldType.char), Jvm.Cond.code ({ cls := "java/lang/String", name := "isLatin1", desc := "()Z" } : Jvm.MethodName) jdk_42_method_154_code (1 : Nat) (Option.some Jvm.ClassFile.FieldType.boolean), Jvm.Cond.code ({ cls := "java/lang/StringLatin1", name := "charAt", desc := "([BI)C" } : Jvm.MethodName) jdk_43_method_2_code (2 : Nat) (Option.some Jvm.ClassFile.FieldType.char), Jvm.Cond.code ({ cls := "java/lang/String", name := "checkIndex", desc := "(II)V" } : Jvm.MethodName) jdk_42_method_155_code (2 : Nat) (Option.none : Option Jvm.ClassFile.FieldType), Jvm.Cond.code ({ cls := "jdk/internal/util/Preconditions", name := "checkIndex", desc := "(IILjava/util/function/BiFunction;)I" } : Jvm.MethodName) jdk_41_method_11_code (3 : Nat) (Option.some Jvm.ClassFile.FieldType.int), Jvm.Cond.code ({ cls := "java/lang/Math", name := "floorDiv", desc := "(JI)J" } : Jvm.MethodName) jdk_29_method_48_code (3 : Nat) (Option.some Jvm.ClassFile.FieldType.long), Jvm.Cond.code ({ cls := "java/lang/Math", name := "floorDiv", desc := "(JJ)J" } : Jvm.MethodName) jdk_29_method_49_code (6 : Nat) (Option.some Jvm.ClassFile.FieldType.long), Jvm.Cond.code ({ cls := "java/lang/StringUTF16", name := "toBytes", desc := "([CII)[B" } : Jvm.MethodName) jdk_52_method_14_code (5 : Nat) (Option.some (Jvm.ClassFile.FieldType.array Jvm.ClassFile.FieldType.byte)), Jvm.Cond.code ({ cls := "java/lang/StringUTF16", name := "newBytesFor", desc := "(I)[B" } : Jvm.MethodName) jdk_52_method_2_code (1 : Nat) (Option.some (Jvm.ClassFile.FieldType.array Jvm.ClassFile.FieldType.byte)), Jvm.Cond.code ({ cls := "java/lang/StringUTF16", name := "newBytesLength", desc := "(I)I" } : Jvm.MethodName) jdk_52_method_3_code (1 : Nat) (Option.some Jvm.ClassFile.FieldType.int), Jvm.Cond.code ({ cls := "java/lang/StringUTF16", name := "putChar", desc := "([BII)V" } : Jvm.MethodName) jdk_52_method_4_code (3 : Nat) (Option.none : Option Jvm.ClassFile.FieldType), Jvm.Cond.code ({ cls := "java/lang/StringUTF16", name := "getChar", desc := "([BI)C" } : Jvm.MethodName) jdk_52_method_5_code (2 : Nat) (Option.some Jvm.ClassFile.FieldType.char), Jvm.Cond.code ({ cls := "java/lang/StringUTF16", name := "charAt", desc := "([BI)C" } : Jvm.MethodName) jdk_52_method_83_code (2 : Nat) (Option.some Jvm.ClassFile.FieldType.char), Jvm.Cond.code ({ cls := "java/lang/StringUTF16", name := "checkIndex", desc := "(I[B)V" } : Jvm.MethodName) jdk_52_method_91_code (2 : Nat) (Option.none : Option Jvm.ClassFile.FieldType), Jvm.Cond.code ({ cls := "java/lang/StringUTF16", name := "length", desc := "([B)I" } : Jvm.MethodName) jdk_52_method_6_code (1 : Nat) (Option.some Jvm.ClassFile.FieldType.int)]
set_option maxRecDepth 65536 in
theorem codes_eq : words1.filter isCode = codes1 := rfl
theorem w_codes : ∀ c ∈ words1.filter isCode, c.before args0 about1 = true := by
  rw [codes_eq]
  intro c hc
  simp only [codes1, List.mem_cons, List.not_mem_nil, or_false] at hc
  rcases hc with rfl | rfl | rfl | rfl | rfl | rfl | rfl | rfl | rfl | rfl | rfl | rfl | rfl | rfl | rfl | rfl | rfl | rfl | rfl | rfl | rfl | rfl | rfl | rfl | rfl | rfl | rfl | rfl | rfl
  · exact w_c0
  · exact w_c1
  · exact w_c2
  · exact w_c3
  · exact w_c4
  · exact w_c5
  · exact w_c6
  · exact w_c7
  · exact w_c8
  · exact w_c9
  · exact w_c10
  · exact w_c11
  · exact w_c12
  · exact w_c13
  · exact w_c14
  · exact w_c15
  · exact w_c16
  · exact w_c17
  · exact w_c18
  · exact w_c19
  · exact w_c20
  · exact w_c21
  · exact w_c22
  · exact w_c23
  · exact w_c24
  · exact w_c25
  · exact w_c26
  · exact w_c27
  · exact w_c28
set_option maxRecDepth 65536 in
theorem w_t1 : (words1.take 24).all (fun c => isCode c || c.before args0 about1) = true := by decide +kernel
set_option maxRecDepth 65536 in
theorem w_t2 : ((words1.drop 24).take 24).all (fun c => isCode c || c.before args0 about1) = true := by decide +kernel
set_option maxRecDepth 65536 in
theorem w_t3 : (((words1.drop 24).drop 24).take 24).all (fun c => isCode c || c.before args0 about1) = true := by decide +kernel
set_option maxRecDepth 65536 in
theorem w_t4 : ((((words1.drop 24).drop 24).drop 24).take 24).all (fun c => isCode c || c.before args0 about1) = true := by decide +kernel
set_option maxRecDepth 65536 in
theorem w_t5 : (((((words1.drop 24).drop 24).drop 24).drop 24).take 24).all (fun c => isCode c || c.before args0 about1) = true := by decide +kernel
set_option maxRecDepth 65536 in
theorem w_t6 : (((((words1.drop 24).drop 24).drop 24).drop 24).drop 24).all (fun c => isCode c || c.before args0 about1) = true := by decide +kernel
theorem w_tables : (allAtoms (Jvm.Cond.code x code maxLocals ret :: tables_1)).before args0 about1 = true := by
  rw [allAtoms_all]
  show words1.all (fun c => c.before args0 about1) = true
  refine all_split ?_ w_codes
  rw [← List.take_append_drop 24 words1, List.all_append, w_t1, ← List.take_append_drop 24 (words1.drop 24), List.all_append, w_t2, ← List.take_append_drop 24 ((words1.drop 24).drop 24), List.all_append, w_t3, ← List.take_append_drop 24 (((words1.drop 24).drop 24).drop 24), List.all_append, w_t4, ← List.take_append_drop 24 ((((words1.drop 24).drop 24).drop 24).drop 24), List.all_append, w_t5, w_t6]
  rfl
set_option maxRecDepth 65536 in
theorem w_rest : rest_1_c.before args0 about1 = true := by decide +kernel
set_option maxRecDepth 65536 in
theorem w_case : (Jvm.Cond.and given_1 narrow_1).before args0 about1 = true := by decide +kernel
set_option maxRecDepth 65536 in
theorem w_consts : constsHeld consts_1 about1 := Jvm.Lit.constsHeldB_iff.mp (by decide +kernel)
theorem w_applies : (headSpec (Jvm.Cond.code x code maxLocals ret :: tables_1) room_1).applies x e0.platform about1 = true :=
  (Spec.applies_iff w_frames).mpr ⟨w_running, w_runnable, w_alone, w_named, w_hears, w_ripe, w_room, w_tables⟩
theorem atStart : AtStart classFile x code maxLocals ret World_1 tables_1 room_1 Calls_1 rest_1 Pre_1 launch0 p0 e0 about1 theMethod args0 below0 :=
  ⟨lists_1, trivial, launch0.admits_env _ _ _, launch0.least_env, fairChoices_fair.cas, fairChoices_fair.clock, w_frames, w_args, w_heap, w_applies, ⟨w_consts, trivial⟩, w_rest, w_case⟩
end start1
theorem witness_1 : WitnessClaimed_1 := ⟨start1.p0, start1.e0, start1.about1, start1.theMethod, start1.args0, start1.below0, start1.atStart⟩
end Jvm.Pilot.@@N@@
