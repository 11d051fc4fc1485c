import JvmDerived
import JvmDerived.Pilot.@@N@@Statement
import JvmDerived.Pilot.@@N@@Code
set_option linter.unusedVariables false
set_option linter.unusedSimpArgs false
/- laws to paste: Road.backV, Road.codOf (cut by pick.py; bodies as the Statement names them) -/
namespace Jvm.Pilot.@@N@@
namespace StrChars
open Jvm Sem ClassFile Op Lib Jvm.Stand Jvm.Free.XT Jvm.Free.ALB Jvm.Free.JM Jvm.Free
open Jvm.Lib.Cold (StaticIs)
/-- a char array whose places are chars -/
def Ch (a : Addr) (A : Cell) (U : State) : Prop := Arr .char a A U ∧ Typed .char A
theorem Ch.mv {a : Addr} {A : Cell} {U U' : State} (h : Ch a A U) (hal : U.vm.Alike U'.vm) (hh : U'.heap = U.heap) : Ch a A U' := ⟨h.1.mv hal hh, h.2⟩
theorem Ch.keep {a : Addr} {A : Cell} {U U' : State} (h : Ch a A U) (hal : U.vm.Alike U'.vm) (hk : U'.heap[a]? = some A) : Ch a A U' := ⟨h.1.keep hal hk, h.2⟩
/-- what place i of a char[]'s cell holds -/
def cv (A : Cell) (i : Nat) : Int32 := match A.slots[i]? with | some (.int x) => x | _ => 0
theorem Ch.get {a : Addr} {A : Cell} {U : State} (h : Ch a A U) {i : Nat} (hi : i < A.slots.size) : A.slots[i]? = some (.int (cv A i)) := by
  have e := Array.getElem?_eq_getElem hi
  have f := h.2 i _ e
  unfold cv; rw [e]
  generalize A.slots[i] = v at f
  cases v <;> simp [fits] at f ⊢
/-- the byte that i2b leaves of a char -/
def lo8 (x : Int32) : Int32 := x.toInt8.toInt32
theorem fits_lo8 (y : Int32) : fits .byte (.int (lo8 y)) = true := by
  have h1 := y.toInt8.le_toInt
  have h2 := y.toInt8.toInt_lt
  simp only [lo8, fits, Bool.and_eq_true, decide_eq_true_eq, Int32.le_iff_toInt_le, Int8.toInt_toInt32, show (-128 : Int32).toInt = -128 from by decide, show (127 : Int32).toInt = 127 from by decide]
  omega
/-- A' is A but that each place j of lo .. hi - 1 holds f j -/
def Laid (A A' : Cell) (lo hi : Nat) (f : Nat → Value) : Prop := A'.cls = A.cls ∧ A'.vm = A.vm ∧ A'.slots.size = A.slots.size ∧ ∀ i, A'.slots[i]? = if lo ≤ i ∧ i < hi then some (f i) else A.slots[i]?
theorem Laid.zero (A : Cell) (lo : Nat) (f : Nat → Value) : Laid A A lo (lo + 0) f := ⟨rfl, rfl, rfl, fun i => by rw [if_neg (by omega)]⟩
theorem Laid.step {A Ak : Cell} {lo k : Nat} {f : Nat → Value} {v : Value} (h : Laid A Ak lo k f) (hlo : lo ≤ k) (hk : k < Ak.slots.size) (hv : v = f k) : Laid A (Ak.setSlot k v) lo (k + 1) f := by
  refine ⟨h.1, h.2.1, by simpa [Cell.setSlot] using h.2.2.1, fun i => ?_⟩
  by_cases e : k = i
  · subst e; rw [Cell.slots_setSlot_self v hk, if_pos (by omega), hv]
  · rw [Cell.slots_setSlot_ne v e, h.2.2.2 i]
    by_cases q : lo ≤ i ∧ i < k
    · rw [if_pos q, if_pos (by omega)]
    · rw [if_neg q, if_neg (by omega)]
def U16 : String := "java/lang/StringUTF16"
namespace Cmp5
def yN : MethodName := ⟨"java/lang/StringUTF16", "compress", "([CI[BII)I"⟩
abbrev yB : ByteArray := jdk_52_method_21_code
theorem d0 : decode yB 0 = .ok (.iconst 0, 1) := by decide +kernel
theorem d1 : decode yB 1 = .ok (.istore 5, 2) := by decide +kernel
theorem d3 : decode yB 3 = .ok (.iload 5, 2) := by decide +kernel
theorem d5 : decode yB 5 = .ok (.iload 4, 2) := by decide +kernel
theorem d7 : decode yB 7 = .ok (.if_icmp (.ge) 37, 3) := by decide +kernel
theorem d10 : decode yB 10 = .ok (.aload_n 0, 1) := by decide +kernel
theorem d11 : decode yB 11 = .ok (.iload_n 1, 1) := by decide +kernel
theorem d12 : decode yB 12 = .ok (.caload, 1) := by decide +kernel
theorem d13 : decode yB 13 = .ok (.istore 6, 2) := by decide +kernel
theorem d15 : decode yB 15 = .ok (.iload 6, 2) := by decide +kernel
theorem d17 : decode yB 17 = .ok (.sipush 255, 3) := by decide +kernel
theorem d20 : decode yB 20 = .ok (.if_icmp (.le) 6, 3) := by decide +kernel
theorem d26 : decode yB 26 = .ok (.aload_n 2, 1) := by decide +kernel
theorem d27 : decode yB 27 = .ok (.iload_n 3, 1) := by decide +kernel
theorem d28 : decode yB 28 = .ok (.iload 6, 2) := by decide +kernel
theorem d30 : decode yB 30 = .ok (.i2b, 1) := by decide +kernel
theorem d31 : decode yB 31 = .ok (.bastore, 1) := by decide +kernel
theorem d32 : decode yB 32 = .ok (.iinc 1 1, 3) := by decide +kernel
theorem d35 : decode yB 35 = .ok (.iinc 3 1, 3) := by decide +kernel
theorem d38 : decode yB 38 = .ok (.iinc 5 1, 3) := by decide +kernel
theorem d41 : decode yB 41 = .ok (.goto (-38), 3) := by decide +kernel
theorem d44 : decode yB 44 = .ok (.iload 4, 2) := by decide +kernel
theorem d46 : decode yB 46 = .ok (.ireturn, 1) := by decide +kernel
def site : List Cond := []
def tab : Cond := tabOf yN yB 7 (some .int) site
def P (b : Addr) (A : Cell) (d : Addr) (B : Cell) (o q len : Nat) (args : Array Value) (s : State) : Prop := args = #[.ref b, .int (Int32.ofNat o), .ref d, .int (Int32.ofNat q), .int (Int32.ofNat len)] ∧ Ch b A s ∧ Arr .byte d B s ∧ b ≠ d ∧ o + len ≤ A.slots.size ∧ q + len ≤ B.slots.size ∧ ∀ i, i < len → ¬ 255 < cv A (o + i)
def E (b : Addr) (A : Cell) (d : Addr) (B : Cell) (o q len : Nat) (r : Option Value) (s u : State) : Prop := r = some (.int (Int32.ofNat len)) ∧ ∃ B', Put d B' s u ∧ Laid B B' q (q + len) (fun j => Value.int (lo8 (cv A (o + (j - q)))))
/-- no char of the range above 255: len; the places written hold each char's low byte -/
theorem law (l : Launch) (b : Addr) (A : Cell) (d : Addr) (B : Cell) (o q len : Nat) : Law l yN 5 5 0 0 yB 7 (some .int) site (P b A d B o q len) (E b A d B o q len) (copyLocs d q len) 0 0 := by
  refine Law.of_walk (plainFor_of_name (by decide +kernel)) (by decide +kernel) (by decide +kernel) (by decide) (fun _ _ h => by rw [h.1]; rfl) (fun _ U U' hal hh h => ⟨h.1, h.2.1.mv hal hh, h.2.2.1.mv hal hh, h.2.2.2⟩) (fun r U U' V V' h1 hal h2 h => ⟨h.1, h.2.elim fun B' q => ⟨B', q.1.mv h1 h2, q.2⟩⟩) ?_
  intro p e s m args below meth c s₁ X0 hexec hbytes hml hret hlk hnm hown hh0 W hP
  obtain ⟨rfl, hA, hB, hne, l1, l2, hp⟩ := hP
  have c1 : Steps p.tables e below (s₁.setTop (entryFrame m #[.ref b, .int (Int32.ofNat o), .ref d, .int (Int32.ofNat q), .int (Int32.ofNat len)] 7)) (s₁.setTop (mkF m 0 #[.val (.ref b), .val (.int (Int32.ofNat o)), .val (.ref d), .val (.int (Int32.ofNat q)), .val (.int (Int32.ofNat len)), .unset, .unset] [])) := entry rfl
  have hA0 := hA.1.mv X0.warmed.alike hh0
  have hB0 := hB.mv X0.warmed.alike hh0
  have a31 := hA.1.2.2.2
  have c2 : Steps p.tables e below (s₁.setTop (entryFrame m #[.ref b, .int (Int32.ofNat o), .ref d, .int (Int32.ofNat q), .int (Int32.ofNat len)] 7)) (s₁.setTop (mkF m 3 #[.val (.ref b), .val (.int (Int32.ofNat o)), .val (.ref d), .val (.int (Int32.ofNat q)), .val (.int (Int32.ofNat len)), .val (.int 0), .unset] [])) := c1.trans (by
    refine iconstV X0.here hexec rfl 0 (hb hbytes d0) (by decide) ?_
    refine XS.istore X0.here hexec rfl (hb hbytes d1) rfl rfl ?_
    exact Steps.refl _)
  have loop : ∀ (r i : Nat), i + r = len → ∀ (z : Slot), (z = .unset ∨ ∃ w, z = .val w ∧ w.category = 1) → ∀ (Tl : State) (Bk : Cell), Stand p l e { frames := 0, locals := 0, cells := 0, slots := 0 } s m #[.ref b, .int (Int32.ofNat o), .ref d, .int (Int32.ofNat q), .int (Int32.ofNat len)] below meth c Tl ([] ++ copyLocs d q i) 0 0 → Put d Bk s₁ Tl → Laid B Bk q (q + i) (fun j => Value.int (lo8 (cv A (o + (j - q))))) →
      Steps p.tables e below (s₁.setTop (entryFrame m #[.ref b, .int (Int32.ofNat o), .ref d, .int (Int32.ofNat q), .int (Int32.ofNat len)] 7)) (Tl.setTop (mkF m 3 #[.val (.ref b), .val (.int (Int32.ofNat (o + i))), .val (.ref d), .val (.int (Int32.ofNat (q + i))), .val (.int (Int32.ofNat len)), .val (.int (Int32.ofNat i)), z] [])) → ∃ (T' : State) (B' : Cell) (z' : Slot), Stand p l e { frames := 0, locals := 0, cells := 0, slots := 0 } s m #[.ref b, .int (Int32.ofNat o), .ref d, .int (Int32.ofNat q), .int (Int32.ofNat len)] below meth c T' ([] ++ copyLocs d q len) 0 0 ∧ Put d B' s₁ T' ∧ Laid B B' q (q + len) (fun j => Value.int (lo8 (cv A (o + (j - q))))) ∧
      Steps p.tables e below (s₁.setTop (entryFrame m #[.ref b, .int (Int32.ofNat o), .ref d, .int (Int32.ofNat q), .int (Int32.ofNat len)] 7)) (T'.setTop (mkF m 3 #[.val (.ref b), .val (.int (Int32.ofNat (o + len))), .val (.ref d), .val (.int (Int32.ofNat (q + len))), .val (.int (Int32.ofNat len)), .val (.int (Int32.ofNat len)), z'] [])) := by
    intro r
    induction r with
    | zero =>
      intro i hi z hz Tl Bk Xl pl fl cl
      have hil : i = len := by omega
      rw [hil] at Xl fl cl
      exact ⟨Tl, Bk, z, Xl, pl, fl, cl⟩
    | succ r ih =>
      intro i hi z hz Tl Bk Xl pl fl cl
      have all := X0.warmed.alike.symm.trans Xl.warmed.alike
      have hAl := hA0.keep all (pl.other hne hA0.1)
      have hBk := hB0.like all pl.1 fl.1 fl.2.1 fl.2.2.1
      have hlt : q + i < Bk.slots.size := by rw [fl.2.2.1]; omega
      have c3 : Steps p.tables e below (s₁.setTop (entryFrame m #[.ref b, .int (Int32.ofNat o), .ref d, .int (Int32.ofNat q), .int (Int32.ofNat len)] 7)) (Tl.setTop (mkF m 12 #[.val (.ref b), .val (.int (Int32.ofNat (o + i))), .val (.ref d), .val (.int (Int32.ofNat (q + i))), .val (.int (Int32.ofNat len)), .val (.int (Int32.ofNat i)), z] [.int (Int32.ofNat (o + i)), .ref b])) := cl.trans (by
        refine XS.iload Xl.here hexec rfl (hb hbytes d3) rfl ?_
        refine XS.iload Xl.here hexec rfl (hb hbytes d5) rfl ?_
        refine XS.icmpNo Xl.here hexec rfl (hb hbytes d7) rfl (ii_ge_f (lt32 (by omega) (by omega))) ?_
        refine XS.aloadN Xl.here hexec rfl (hb hbytes d10) rfl rfl ?_
        refine XS.iloadN Xl.here hexec rfl (hb hbytes d11) rfl ?_
        exact Steps.refl _)
      have c4 : Steps p.tables e below (s₁.setTop (entryFrame m #[.ref b, .int (Int32.ofNat o), .ref d, .int (Int32.ofNat q), .int (Int32.ofNat len)] 7)) (Tl.setTop (mkF m 13 #[.val (.ref b), .val (.int (Int32.ofNat (o + i))), .val (.ref d), .val (.int (Int32.ofNat (q + i))), .val (.int (Int32.ofNat len)), .val (.int (Int32.ofNat i)), z] [.int (cv A (o + i))])) := c3.trans (by
        refine Xl.aget hexec hAl rfl (hA.get (i := o + i) (by omega)) rfl rfl (hb hbytes d12) ?_
        exact Steps.refl _)
      have c5 : Steps p.tables e below (s₁.setTop (entryFrame m #[.ref b, .int (Int32.ofNat o), .ref d, .int (Int32.ofNat q), .int (Int32.ofNat len)] 7)) (Tl.setTop (mkF m 15 #[.val (.ref b), .val (.int (Int32.ofNat (o + i))), .val (.ref d), .val (.int (Int32.ofNat (q + i))), .val (.int (Int32.ofNat len)), .val (.int (Int32.ofNat i)), .val (.int (cv A (o + i)))] [])) := c4.trans (by
        refine XS.istoreS Xl.here hexec rfl (hb hbytes d13) rfl rfl hz ?_
        exact Steps.refl _)
      have c6 : Steps p.tables e below (s₁.setTop (entryFrame m #[.ref b, .int (Int32.ofNat o), .ref d, .int (Int32.ofNat q), .int (Int32.ofNat len)] 7)) (Tl.setTop (mkF m 31 #[.val (.ref b), .val (.int (Int32.ofNat (o + i))), .val (.ref d), .val (.int (Int32.ofNat (q + i))), .val (.int (Int32.ofNat len)), .val (.int (Int32.ofNat i)), .val (.int (cv A (o + i)))] [.int (lo8 (cv A (o + i))), .int (Int32.ofNat (q + i)), .ref d])) := c5.trans (by
        refine XS.iload Xl.here hexec rfl (hb hbytes d15) rfl ?_
        refine sipushV Xl.here hexec rfl 255 (hb hbytes d17) (by decide) ?_
        refine XS.icmpYes Xl.here hexec rfl (pc0 := 20) rfl (hb hbytes d20) rfl (ii_le_t (hp i (by omega))) (by decide) rfl ?_
        refine XS.aloadN Xl.here hexec rfl (hb hbytes d26) rfl rfl ?_
        refine XS.iloadN Xl.here hexec rfl (hb hbytes d27) rfl ?_
        refine XS.iload Xl.here hexec rfl (hb hbytes d28) rfl ?_
        refine i2b Xl.here hexec rfl (hb hbytes d30) rfl ?_
        exact Steps.refl _)
      obtain ⟨T7, X7, p7, st7⟩ := Xl.aput hexec hBk rfl hlt rfl (fits_lo8 (cv A (o + i))) (g := (mkF m 31 #[.val (.ref b), .val (.int (Int32.ofNat (o + i))), .val (.ref d), .val (.int (Int32.ofNat (q + i))), .val (.int (Int32.ofNat len)), .val (.int (Int32.ofNat i)), .val (.int (cv A (o + i)))] [.int (lo8 (cv A (o + i))), .int (Int32.ofNat (q + i)), .ref d])) rfl (rest := []) rfl (hb hbytes d31)
      have c8 : Steps p.tables e below (s₁.setTop (entryFrame m #[.ref b, .int (Int32.ofNat o), .ref d, .int (Int32.ofNat q), .int (Int32.ofNat len)] 7)) (T7.setTop (mkF m 32 #[.val (.ref b), .val (.int (Int32.ofNat (o + i))), .val (.ref d), .val (.int (Int32.ofNat (q + i))), .val (.int (Int32.ofNat len)), .val (.int (Int32.ofNat i)), .val (.int (cv A (o + i)))] [])) := c6.trans (st7 _ (Steps.refl _))
      have c9 : Steps p.tables e below (s₁.setTop (entryFrame m #[.ref b, .int (Int32.ofNat o), .ref d, .int (Int32.ofNat q), .int (Int32.ofNat len)] 7)) (T7.setTop (mkF m 3 #[.val (.ref b), .val (.int (Int32.ofNat (o + i) + 1)), .val (.ref d), .val (.int (Int32.ofNat (q + i) + 1)), .val (.int (Int32.ofNat len)), .val (.int (Int32.ofNat i + 1)), .val (.int (cv A (o + i)))] [])) := c8.trans (by
        refine iincV X7.here hexec rfl 1 (hb hbytes d32) (by decide) rfl rfl ?_
        refine iincV X7.here hexec rfl 1 (hb hbytes d35) (by decide) rfl rfl ?_
        refine iincV X7.here hexec rfl 1 (hb hbytes d38) (by decide) rfl rfl ?_
        refine XS.goto X7.here hexec rfl (pc0 := 41) rfl (hb hbytes d41) (by decide) rfl ?_
        exact Steps.refl _)
      have c10 : Steps p.tables e below (s₁.setTop (entryFrame m #[.ref b, .int (Int32.ofNat o), .ref d, .int (Int32.ofNat q), .int (Int32.ofNat len)] 7)) (T7.setTop (mkF m 3 #[.val (.ref b), .val (.int (Int32.ofNat (o + (i + 1)))), .val (.ref d), .val (.int (Int32.ofNat (q + (i + 1)))), .val (.int (Int32.ofNat len)), .val (.int (Int32.ofNat (i + 1))), .val (.int (cv A (o + i)))] [])) := by
        have := c9
        rw [succ32, succ32, succ32] at this
        exact this
      exact ih (i + 1) (by omega) _ (Or.inr ⟨_, rfl, rfl⟩) T7 _ (by rw [copyLocs_step, ← List.append_assoc]; exact X7) (pl.trans p7) (fl.step (by omega) hlt (by simp)) c10
  obtain ⟨T9, B9, z9, X9, p9, f9, g9⟩ := loop len 0 (by omega) .unset (Or.inl rfl) s₁ B (by simpa [copyLocs] using X0) ⟨hB0.1, fun _ _ => rfl, rfl⟩ (Laid.zero _ _ _) c2
  have c11 : Steps p.tables e below (s₁.setTop (entryFrame m #[.ref b, .int (Int32.ofNat o), .ref d, .int (Int32.ofNat q), .int (Int32.ofNat len)] 7)) (T9.setTop (mkF m 46 #[.val (.ref b), .val (.int (Int32.ofNat (o + len))), .val (.ref d), .val (.int (Int32.ofNat (q + len))), .val (.int (Int32.ofNat len)), .val (.int (Int32.ofNat len)), z9] [.int (Int32.ofNat len)])) := g9.trans (by
    refine XS.iload X9.here hexec rfl (hb hbytes d3) rfl ?_
    refine XS.iload X9.here hexec rfl (hb hbytes d5) rfl ?_
    refine XS.icmpYes X9.here hexec rfl (pc0 := 7) rfl (hb hbytes d7) rfl (ii_ge_t (nlt32 (by omega) (Nat.le_refl _))) (by decide) rfl ?_
    refine XS.iload X9.here hexec rfl (hb hbytes d44) rfl ?_
    exact Steps.refl _)
  exact ⟨T9, some (.int (Int32.ofNat len)), _, _, _, X9, by simp, rfl, rfl, (fun h => by cases h), ⟨rfl, B9, p9.from hh0, f9⟩, fun fs hl => c11.trans (X9.ireturnOut hexec hret rfl (Or.inl rfl) (hb hbytes d46) hl)⟩
end Cmp5
namespace Cmp3
def yN : MethodName := ⟨"java/lang/StringUTF16", "compress", "([CII)[B"⟩
abbrev yB : ByteArray := jdk_52_method_16_code
theorem d0 : decode yB 0 = .ok (.iload_n 2, 1) := by decide +kernel
theorem d1 : decode yB 1 = .ok (.newarray .byte, 2) := by decide +kernel
theorem d3 : decode yB 3 = .ok (.astore_n 3, 1) := by decide +kernel
theorem d4 : decode yB 4 = .ok (.aload_n 0, 1) := by decide +kernel
theorem d5 : decode yB 5 = .ok (.iload_n 1, 1) := by decide +kernel
theorem d6 : decode yB 6 = .ok (.aload_n 3, 1) := by decide +kernel
theorem d7 : decode yB 7 = .ok (.iconst 0, 1) := by decide +kernel
theorem d8 : decode yB 8 = .ok (.iload_n 2, 1) := by decide +kernel
theorem d9 : decode yB 9 = .ok (.invokestatic 115, 3) := by decide +kernel
theorem d12 : decode yB 12 = .ok (.istore 4, 2) := by decide +kernel
theorem d14 : decode yB 14 = .ok (.iload 4, 2) := by decide +kernel
theorem d16 : decode yB 16 = .ok (.iload_n 2, 1) := by decide +kernel
theorem d17 : decode yB 17 = .ok (.if_icmp (.eq) 40, 3) := by decide +kernel
theorem d57 : decode yB 57 = .ok (.aload_n 3, 1) := by decide +kernel
theorem d58 : decode yB 58 = .ok (.areturn, 1) := by decide +kernel
def site : List Cond := [.arrayClass .byte, Cmp5.tab] ++ staticW U16 115 Cmp5.yN
def tab : Cond := tabOf yN yB 6 (some (.array .byte)) site
def P (b : Addr) (A : Cell) (o len : Nat) (args : Array Value) (s : State) : Prop := args = #[.ref b, .int (Int32.ofNat o), .int (Int32.ofNat len)] ∧ Ch b A s ∧ o + len ≤ A.slots.size ∧ len ≤ 536870912 ∧ ∀ i, i < len → ¬ 255 < cv A (o + i)
def E (b : Addr) (A : Cell) (o len : Nat) (r : Option Value) (s u : State) : Prop := NewArr .byte "[B" len (fun j => .int (lo8 (cv A (o + j)))) r s u ∧ u.heap.size = s.heap.size + 1
/-- no char of the range above 255: a new byte[] of their low bytes -/
theorem law (l : Launch) (b : Addr) (A : Cell) (o len : Nat) : Law l yN 3 3 1 18 yB 6 (some (.array .byte)) site (P b A o len) (E b A o len) [] 1 len := by
  refine Law.of_walk (plainFor_of_name (by decide +kernel)) (by decide +kernel) (by decide +kernel) (by decide) (fun _ _ h => by rw [h.1]; rfl) (fun _ U U' hal hh h => ⟨h.1, h.2.1.mv hal hh, h.2.2⟩) (fun r U U' V V' h1 hal h2 h => ⟨NewArr.mv r U U' V V' h1 hal h2 h.1, by rw [h1, h2]; exact h.2⟩) ?_
  intro p e s m args below meth c s₁ X0 hexec hbytes hml hret hlk hnm hown hh0 W hP
  obtain ⟨rfl, hA, l1, l2, hp⟩ := hP
  have a31 := hA.1.2.2.2
  have c1 : Steps p.tables e below (s₁.setTop (entryFrame m #[.ref b, .int (Int32.ofNat o), .int (Int32.ofNat len)] 6)) (s₁.setTop (mkF m 0 #[.val (.ref b), .val (.int (Int32.ofNat o)), .val (.int (Int32.ofNat len)), .unset, .unset, .unset] [])) := entry rfl
  have c2 : Steps p.tables e below (s₁.setTop (entryFrame m #[.ref b, .int (Int32.ofNat o), .int (Int32.ofNat len)] 6)) (s₁.setTop (mkF m 1 #[.val (.ref b), .val (.int (Int32.ofNat o)), .val (.int (Int32.ofNat len)), .unset, .unset, .unset] [.int (Int32.ofNat len)])) := c1.trans (by
    refine XS.iloadN X0.here hexec rfl (hb hbytes d0) rfl ?_
    exact Steps.refl _)
  obtain ⟨T3, B3, X3, ba3, bs3, bv3, bh3, bf3, st3⟩ := X0.anew hexec (atype := .byte) (wk W (.arrayClass .byte)) rfl (by show len * 1 ≤ _; omega) (by omega) (g := (mkF m 1 #[.val (.ref b), .val (.int (Int32.ofNat o)), .val (.int (Int32.ofNat len)), .unset, .unset, .unset] [.int (Int32.ofNat len)])) rfl (hb hbytes d1) (rest := []) rfl (Nat.le_refl _) (by show 0 + len ≤ len; omega)
  rw [hh0] at ba3 st3
  have kp3 : XT.Kept s T3 := (XT.Kept.of_eq hh0).push bh3
  have hA3 := hA.keep X3.warmed.alike (kp3 _ _ hA.1.1)
  have hne : b ≠ s.heap.size := hA.1.ne
  have c4 : Steps p.tables e below (s₁.setTop (entryFrame m #[.ref b, .int (Int32.ofNat o), .int (Int32.ofNat len)] 6)) (T3.setTop (mkF m 3 #[.val (.ref b), .val (.int (Int32.ofNat o)), .val (.int (Int32.ofNat len)), .unset, .unset, .unset] [.ref s.heap.size])) := c2.trans (st3 _ (Steps.refl _))
  have c5 : Steps p.tables e below (s₁.setTop (entryFrame m #[.ref b, .int (Int32.ofNat o), .int (Int32.ofNat len)] 6)) (T3.setTop (mkF m 9 #[.val (.ref b), .val (.int (Int32.ofNat o)), .val (.int (Int32.ofNat len)), .val (.ref s.heap.size), .unset, .unset] [.int (Int32.ofNat len), .int 0, .ref s.heap.size, .int (Int32.ofNat o), .ref b])) := c4.trans (by
    refine XS.astoreN X3.here hexec rfl (hb hbytes d3) rfl rfl rfl ?_
    refine XS.aloadN X3.here hexec rfl (hb hbytes d4) rfl rfl ?_
    refine XS.iloadN X3.here hexec rfl (hb hbytes d5) rfl ?_
    refine XS.aloadN X3.here hexec rfl (hb hbytes d6) rfl rfl ?_
    refine iconstV X3.here hexec rfl 0 (hb hbytes d7) (by decide) ?_
    refine XS.iloadN X3.here hexec rfl (hb hbytes d8) rfl ?_
    exact Steps.refl _)
  obtain ⟨v6, T6, X6, E6, g6⟩ := X3.callS hexec (Cmp5.law l b A s.heap.size B3 o 0 len) hown (wks W (staticW U16 115 Cmp5.yN)) (wk W Cmp5.tab) (W := 0) (Nat.le_of_ble_eq_true rfl) (Nat.le_of_ble_eq_true rfl) (Nat.le_refl _) (by show 0 + len + 0 ≤ len; omega) (g := (mkF m 9 #[.val (.ref b), .val (.int (Int32.ofNat o)), .val (.int (Int32.ofNat len)), .val (.ref s.heap.size), .unset, .unset] [.int (Int32.ofNat len), .int (Int32.ofNat 0), .ref s.heap.size, .int (Int32.ofNat o), .ref b])) rfl (by rw [hml]; rfl) c5 (argsL := [.ref b, .int (Int32.ofNat o), .ref s.heap.size, .int (Int32.ofNat 0), .int (Int32.ofNat len)]) (rest := []) rfl rfl (by show 2 * 0 + 0 ≤ _; decide) (hb hbytes d9) (⟨rfl, hA3, ba3, hne, l1, by rw [bs3]; simp, hp⟩)
  obtain ⟨rfl, B6, p6, f6⟩ := E6
  have c7 : Steps p.tables e below (s₁.setTop (entryFrame m #[.ref b, .int (Int32.ofNat o), .int (Int32.ofNat len)] 6)) (T6.setTop (mkF m 12 #[.val (.ref b), .val (.int (Int32.ofNat o)), .val (.int (Int32.ofNat len)), .val (.ref s.heap.size), .unset, .unset] [.int (Int32.ofNat len)])) := g6
  have c8 : Steps p.tables e below (s₁.setTop (entryFrame m #[.ref b, .int (Int32.ofNat o), .int (Int32.ofNat len)] 6)) (T6.setTop (mkF m 58 #[.val (.ref b), .val (.int (Int32.ofNat o)), .val (.int (Int32.ofNat len)), .val (.ref s.heap.size), .val (.int (Int32.ofNat len)), .unset] [.ref s.heap.size])) := c7.trans (by
    refine XS.istore X6.here hexec rfl (hb hbytes d12) rfl rfl ?_
    refine XS.iload X6.here hexec rfl (hb hbytes d14) rfl ?_
    refine XS.iloadN X6.here hexec rfl (hb hbytes d16) rfl ?_
    refine XS.icmpYes X6.here hexec rfl (pc0 := 17) rfl (hb hbytes d17) rfl (ii_eq_t rfl) (by decide) rfl ?_
    refine XS.aloadN X6.here hexec rfl (hb hbytes d57) rfl rfl ?_
    exact Steps.refl _)
  have X8 := X6.wide (L' := []) (cells' := 1) (slots' := len) (fun x hx hlt => by
    simp only [List.nil_append, copyLocs, List.mem_map, List.mem_range] at hx
    obtain ⟨i, -, rfl⟩ := hx
    exact absurd hlt (Nat.lt_irrefl _)) (Nat.le_refl _) (by omega)
  exact ⟨T6, some (.ref s.heap.size), _, _, _, X8, rfl, rfl, rfl, (fun h => by cases h), ⟨⟨rfl, B6, ba3.like (X3.warmed.alike.symm.trans X6.warmed.alike) p6.1 f6.1 f6.2.1 f6.2.2.1, f6.2.1.trans bv3, by rw [X6.warmed.alike.findClass, f6.1]; exact bf3, by rw [f6.2.2.1, bs3]; simp, fun j hj => by rw [f6.2.2.2 j, if_pos (by omega)]; rfl, kp3.put p6 (Nat.le_refl _)⟩, by rw [p6.2.2, bh3, hh0]; simp⟩, fun fs hl => c8.trans (X8.areturnOut hexec rfl hret rfl (hb hbytes d58) hl)⟩
end Cmp3
namespace CodL
def yN : MethodName := ⟨"java/lang/StringUTF16", "coderFromArrayLen", "([BI)B"⟩
abbrev yB : ByteArray := jdk_52_method_15_code
theorem d0 : decode yB 0 = .ok (.iload_n 1, 1) := by decide +kernel
theorem d1 : decode yB 1 = .ok (.aload_n 0, 1) := by decide +kernel
theorem d2 : decode yB 2 = .ok (.arraylength, 1) := by decide +kernel
theorem d3 : decode yB 3 = .ok (.isub, 1) := by decide +kernel
theorem d4 : decode yB 4 = .ok (.bipush 31, 2) := by decide +kernel
theorem d6 : decode yB 6 = .ok (.iushr, 1) := by decide +kernel
theorem d7 : decode yB 7 = .ok (.i2b, 1) := by decide +kernel
theorem d8 : decode yB 8 = .ok (.ireturn, 1) := by decide +kernel
def site : List Cond := []
def tab : Cond := tabOf yN yB 2 (some .byte) site
def P (d : Addr) (B : Cell) (args : Array Value) (s : State) : Prop := args = #[.ref d, .int (Int32.ofNat B.slots.size)] ∧ Arr .byte d B s
def E (r : Option Value) (s u : State) : Prop := XT.PureE (some (.int 0)) r s u
/-- an array as long as the number of chars: LATIN1 -/
theorem law (l : Launch) (d : Addr) (B : Cell) : Law l yN 2 2 0 0 yB 2 (some .byte) site (P d B) E [] 0 0 := by
  refine Law.of_walk (plainFor_of_name (by decide +kernel)) (by decide +kernel) (by decide +kernel) (by decide) (fun _ _ h => by rw [h.1]; rfl) (fun _ U U' hal hh h => ⟨h.1, h.2.mv hal hh⟩) (fun r U U' V V' h1 hal h2 h => XT.PureE.mv r U U' V V' h1 hal h2 h) ?_
  intro p e s m args below meth c s₁ X0 hexec hbytes hml hret hlk hnm hown hh0 W hP
  obtain ⟨rfl, hB⟩ := hP
  have hB0 := hB.mv X0.warmed.alike hh0
  have c1 : Steps p.tables e below (s₁.setTop (entryFrame m #[.ref d, .int (Int32.ofNat B.slots.size)] 2)) (s₁.setTop (mkF m 0 #[.val (.ref d), .val (.int (Int32.ofNat B.slots.size))] [])) := entry rfl
  have c2 : Steps p.tables e below (s₁.setTop (entryFrame m #[.ref d, .int (Int32.ofNat B.slots.size)] 2)) (s₁.setTop (mkF m 2 #[.val (.ref d), .val (.int (Int32.ofNat B.slots.size))] [.ref d, .int (Int32.ofNat B.slots.size)])) := c1.trans (by
    refine XS.iloadN X0.here hexec rfl (hb hbytes d0) rfl ?_
    refine XS.aloadN X0.here hexec rfl (hb hbytes d1) rfl rfl ?_
    exact Steps.refl _)
  have c3 : Steps p.tables e below (s₁.setTop (entryFrame m #[.ref d, .int (Int32.ofNat B.slots.size)] 2)) (s₁.setTop (mkF m 8 #[.val (.ref d), .val (.int (Int32.ofNat B.slots.size))] [.int (lo8 (ushr (Int32.ofNat B.slots.size - Int32.ofNat B.slots.size) 31))])) := c2.trans (by
    refine X0.alen hexec hB0 rfl rfl (hb hbytes d2) ?_
    refine XS.isub X0.here hexec rfl (hb hbytes d3) rfl ?_
    refine bipushV X0.here hexec rfl 31 (hb hbytes d4) (by decide) ?_
    refine iushr X0.here hexec rfl (hb hbytes d6) rfl ?_
    refine i2b X0.here hexec rfl (hb hbytes d7) rfl ?_
    exact Steps.refl _)
  have e0 : lo8 (ushr (Int32.ofNat B.slots.size - Int32.ofNat B.slots.size) 31) = 0 := by rw [Int32.sub_self]; decide
  rw [e0] at c3
  exact ⟨s₁, some (.int 0), _, _, _, X0, rfl, rfl, rfl, (fun h => by cases h), ⟨rfl, hh0⟩, fun fs hl => c3.trans (X0.ireturnOut hexec hret rfl (Or.inr (Or.inr (Or.inl rfl))) (hb hbytes d8) hl)⟩
end CodL
/-- the String at a is Latin-1 over a new byte[] (the heap's one new cell): the low bytes of the len chars of A from o on; every cell but a is kept -/
def Got (a : Addr) (D : Cell) (fV fC : Field) (A : Cell) (o len : Nat) (r : Option Value) (s u : State) : Prop := r = none ∧ ∃ D' V : Cell, Blank "java/lang/String" a D' u ∧ Same D D' [fV.slot, fC.slot] ∧ D'.slots[fV.slot]? = some (.ref s.heap.size) ∧ D'.slots[fC.slot]? = some (.int 0) ∧ Arr .byte s.heap.size V u ∧ V.vm = .none ∧ u.vm.findClass "[B" = some V.cls ∧ V.slots.size = len ∧ (∀ j, j < len → V.slots[j]? = some (.int (lo8 (cv A (o + j))))) ∧ (∀ (y : Addr) (c : Cell), y ≠ a → s.heap[y]? = some c → u.heap[y]? = some c) ∧ u.heap.size = s.heap.size + 1
theorem Got.mv {a : Addr} {D A : Cell} {fV fC : Field} {o len : Nat} : ∀ r (U U' V V' : State), U'.heap = U.heap → V.vm.Alike V'.vm → V'.heap = V.heap → Got a D fV fC A o len r U V → Got a D fV fC A o len r U' V' :=
  fun r U U' V V' h1 hal h2 ⟨e0, D', X, a1, a2, a3, a4, a5, a6, a7, a8, a9, a10, a11⟩ => ⟨e0, D', X, a1.mv hal h2, a2, by rw [h1]; exact a3, a4, by rw [h1]; exact a5.mv hal h2, a6, by rw [hal.findClass]; exact a7, a8, a9, by rw [h1, h2]; exact a10, by rw [h1, h2]; exact a11⟩
namespace New4
def yN : MethodName := ⟨"java/lang/String", "<init>", "([CIILjava/lang/Void;)V"⟩
abbrev yB : ByteArray := jdk_42_method_149_code
theorem d0 : decode yB 0 = .ok (.aload_n 0, 1) := by decide +kernel
theorem d1 : decode yB 1 = .ok (.invokespecial 1, 3) := by decide +kernel
theorem d4 : decode yB 4 = .ok (.iload_n 3, 1) := by decide +kernel
theorem d5 : decode yB 5 = .ok (.ifCond (.ne) 22, 3) := by decide +kernel
theorem d27 : decode yB 27 = .ok (.getstatic 38, 3) := by decide +kernel
theorem d30 : decode yB 30 = .ok (.ifCond (.eq) 28, 3) := by decide +kernel
theorem d33 : decode yB 33 = .ok (.aload_n 1, 1) := by decide +kernel
theorem d34 : decode yB 34 = .ok (.iload_n 2, 1) := by decide +kernel
theorem d35 : decode yB 35 = .ok (.iload_n 3, 1) := by decide +kernel
theorem d36 : decode yB 36 = .ok (.invokestatic 177, 3) := by decide +kernel
theorem d39 : decode yB 39 = .ok (.astore 5, 2) := by decide +kernel
theorem d41 : decode yB 41 = .ok (.aload_n 0, 1) := by decide +kernel
theorem d42 : decode yB 42 = .ok (.aload 5, 2) := by decide +kernel
theorem d44 : decode yB 44 = .ok (.iload_n 3, 1) := by decide +kernel
theorem d45 : decode yB 45 = .ok (.invokestatic 47, 3) := by decide +kernel
theorem d48 : decode yB 48 = .ok (.putfield 15, 3) := by decide +kernel
theorem d51 : decode yB 51 = .ok (.aload_n 0, 1) := by decide +kernel
theorem d52 : decode yB 52 = .ok (.aload 5, 2) := by decide +kernel
theorem d54 : decode yB 54 = .ok (.putfield 9, 3) := by decide +kernel
theorem d57 : decode yB 57 = .ok (.return_, 1) := by decide +kernel
def site : List Cond := [.fieldLink "java/lang/String" 38 "java/lang/String" "COMPACT_STRINGS" "Z", Cmp3.tab, CodL.tab, .laysFinal "java/lang/String" "java/lang/String" "value" "[B", .fieldLink "java/lang/String" 9 "java/lang/String" "value" "[B", .laysFinal "java/lang/String" "java/lang/String" "coder" "B", .fieldLink "java/lang/String" 15 "java/lang/String" "coder" "B"] ++ objW "java/lang/String" 1 ++ staticW "java/lang/String" 177 Cmp3.yN ++ staticW "java/lang/String" 47 CodL.yN
def tab : Cond := tabOf yN yB 6 none site
def P (a : Addr) (D : Cell) (fV fC : Field) (b : Addr) (A : Cell) (z : Int32) (o len : Nat) (args : Array Value) (s : State) : Prop := args = #[.ref a, .ref b, .int (Int32.ofNat o), .int (Int32.ofNat len), .null] ∧ Blank "java/lang/String" a D s ∧ Found "java/lang/String" "value" "[B" fV s ∧ Found "java/lang/String" "coder" "B" fC s ∧ Ch b A s ∧ StaticIs s "java/lang/String" "COMPACT_STRINGS" "Z" (.int z) ∧ ¬ z = 0 ∧ 0 < len ∧ o + len ≤ A.slots.size ∧ len ≤ 536870912 ∧ ∀ i, i < len → ¬ 255 < cv A (o + i)
def E (a : Addr) (D : Cell) (fV fC : Field) (A : Cell) (o len : Nat) (r : Option Value) (s u : State) : Prop := Got a D fV fC A o len r s u
/-- len > 0, no char of the range above 255: a Latin-1 String of their low bytes -/
theorem law (l : Launch) (a : Addr) (D : Cell) (fV fC : Field) (b : Addr) (A : Cell) (z : Int32) (o len : Nat) : Law l yN 5 4 2 35 yB 6 none site (P a D fV fC b A z o len) (E a D fV fC A o len) [⟨a, fC.slot⟩, ⟨a, fV.slot⟩] 1 len := by
  refine Law.of_walk (plainFor_of_name (by decide +kernel)) (by decide +kernel) (by decide +kernel) (by decide) (fun _ _ h => by rw [h.1]; rfl) (fun _ U U' hal hh h => ⟨h.1, h.2.1.mv hal hh, h.2.2.1.al hal, h.2.2.2.1.al hal, h.2.2.2.2.1.mv hal hh, h.2.2.2.2.2.1.there hal hh, h.2.2.2.2.2.2⟩) (fun r U U' V V' h1 hal h2 h => Got.mv r U U' V V' h1 hal h2 h) ?_
  intro p e s m args below meth c s₁ X0 hexec hbytes hml hret hlk hnm hown hh0 W hP
  obtain ⟨rfl, hB, f1, f2, hA, s1, hz, l0, l1, l2, hp⟩ := hP
  have a31 := hA.1.2.2.2
  have c1 : Steps p.tables e below (s₁.setTop (entryFrame m #[.ref a, .ref b, .int (Int32.ofNat o), .int (Int32.ofNat len), .null] 6)) (s₁.setTop (mkF m 0 #[.val (.ref a), .val (.ref b), .val (.int (Int32.ofNat o)), .val (.int (Int32.ofNat len)), .val .null, .unset] [])) := entry rfl
  have c2 : Steps p.tables e below (s₁.setTop (entryFrame m #[.ref a, .ref b, .int (Int32.ofNat o), .int (Int32.ofNat len), .null] 6)) (s₁.setTop (mkF m 1 #[.val (.ref a), .val (.ref b), .val (.int (Int32.ofNat o)), .val (.int (Int32.ofNat len)), .val .null, .unset] [.ref a])) := c1.trans (by
    refine XS.aloadN X0.here hexec rfl (hb hbytes d0) rfl rfl ?_
    exact Steps.refl _)
  obtain ⟨T3, X3, q3, st3⟩ := X0.oinit hexec hown (wks W (objW "java/lang/String" 1)) (g := (mkF m 1 #[.val (.ref a), .val (.ref b), .val (.int (Int32.ofNat o)), .val (.int (Int32.ofNat len)), .val .null, .unset] [.ref a])) rfl (by rw [hml]; rfl) (rest := []) rfl (hb hbytes d1) (W := 0) (by show 2 * 0 + 0 ≤ _; decide) (Nat.le_of_ble_eq_true rfl) (Nat.le_of_ble_eq_true rfl)
  have hh3 := q3.trans hh0
  have c4 : Steps p.tables e below (s₁.setTop (entryFrame m #[.ref a, .ref b, .int (Int32.ofNat o), .int (Int32.ofNat len), .null] 6)) (T3.setTop (mkF m 27 #[.val (.ref a), .val (.ref b), .val (.int (Int32.ofNat o)), .val (.int (Int32.ofNat len)), .val .null, .unset] [])) := (c2.trans (st3 _ (Steps.refl _))).trans (by
    refine XS.iloadN X3.here hexec rfl (hb hbytes d4) rfl ?_
    refine XS.ifYes X3.here hexec rfl (pc0 := 5) rfl (hb hbytes d5) rfl (i0_ne_t (nz32 (by omega) l0)) (by decide) rfl ?_
    exact Steps.refl _)
  obtain ⟨T5, X5, q5, st5⟩ := X3.sget hexec hown (wk W (.fieldLink "java/lang/String" 38 "java/lang/String" "COMPACT_STRINGS" "Z")) s1 (fun _ _ h => by rw [hh3]; exact h) (g := (mkF m 27 #[.val (.ref a), .val (.ref b), .val (.int (Int32.ofNat o)), .val (.int (Int32.ofNat len)), .val .null, .unset] [])) rfl (hb hbytes d27)
  have hh5 := q5.trans hh3
  have c6 : Steps p.tables e below (s₁.setTop (entryFrame m #[.ref a, .ref b, .int (Int32.ofNat o), .int (Int32.ofNat len), .null] 6)) (T5.setTop (mkF m 30 #[.val (.ref a), .val (.ref b), .val (.int (Int32.ofNat o)), .val (.int (Int32.ofNat len)), .val .null, .unset] [.int z])) := c4.trans (st5 _ (Steps.refl _))
  have c7 : Steps p.tables e below (s₁.setTop (entryFrame m #[.ref a, .ref b, .int (Int32.ofNat o), .int (Int32.ofNat len), .null] 6)) (T5.setTop (mkF m 36 #[.val (.ref a), .val (.ref b), .val (.int (Int32.ofNat o)), .val (.int (Int32.ofNat len)), .val .null, .unset] [.int (Int32.ofNat len), .int (Int32.ofNat o), .ref b])) := c6.trans (by
    refine XS.ifNo X5.here hexec rfl (hb hbytes d30) rfl (i0_eq_f hz) ?_
    refine XS.aloadN X5.here hexec rfl (hb hbytes d33) rfl rfl ?_
    refine XS.iloadN X5.here hexec rfl (hb hbytes d34) rfl ?_
    refine XS.iloadN X5.here hexec rfl (hb hbytes d35) rfl ?_
    exact Steps.refl _)
  obtain ⟨v8, T8, X8, E8, g8⟩ := X5.callS hexec (Cmp3.law l b A o len) hown (wks W (staticW "java/lang/String" 177 Cmp3.yN)) (wk W Cmp3.tab) (W := 0) (Nat.le_of_ble_eq_true rfl) (Nat.le_of_ble_eq_true rfl) (Nat.le_refl _) (by show 0 + len ≤ len; omega) (g := (mkF m 36 #[.val (.ref a), .val (.ref b), .val (.int (Int32.ofNat o)), .val (.int (Int32.ofNat len)), .val .null, .unset] [.int (Int32.ofNat len), .int (Int32.ofNat o), .ref b])) rfl (by rw [hml]; rfl) c7 (argsL := [.ref b, .int (Int32.ofNat o), .int (Int32.ofNat len)]) (rest := []) rfl rfl (by show 2 * 0 + 0 ≤ _; decide) (hb hbytes d36) (⟨rfl, hA.mv X5.warmed.alike hh5, l1, l2, hp⟩)
  obtain ⟨e8, z8⟩ := E8
  obtain ⟨rfl, N, n1, n2, n3, n4, n5, n6⟩ := NewArr.mv _ T5 s _ _ hh5.symm (Vm.Alike.refl _) rfl e8
  rw [hh5] at z8
  have hB1 := hB.keep X8.warmed.alike (n6 _ _ hB.1)
  have hne : s.heap.size ≠ a := (Nat.ne_of_lt (Array.getElem?_eq_some_iff.mp hB.1).1).symm
  have c9 : Steps p.tables e below (s₁.setTop (entryFrame m #[.ref a, .ref b, .int (Int32.ofNat o), .int (Int32.ofNat len), .null] 6)) (T8.setTop (mkF m 39 #[.val (.ref a), .val (.ref b), .val (.int (Int32.ofNat o)), .val (.int (Int32.ofNat len)), .val .null, .unset] [.ref s.heap.size])) := g8
  have c10 : Steps p.tables e below (s₁.setTop (entryFrame m #[.ref a, .ref b, .int (Int32.ofNat o), .int (Int32.ofNat len), .null] 6)) (T8.setTop (mkF m 45 #[.val (.ref a), .val (.ref b), .val (.int (Int32.ofNat o)), .val (.int (Int32.ofNat len)), .val .null, .val (.ref s.heap.size)] [.int (Int32.ofNat N.slots.size), .ref s.heap.size, .ref a])) := by
    have hc : Steps p.tables e below (s₁.setTop (entryFrame m #[.ref a, .ref b, .int (Int32.ofNat o), .int (Int32.ofNat len), .null] 6)) (T8.setTop (mkF m 45 #[.val (.ref a), .val (.ref b), .val (.int (Int32.ofNat o)), .val (.int (Int32.ofNat len)), .val .null, .val (.ref s.heap.size)] [.int (Int32.ofNat len), .ref s.heap.size, .ref a])) := c9.trans (by
      refine XS.astore X8.here hexec rfl (hb hbytes d39) rfl rfl rfl ?_
      refine XS.aloadN X8.here hexec rfl (hb hbytes d41) rfl rfl ?_
      refine XS.aload X8.here hexec rfl (hb hbytes d42) rfl rfl ?_
      refine XS.iloadN X8.here hexec rfl (hb hbytes d44) rfl ?_
      exact Steps.refl _)
    rw [n4]; exact hc
  obtain ⟨v11, T11, X11, E11, g11⟩ := X8.callS hexec (CodL.law l s.heap.size N) hown (wks W (staticW "java/lang/String" 47 CodL.yN)) (wk W CodL.tab) (W := 1) (Nat.le_of_ble_eq_true rfl) (Nat.le_of_ble_eq_true rfl) (Nat.le_refl _) (by show 0 + len + 0 ≤ len; omega) (g := (mkF m 45 #[.val (.ref a), .val (.ref b), .val (.int (Int32.ofNat o)), .val (.int (Int32.ofNat len)), .val .null, .val (.ref s.heap.size)] [.int (Int32.ofNat N.slots.size), .ref s.heap.size, .ref a])) rfl (by rw [hml]; rfl) c10 (argsL := [.ref s.heap.size, .int (Int32.ofNat N.slots.size)]) (rest := [.ref a]) rfl rfl (by show 2 * 0 + (1 + 0) ≤ _; decide) (hb hbytes d45) (⟨rfl, n1⟩)
  obtain ⟨rfl, q11⟩ := E11
  have hB11 := hB1.mv (X8.warmed.alike.symm.trans X11.warmed.alike) q11
  have c12 : Steps p.tables e below (s₁.setTop (entryFrame m #[.ref a, .ref b, .int (Int32.ofNat o), .int (Int32.ofNat len), .null] 6)) (T11.setTop (mkF m 48 #[.val (.ref a), .val (.ref b), .val (.int (Int32.ofNat o)), .val (.int (Int32.ofNat len)), .val .null, .val (.ref s.heap.size)] [.int 0, .ref a])) := g11
  obtain ⟨T13, X13, p13, bl13, sl13, st13⟩ := X11.finit hexec hown (wk W (.fieldLink "java/lang/String" 15 "java/lang/String" "coder" "B")) (Or.inr ⟨_, (wk W (.laysFinal "java/lang/String" "java/lang/String" "coder" "B"))⟩) (Or.inl ⟨rfl, hnm⟩) f2 (Or.inl rfl) hB11 (t := .byte) (by decide +kernel) rfl (g := (mkF m 48 #[.val (.ref a), .val (.ref b), .val (.int (Int32.ofNat o)), .val (.int (Int32.ofNat len)), .val .null, .val (.ref s.heap.size)] [.int 0, .ref a])) rfl (rest := []) rfl (hb hbytes d48)
  have c14 : Steps p.tables e below (s₁.setTop (entryFrame m #[.ref a, .ref b, .int (Int32.ofNat o), .int (Int32.ofNat len), .null] 6)) (T13.setTop (mkF m 54 #[.val (.ref a), .val (.ref b), .val (.int (Int32.ofNat o)), .val (.int (Int32.ofNat len)), .val .null, .val (.ref s.heap.size)] [.ref s.heap.size, .ref a])) := (c12.trans (st13 _ (Steps.refl _))).trans (by
    refine XS.aloadN X13.here hexec rfl (hb hbytes d51) rfl rfl ?_
    refine XS.aload X13.here hexec rfl (hb hbytes d52) rfl rfl ?_
    exact Steps.refl _)
  obtain ⟨T15, X15, p15, bl15, sl15, st15⟩ := X13.finit hexec hown (wk W (.fieldLink "java/lang/String" 9 "java/lang/String" "value" "[B")) (Or.inr ⟨_, (wk W (.laysFinal "java/lang/String" "java/lang/String" "value" "[B"))⟩) (Or.inl ⟨rfl, hnm⟩) f1 (Or.inl rfl) bl13 (t := (.array .byte)) (by decide +kernel) rfl (g := (mkF m 54 #[.val (.ref a), .val (.ref b), .val (.int (Int32.ofNat o)), .val (.int (Int32.ofNat len)), .val .null, .val (.ref s.heap.size)] [.ref s.heap.size, .ref a])) rfl (rest := []) rfl (hb hbytes d54)
  have c16 : Steps p.tables e below (s₁.setTop (entryFrame m #[.ref a, .ref b, .int (Int32.ofNat o), .int (Int32.ofNat len), .null] 6)) (T15.setTop (mkF m 57 #[.val (.ref a), .val (.ref b), .val (.int (Int32.ofNat o)), .val (.int (Int32.ofNat len)), .val .null, .val (.ref s.heap.size)] [])) := c14.trans (st15 _ (Steps.refl _))
  have ap := apart (Or.inr ⟨_, (wk W (.laysFinal "java/lang/String" "java/lang/String" "value" "[B"))⟩) (Or.inr ⟨_, (wk W (.laysFinal "java/lang/String" "java/lang/String" "coder" "B"))⟩) f1 f2 (t₁ := .array .byte) (t₂ := .byte) (by decide +kernel) (by decide +kernel) (by decide)
  have al := X8.warmed.alike.symm.trans X15.warmed.alike
  have n7 : T11.heap[s.heap.size]? = some N := by rw [q11]; exact n1.1
  exact ⟨T15, none, _, _, _, X15, by simp, rfl, by omega, (fun _ => rfl), ⟨rfl, _, N, bl15, ((Same.refl D _).set _ (by simp)).set _ (by simp), sl15, (Cell.slots_setSlot_ne _ ap).trans sl13, n1.keep al (p15.other hne (p13.other hne n7)), n2, by rw [al.findClass]; exact n3, n4, n5, fun y c h1 h2 => p15.other h1 (p13.other h1 (by rw [q11]; exact n6 y c h2)), by rw [p15.2.2, p13.2.2, q11]; exact z8⟩, fun fs hl => c16.trans (X15.returnOut hexec hret (hb hbytes d57) hl)⟩
end New4
namespace New1
def yN : MethodName := ⟨"java/lang/String", "<init>", "([C)V"⟩
abbrev yB : ByteArray := jdk_42_method_3_code
theorem d0 : decode yB 0 = .ok (.aload_n 0, 1) := by decide +kernel
theorem d1 : decode yB 1 = .ok (.aload_n 1, 1) := by decide +kernel
theorem d2 : decode yB 2 = .ok (.iconst 0, 1) := by decide +kernel
theorem d3 : decode yB 3 = .ok (.aload_n 1, 1) := by decide +kernel
theorem d4 : decode yB 4 = .ok (.arraylength, 1) := by decide +kernel
theorem d5 : decode yB 5 = .ok (.aconst_null, 1) := by decide +kernel
theorem d6 : decode yB 6 = .ok (.invokespecial 27, 3) := by decide +kernel
theorem d9 : decode yB 9 = .ok (.return_, 1) := by decide +kernel
def site : List Cond := [New4.tab] ++ initW "java/lang/String" 27 New4.yN
def tab : Cond := tabOf yN yB 2 none site
def P (a : Addr) (D : Cell) (fV fC : Field) (b : Addr) (A : Cell) (z : Int32) (args : Array Value) (s : State) : Prop := args = #[.ref a, .ref b] ∧ Blank "java/lang/String" a D s ∧ Found "java/lang/String" "value" "[B" fV s ∧ Found "java/lang/String" "coder" "B" fC s ∧ Ch b A s ∧ StaticIs s "java/lang/String" "COMPACT_STRINGS" "Z" (.int z) ∧ ¬ z = 0 ∧ 0 < A.slots.size ∧ A.slots.size ≤ 536870912 ∧ ∀ i, i < A.slots.size → ¬ 255 < cv A i
def E (a : Addr) (D : Cell) (fV fC : Field) (A : Cell) (r : Option Value) (s u : State) : Prop := Got a D fV fC A 0 A.slots.size r s u
/-- new String(chars), not empty, no char above 255: a Latin-1 String of their low bytes -/
theorem law (l : Launch) (a : Addr) (D : Cell) (fV fC : Field) (b : Addr) (A : Cell) (z : Int32) : Law l yN 2 1 3 52 yB 2 none site (P a D fV fC b A z) (E a D fV fC A) [⟨a, fC.slot⟩, ⟨a, fV.slot⟩] 1 A.slots.size := by
  refine Law.of_walk (plainFor_of_name (by decide +kernel)) (by decide +kernel) (by decide +kernel) (by decide) (fun _ _ h => by rw [h.1]; rfl) (fun _ U U' hal hh h => ⟨h.1, h.2.1.mv hal hh, h.2.2.1.al hal, h.2.2.2.1.al hal, h.2.2.2.2.1.mv hal hh, h.2.2.2.2.2.1.there hal hh, h.2.2.2.2.2.2⟩) (fun r U U' V V' h1 hal h2 h => Got.mv r U U' V V' h1 hal h2 h) ?_
  intro p e s m args below meth c s₁ X0 hexec hbytes hml hret hlk hnm hown hh0 W hP
  obtain ⟨rfl, hB, f1, f2, hA, s1, hz, l0, l2, hp⟩ := hP
  have c1 : Steps p.tables e below (s₁.setTop (entryFrame m #[.ref a, .ref b] 2)) (s₁.setTop (mkF m 0 #[.val (.ref a), .val (.ref b)] [])) := entry rfl
  have c2 : Steps p.tables e below (s₁.setTop (entryFrame m #[.ref a, .ref b] 2)) (s₁.setTop (mkF m 6 #[.val (.ref a), .val (.ref b)] [.null, .int (Int32.ofNat A.slots.size), .int 0, .ref b, .ref a])) := c1.trans (by
    refine XS.aloadN X0.here hexec rfl (hb hbytes d0) rfl rfl ?_
    refine XS.aloadN X0.here hexec rfl (hb hbytes d1) rfl rfl ?_
    refine iconstV X0.here hexec rfl 0 (hb hbytes d2) (by decide) ?_
    refine XS.aloadN X0.here hexec rfl (hb hbytes d3) rfl rfl ?_
    refine X0.alen hexec (hA.1.mv X0.warmed.alike hh0) rfl rfl (hb hbytes d4) ?_
    refine XS.aconstNull X0.here hexec rfl (hb hbytes d5) ?_
    exact Steps.refl _)
  obtain ⟨v3, T3, X3, E3, g3⟩ := X0.callN hexec (New4.law l a D fV fC b A z 0 A.slots.size) rfl hown (wks W (initW "java/lang/String" 27 New4.yN)) (W New4.tab (by simp only [site, List.mem_cons, List.mem_append, true_or, or_true])) (W := 0) (Nat.le_of_ble_eq_true rfl) (Nat.le_of_ble_eq_true rfl) (Nat.le_refl _) (by show 0 + A.slots.size ≤ A.slots.size; omega) (g := (mkF m 6 #[.val (.ref a), .val (.ref b)] [.null, .int (Int32.ofNat A.slots.size), .int (Int32.ofNat 0), .ref b, .ref a])) rfl (by rw [hml]; rfl) c2 (argsL := [.ref b, .int (Int32.ofNat 0), .int (Int32.ofNat A.slots.size), .null]) (rest := []) rfl rfl (by show 2 * 0 + 0 ≤ _; decide) (hb hbytes d6) (⟨rfl, hB.mv X0.warmed.alike hh0, f1.al X0.warmed.alike, f2.al X0.warmed.alike, hA.mv X0.warmed.alike hh0, s1.there X0.warmed.alike hh0, hz, l0, by omega, l2, fun i hi => by rw [Nat.zero_add]; exact hp i hi⟩)
  have e0 := Got.mv _ s₁ s _ _ hh0.symm (Vm.Alike.refl _) rfl E3
  obtain rfl := e0.1
  have c4 : Steps p.tables e below (s₁.setTop (entryFrame m #[.ref a, .ref b] 2)) (T3.setTop (mkF m 9 #[.val (.ref a), .val (.ref b)] [])) := g3
  exact ⟨T3, none, _, _, _, X3, by simp, rfl, by omega, (fun _ => rfl), e0, fun fs hl => c4.trans (X3.returnOut hexec hret (hb hbytes d9) hl)⟩
theorem pays {l : Launch} {R : Room} {p : Program} {e : Env} {below : List Frame} {s : State} {sargs : Array Value} {len W : Nat} (a : Addr) (D : Cell) (fV fC : Field) (b : Addr) (A : Cell) (z : Int32) (htab : tab.before sargs s = true) (hfr : 4 ≤ R.frames) (hlo : W + 65 ≤ R.locals) :
    Back l R p e below s sargs yN len W (fun A₁ a₁ => A₁.cells + 1 ≤ R.cells ∧ A₁.slots + A.slots.size ≤ R.slots ∧ P a D fV fC b A z a₁ A₁.U) (fun A₁ _ v₁ B₁ => E a D fV fC A v₁ A₁.U B₁.U ∧ B₁.locs = A₁.locs ++ [⟨a, fC.slot⟩, ⟨a, fV.slot⟩] ∧ B₁.cells = A₁.cells + 1 ∧ B₁.slots = A₁.slots + A.slots.size) :=
  (law l a D fV fC b A z).pays htab hfr (by omega)
end New1
end StrChars
namespace StrChars.Road
open Jvm Sem ClassFile Op Lib Jvm.Stand Jvm.Free Jvm.Free.XT
open Jvm.Lib.Cold (StaticIs)
abbrev ST : String := "java/lang/String"
/-- every table word that New1's law asks, flat -/
abbrev words : List Jvm.Cond := [.code New1.yN New1.yB 2 none, .initialized ST, .methodLink ST 27 New4.yN, .instanceMethod New4.yN,
  .code New4.yN New4.yB 6 none, .fieldLink ST 38 ST "COMPACT_STRINGS" "Z", .laysFinal ST ST "value" "[B", .fieldLink ST 9 ST "value" "[B", .laysFinal ST ST "coder" "B", .fieldLink ST 15 ST "coder" "B",
  .methodLink ST 1 Lib.objectInit, .instanceMethod Lib.objectInit, .code Lib.objectInit ⟨#[0xb1]⟩ 1 none, .methodLink ST 177 Cmp3.yN, .static Cmp3.yN, .methodLink ST 47 CodL.yN, .static CodL.yN,
  .code Cmp3.yN Cmp3.yB 6 (some (.array .byte)), .initialized U16, .arrayClass .byte, .methodLink U16 115 Cmp5.yN, .static Cmp5.yN, .code Cmp5.yN Cmp5.yB 7 (some .int), .code CodL.yN CodL.yB 2 (some .byte)]
theorem tab_of {a : Array Value} {s : State} (h : ∀ w ∈ words, w.before a s = true) : New1.tab.before a s = true := by
  have h5 : Cmp5.tab.before a s = true := unparts (wk h (.code Cmp5.yN Cmp5.yB 7 (some .int))) (wks h (.initialized Cmp5.yN.cls :: Cmp5.site))
  have hc : CodL.tab.before a s = true := unparts (wk h (.code CodL.yN CodL.yB 2 (some .byte))) (wks h (.initialized CodL.yN.cls :: CodL.site))
  have q5 : ∀ w ∈ Cmp5.tab :: words, w.before a s = true := fun w hw => (List.mem_cons.mp hw).elim (fun e => e ▸ h5) (h w)
  have h3 : Cmp3.tab.before a s = true := unparts (wk q5 (.code Cmp3.yN Cmp3.yB 6 (some (.array .byte)))) (wks q5 (.initialized Cmp3.yN.cls :: Cmp3.site))
  have q3 : ∀ w ∈ Cmp3.tab :: CodL.tab :: words, w.before a s = true := fun w hw => (List.mem_cons.mp hw).elim (fun e => e ▸ h3) fun hw => (List.mem_cons.mp hw).elim (fun e => e ▸ hc) (h w)
  have h4 : New4.tab.before a s = true := unparts (wk q3 (.code New4.yN New4.yB 6 none)) (wks q3 (.initialized New4.yN.cls :: New4.site))
  have q4 : ∀ w ∈ New4.tab :: words, w.before a s = true := fun w hw => (List.mem_cons.mp hw).elim (fun e => e ▸ h4) (h w)
  exact unparts (wk q4 (.code New1.yN New1.yB 2 none)) (wks q4 (.initialized New1.yN.cls :: New1.site))
/-- the words ride from the start Z to the walk's own state -/
theorem moved {Z s : State} {a0 args : Array Value} (hZ : Z.Warmed39 s.vm) (hw : ∀ d ∈ words, d.before a0 Z = true) : ∀ d ∈ words, d.before args s = true := fun d hd => by
  have q := hw d hd
  have t : ∀ d ∈ words, d = .arrayClass .byte ∨ (d.onTables && d.keepsFace) = true := by decide +kernel
  rcases t d hd with rfl | t
  · exact RoadKit.mvA hZ q
  · exact RoadKit.mv hZ q t
/-- WHAT COMES BACK, over the tables of the start Z: h the heap at the call, h' behind it -/
def Q (Z : State) (x : Addr) (A : Cell) (h : Heap) (v : Option Value) (h' : Heap) (L : List Loc) : Prop := v = none ∧ (∀ y ∈ L, y.base = x) ∧ RoadKit.Keep h h' [x] ∧ h'.size = h.size + 1 ∧ RoadKit.Exa Z h' x ST ∧ RoadKit.Fld Z h' x ST "value" "[B" (.ref h.size) ∧ RoadKit.Fld Z h' x ST "coder" "B" (.int 0) ∧
  (∃ V : Cell, RoadKit.Arr Z h' h.size V .byte ∧ V.vm = .none ∧ Z.vm.findClass "[B" = some V.cls ∧ V.slots.size = A.slots.size ∧ ∀ j, j < A.slots.size → V.slots[j]? = some (.int (lo8 (cv A j)))) ∧
  ∀ (O n d : String) (w : Value), RoadKit.Fld Z h x O n d w → RoadKit.slotOf Z O n d ≠ RoadKit.slotOf Z ST "value" "[B" → RoadKit.slotOf Z O n d ≠ RoadKit.slotOf Z ST "coder" "B" → RoadKit.Fld Z h' x O n d w
/-- **new String(chars) AT A CALL, IN THE ROAD'S FORM**: for specialBack behind newO: x the fresh String, b the char[] with the cell A -/
theorem back {p : Program} {l : Launch} {e : Env} {R : Room} {s : State} {args : Array Value} {below : List Frame} {len W : Nat} {Z : State} {a0 : Array Value} {h : Heap} (hZ : Z.Warmed39 s.vm) (hw : ∀ d ∈ words, d.before a0 Z = true) {kI : Nat} (wi : (Jvm.Cond.instantiable ST kI).before a0 Z = true)
    {x b : Addr} {A : Cell} {z : Int32} {v0 c0 : Value} (E : RoadKit.Exa Z h x ST) (V : RoadKit.Fld Z h x ST "value" "[B" v0) (C : RoadKit.Fld Z h x ST "coder" "B" c0) (K : RoadKit.Arr Z h b A .char) (hty : Typed .char A) (S : RoadKit.Sta Z h ST "COMPACT_STRINGS" "Z" (.int z)) (hz : ¬ z = 0)
    (l0 : 0 < A.slots.size) (l2 : A.slots.size ≤ 536870912) (hp : ∀ i, i < A.slots.size → ¬ 255 < cv A i) (hfr : 4 ≤ R.frames) (hlo : W + 65 ≤ R.locals) :
    Back l R p e below s args New1.yN len W (fun P a => a = #[.ref x, .ref b] ∧ P.U.heap = h ∧ P.cells + 1 ≤ R.cells ∧ P.slots + A.slots.size ≤ R.slots)
      (fun P _ v B => ∃ L, Q Z x A h v B.U.heap L ∧ B.locs = P.locs ++ L ∧ B.cells = P.cells + 1 ∧ B.slots = P.slots + A.slots.size) := by
  intro m meth c P g ig mk a X hg hsize hdg hW hn hp'
  obtain ⟨rfl, rfl, r1, r2⟩ := hp'
  have al : Z.vm.Alike P.U.vm := hZ.alike.trans X.warmed.alike
  obtain ⟨D, cfV, kV, iV, fV, hD, gV, stV, knV, obV, asV, slV⟩ := id V
  obtain ⟨D', cfC, kC, iC, fC, hD', gC, stC, -, -, asC, slC⟩ := id C
  cases hD.symm.trans hD'
  obtain ⟨D2, kD, e1, e2, e3, e4, e5⟩ := id E
  cases hD.symm.trans e1
  obtain ⟨c2, k2, i1, i2, i3, -⟩ := Cond.instantiable_spec wi
  cases e2.symm.trans i1
  cases e3.symm.trans i2
  obtain ⟨kU, u1, u2⟩ := al.2.2 _ _ e3
  have hB : Blank ST x D P.U := ⟨hD, ⟨knV, fun q hq => by rw [hq] at obV; cases obV⟩, by rw [al.findClass]; exact e2, kU, u1, by rw [u2]; exact i3, by rw [u2]; exact e5 i3⟩
  have F1 : Found ST "value" "[B" fV P.U := ⟨SBG.found_only al ⟨cfV, kV, iV, gV⟩, stV⟩
  have F2 : Found ST "coder" "B" fC P.U := ⟨SBG.found_only al ⟨cfC, kC, iC, gC⟩, stC⟩
  have hA : Ch b A P.U := ⟨⟨K.1, State.isArrayOf_alike al K.2.1, K.2.2, by omega⟩, hty⟩
  have hS : StaticIs P.U ST "COMPACT_STRINGS" "Z" (.int z) := by
    obtain ⟨cfS, iS, kS, fS, st, cS, t1, t2, t3, t4, t5, t6, t7⟩ := S
    exact StaticIs.there (s := { Z with heap := P.U.heap }) ⟨cfS, iS, kS, fS, st, cS, t1, t2, t3, t4, t5, (fun q => by rw [q] at t6; cases t6), t7⟩ al rfl
  obtain ⟨v, B, X', ⟨⟨hv, E', V', q1, q2, q3, q4, q5, q6, q7, q8, q9, q10, q11⟩, hl, hc, hs⟩, st⟩ := New1.pays x D fV fC b A z (tab_of (moved hZ hw)) hfr hlo m meth c P g ig mk _ X hg hsize hdg hW hn ⟨r1, r2, rfl, hB, F1, F2, hA, hS, hz, l0, l2, hp⟩
  have al' : Z.vm.Alike B.U.vm := hZ.alike.trans X'.warmed.alike
  have hsz : E'.slots.size = D.slots.size := by
    obtain ⟨-, -, -, kB, w1, w2, w3⟩ := q1
    obtain ⟨kB', y1, y2⟩ := al'.2.2 _ _ e3
    rw [q2.2.1] at w1
    cases w1.symm.trans y1
    rw [w3, e5 i3, y2]
  refine ⟨v, B, X', ⟨_, ⟨hv, ?_, ⟨by omega, fun y cy hy hn' => q10 y cy (by simpa using hn') hy, fun y cy hy => ?_⟩, q11, ⟨E', _, q1.1, by rw [q2.2.1]; exact e2, by rw [q2.2.1]; exact e3, by rw [q2.1]; exact obV, fun _ => by rw [hsz]; exact e5 i3⟩,
    ⟨E', cfV, kV, iV, fV, q1.1, gV, stV, by rw [q2.1]; exact knV, by rw [q2.1]; exact obV, by rw [q2.2.1]; exact asV, q3⟩, ⟨E', cfC, kC, iC, fC, q1.1, gC, stC, by rw [q2.1]; exact knV, by rw [q2.1]; exact obV, by rw [q2.2.1]; exact asC, q4⟩,
    ⟨V', ⟨q5.1, State.isArrayOf_alike al'.symm q5.2.1, q5.2.2.1⟩, q6, by rw [← al'.findClass]; exact q7, q8, fun j hj => by have := q9 j hj; rwa [Nat.zero_add] at this⟩, fun O n d w F n1 n2 => ?_⟩, hl, hc, hs⟩, st⟩
  · intro y hy
    simp only [List.mem_cons, List.not_mem_nil, or_false] at hy
    rcases hy with rfl | rfl <;> rfl
  · by_cases q : y = x
    · subst q
      cases hD.symm.trans hy
      exact ⟨E', q1.1, q2.2.1, q2.1, hsz⟩
    · exact ⟨cy, q10 y cy q hy, rfl, rfl, rfl⟩
  · obtain ⟨D3, cf, k, i, f, g1, g2, g3, g4, g5, g6, g7⟩ := F
    cases hD.symm.trans g1
    simp only [RoadKit.slotOf, g2, gV, gC, Option.map_some, Option.getD_some] at n1 n2
    exact ⟨E', cf, k, i, f, q1.1, g2, g3, by rw [q2.1]; exact g4, by rw [q2.1]; exact g5, by rw [q2.2.1]; exact g6, by rw [q2.2.2 f.slot (by simp [n1, n2])]; exact g7⟩
end StrChars.Road
namespace StrChars.Road
open Jvm Sem ClassFile Op Lib Jvm.Stand Jvm.Free Jvm.Free.XT
/-- WHAT COMES BACK, the byte[] as a list of values -/
def QA (Z : State) (x : Addr) (zn : Int32) (cs : List Int32) (h : Heap) (v : Option Value) (h' : Heap) (L : List Loc) : Prop := v = none ∧ (∀ y ∈ L, y.base = x) ∧ RoadKit.Keep h h' [x] ∧ h'.size = h.size + 1 ∧ RoadKit.Exa Z h' x ST ∧ RoadKit.Fld Z h' x ST "value" "[B" (.ref h.size) ∧ RoadKit.Fld Z h' x ST "coder" "B" (.int 0) ∧
  (∃ kb, Z.vm.findClass "[B" = some kb ∧ RoadKit.Arv Z h' h.size kb .byte zn (cs.map fun c => .int (lo8 c)) (.int 0)) ∧
  ∀ (O n d : String) (w : Value), RoadKit.Fld Z h x O n d w → RoadKit.slotOf Z O n d ≠ RoadKit.slotOf Z ST "value" "[B" → RoadKit.slotOf Z O n d ≠ RoadKit.slotOf Z ST "coder" "B" → RoadKit.Fld Z h' x O n d w
/-- **new String(chars) AT A CALL, THE ARRAYS AS LISTS**: the char[] at b holds cs, not empty, no char above 255 -/
theorem backArv {p : Program} {l : Launch} {e : Env} {R : Room} {s : State} {args : Array Value} {below : List Frame} {len W : Nat} {Z : State} {a0 : Array Value} {h : Heap} (hZ : Z.Warmed39 s.vm) (hw : ∀ d ∈ words, d.before a0 Z = true) {kI : Nat} (wi : (Jvm.Cond.instantiable ST kI).before a0 Z = true)
    {x b : Addr} {k : ClassId} {zn z : Int32} {cs : List Int32} {dv v0 c0 : Value} (E : RoadKit.Exa Z h x ST) (V : RoadKit.Fld Z h x ST "value" "[B" v0) (C : RoadKit.Fld Z h x ST "coder" "B" c0) (K : RoadKit.Arv Z h b k .char zn (cs.map Value.int) dv) (S : RoadKit.Sta Z h ST "COMPACT_STRINGS" "Z" (.int z)) (hz : ¬ z = 0)
    (hlen : zn.toNatClampNeg = cs.length) (h0 : 0 < cs.length) (hbig : cs.length ≤ 536870912) (hall : ∀ c ∈ cs, ¬ 255 < c) (hfr : 4 ≤ R.frames) (hlo : W + 65 ≤ R.locals) :
    Back l R p e below s args New1.yN len W (fun P a => a = #[.ref x, .ref b] ∧ P.U.heap = h ∧ P.cells + 1 ≤ R.cells ∧ P.slots + cs.length ≤ R.slots)
      (fun P _ v B => ∃ L, QA Z x zn cs h v B.U.heap L ∧ B.locs = P.locs ++ L ∧ B.cells = P.cells + 1 ∧ B.slots = P.slots + cs.length) := by
  obtain ⟨A, K1, K2, K3, K4, K5, K6⟩ := K
  have e : A.slots.size = cs.length := K3.trans hlen
  have hat : ∀ (i : Nat) (hi : i < cs.length), A.slots[i]? = some (.int cs[i]) := fun i hi => by rw [K5 i (by omega)]; simp [List.getD_eq_getElem?_getD, hi]
  have hcv : ∀ (i : Nat) (hi : i < cs.length), cv A i = cs[i] := fun i hi => by unfold cv; rw [hat i hi]
  have hty : Typed .char A := fun i v hv => by
    have hi : i < A.slots.size := (Array.getElem?_eq_some_iff.mp hv).1
    have q := K5 i hi
    rw [hv] at q
    rw [Option.some.inj q]
    exact K6 i hi
  refine Back.mono (back hZ hw wi E V C K1 hty S hz (by omega) (by omega) (fun i hi => by rw [hcv i (by omega)]; exact hall _ (List.getElem_mem _)) hfr hlo) (fun P a hp => ⟨hp.1, hp.2.1, hp.2.2.1, by rw [e]; exact hp.2.2.2⟩) (fun P a v B hp hq => ?_)
  obtain ⟨L, ⟨q1, q2, q3, q4, q5, q6, q7, ⟨V', v1, v2, v3, v4, v5⟩, q9⟩, hl, hc, hs⟩ := hq
  refine ⟨L, ⟨q1, q2, q3, q4, q5, q6, q7, ⟨V'.cls, v3, V', v1, rfl, by rw [v4, e, hlen], K4, fun i hi => ?_, fun i hi => ?_⟩, q9⟩, hl, hc, by rw [hs, e]⟩
  · have hi' : i < cs.length := by omega
    rw [v5 i (by omega), hcv i hi']; simp [List.getD_eq_getElem?_getD, hi']
  · have hi' : i < cs.length := by omega
    simp only [List.getD_eq_getElem?_getD, List.getElem?_map, List.getElem?_eq_getElem hi', Option.map_some, Option.getD_some]
    exact fits_lo8 _
end StrChars.Road
namespace StrChars.Road
open Jvm Sem ClassFile Op Lib Jvm.Stand Jvm.Free Jvm.Free.XT
/-- WHAT COMES BACK, in the writer's own shape -/
def QV (Z : State) (x : Addr) (N : Int32) (bs : List Int32) (h : Heap) (n0 : Nat) (v : Option Value) (h' : Heap) (L : List Loc) : Prop := v = none ∧ RoadKit.Fr n0 L ∧ RoadKit.Keep h h' [x] ∧ RoadKit.Exa Z h' x ST ∧ RoadKit.Fld Z h' x ST "coder" "B" (.int 0) ∧
  ∃ (t : Addr) (kb : ClassId), n0 ≤ t ∧ h.size ≤ t ∧ ¬ t = x ∧ RoadKit.Fld Z h' x ST "value" "[B" (.ref t) ∧ RoadKit.Arv Z h' t kb .byte N (bs.map Value.int) (.int 0)
/-- **new String(chars) AT A CALL, FOR THE WRITER**: a char[] of n known ints, each 0 to 255 -/
theorem backV {p : Program} {l : Launch} {e : Env} {R : Room} {s : State} {args : Array Value} {below : List Frame} {len W : Nat} {Z : State} {a0 : Array Value} {h : Heap} (hZ : Z.Warmed39 s.vm) (hw : ∀ d ∈ words, d.before a0 Z = true) {kI : Nat} (wi : (Jvm.Cond.instantiable ST kI).before a0 Z = true)
    {x b : Addr} {kC : ClassId} {cs bs : List Int32} {d v0 c0 : Value} {z N : Int32} {n n0 : Nat} (hx0 : n0 ≤ x) (hh0 : n0 ≤ h.size) (E : RoadKit.Exa Z h x ST) (V : RoadKit.Fld Z h x ST "value" "[B" v0) (C : RoadKit.Fld Z h x ST "coder" "B" c0) (K : RoadKit.Arv Z h b kC .char N (cs.map Value.int) d) (S : RoadKit.Sta Z h ST "COMPACT_STRINGS" "Z" (.int z)) (hz : ¬ z = 0)
    (hn : cs.length = n) (hN : N = Int32.ofNat n) (l0 : 0 < n) (l2 : n ≤ 4000) (hp : ∀ c ∈ cs, ¬ c < 0 ∧ ¬ (255 : Int32) < c) (hb : bs = cs.map (fun c => c.toInt8.toInt32)) (hfr : 4 ≤ R.frames) (hlo : W + 65 ≤ R.locals) :
    Back l R p e below s args (⟨"java/lang/String", "<init>", "([C)V"⟩ : MethodName) len W (fun P a => a = #[.ref x, .ref b] ∧ P.U.heap = h ∧ P.cells + 1 ≤ R.cells ∧ P.slots + n ≤ R.slots)
      (fun P _ v B => ∃ L, QV Z x N bs h n0 v B.U.heap L ∧ B.locs = P.locs ++ L ∧ B.cells = P.cells + 1 ∧ B.slots = P.slots + n) := by
  subst hn hN hb
  refine Back.mono (backArv hZ hw wi E V C K S hz (n32 (by omega)) l0 (by omega) (fun c hc => (hp c hc).2) hfr hlo) (fun P a hp => hp) (fun P a v B hp hq => ?_)
  obtain ⟨L, ⟨q1, q2, q3, q4, q5, q6, q7, ⟨kb, v1, v2⟩, q9⟩, hl, hc, hs⟩ := hq
  exact ⟨L, ⟨q1, fun y hy => by rw [q2 y hy]; exact hx0, q3, q5, q7, h.size, kb, hh0, Nat.le_refl _, Nat.ne_of_gt E.lt, q6, by rw [List.map_map]; exact v2⟩, hl, hc, hs⟩
end StrChars.Road
namespace StrChars
open Jvm Sem ClassFile Op Lib Jvm.Stand Jvm.Free.XT Jvm.Free.ALB Jvm.Free.JM Jvm.Free
open Jvm.Lib.Cold (StaticIs)
def hi8 (x : Int32) : Int32 := lo8 (x >>> ((8 : Int32) &&& 31))
end StrChars
namespace StrChars.Road
open Jvm Sem ClassFile Op Lib Jvm.Stand Jvm.Free Jvm.Free.XT
open Jvm.Lib.Cold (StaticIs)
/-- the bytes of the chars cs, low before high -/
def wideBytes : List Int32 → List Value
  | [] => []
  | c :: cs => .int (lo8 c) :: .int (hi8 c) :: wideBytes cs
/-- an array of N2 bytes vs codes the chars cs by the coder cd -/
def CodA (cs : List Int32) (cd N2 : Int32) (vs : List Value) : Prop := (cd = 0 ∧ N2 = Int32.ofNat cs.length ∧ vs = (cs.map fun c => Value.int (lo8 c)) ∧ ∀ c ∈ cs, ¬ 255 < c) ∨ (cd = 1 ∧ N2 = Int32.ofNat (2 * cs.length) ∧ vs = wideBytes cs ∧ ∃ c ∈ cs, 255 < c)
end StrChars.Road
namespace StrChars.Road
open Jvm Sem ClassFile Op Lib Jvm.Stand Jvm.Free Jvm.Free.XT
open Jvm.Lib.Cold (StaticIs)
/-- what backV says of its String, as the contracts of this text ask it: cs's low bytes, coder 0 -/
theorem codOf {cs : List Int32} {n : Nat} (hn : cs.length = n) (hb : ∀ c ∈ cs, ¬ 255 < c) : CodA cs 0 (Int32.ofNat n) ((cs.map lo8).map Value.int) := Or.inl ⟨rfl, by rw [hn], by simp [List.map_map, Function.comp_def], hb⟩
end StrChars.Road
end Jvm.Pilot.@@N@@
namespace Jvm.Pilot.@@N@@
namespace Own
open Jvm Jvm.ClassFile Sem Op Lib Jvm.Free Jvm.Stand Jvm.LawKit Jvm.RoadKit Bundle
/-! ## 1. The plain steps, run as a function on pc, locals and stack -/
abbrev Fm : Type := Nat × Array Slot × List Value
def i1 (S : List Value) (f : Int32 → List Value → Option Fm) : Option Fm := match S with | .int x :: S => f x S | _ => none
def i2 (S : List Value) (f : Int32 → Int32 → List Value → Option Fm) : Option Fm := match S with | .int y :: .int x :: S => f x y S | _ => none
def l1 (S : List Value) (f : Int64 → List Value → Option Fm) : Option Fm := match S with | .long x :: S => f x S | _ => none
def l2 (S : List Value) (f : Int64 → Int64 → List Value → Option Fm) : Option Fm := match S with | .long y :: .long x :: S => f x y S | _ => none
def il2 (S : List Value) (f : Int64 → Int32 → List Value → Option Fm) : Option Fm := match S with | .int y :: .long x :: S => f x y S | _ => none
def v1 (S : List Value) (f : Value → List Value → Option Fm) : Option Fm := match S with | x :: S => f x S | _ => none
def v2 (S : List Value) (f : Value → Value → List Value → Option Fm) : Option Fm := match S with | y :: x :: S => f x y S | _ => none
def gi (L : Array Slot) (k : Nat) (f : Int32 → Option Fm) : Option Fm := match L[k]? with | some (.val (.int x)) => f x | _ => none
def gl (L : Array Slot) (k : Nat) (f : Int64 → Option Fm) : Option Fm := match L[k]? with | some (.val (.long x)) => f x | _ => none
def gr (L : Array Slot) (k : Nat) (f : Value → Option Fm) : Option Fm := match L[k]? with | some (.val .null) => f .null | some (.val (.ref a)) => f (.ref a) | _ => none
def ck (P : Prop) [Decidable P] (r : Option Fm) : Option Fm := if P then r else none
def st (o : Option (Array Slot)) (f : Array Slot → Fm) : Option Fm := match o with | some L => some (f L) | none => none
theorem i1_inv {S f r} (h : i1 S f = some r) : ∃ x S', S = .int x :: S' ∧ f x S' = some r := by unfold i1 at h; split at h <;> first | exact ⟨_, _, rfl, h⟩ | exact nomatch h
theorem i2_inv {S f r} (h : i2 S f = some r) : ∃ x y S', S = .int y :: .int x :: S' ∧ f x y S' = some r := by unfold i2 at h; split at h <;> first | exact ⟨_, _, _, rfl, h⟩ | exact nomatch h
theorem l1_inv {S f r} (h : l1 S f = some r) : ∃ x S', S = .long x :: S' ∧ f x S' = some r := by unfold l1 at h; split at h <;> first | exact ⟨_, _, rfl, h⟩ | exact nomatch h
theorem l2_inv {S f r} (h : l2 S f = some r) : ∃ x y S', S = .long y :: .long x :: S' ∧ f x y S' = some r := by unfold l2 at h; split at h <;> first | exact ⟨_, _, _, rfl, h⟩ | exact nomatch h
theorem il2_inv {S f r} (h : il2 S f = some r) : ∃ x y S', S = .int y :: .long x :: S' ∧ f x y S' = some r := by unfold il2 at h; split at h <;> first | exact ⟨_, _, _, rfl, h⟩ | exact nomatch h
theorem v1_inv {S f r} (h : v1 S f = some r) : ∃ x S', S = x :: S' ∧ f x S' = some r := by unfold v1 at h; split at h <;> first | exact ⟨_, _, rfl, h⟩ | exact nomatch h
theorem v2_inv {S f r} (h : v2 S f = some r) : ∃ x y S', S = y :: x :: S' ∧ f x y S' = some r := by unfold v2 at h; split at h <;> first | exact ⟨_, _, _, rfl, h⟩ | exact nomatch h
theorem gi_inv {L k f r} (h : gi L k f = some r) : ∃ x, L[k]? = some (.val (.int x)) ∧ f x = some r := by unfold gi at h; split at h <;> first | exact ⟨_, by assumption, h⟩ | exact nomatch h
theorem gl_inv {L k f r} (h : gl L k f = some r) : ∃ x, L[k]? = some (.val (.long x)) ∧ f x = some r := by unfold gl at h; split at h <;> first | exact ⟨_, by assumption, h⟩ | exact nomatch h
theorem gr_inv {L k f r} (h : gr L k f = some r) : ∃ x, L[k]? = some (.val x) ∧ x.isRef = true ∧ f x = some r := by unfold gr at h; split at h <;> first | exact ⟨_, by assumption, rfl, h⟩ | exact ⟨_, by assumption, rfl, h⟩ | exact nomatch h
theorem ck_inv {P : Prop} [Decidable P] {r : Option Fm} {x : Fm} (h : ck P r = some x) : P ∧ r = some x := by unfold ck at h; split at h <;> first | exact ⟨by assumption, h⟩ | exact nomatch h
theorem st_inv {o f r} (h : st o f = some r) : ∃ L, o = some L ∧ f L = r := by unfold st at h; split at h <;> first | exact ⟨_, rfl, Option.some.inj h⟩ | exact nomatch h
def p1 (i : Instr) (n pc : Nat) (L : Array Slot) (S : List Value) : Option Fm := match i with
  | .iload_n k => ck (n = 1) (gi L k.val fun v => some (pc + 1, L, .int v :: S))
  | .iload k => ck (n = 2) (gi L k fun v => some (pc + 2, L, .int v :: S))
  | .lload_n k => ck (n = 1) (gl L k.val fun v => some (pc + 1, L, .long v :: S))
  | .lload k => ck (n = 2) (gl L k fun v => some (pc + 2, L, .long v :: S))
  | .aload_n k => ck (n = 1) (gr L k.val fun v => some (pc + 1, L, v :: S))
  | .aload k => ck (n = 2) (gr L k fun v => some (pc + 2, L, v :: S))
  | .iconst i => ck (n = 1) (some (pc + 1, L, .int (Int32.ofInt i) :: S))
  | .lconst k => ck (n = 1) (some (pc + 1, L, .long (Int64.ofNat k) :: S))
  | .bipush i => ck (n = 2) (some (pc + 2, L, .int (Int8.ofInt i).toInt32 :: S))
  | .sipush i => ck (n = 3) (some (pc + 3, L, .int (Int16.ofInt i).toInt32 :: S))
  | .aconst_null => ck (n = 1) (some (pc + 1, L, .null :: S))
  | .iadd => ck (n = 1) (i2 S fun x y S => some (pc + 1, L, .int (x + y) :: S))
  | .isub => ck (n = 1) (i2 S fun x y S => some (pc + 1, L, .int (x - y) :: S))
  | .imul => ck (n = 1) (i2 S fun x y S => some (pc + 1, L, .int (x * y) :: S))
  | .iand => ck (n = 1) (i2 S fun x y S => some (pc + 1, L, .int (x &&& y) :: S))
  | .ior => ck (n = 1) (i2 S fun x y S => some (pc + 1, L, .int (x ||| y) :: S))
  | .ixor => ck (n = 1) (i2 S fun x y S => some (pc + 1, L, .int (x ^^^ y) :: S))
  | .ishl => ck (n = 1) (i2 S fun x y S => some (pc + 1, L, .int (x <<< (y &&& 31)) :: S))
  | .ishr => ck (n = 1) (i2 S fun x y S => some (pc + 1, L, .int (x >>> (y &&& 31)) :: S))
  | .iushr => ck (n = 1) (i2 S fun x y S => some (pc + 1, L, .int (XT.ushr x y) :: S))
  | .irem => ck (n = 1) (i2 S fun x y S => ck (y ≠ 0) (some (pc + 1, L, .int (x % y) :: S)))
  | .idiv => ck (n = 1) (i2 S fun x y S => ck (y ≠ 0) (some (pc + 1, L, .int (x / y) :: S)))
  | .ineg => ck (n = 1) (i1 S fun x S => some (pc + 1, L, .int (-x) :: S))
  | .ladd => ck (n = 1) (l2 S fun x y S => some (pc + 1, L, .long (x + y) :: S))
  | .lsub => ck (n = 1) (l2 S fun x y S => some (pc + 1, L, .long (x - y) :: S))
  | .lmul => ck (n = 1) (l2 S fun x y S => some (pc + 1, L, .long (x * y) :: S))
  | .land => ck (n = 1) (l2 S fun x y S => some (pc + 1, L, .long (x &&& y) :: S))
  | .lor => ck (n = 1) (l2 S fun x y S => some (pc + 1, L, .long (x ||| y) :: S))
  | .lxor => ck (n = 1) (l2 S fun x y S => some (pc + 1, L, .long (x ^^^ y) :: S))
  | .lushr => ck (n = 1) (il2 S fun x y S => some (pc + 1, L, .long (XT.ushrL x y) :: S))
  | .lshr => ck (n = 1) (il2 S fun x y S => some (pc + 1, L, .long (x >>> (y.toInt64 &&& 63)) :: S))
  | .lshl => ck (n = 1) (il2 S fun x y S => some (pc + 1, L, .long (x <<< (y.toInt64 &&& 63)) :: S))
  | .ldiv => ck (n = 1) (l2 S fun x y S => ck (y ≠ 0) (some (pc + 1, L, .long (x / y) :: S)))
  | .lrem => ck (n = 1) (l2 S fun x y S => ck (y ≠ 0) (some (pc + 1, L, .long (x % y) :: S)))
  | .lcmp => ck (n = 1) (l2 S fun x y S => some (pc + 1, L, .int (XT.cmpL x y) :: S))
  | .lneg => ck (n = 1) (l1 S fun x S => some (pc + 1, L, .long (-x) :: S))
  | .i2l => ck (n = 1) (i1 S fun x S => some (pc + 1, L, .long x.toInt64 :: S))
  | .l2i => ck (n = 1) (l1 S fun x S => some (pc + 1, L, .int x.toInt32 :: S))
  | .i2b => ck (n = 1) (i1 S fun x S => some (pc + 1, L, .int x.toInt8.toInt32 :: S))
  | .i2c => ck (n = 1) (i1 S fun x S => some (pc + 1, L, .int x.toUInt32.toUInt16.toUInt32.toInt32 :: S))
  | .istore_n k => ck (n = 1) (i1 S fun x S => st (storeLocals L k.val (.int x)) fun L => (pc + 1, L, S))
  | .istore k => ck (n = 2) (i1 S fun x S => st (storeLocals L k (.int x)) fun L => (pc + 2, L, S))
  | .lstore_n k => ck (n = 1) (l1 S fun x S => st (storeLocals L k.val (.long x)) fun L => (pc + 1, L, S))
  | .lstore k => ck (n = 2) (l1 S fun x S => st (storeLocals L k (.long x)) fun L => (pc + 2, L, S))
  | .astore_n k => ck (n = 1) (v1 S fun x S => ck (x.isRef = true) (st (storeLocals L k.val x) fun L => (pc + 1, L, S)))
  | .astore k => ck (n = 2) (v1 S fun x S => ck (x.isRef = true) (st (storeLocals L k x) fun L => (pc + 2, L, S)))
  | .iinc k i => ck (n = 3) (gi L k fun v => st (storeLocals L k (.int (v + Int32.ofInt i))) fun L => (pc + 3, L, S))
  | .dup => ck (n = 1) (v1 S fun x S => ck (x.category = 1) (some (pc + 1, L, x :: x :: S)))
  | .dup_x1 => ck (n = 1) (v2 S fun y x S => ck (x.category = 1 ∧ y.category = 1) (some (pc + 1, L, x :: y :: x :: S)))
  | .pop => ck (n = 1) (v1 S fun x S => ck (x.category = 1) (some (pc + 1, L, S)))
  | .goto o => ck (n = 3 ∧ 0 ≤ (pc : Int) + o) (some (((pc : Int) + o).toNat, L, S))
  | _ => none
set_option maxHeartbeats 4000000 in
theorem p1_sound {tb : Tables} [Ours tb] {e : Env} {below : List Frame} {T target : State} {m : MethodId} {c : Code} (h : At T m c below) (hx : tb.exec = Jvm.exec) {i : Instr} {n pc : Nat} {L : Array Slot} {S : List Value} {F : Fm}
    (hd : decode c.code pc = .ok (i, n)) (hp : p1 i n pc L S = some F) (hr : Steps tb e below (T.setTop (mkF m F.1 F.2.1 F.2.2)) target) : Steps tb e below (T.setTop (mkF m pc L S)) target := by
  cases i <;> simp only [p1, reduceCtorEq] at hp
  case iload_n k => obtain ⟨rfl, hp1⟩ := ck_inv hp; obtain ⟨v, hl, hp2⟩ := gi_inv hp1; cases hp2; exact XS.iloadN h hx rfl hd hl hr
  case iload k => obtain ⟨rfl, hp1⟩ := ck_inv hp; obtain ⟨v, hl, hp2⟩ := gi_inv hp1; cases hp2; exact XS.iload h hx rfl hd hl hr
  case lload_n k => obtain ⟨rfl, hp1⟩ := ck_inv hp; obtain ⟨v, hl, hp2⟩ := gl_inv hp1; cases hp2; exact XT.lloadN h hx rfl hd hl hr
  case lload k => obtain ⟨rfl, hp1⟩ := ck_inv hp; obtain ⟨v, hl, hp2⟩ := gl_inv hp1; cases hp2; exact XT.lload h hx rfl hd hl hr
  case aload_n k => obtain ⟨rfl, hp1⟩ := ck_inv hp; obtain ⟨v, hl, hv, hp2⟩ := gr_inv hp1; cases hp2; exact XS.aloadN h hx rfl hd hl hv hr
  case aload k => obtain ⟨rfl, hp1⟩ := ck_inv hp; obtain ⟨v, hl, hv, hp2⟩ := gr_inv hp1; cases hp2; exact XS.aload h hx rfl hd hl hv hr
  case iconst i => obtain ⟨rfl, hp1⟩ := ck_inv hp; cases hp1; exact XS.iconst h hx rfl hd hr
  case lconst i => obtain ⟨rfl, hp1⟩ := ck_inv hp; cases hp1; exact XT.lconst h hx rfl hd hr
  case bipush i => obtain ⟨rfl, hp1⟩ := ck_inv hp; cases hp1; exact XS.bipush h hx rfl hd hr
  case sipush i => obtain ⟨rfl, hp1⟩ := ck_inv hp; cases hp1; exact XS.sipush h hx rfl hd hr
  case aconst_null => obtain ⟨rfl, hp1⟩ := ck_inv hp; cases hp1; exact XS.aconstNull h hx rfl hd hr
  case iadd => obtain ⟨rfl, hp1⟩ := ck_inv hp; obtain ⟨x, y, S', rfl, hp2⟩ := i2_inv hp1; cases hp2; exact XS.iadd h hx rfl hd rfl hr
  case isub => obtain ⟨rfl, hp1⟩ := ck_inv hp; obtain ⟨x, y, S', rfl, hp2⟩ := i2_inv hp1; cases hp2; exact XS.isub h hx rfl hd rfl hr
  case imul => obtain ⟨rfl, hp1⟩ := ck_inv hp; obtain ⟨x, y, S', rfl, hp2⟩ := i2_inv hp1; cases hp2; exact XS.imul h hx rfl hd rfl hr
  case iand => obtain ⟨rfl, hp1⟩ := ck_inv hp; obtain ⟨x, y, S', rfl, hp2⟩ := i2_inv hp1; cases hp2; exact XS.iand h hx rfl hd rfl hr
  case ior => obtain ⟨rfl, hp1⟩ := ck_inv hp; obtain ⟨x, y, S', rfl, hp2⟩ := i2_inv hp1; cases hp2; exact XT.ior h hx rfl hd rfl hr
  case ixor => obtain ⟨rfl, hp1⟩ := ck_inv hp; obtain ⟨x, y, S', rfl, hp2⟩ := i2_inv hp1; cases hp2; exact XT.ixor h hx rfl hd rfl hr
  case ishl => obtain ⟨rfl, hp1⟩ := ck_inv hp; obtain ⟨x, y, S', rfl, hp2⟩ := i2_inv hp1; cases hp2; exact XT.ishl h hx rfl hd rfl hr
  case ishr => obtain ⟨rfl, hp1⟩ := ck_inv hp; obtain ⟨x, y, S', rfl, hp2⟩ := i2_inv hp1; cases hp2; exact XT.ishr h hx rfl hd rfl hr
  case iushr => obtain ⟨rfl, hp1⟩ := ck_inv hp; obtain ⟨x, y, S', rfl, hp2⟩ := i2_inv hp1; cases hp2; exact XT.iushr h hx rfl hd rfl hr
  case irem => obtain ⟨rfl, hp1⟩ := ck_inv hp; obtain ⟨x, y, S', rfl, hp2⟩ := i2_inv hp1; obtain ⟨hy, hp3⟩ := ck_inv hp2; cases hp3; exact XS.irem h hx rfl hd rfl hy (by rw [irem_eq_mod]; exact hr)
  case idiv => obtain ⟨rfl, hp1⟩ := ck_inv hp; obtain ⟨x, y, S', rfl, hp2⟩ := i2_inv hp1; obtain ⟨hy, hp3⟩ := ck_inv hp2; cases hp3; exact XS.idiv h hx rfl hd rfl hy hr
  case ineg => obtain ⟨rfl, hp1⟩ := ck_inv hp; obtain ⟨x, S', rfl, hp2⟩ := i1_inv hp1; cases hp2; exact XS.ineg h hx rfl hd rfl hr
  case ladd => obtain ⟨rfl, hp1⟩ := ck_inv hp; obtain ⟨x, y, S', rfl, hp2⟩ := l2_inv hp1; cases hp2; exact XT.ladd h hx rfl hd rfl hr
  case lsub => obtain ⟨rfl, hp1⟩ := ck_inv hp; obtain ⟨x, y, S', rfl, hp2⟩ := l2_inv hp1; cases hp2; exact XT.lsub h hx rfl hd rfl hr
  case lmul => obtain ⟨rfl, hp1⟩ := ck_inv hp; obtain ⟨x, y, S', rfl, hp2⟩ := l2_inv hp1; cases hp2; exact XT.lmul h hx rfl hd rfl hr
  case land => obtain ⟨rfl, hp1⟩ := ck_inv hp; obtain ⟨x, y, S', rfl, hp2⟩ := l2_inv hp1; cases hp2; exact XT.land h hx rfl hd rfl hr
  case lor => obtain ⟨rfl, hp1⟩ := ck_inv hp; obtain ⟨x, y, S', rfl, hp2⟩ := l2_inv hp1; cases hp2; exact XT.lor h hx rfl hd rfl hr
  case lxor => obtain ⟨rfl, hp1⟩ := ck_inv hp; obtain ⟨x, y, S', rfl, hp2⟩ := l2_inv hp1; cases hp2; exact XT.lxor h hx rfl hd rfl hr
  case lushr => obtain ⟨rfl, hp1⟩ := ck_inv hp; obtain ⟨x, y, S', rfl, hp2⟩ := il2_inv hp1; cases hp2; exact XT.lushr h hx rfl hd rfl hr
  case lshr => obtain ⟨rfl, hp1⟩ := ck_inv hp; obtain ⟨x, y, S', rfl, hp2⟩ := il2_inv hp1; cases hp2; exact XT.lshr h hx rfl hd rfl hr
  case lshl => obtain ⟨rfl, hp1⟩ := ck_inv hp; obtain ⟨x, y, S', rfl, hp2⟩ := il2_inv hp1; cases hp2; exact XT.lshl h hx rfl hd rfl hr
  case ldiv => obtain ⟨rfl, hp1⟩ := ck_inv hp; obtain ⟨x, y, S', rfl, hp2⟩ := l2_inv hp1; obtain ⟨hy, hp3⟩ := ck_inv hp2; cases hp3; exact XT.ldiv h hx rfl hd rfl hy hr
  case lrem => obtain ⟨rfl, hp1⟩ := ck_inv hp; obtain ⟨x, y, S', rfl, hp2⟩ := l2_inv hp1; obtain ⟨hy, hp3⟩ := ck_inv hp2; cases hp3; exact XT.lrem h hx rfl hd rfl hy (by rw [lrem_mod]; exact hr)
  case lcmp => obtain ⟨rfl, hp1⟩ := ck_inv hp; obtain ⟨x, y, S', rfl, hp2⟩ := l2_inv hp1; cases hp2; exact XT.lcmp h hx rfl hd rfl hr
  case lneg => obtain ⟨rfl, hp1⟩ := ck_inv hp; obtain ⟨x, S', rfl, hp2⟩ := l1_inv hp1; cases hp2; exact XT.lneg h hx rfl hd rfl hr
  case i2l => obtain ⟨rfl, hp1⟩ := ck_inv hp; obtain ⟨x, S', rfl, hp2⟩ := i1_inv hp1; cases hp2; exact XT.i2l h hx rfl hd rfl hr
  case l2i => obtain ⟨rfl, hp1⟩ := ck_inv hp; obtain ⟨x, S', rfl, hp2⟩ := l1_inv hp1; cases hp2; exact XT.l2i h hx rfl hd rfl hr
  case i2b => obtain ⟨rfl, hp1⟩ := ck_inv hp; obtain ⟨x, S', rfl, hp2⟩ := i1_inv hp1; cases hp2; exact XT.i2b h hx rfl hd rfl hr
  case i2c => obtain ⟨rfl, hp1⟩ := ck_inv hp; obtain ⟨x, S', rfl, hp2⟩ := i1_inv hp1; cases hp2; exact XT.i2c h hx rfl hd rfl hr
  case istore_n k => obtain ⟨rfl, hp1⟩ := ck_inv hp; obtain ⟨x, S', rfl, hp2⟩ := i1_inv hp1; obtain ⟨L1, hl, rfl⟩ := st_inv hp2; exact XS.istoreN h hx rfl hd rfl hl hr
  case istore k => obtain ⟨rfl, hp1⟩ := ck_inv hp; obtain ⟨x, S', rfl, hp2⟩ := i1_inv hp1; obtain ⟨L1, hl, rfl⟩ := st_inv hp2; exact XS.istore h hx rfl hd rfl hl hr
  case lstore_n k => obtain ⟨rfl, hp1⟩ := ck_inv hp; obtain ⟨x, S', rfl, hp2⟩ := l1_inv hp1; obtain ⟨L1, hl, rfl⟩ := st_inv hp2; exact XT.lstoreN h hx rfl hd rfl hl hr
  case lstore k => obtain ⟨rfl, hp1⟩ := ck_inv hp; obtain ⟨x, S', rfl, hp2⟩ := l1_inv hp1; obtain ⟨L1, hl, rfl⟩ := st_inv hp2; exact XT.lstore h hx rfl hd rfl hl hr
  case astore_n k => obtain ⟨rfl, hp1⟩ := ck_inv hp; obtain ⟨x, S', rfl, hp2⟩ := v1_inv hp1; obtain ⟨hv, hp3⟩ := ck_inv hp2; obtain ⟨L1, hl, rfl⟩ := st_inv hp3; exact XS.astoreN h hx rfl hd rfl hv hl hr
  case astore k => obtain ⟨rfl, hp1⟩ := ck_inv hp; obtain ⟨x, S', rfl, hp2⟩ := v1_inv hp1; obtain ⟨hv, hp3⟩ := ck_inv hp2; obtain ⟨L1, hl, rfl⟩ := st_inv hp3; exact XS.astore h hx rfl hd rfl hv hl hr
  case iinc k i => obtain ⟨rfl, hp1⟩ := ck_inv hp; obtain ⟨v, hl, hp2⟩ := gi_inv hp1; obtain ⟨L1, hl', rfl⟩ := st_inv hp2; exact XS.iinc h hx rfl hd hl hl' hr
  case dup => obtain ⟨rfl, hp1⟩ := ck_inv hp; obtain ⟨x, S', rfl, hp2⟩ := v1_inv hp1; obtain ⟨hc, hp3⟩ := ck_inv hp2; cases hp3; exact XS.dup h hx rfl hd rfl hc hr
  case dup_x1 => obtain ⟨rfl, hp1⟩ := ck_inv hp; obtain ⟨y, x, S', rfl, hp2⟩ := v2_inv hp1; obtain ⟨hc, hp3⟩ := ck_inv hp2; cases hp3; exact XT.dupX1 h hx rfl hd rfl hc.1 hc.2 hr
  case pop => obtain ⟨rfl, hp1⟩ := ck_inv hp; obtain ⟨x, S', rfl, hp2⟩ := v1_inv hp1; obtain ⟨hc, hp3⟩ := ck_inv hp2; cases hp3; exact XT.pop h hx rfl hd rfl hc hr
  case goto o => obtain ⟨⟨rfl, ho⟩, hp1⟩ := ck_inv hp; cases hp1; exact XS.goto h hx rfl (pc0 := pc) rfl hd ho rfl hr
/-- a straight road: each row a pc, its instruction, its length -/
def run : List (Nat × Instr × Nat) → Fm → Option Fm
  | [], F => some F
  | (q, i, n) :: r, F => if q = F.1 then (p1 i n F.1 F.2.1 F.2.2).bind (run r) else none
theorem run_cons {q : Nat} {i : Instr} {n : Nat} {r : List (Nat × Instr × Nat)} {F F' : Fm} (hp : run ((q, i, n) :: r) F = some F') : q = F.1 ∧ ∃ F1, p1 i n F.1 F.2.1 F.2.2 = some F1 ∧ run r F1 = some F' := by
  have hp' : (if q = F.1 then (p1 i n F.1 F.2.1 F.2.2).bind (run r) else none) = some F' := hp
  by_cases hq : q = F.1
  · rw [if_pos hq] at hp'
    exact ⟨hq, Option.bind_eq_some_iff.mp hp'⟩
  · rw [if_neg hq] at hp'
    exact nomatch hp'
theorem run_sound {tb : Tables} [Ours tb] {e : Env} {below : List Frame} {T target : State} {m : MethodId} {c : Code} (h : At T m c below) (hx : tb.exec = Jvm.exec) : ∀ (seg : List (Nat × Instr × Nat)) (F F' : Fm),
    (∀ x ∈ seg, decode c.code x.1 = .ok x.2) → run seg F = some F' → Steps tb e below (T.setTop (mkF m F'.1 F'.2.1 F'.2.2)) target → Steps tb e below (T.setTop (mkF m F.1 F.2.1 F.2.2)) target := by
  intro seg
  induction seg with
  | nil => intro F F' _ hp hr; cases hp; exact hr
  | cons a r ih =>
    intro F F' hd hp hr
    obtain ⟨q, i, n⟩ := a
    obtain ⟨hq, F1, h1, h2⟩ := run_cons hp
    have hd0 := hd _ (List.mem_cons_self ..)
    rw [show ((q, i, n) : Nat × Instr × Nat).1 = q from rfl, hq] at hd0
    exact p1_sound h hx hd0 h1 (ih F1 F' (fun x hm => hd x (List.mem_cons_of_mem _ hm)) h2 hr)
theorem ef_of {m : MethodId} {args : Array Value} {n : Nat} {Ls : Array Slot} (h : Jvm.Sym.laidSlots args.toList ++ List.replicate (n - (Jvm.Sym.laidSlots args.toList).length) .unset = Ls.toList) : entryFrame m args n = mkF m 0 Ls [] := by
  have : argsToLocals args n = Ls := Array.toList_inj.mp (by rw [Jvm.Sym.argsToLocals_toList]; exact h)
  unfold entryFrame
  rw [this]
theorem lb {a b : Nat} (h : Nat.ble a b = true) : a ≤ b := Nat.le_of_ble_eq_true h
theorem tw {tbl : List Jvm.Cond} {c : Jvm.Cond} (i : Nat) (h : tbl[i]? = some c) : c ∈ tbl := List.mem_of_getElem? h
/-! ## 2. The walk's standing: G -/
section G
variable {l : Launch} {Z : State} {a0 : Array Value} {EL : List (String × Nat)} {tbl : List Jvm.Cond} {n0 : Nat} {code : ByteArray} {maxL : Nat} {ret : Option FieldType} {R : Room} {own mname : String} {Q : Option Value → Heap → Prop} {h h' h1 h2 : Heap} {cells slots pc : Nat} {L : Array Slot} {S : List Value}
def Pos (l : Launch) (Z : State) (a0 : Array Value) (EL : List (String × Nat)) (tbl : List Jvm.Cond) (n0 : Nat) (code : ByteArray) (maxL : Nat) (ret : Option FieldType) (R : Room) (own mname : String) (h : Heap) (cells slots : Nat)
    (p : Program) (e : Env) (s : State) (m : MethodId) (args : Array Value) (below : List Frame) (meth : Method) (c : Code) (T : State) (vm0 : Vm) (k0 : Nat) (locs : List Loc) : Prop :=
  p.tables.exec = Jvm.exec ∧ c.code = code ∧ c.maxLocals = maxL ∧ meth.sig.returnType = ret ∧ meth.locks = false ∧ meth.name = mname ∧ EW Z a0 EL ∧ (∀ d ∈ tbl, d.before a0 Z = true) ∧
  Stand p l e R (s.setVm vm0) m args below meth c T locs cells slots ∧ T.heap = h ∧ s.Since vm0 k0 ∧ k0 ≤ h.size ∧ Z.Warmed39 vm0 ∧ vm0.findClass own = some m.cls ∧ Fr n0 locs ∧ CHr Z EL s.vm s.heap vm0 h ∧ Old Z n0 h ∧ (EL = [] → s.WarmedH vm0)
def End (Z : State) (EL : List (String × Nat)) (n0 : Nat) (R : Room) (Q : Option Value → Heap → Prop) (s : State) (o : Outcome) (t : State) : Prop :=
  ∃ v L', o = .returned v ∧ (Fr n0 L' ∧ Old Z n0 t.heap ∧ Q v t.heap) ∧ CHr Z EL s.vm s.heap t.vm t.heap ∧ ReturnedEndW s o t L' R.cells R.slots ∧ (EL = [] → s.WarmedH t.vm)
/-- from here the walk comes to its end, and Q holds there -/
def G (l : Launch) (Z : State) (a0 : Array Value) (EL : List (String × Nat)) (tbl : List Jvm.Cond) (n0 : Nat) (code : ByteArray) (maxL : Nat) (ret : Option FieldType) (R : Room) (own mname : String) (Q : Option Value → Heap → Prop)
    (h : Heap) (cells slots pc : Nat) (L : Array Slot) (S : List Value) : Prop :=
  ∀ p e s m args below meth c T vm0 k0 locs, Pos l Z a0 EL tbl n0 code maxL ret R own mname h cells slots p e s m args below meth c T vm0 k0 locs →
    ∃ s₂ o, Steps p.tables e below (T.setTop (mkF m pc L S)) s₂ ∧ s₂.status = .running ∧ Ended s₂ below o ∧ End Z EL n0 R Q s o s₂
theorem back_steps {p : Program} {e : Env} {below : List Frame} {A B : State} {P : State → Outcome → Prop} (st : ∀ t, Steps p.tables e below B t → Steps p.tables e below A t)
    (k : ∃ s₂ o, Steps p.tables e below B s₂ ∧ s₂.status = .running ∧ Ended s₂ below o ∧ P s₂ o) : ∃ s₂ o, Steps p.tables e below A s₂ ∧ s₂.status = .running ∧ Ended s₂ below o ∧ P s₂ o := by
  obtain ⟨s₂, o, h1, h2⟩ := k; exact ⟨s₂, o, st _ h1, h2⟩
theorem G.seg (seg : List (Nat × Instr × Nat)) (hdec : ∀ x ∈ seg, decode code x.1 = .ok x.2) {pc' : Nat} {L' : Array Slot} {S' : List Value} (hrun : run seg (pc, L, S) = some (pc', L', S'))
    (k : G l Z a0 EL tbl n0 code maxL ret R own mname Q h cells slots pc' L' S') : G l Z a0 EL tbl n0 code maxL ret R own mname Q h cells slots pc L S := by
  intro p e s m args below meth c T vm0 k0 locs P
  obtain ⟨hx, hby, -, -, -, -, -, -, X, -⟩ := id P
  exact back_steps (fun t ht => run_sound X.here hx seg (pc, L, S) (pc', L', S') (fun x hm => hb hby (hdec x hm)) hrun ht) (k p e s m args below meth c T vm0 k0 locs P)
theorem G.more {cells' slots' : Nat} (hc : cells ≤ cells') (hs : slots ≤ slots') (k : G l Z a0 EL tbl n0 code maxL ret R own mname Q h cells' slots' pc L S) : G l Z a0 EL tbl n0 code maxL ret R own mname Q h cells slots pc L S := by
  intro p e s m args below meth c T vm0 k0 locs P
  obtain ⟨h1, h2, h3, h4, h5, h6, h7, h8, X, r⟩ := P
  exact k p e s m args below meth c T vm0 k0 locs ⟨h1, h2, h3, h4, h5, h6, h7, h8, X.mono hc hs, r⟩
/-- a place where roads meet: proved once -/
theorem G.join {α : Type} (P : α → Prop) (J : α → Heap × Nat × Nat × Nat × Array Slot × List Value)
    (k : (∀ x, P x → G l Z a0 EL tbl n0 code maxL ret R own mname Q (J x).1 (J x).2.1 (J x).2.2.1 (J x).2.2.2.1 (J x).2.2.2.2.1 (J x).2.2.2.2.2) → G l Z a0 EL tbl n0 code maxL ret R own mname Q h cells slots pc L S)
    (hj : ∀ x, P x → G l Z a0 EL tbl n0 code maxL ret R own mname Q (J x).1 (J x).2.1 (J x).2.2.1 (J x).2.2.2.1 (J x).2.2.2.2.1 (J x).2.2.2.2.2) : G l Z a0 EL tbl n0 code maxL ret R own mname Q h cells slots pc L S := k hj
/-! branches -/
theorem G.if0 {cd : ClassFile.Cond} {o : Int} {x : Int32} {pc' : Nat} (hd : decode code pc = .ok (.ifCond cd o, 3)) (ho : 0 ≤ (pc : Int) + o) (hp : ((pc : Int) + o).toNat = pc')
    (ky : ifCond.holds cd x = true → G l Z a0 EL tbl n0 code maxL ret R own mname Q h cells slots pc' L S) (kn : ifCond.holds cd x = false → G l Z a0 EL tbl n0 code maxL ret R own mname Q h cells slots (pc + 3) L S) :
    G l Z a0 EL tbl n0 code maxL ret R own mname Q h cells slots pc L (.int x :: S) := by
  intro p e s m args below meth c T vm0 k0 locs P
  obtain ⟨hx, hby, -, -, -, -, -, -, X, -⟩ := id P
  cases hc : ifCond.holds cd x
  · exact back_steps (fun t ht => XS.ifNo X.here hx rfl (hb hby hd) rfl hc ht) (kn hc p e s m args below meth c T vm0 k0 locs P)
  · exact back_steps (fun t ht => XS.ifYes X.here hx rfl (pc0 := pc) rfl (hb hby hd) rfl hc ho hp ht) (ky hc p e s m args below meth c T vm0 k0 locs P)
theorem G.icmp {cd : ClassFile.Cond} {o : Int} {x y : Int32} {pc' : Nat} (hd : decode code pc = .ok (.if_icmp cd o, 3)) (ho : 0 ≤ (pc : Int) + o) (hp : ((pc : Int) + o).toNat = pc')
    (ky : if_icmp.holds cd x y = true → G l Z a0 EL tbl n0 code maxL ret R own mname Q h cells slots pc' L S) (kn : if_icmp.holds cd x y = false → G l Z a0 EL tbl n0 code maxL ret R own mname Q h cells slots (pc + 3) L S) :
    G l Z a0 EL tbl n0 code maxL ret R own mname Q h cells slots pc L (.int y :: .int x :: S) := by
  intro p e s m args below meth c T vm0 k0 locs P
  obtain ⟨hx, hby, -, -, -, -, -, -, X, -⟩ := id P
  cases hc : if_icmp.holds cd x y
  · exact back_steps (fun t ht => XS.icmpNo X.here hx rfl (hb hby hd) rfl hc ht) (kn hc p e s m args below meth c T vm0 k0 locs P)
  · exact back_steps (fun t ht => XS.icmpYes X.here hx rfl (pc0 := pc) rfl (hb hby hd) rfl hc ho hp ht) (ky hc p e s m args below meth c T vm0 k0 locs P)
theorem G.ifeq {o : Int} {x : Int32} {pc' : Nat} (hd : decode code pc = .ok (.ifCond .eq o, 3)) (ho : 0 ≤ (pc : Int) + o) (hp : ((pc : Int) + o).toNat = pc')
    (ky : x = 0 → G l Z a0 EL tbl n0 code maxL ret R own mname Q h cells slots pc' L S) (kn : ¬ x = 0 → G l Z a0 EL tbl n0 code maxL ret R own mname Q h cells slots (pc + 3) L S) : G l Z a0 EL tbl n0 code maxL ret R own mname Q h cells slots pc L (.int x :: S) := by
  by_cases z : x = 0
  · exact G.if0 (cd := .eq) hd ho hp (fun _ => ky z) (fun q => absurd q (by rw [XT.i0_eq_t z]; decide))
  · exact G.if0 (cd := .eq) hd ho hp (fun q => absurd q (by rw [XT.i0_eq_f z]; decide)) (fun _ => kn z)
theorem G.ifne {o : Int} {x : Int32} {pc' : Nat} (hd : decode code pc = .ok (.ifCond .ne o, 3)) (ho : 0 ≤ (pc : Int) + o) (hp : ((pc : Int) + o).toNat = pc')
    (ky : ¬ x = 0 → G l Z a0 EL tbl n0 code maxL ret R own mname Q h cells slots pc' L S) (kn : x = 0 → G l Z a0 EL tbl n0 code maxL ret R own mname Q h cells slots (pc + 3) L S) : G l Z a0 EL tbl n0 code maxL ret R own mname Q h cells slots pc L (.int x :: S) := by
  by_cases z : x = 0
  · exact G.if0 (cd := .ne) hd ho hp (fun q => absurd q (by rw [XT.i0_ne_f z]; decide)) (fun _ => kn z)
  · exact G.if0 (cd := .ne) hd ho hp (fun _ => ky z) (fun q => absurd q (by rw [XT.i0_ne_t z]; decide))
theorem G.iflt {o : Int} {x : Int32} {pc' : Nat} (hd : decode code pc = .ok (.ifCond .lt o, 3)) (ho : 0 ≤ (pc : Int) + o) (hp : ((pc : Int) + o).toNat = pc')
    (ky : x < 0 → G l Z a0 EL tbl n0 code maxL ret R own mname Q h cells slots pc' L S) (kn : ¬ x < 0 → G l Z a0 EL tbl n0 code maxL ret R own mname Q h cells slots (pc + 3) L S) : G l Z a0 EL tbl n0 code maxL ret R own mname Q h cells slots pc L (.int x :: S) := by
  by_cases z : x < 0
  · exact G.if0 (cd := .lt) hd ho hp (fun _ => ky z) (fun q => absurd q (by rw [XT.i0_lt_t z]; decide))
  · exact G.if0 (cd := .lt) hd ho hp (fun q => absurd q (by rw [XT.i0_lt_f z]; decide)) (fun _ => kn z)
theorem G.ifge {o : Int} {x : Int32} {pc' : Nat} (hd : decode code pc = .ok (.ifCond .ge o, 3)) (ho : 0 ≤ (pc : Int) + o) (hp : ((pc : Int) + o).toNat = pc')
    (ky : ¬ x < 0 → G l Z a0 EL tbl n0 code maxL ret R own mname Q h cells slots pc' L S) (kn : x < 0 → G l Z a0 EL tbl n0 code maxL ret R own mname Q h cells slots (pc + 3) L S) : G l Z a0 EL tbl n0 code maxL ret R own mname Q h cells slots pc L (.int x :: S) := by
  by_cases z : x < 0
  · exact G.if0 (cd := .ge) hd ho hp (fun q => absurd q (by rw [XT.i0_ge_f z]; decide)) (fun _ => kn z)
  · exact G.if0 (cd := .ge) hd ho hp (fun _ => ky z) (fun q => absurd q (by rw [XT.i0_ge_t z]; decide))
theorem G.ifgt {o : Int} {x : Int32} {pc' : Nat} (hd : decode code pc = .ok (.ifCond .gt o, 3)) (ho : 0 ≤ (pc : Int) + o) (hp : ((pc : Int) + o).toNat = pc')
    (ky : 0 < x → G l Z a0 EL tbl n0 code maxL ret R own mname Q h cells slots pc' L S) (kn : ¬ 0 < x → G l Z a0 EL tbl n0 code maxL ret R own mname Q h cells slots (pc + 3) L S) : G l Z a0 EL tbl n0 code maxL ret R own mname Q h cells slots pc L (.int x :: S) := by
  by_cases z : 0 < x
  · exact G.if0 (cd := .gt) hd ho hp (fun _ => ky z) (fun q => absurd q (by rw [XT.i0_gt_t z]; decide))
  · exact G.if0 (cd := .gt) hd ho hp (fun q => absurd q (by rw [XT.i0_gt_f z]; decide)) (fun _ => kn z)
theorem G.ifle {o : Int} {x : Int32} {pc' : Nat} (hd : decode code pc = .ok (.ifCond .le o, 3)) (ho : 0 ≤ (pc : Int) + o) (hp : ((pc : Int) + o).toNat = pc')
    (ky : ¬ 0 < x → G l Z a0 EL tbl n0 code maxL ret R own mname Q h cells slots pc' L S) (kn : 0 < x → G l Z a0 EL tbl n0 code maxL ret R own mname Q h cells slots (pc + 3) L S) : G l Z a0 EL tbl n0 code maxL ret R own mname Q h cells slots pc L (.int x :: S) := by
  by_cases z : 0 < x
  · exact G.if0 (cd := .le) hd ho hp (fun q => absurd q (by rw [XT.i0_le_f z]; decide)) (fun _ => kn z)
  · exact G.if0 (cd := .le) hd ho hp (fun _ => ky z) (fun q => absurd q (by rw [XT.i0_le_t z]; decide))
theorem G.iceq {o : Int} {x y : Int32} {pc' : Nat} (hd : decode code pc = .ok (.if_icmp .eq o, 3)) (ho : 0 ≤ (pc : Int) + o) (hp : ((pc : Int) + o).toNat = pc')
    (ky : x = y → G l Z a0 EL tbl n0 code maxL ret R own mname Q h cells slots pc' L S) (kn : ¬ x = y → G l Z a0 EL tbl n0 code maxL ret R own mname Q h cells slots (pc + 3) L S) : G l Z a0 EL tbl n0 code maxL ret R own mname Q h cells slots pc L (.int y :: .int x :: S) := by
  by_cases z : x = y
  · exact G.icmp (cd := .eq) hd ho hp (fun _ => ky z) (fun q => absurd q (by rw [XT.ii_eq_t z]; decide))
  · exact G.icmp (cd := .eq) hd ho hp (fun q => absurd q (by rw [XT.ii_eq_f z]; decide)) (fun _ => kn z)
theorem G.icne {o : Int} {x y : Int32} {pc' : Nat} (hd : decode code pc = .ok (.if_icmp .ne o, 3)) (ho : 0 ≤ (pc : Int) + o) (hp : ((pc : Int) + o).toNat = pc')
    (ky : ¬ x = y → G l Z a0 EL tbl n0 code maxL ret R own mname Q h cells slots pc' L S) (kn : x = y → G l Z a0 EL tbl n0 code maxL ret R own mname Q h cells slots (pc + 3) L S) : G l Z a0 EL tbl n0 code maxL ret R own mname Q h cells slots pc L (.int y :: .int x :: S) := by
  by_cases z : x = y
  · exact G.icmp (cd := .ne) hd ho hp (fun q => absurd q (by rw [XT.ii_ne_f z]; decide)) (fun _ => kn z)
  · exact G.icmp (cd := .ne) hd ho hp (fun _ => ky z) (fun q => absurd q (by rw [XT.ii_ne_t z]; decide))
theorem G.iclt {o : Int} {x y : Int32} {pc' : Nat} (hd : decode code pc = .ok (.if_icmp .lt o, 3)) (ho : 0 ≤ (pc : Int) + o) (hp : ((pc : Int) + o).toNat = pc')
    (ky : x < y → G l Z a0 EL tbl n0 code maxL ret R own mname Q h cells slots pc' L S) (kn : ¬ x < y → G l Z a0 EL tbl n0 code maxL ret R own mname Q h cells slots (pc + 3) L S) : G l Z a0 EL tbl n0 code maxL ret R own mname Q h cells slots pc L (.int y :: .int x :: S) := by
  by_cases z : x < y
  · exact G.icmp (cd := .lt) hd ho hp (fun _ => ky z) (fun q => absurd q (by rw [XT.ii_lt_t z]; decide))
  · exact G.icmp (cd := .lt) hd ho hp (fun q => absurd q (by rw [XT.ii_lt_f z]; decide)) (fun _ => kn z)
theorem G.icge {o : Int} {x y : Int32} {pc' : Nat} (hd : decode code pc = .ok (.if_icmp .ge o, 3)) (ho : 0 ≤ (pc : Int) + o) (hp : ((pc : Int) + o).toNat = pc')
    (ky : ¬ x < y → G l Z a0 EL tbl n0 code maxL ret R own mname Q h cells slots pc' L S) (kn : x < y → G l Z a0 EL tbl n0 code maxL ret R own mname Q h cells slots (pc + 3) L S) : G l Z a0 EL tbl n0 code maxL ret R own mname Q h cells slots pc L (.int y :: .int x :: S) := by
  by_cases z : x < y
  · exact G.icmp (cd := .ge) hd ho hp (fun q => absurd q (by rw [XT.ii_ge_f z]; decide)) (fun _ => kn z)
  · exact G.icmp (cd := .ge) hd ho hp (fun _ => ky z) (fun q => absurd q (by rw [XT.ii_ge_t z]; decide))
theorem G.icgt {o : Int} {x y : Int32} {pc' : Nat} (hd : decode code pc = .ok (.if_icmp .gt o, 3)) (ho : 0 ≤ (pc : Int) + o) (hp : ((pc : Int) + o).toNat = pc')
    (ky : y < x → G l Z a0 EL tbl n0 code maxL ret R own mname Q h cells slots pc' L S) (kn : ¬ y < x → G l Z a0 EL tbl n0 code maxL ret R own mname Q h cells slots (pc + 3) L S) : G l Z a0 EL tbl n0 code maxL ret R own mname Q h cells slots pc L (.int y :: .int x :: S) := by
  by_cases z : y < x
  · exact G.icmp (cd := .gt) hd ho hp (fun _ => ky z) (fun q => absurd q (by rw [XT.ii_gt_t z]; decide))
  · exact G.icmp (cd := .gt) hd ho hp (fun q => absurd q (by rw [XT.ii_gt_f z]; decide)) (fun _ => kn z)
theorem G.icle {o : Int} {x y : Int32} {pc' : Nat} (hd : decode code pc = .ok (.if_icmp .le o, 3)) (ho : 0 ≤ (pc : Int) + o) (hp : ((pc : Int) + o).toNat = pc')
    (ky : ¬ y < x → G l Z a0 EL tbl n0 code maxL ret R own mname Q h cells slots pc' L S) (kn : y < x → G l Z a0 EL tbl n0 code maxL ret R own mname Q h cells slots (pc + 3) L S) : G l Z a0 EL tbl n0 code maxL ret R own mname Q h cells slots pc L (.int y :: .int x :: S) := by
  by_cases z : y < x
  · exact G.icmp (cd := .le) hd ho hp (fun q => absurd q (by rw [XT.ii_le_f z]; decide)) (fun _ => kn z)
  · exact G.icmp (cd := .le) hd ho hp (fun _ => ky z) (fun q => absurd q (by rw [XT.ii_le_t z]; decide))
theorem G.nulljmp {o : Int} {w : Value} {pc' : Nat} (hw : w.isRef = true) (hd : decode code pc = .ok (.ifnull o, 3)) (ho : 0 ≤ (pc : Int) + o) (hp : ((pc : Int) + o).toNat = pc')
    (ky : w = .null → G l Z a0 EL tbl n0 code maxL ret R own mname Q h cells slots pc' L S) (kn : ¬ w = .null → G l Z a0 EL tbl n0 code maxL ret R own mname Q h cells slots (pc + 3) L S) : G l Z a0 EL tbl n0 code maxL ret R own mname Q h cells slots pc L (w :: S) := by
  intro p e s m args below meth c T vm0 k0 locs P
  obtain ⟨hx, hby, -, -, -, -, -, -, X, -⟩ := id P
  rcases ref_cases hw with rfl | ⟨a, rfl⟩
  · exact back_steps (fun t ht => XS.ifnullYes X.here hx rfl (pc0 := pc) rfl (hb hby hd) rfl ho hp ht) (ky rfl p e s m args below meth c T vm0 k0 locs P)
  · exact back_steps (fun t ht => XS.ifnullNo X.here hx rfl (hb hby hd) rfl ht) (kn (fun q => nomatch q) p e s m args below meth c T vm0 k0 locs P)
theorem G.nonnulljmp {o : Int} {w : Value} {pc' : Nat} (hw : w.isRef = true) (hd : decode code pc = .ok (.ifnonnull o, 3)) (ho : 0 ≤ (pc : Int) + o) (hp : ((pc : Int) + o).toNat = pc')
    (ky : ¬ w = .null → G l Z a0 EL tbl n0 code maxL ret R own mname Q h cells slots pc' L S) (kn : w = .null → G l Z a0 EL tbl n0 code maxL ret R own mname Q h cells slots (pc + 3) L S) : G l Z a0 EL tbl n0 code maxL ret R own mname Q h cells slots pc L (w :: S) := by
  intro p e s m args below meth c T vm0 k0 locs P
  obtain ⟨hx, hby, -, -, -, -, -, -, X, -⟩ := id P
  rcases ref_cases hw with rfl | ⟨a, rfl⟩
  · exact back_steps (fun t ht => XT.ifnonnullNo X.here hx rfl (hb hby hd) rfl ht) (kn rfl p e s m args below meth c T vm0 k0 locs P)
  · exact back_steps (fun t ht => XT.ifnonnullYes X.here hx rfl (pc0 := pc) rfl (hb hby hd) rfl ho hp ht) (ky (fun q => nomatch q) p e s m args below meth c T vm0 k0 locs P)
theorem G.acne {o : Int} {x y : Value} {pc' : Nat} (hx1 : x.isRef = true) (hy1 : y.isRef = true) (hd : decode code pc = .ok (.if_acmp .ne o, 3)) (ho : 0 ≤ (pc : Int) + o) (hp : ((pc : Int) + o).toNat = pc')
    (ky : ¬ x = y → G l Z a0 EL tbl n0 code maxL ret R own mname Q h cells slots pc' L S) (kn : x = y → G l Z a0 EL tbl n0 code maxL ret R own mname Q h cells slots (pc + 3) L S) : G l Z a0 EL tbl n0 code maxL ret R own mname Q h cells slots pc L (y :: x :: S) := by
  intro p e s m args below meth c T vm0 k0 locs P
  obtain ⟨hx, hby, -, -, -, -, -, -, X, -⟩ := id P
  by_cases z : x = y
  · exact back_steps (fun t ht => XT.acmpNo X.here hx rfl (hb hby hd) rfl hx1 hy1 (XT.aa_ne_f z) ht) (kn z p e s m args below meth c T vm0 k0 locs P)
  · exact back_steps (fun t ht => XT.acmpYes X.here hx rfl (pc0 := pc) rfl (hb hby hd) rfl hx1 hy1 (XT.aa_ne_t z) ho hp ht) (ky z p e s m args below meth c T vm0 k0 locs P)
theorem G.aceq {o : Int} {x y : Value} {pc' : Nat} (hx1 : x.isRef = true) (hy1 : y.isRef = true) (hd : decode code pc = .ok (.if_acmp .eq o, 3)) (ho : 0 ≤ (pc : Int) + o) (hp : ((pc : Int) + o).toNat = pc')
    (ky : x = y → G l Z a0 EL tbl n0 code maxL ret R own mname Q h cells slots pc' L S) (kn : ¬ x = y → G l Z a0 EL tbl n0 code maxL ret R own mname Q h cells slots (pc + 3) L S) : G l Z a0 EL tbl n0 code maxL ret R own mname Q h cells slots pc L (y :: x :: S) := by
  intro p e s m args below meth c T vm0 k0 locs P
  obtain ⟨hx, hby, -, -, -, -, -, -, X, -⟩ := id P
  by_cases z : x = y
  · exact back_steps (fun t ht => XT.acmpYes X.here hx rfl (pc0 := pc) rfl (hb hby hd) rfl hx1 hy1 (XT.aa_eq_t z) ho hp ht) (ky z p e s m args below meth c T vm0 k0 locs P)
  · exact back_steps (fun t ht => XT.acmpNo X.here hx rfl (hb hby hd) rfl hx1 hy1 (XT.aa_eq_f z) ht) (kn z p e s m args below meth c T vm0 k0 locs P)
/-! the heap -/
theorem safe_nil {vm : Vm} {a : Addr} (q : EL = []) : Safe Z EL vm h a := fun B => by
  obtain ⟨p, hp, -⟩ := B
  rw [q] at hp; cases hp
theorem G.new {C : String} {idx n : Nat} (hd : decode code pc = .ok (.new idx, 3)) (w1 : Jvm.Cond.classLink own idx C ∈ tbl) (w2 : Jvm.Cond.instantiable C n ∈ tbl) (w3 : Jvm.Cond.initialized C ∈ tbl) (hc : cells + 1 ≤ R.cells) (hl : slots + n ≤ R.slots)
    (k : ∀ h' a, a = h.size → n0 ≤ a → Keep h h' [] → Exa Z h' a C → (∀ {O nm d : String} {ty : FieldType}, (Jvm.Cond.lays C O nm d ∈ tbl ∨ Jvm.Cond.laysFinal C O nm d ∈ tbl) → parseFieldDescriptor d = some ty → Fld Z h' a O nm d (defaultValue ty)) → G l Z a0 EL tbl n0 code maxL ret R own mname Q h' (cells + 1) (slots + n) (pc + 3) L (.ref a :: S)) :
    G l Z a0 EL tbl n0 code maxL ret R own mname Q h cells slots pc L S := by
  intro p e s m args below meth c T vm0 k0 locs P
  obtain ⟨hx, hby, hml, hret, hlk, hnm, hEL, hw, X, eT, hS, hk, hZ, hown, N, H, O, Wm⟩ := P
  obtain ⟨T', h', X', e', E, A, D, -, st⟩ := newO X hx hZ hown (hw _ w1) (hw _ w2) (hw _ w3) eT (g := mkF m pc L S) rfl (hb hby hd) hc hl
  exact back_steps st (k h' h.size rfl (O.1 ▸ O.2.1) ((Keep.refl h []).ext E) A (fun q => D (q.imp (hw _) (hw _))) p e s m args below meth c T' vm0 k0 locs ⟨hx, hby, hml, hret, hlk, hnm, hEL, hw, X', e', hS, Nat.le_trans hk E.1, hZ, hown, N, H.trans (CHr.ext E H.1), O.ext E, Wm⟩)
theorem G.newarr {aty : ArrayType} {ty : FieldType} {n : Int32} {cap : Nat} (hty : newarray.typeOf aty = ty) (hd : decode code pc = .ok (.newarray aty, 2)) (w : Jvm.Cond.arrayClass ty ∈ tbl) (hn : ¬ n < 0) (hcap : n.toNatClampNeg ≤ cap) (hb8 : cap * 8 ≤ 536870912) (hc : cells + 1 ≤ R.cells) (hl : slots + cap ≤ R.slots)
    (k : ∀ h' a kA, a = h.size → n0 ≤ a → Keep h h' [] → Arv Z h' a kA ty n (List.replicate cap (defaultValue ty)) (defaultValue ty) → G l Z a0 EL tbl n0 code maxL ret R own mname Q h' (cells + 1) (slots + cap) (pc + 2) L (.ref a :: S)) :
    G l Z a0 EL tbl n0 code maxL ret R own mname Q h cells slots pc L (.int n :: S) := by
  subst hty
  intro p e s m args below meth c T vm0 k0 locs P
  obtain ⟨hx, hby, hml, hret, hlk, hnm, hEL, hw, X, eT, hS, hk, hZ, hown, N, H, O, Wm⟩ := P
  obtain ⟨T', h', cA, X', e', E, A, st⟩ := newP X hx hZ (hw _ w) eT (g := mkF m pc L (.int n :: S)) rfl (hb hby hd) rfl hn hcap hb8 hc hl
  exact back_steps st (k h' h.size cA rfl (O.1 ▸ O.2.1) ((Keep.refl h []).ext E) ((Arv.new A hn).pad (fun i => by simpa using pad_rep [] (defaultValue (newarray.typeOf aty)) cap i)) p e s m args below meth c T' vm0 k0 locs ⟨hx, hby, hml, hret, hlk, hnm, hEL, hw, X', e', hS, Nat.le_trans hk E.1, hZ, hown, N, H.trans (CHr.ext E H.1), O.ext E, Wm⟩)
theorem G.castore {a : Addr} {kA : ClassId} {z j x x' : Int32} {vs : List Value} {dv : Value} {i : Nat} (hd : decode code pc = .ok (.castore, 1)) (A : Arv Z h a kA .char z vs dv) (ha : n0 ≤ a) (hj : ¬ j < 0 ∧ j < z) (hi : j.toNatClampNeg = i) (hlen : i < vs.length) (hx' : nar .char x = x')
    (k : ∀ h', Keep h h' [a] → Arv Z h' a kA .char z (vs.set i (.int x')) dv → G l Z a0 EL tbl n0 code maxL ret R own mname Q h' cells slots (pc + 1) L S) :
    G l Z a0 EL tbl n0 code maxL ret R own mname Q h cells slots pc L (.int x :: .int j :: .ref a :: S) := by
  subst hx'
  intro p e s m args below meth c T vm0 k0 locs P
  obtain ⟨hx, hby, hml, hret, hlk, hnm, hEL, hw, X, eT, hS, hk, hZ, hown, N, H, O, Wm⟩ := P
  obtain ⟨cl, A1, A2, A3, A4, A5, A6⟩ := A
  obtain ⟨T', h', X', e', W, st⟩ := stC X hx hZ eT A1 (inb_of A3 hj) (g := mkF m pc L (.int x :: .int j :: .ref a :: S)) rfl rfl (hb hby hd)
  have sf : Safe Z EL vm0 h a := Safe.arr (Z := Z) hZ.alike A1 (by decide)
  exact back_steps st (k h' (Keep.of_wr W) (Arv.set A1 A2 A3 A4 A5 A6 (fits_nar_char x) W i hi hlen) p e s m args below meth c T' vm0 k0 _ ⟨hx, hby, hml, hret, hlk, hnm, hEL, hw, X', e', hS, by rw [W.size]; exact hk, hZ, hown, Fr.snoc X' N ha, H.trans (CHr.wr W sf H.1), O.wr W ha, Wm⟩)
theorem G.getF {a : Addr} {O nm d : String} {v : Value} {idx : Nat} (hd : decode code pc = .ok (.getfield idx, 3)) (w : Jvm.Cond.fieldLink own idx O nm d ∈ tbl) (F : Fld Z h a O nm d v)
    (k : G l Z a0 EL tbl n0 code maxL ret R own mname Q h cells slots (pc + 3) L (v :: S)) : G l Z a0 EL tbl n0 code maxL ret R own mname Q h cells slots pc L (.ref a :: S) := by
  intro p e s m args below meth c T vm0 k0 locs P
  obtain ⟨hx, hby, hml, hret, hlk, hnm, hEL, hw, X, eT, hS, hk, hZ, hown, N, H, O, Wm⟩ := P
  obtain ⟨T', X', e', st⟩ := Jvm.RoadKit.getF X hx hZ hown (host := "") (Or.inl (hw _ w)) Via.refl eT F (g := mkF m pc L (.ref a :: S)) rfl rfl (hb hby hd)
  exact back_steps st (k p e s m args below meth c T' vm0 k0 locs ⟨hx, hby, hml, hret, hlk, hnm, hEL, hw, X', e', hS, hk, hZ, hown, N, H, O, Wm⟩)
theorem G.putF {a : Addr} {C O nm d : String} {v old : Value} {idx kk : Nat} {ty : FieldType} (hd : decode code pc = .ok (.putfield idx, 3)) (w : Jvm.Cond.fieldLink own idx O nm d ∈ tbl) (F : Fld Z h a O nm d old) (E : Exa Z h a C)
    (wl : Jvm.Cond.lays C O nm d ∈ tbl ∨ (Jvm.Cond.laysFinal C O nm d ∈ tbl ∧ own = O ∧ mname = "<init>")) (wi : Jvm.Cond.instantiable C kk ∈ tbl) (hty : parseFieldDescriptor d = some ty) (hn : narrow ty v = v) (hf : fits ty v = true) (ha : n0 ≤ a) (hc : EL = [] ∨ (C ≠ "java/lang/String" ∧ C ≠ "[B"))
    (k : ∀ h', Wr h h' a (Jvm.RoadKit.slotOf Z O nm d) v → Keep h h' [a] → Fld Z h' a O nm d v → Exa Z h' a C → G l Z a0 EL tbl n0 code maxL ret R own mname Q h' cells slots (pc + 3) L S) :
    G l Z a0 EL tbl n0 code maxL ret R own mname Q h cells slots pc L (v :: .ref a :: S) := by
  intro p e s m args below meth c T vm0 k0 locs P
  obtain ⟨hx, hby, hml, hret, hlk, hnm, hEL, hw, X, eT, hS, hk, hZ, hown, N, H, O, Wm⟩ := P
  obtain ⟨T', h', X', e', W, st⟩ := Jvm.RoadKit.putF X hx hZ hown (host := "") (Or.inl (hw _ w)) Via.refl eT F E (wl.imp (hw _) fun q => ⟨hw _ q.1, q.2.1, hnm.trans q.2.2⟩) (hw _ wi) hty hn hf (g := mkF m pc L (v :: .ref a :: S)) rfl rfl (hb hby hd)
  have sf : Safe Z EL vm0 h a := hc.elim (fun q => safe_nil q) fun q => Safe.exa (Z := Z) hZ.alike E q.1 q.2
  exact back_steps st (k h' W (Keep.of_wr W) (F.same W) (E.wr W) p e s m args below meth c T' vm0 k0 _ ⟨hx, hby, hml, hret, hlk, hnm, hEL, hw, X', e', hS, by rw [W.size]; exact hk, hZ, hown, Fr.snoc X' N ha, H.trans (CHr.wr W sf H.1), O.wr W ha, Wm⟩)
theorem G.getS {O nm d : String} {v : Value} {idx : Nat} (hd : decode code pc = .ok (.getstatic idx, 3)) (w : Jvm.Cond.fieldLink own idx O nm d ∈ tbl) (F : Sta Z Z.heap O nm d v)
    (k : G l Z a0 EL tbl n0 code maxL ret R own mname Q h cells slots (pc + 3) L (v :: S)) : G l Z a0 EL tbl n0 code maxL ret R own mname Q h cells slots pc L S := by
  intro p e s m args below meth c T vm0 k0 locs P
  obtain ⟨hx, hby, hml, hret, hlk, hnm, hEL, hw, X, eT, hS, hk, hZ, hown, N, H, O, Wm⟩ := P
  obtain ⟨T', X', e', st⟩ := Jvm.RoadKit.getS (host := "") X hx hZ hown (hw _ w) Via.refl eT (F.ext O.2) (g := mkF m pc L S) rfl (hb hby hd)
  exact back_steps st (k p e s m args below meth c T' vm0 k0 locs ⟨hx, hby, hml, hret, hlk, hnm, hEL, hw, X', e', hS, hk, hZ, hown, N, H, O, Wm⟩)
theorem G.getSN {O nm d host : String} {v : Value} {idx : Nat} (hd : decode code pc = .ok (.getstatic idx, 3)) (w : Jvm.Cond.fieldLinkNest own idx O nm d host ∈ tbl) (F : Sta Z Z.heap O nm d v)
    (k : G l Z a0 EL tbl n0 code maxL ret R own mname Q h cells slots (pc + 3) L (v :: S)) : G l Z a0 EL tbl n0 code maxL ret R own mname Q h cells slots pc L S := by
  intro p e s m args below meth c T vm0 k0 locs P
  obtain ⟨hx, hby, hml, hret, hlk, hnm, hEL, hw, X, eT, hS, hk, hZ, hown, N, H, O, Wm⟩ := P
  obtain ⟨T', X', e', st⟩ := Jvm.RoadKit.getS2 (host := host) X hx hZ hown (Or.inr (hw _ w)) Via.refl eT (F.ext O.2) (g := mkF m pc L S) rfl (hb hby hd)
  exact back_steps st (k p e s m args below meth c T' vm0 k0 locs ⟨hx, hby, hml, hret, hlk, hnm, hEL, hw, X', e', hS, hk, hZ, hown, N, H, O, Wm⟩)
theorem G.initO {a : Addr} {idx W : Nat} (hd : decode code pc = .ok (.invokespecial idx, 3)) (w1 : Jvm.Cond.methodLink own idx Lib.objectInit ∈ tbl) (w2 : Jvm.Cond.instanceMethod Lib.objectInit ∈ tbl) (w3 : Jvm.Cond.code Lib.objectInit ⟨#[0xb1]⟩ 1 none ∈ tbl) (hsz : L.size = maxL) (hf : 1 ≤ R.frames) (hW : 2 * 0 + (S.map fun v => v.category).sum ≤ W) (hl : W + 12 ≤ R.locals)
    (k : G l Z a0 EL tbl n0 code maxL ret R own mname Q h cells slots (pc + 3) L S) : G l Z a0 EL tbl n0 code maxL ret R own mname Q h cells slots pc L (.ref a :: S) := by
  intro p e s m args below meth c T vm0 k0 locs P
  obtain ⟨hx, hby, hml, hret, hlk, hnm, hEL, hw, X, eT, hS, hk, hZ, hown, N, H, O, Wm⟩ := P
  obtain ⟨T', X', e', st⟩ := Jvm.RoadKit.initO X hx hZ hown (hw _ w1) (hw _ w2) (hw _ w3) eT (g := mkF m pc L (.ref a :: S)) rfl (hsz.trans hml.symm) rfl (hb hby hd) hf hW hl
  exact back_steps st (k p e s m args below meth c T' vm0 k0 locs ⟨hx, hby, hml, hret, hlk, hnm, hEL, hw, X', e', hS, hk, hZ, hown, N, H, O, Wm⟩)
theorem G.castY {a : Addr} {K : String} {idx : Nat} (hd : decode code pc = .ok (.checkcast idx, 3)) (w : Jvm.Cond.classLink own idx K ∈ tbl) (F : Ins Z h a K true)
    (k : G l Z a0 EL tbl n0 code maxL ret R own mname Q h cells slots (pc + 3) L (.ref a :: S)) : G l Z a0 EL tbl n0 code maxL ret R own mname Q h cells slots pc L (.ref a :: S) := by
  intro p e s m args below meth c T vm0 k0 locs P
  obtain ⟨hx, hby, hml, hret, hlk, hnm, hEL, hw, X, eT, hS, hk, hZ, hown, N, H, O, Wm⟩ := P
  obtain ⟨T', X', e', st⟩ := Jvm.RoadKit.castY X hx hZ hown (hw _ w) eT F (g := mkF m pc L (.ref a :: S)) rfl rfl (hb hby hd)
  exact back_steps st (k p e s m args below meth c T' vm0 k0 locs ⟨hx, hby, hml, hret, hlk, hnm, hEL, hw, X', e', hS, hk, hZ, hown, N, H, O, Wm⟩)
theorem G.instY {a : Addr} {K : String} {idx : Nat} (hd : decode code pc = .ok (.instanceof idx, 3)) (w : Jvm.Cond.classLink own idx K ∈ tbl) (F : Ins Z h a K true)
    (k : G l Z a0 EL tbl n0 code maxL ret R own mname Q h cells slots (pc + 3) L (.int 1 :: S)) : G l Z a0 EL tbl n0 code maxL ret R own mname Q h cells slots pc L (.ref a :: S) := by
  intro p e s m args below meth c T vm0 k0 locs P
  obtain ⟨hx, hby, hml, hret, hlk, hnm, hEL, hw, X, eT, hS, hk, hZ, hown, N, H, O, Wm⟩ := P
  obtain ⟨T', X', e', st⟩ := Jvm.RoadKit.instY X hx hZ hown (hw _ w) eT F (g := mkF m pc L (.ref a :: S)) rfl rfl (hb hby hd)
  exact back_steps st (k p e s m args below meth c T' vm0 k0 locs ⟨hx, hby, hml, hret, hlk, hnm, hEL, hw, X', e', hS, hk, hZ, hown, N, H, O, Wm⟩)
theorem G.ldcO {idx n : Nat} {text : String} (hne : EL ≠ []) (hd : decode code pc = .ok (.ldc idx, 2)) (w : Jvm.Cond.stringLink own idx text ∈ tbl) (wS : ∀ d ∈ Bundle.stringAtoms, d ∈ tbl) (hn : 4 * text.toList.length ≤ n) (hbig : n ≤ 536870912) (hc : cells + 2 ≤ R.cells) (hl : slots + (n + 4) ≤ R.slots)
    (k : ∀ h' a, Keep h h' [] → G l Z a0 EL tbl n0 code maxL ret R own mname Q h' (cells + 2) (slots + (n + 4)) (pc + 2) L (.ref a :: S)) : G l Z a0 EL tbl n0 code maxL ret R own mname Q h cells slots pc L S := by
  intro p e s m args below meth c T vm0 k0 locs P
  obtain ⟨hx, hby, hml, hret, hlk, hnm, hEL, hw, X, eT, hS, hk, hZ, hown, N, H, O, Wm⟩ := P
  obtain ⟨a, T', h', k1, X', e', E, S', hk', Z', o', C', -, st⟩ := ldcOH X hx hZ hown (hw _ w) (fun d hd => hw d (wS d hd)) eT hS hk hEL H.1 (g := mkF m pc L S) rfl (hb hby hd) hn hbig hc hl
  exact back_steps st (k h' a ((Keep.refl h []).ext E) p e s m args below meth c T' T'.vm k1 locs ⟨hx, hby, hml, hret, hlk, hnm, hEL, hw, X', e', S', hk', Z', o', N, H.trans C', O.ext E, fun q => absurd q hne⟩)
theorem G.ldcC {idx n : Nat} {text : String} {vs : List Value} {z : Int32} (hne : EL ≠ []) (hd : decode code pc = .ok (.ldc idx, 2)) (w : Jvm.Cond.stringLink own idx text ∈ tbl) (wS : ∀ d ∈ Bundle.stringAtoms, d ∈ tbl) (hmem : (own, idx) ∈ EL) (ht : (∀ c ∈ text.toList, c.toNat < 256) ∧ text.toList.map (fun c => Value.int (Jvm.Lit.byteI c.toNat.toUInt16)) = vs) (hz : ¬ z < 0) (hzl : z.toNatClampNeg = vs.length)
    (hn : 4 * text.toList.length ≤ n) (hbig : n ≤ 536870912) (hc : cells + 2 ≤ R.cells) (hl : slots + (n + 4) ≤ R.slots)
    (k : ∀ h' a b kb, Keep h h' [] → Exa Z h' a "java/lang/String" → Fld Z h' a "java/lang/String" "coder" "B" (.int 0) → Fld Z h' a "java/lang/String" "value" "[B" (.ref b) → Arv Z h' b kb .byte z vs (.int 0) → G l Z a0 EL tbl n0 code maxL ret R own mname Q h' (cells + 2) (slots + (n + 4)) (pc + 2) L (.ref a :: S)) : G l Z a0 EL tbl n0 code maxL ret R own mname Q h cells slots pc L S := by
  intro p e s m args below meth c T vm0 k0 locs P
  obtain ⟨hx, hby, hml, hret, hlk, hnm, hEL, hw, X, eT, hS, hk, hZ, hown, N, H, O, Wm⟩ := P
  obtain ⟨a, T', h', k1, b, kb, X', e', E, S', hk', Z', o', Ea, Ca, Va, Ab, -, -, C', -, -, st⟩ := ldcCH X hx hZ hown (hw _ w) (fun d hd => hw d (wS d hd)) eT hS hk hEL hmem H.1 ht hz hzl (g := mkF m pc L S) rfl (hb hby hd) hn hbig hc hl
  exact back_steps st (k h' a b kb ((Keep.refl h []).ext E) Ea Ca Va Ab p e s m args below meth c T' T'.vm k1 locs ⟨hx, hby, hml, hret, hlk, hnm, hEL, hw, X', e', S', hk', Z', o', N, H.trans C', O.ext E, fun q => absurd q hne⟩)
theorem G.castN {idx : Nat} (hd : decode code pc = .ok (.checkcast idx, 3)) (k : G l Z a0 EL tbl n0 code maxL ret R own mname Q h cells slots (pc + 3) L (.null :: S)) : G l Z a0 EL tbl n0 code maxL ret R own mname Q h cells slots pc L (.null :: S) := by
  intro p e s m args below meth c T vm0 k0 locs P
  obtain ⟨hx, hby, -, -, -, -, -, -, X, -⟩ := id P
  exact back_steps (X.checkcastNull hx (g := mkF m pc L (.null :: S)) rfl rfl (hb hby hd)) (k p e s m args below meth c T vm0 k0 locs P)
theorem G.instNull {idx : Nat} (hd : decode code pc = .ok (.instanceof idx, 3)) (k : G l Z a0 EL tbl n0 code maxL ret R own mname Q h cells slots (pc + 3) L (.int 0 :: S)) : G l Z a0 EL tbl n0 code maxL ret R own mname Q h cells slots pc L (.null :: S) := by
  intro p e s m args below meth c T vm0 k0 locs P
  obtain ⟨hx, hby, -, -, -, -, -, -, X, -⟩ := id P
  exact back_steps (X.instanceofNull hx (g := mkF m pc L (.null :: S)) rfl rfl (hb hby hd)) (k p e s m args below meth c T vm0 k0 locs P)
theorem G.instNo {a : Addr} {C K : String} {idx : Nat} (hd : decode code pc = .ok (.instanceof idx, 3)) (w : Jvm.Cond.classLink own idx K ∈ tbl) (E : Exa Z h a C) (F : ∃ c t, Z.vm.findClass C = some c ∧ Z.vm.findClass K = some t ∧ Z.vm.assignable c t = false)
    (k : G l Z a0 EL tbl n0 code maxL ret R own mname Q h cells slots (pc + 3) L (.int 0 :: S)) : G l Z a0 EL tbl n0 code maxL ret R own mname Q h cells slots pc L (.ref a :: S) := by
  intro p e s m args below meth c T vm0 k0 locs P
  obtain ⟨hx, hby, hml, hret, hlk, hnm, hEL, hw, X, eT, hS, hk, hZ, hown, N, H, O, Wm⟩ := P
  obtain ⟨T', X', e', st⟩ := Jvm.RoadKit.instNo X hx hZ hown (hw _ w) eT E F (g := mkF m pc L (.ref a :: S)) rfl rfl (hb hby hd)
  exact back_steps st (k p e s m args below meth c T' vm0 k0 locs ⟨hx, hby, hml, hret, hlk, hnm, hEL, hw, X', e', hS, hk, hZ, hown, N, H, O, Wm⟩)
theorem past {C O n d O' n' d' : String} {t t' : FieldType} {a : Addr} {v v' : Value} (hw : ∀ d ∈ tbl, d.before a0 Z = true) (L1 : Jvm.Cond.lays C O n d ∈ tbl ∨ Jvm.Cond.laysFinal C O n d ∈ tbl) (L2 : Jvm.Cond.lays C O' n' d' ∈ tbl ∨ Jvm.Cond.laysFinal C O' n' d' ∈ tbl) (hn : n ≠ n') (ht : parseFieldDescriptor d = some t) (ht' : parseFieldDescriptor d' = some t')
    (W : Wr h h' a (Jvm.RoadKit.slotOf Z O' n' d') v') (F : Fld Z h a O n d v) : Fld Z h' a O n d v := F.other W (Or.inr (Jvm.RoadKit.slot_ne (a0 := a0) (L1.imp (hw _) (hw _)) (L2.imp (hw _) (hw _)) hn ht ht'))
/-- an object of C (whose superclass is O, which has none) is none of K, K an ordinary class -/
theorem not_inst {C O K : String} {n : Nat} (w1 : (Jvm.Cond.superclass C O).before a0 Z = true) (w2 : (Jvm.Cond.noSuperclass O).before a0 Z = true) (w3 : (Jvm.Cond.instantiable K n).before a0 Z = true) (h1 : C ≠ K) (h2 : O ≠ K) : ∃ c t, Z.vm.findClass C = some c ∧ Z.vm.findClass K = some t ∧ Z.vm.assignable c t = false := by
  obtain ⟨t, k', g0, g2, g5, g7x, -⟩ := Cond.instantiable_spec w3
  have g7 := (Bool.or_eq_false_iff.mp g7x).1
  obtain ⟨o, ko, r1, r2, r3, -, -⟩ := Cond.noSuperclass_spec w2
  obtain ⟨c, h0⟩ := found_sup w1
  obtain ⟨p, k, kp, q1, q2, q3, q4, q5, -, q7⟩ := Cond.superclass_spec h0 w1
  cases r1.symm.trans q1
  have e1 := ids_ne h0 g0 h1
  have e2 := ids_ne r1 g0 h2
  have ns : ∀ fuel, Z.vm.isSubclassAux fuel c t = false := fun fuel => by
    cases fuel with
    | zero => rfl
    | succ f => cases f with
      | zero => simp [Vm.isSubclassAux, e1, q2, q4]
      | succ f => simp [Vm.isSubclassAux, e1, q2, q4, e2, r2, r3]
  refine ⟨c, t, h0, g0, ?_⟩
  show Z.vm.assignableAux (255 + 1) c t = false
  simp [Vm.assignableAux, e1, q2, g2, q5, g5, g7, Vm.isSubclass, ns]
theorem G.aloadVn {k : Fin 4} {v : Value} (hd : decode code pc = .ok (.aload_n k, 1)) (hl : L[k.val]? = some (.val v)) (hv : v.isRef = true) (kk : G l Z a0 EL tbl n0 code maxL ret R own mname Q h cells slots (pc + 1) L (v :: S)) : G l Z a0 EL tbl n0 code maxL ret R own mname Q h cells slots pc L S := by
  intro p e s m args below meth c T vm0 k0 locs P
  obtain ⟨hx, hby, -, -, -, -, -, -, X, -⟩ := id P
  exact back_steps (fun t ht => XS.aloadN X.here hx rfl (hb hby hd) hl hv ht) (kk p e s m args below meth c T vm0 k0 locs P)
theorem G.aloadV {k : Nat} {v : Value} (hd : decode code pc = .ok (.aload k, 2)) (hl : L[k]? = some (.val v)) (hv : v.isRef = true) (kk : G l Z a0 EL tbl n0 code maxL ret R own mname Q h cells slots (pc + 2) L (v :: S)) : G l Z a0 EL tbl n0 code maxL ret R own mname Q h cells slots pc L S := by
  intro p e s m args below meth c T vm0 k0 locs P
  obtain ⟨hx, hby, -, -, -, -, -, -, X, -⟩ := id P
  exact back_steps (fun t ht => XS.aload X.here hx rfl (hb hby hd) hl hv ht) (kk p e s m args below meth c T vm0 k0 locs P)
theorem G.astoreVn {k : Fin 4} {v : Value} {L' : Array Slot} (hd : decode code pc = .ok (.astore_n k, 1)) (hv : v.isRef = true) (hl : storeLocals L k.val v = some L') (kk : G l Z a0 EL tbl n0 code maxL ret R own mname Q h cells slots (pc + 1) L' S) : G l Z a0 EL tbl n0 code maxL ret R own mname Q h cells slots pc L (v :: S) := by
  intro p e s m args below meth c T vm0 k0 locs P
  obtain ⟨hx, hby, -, -, -, -, -, -, X, -⟩ := id P
  exact back_steps (fun t ht => XS.astoreN X.here hx rfl (hb hby hd) rfl hv hl ht) (kk p e s m args below meth c T vm0 k0 locs P)
theorem G.astoreV {k : Nat} {v : Value} {L' : Array Slot} (hd : decode code pc = .ok (.astore k, 2)) (hv : v.isRef = true) (hl : storeLocals L k v = some L') (kk : G l Z a0 EL tbl n0 code maxL ret R own mname Q h cells slots (pc + 2) L' S) : G l Z a0 EL tbl n0 code maxL ret R own mname Q h cells slots pc L (v :: S) := by
  intro p e s m args below meth c T vm0 k0 locs P
  obtain ⟨hx, hby, -, -, -, -, -, -, X, -⟩ := id P
  exact back_steps (fun t ht => XS.astore X.here hx rfl (hb hby hd) rfl hv hl ht) (kk p e s m args below meth c T vm0 k0 locs P)
theorem kwk {ws : List Addr} (K : Keep h h' []) : Keep h h' ws := ⟨K.1, fun x c q _ => K.2.1 x c q nin0, K.2.2⟩
/-! ## 3. Calls -/
/-- a contract: the method y, at the arguments as and the heap h, ends with Q -/
def Ct (l : Launch) (Z : State) (a0 : Array Value) (EL : List (String × Nat)) (tbl ws : List Jvm.Cond) (n0 : Nat) (y : MethodName) (bytes : ByteArray) (maxL : Nat) (ret : Option FieldType) (rm : Room) (as : Array Value) (h : Heap) (Q : Option Value → Heap → Prop) : Prop :=
  EW Z a0 EL → (∀ d ∈ tbl, d.before a0 Z = true) → Old Z n0 h → MetFree l y (head1 (Jvm.Cond.code y bytes maxL ret :: ws) rm) (fun a U => a = as ∧ Z.Warmed39 U.vm ∧ U.heap = h ∧ CHv Z EL U.vm h) (fun _ _ _ _ _ => True) (fun _ U o U' => End Z EL n0 rm Q U o U')
theorem Ct.of_body {ws : List Jvm.Cond} {y : MethodName} {bytes : ByteArray} {rm : Room} {as : Array Value} {L0 : Array Slot} (hpn : plainName y.cls = true) (hef : ∀ m, entryFrame m as maxL = mkF m 0 L0 []) (hG : EW Z a0 EL → (∀ d ∈ tbl, d.before a0 Z = true) → Old Z n0 h → G l Z a0 EL tbl n0 bytes maxL ret rm y.cls y.name Q h 0 0 0 L0 []) :
    Ct l Z a0 EL tbl ws n0 y bytes maxL ret rm as h Q := by
  intro hEL hw hO
  refine MetFree.of_bodySF (plainFor_of_name hpn) hisR ?_
  intro p e s m args below meth c s₁ Bd hml0 hP hK
  obtain ⟨rfl, hZ, hh, hCH⟩ := hP
  have X0 : Stand p l e rm s m args below meth c s₁ [] 0 0 := Stand.of_body Bd
  have e0 : s₁.heap = h := by rw [← hh, Bd.state]; rfl
  rw [hef m]
  subst hh
  exact hG hEL hw hO p e s m args below meth c s₁ s.vm 0 [] ⟨Bd.exec, Bd.bytes, hml0, Bd.returns, Bd.notSynchronized, (name_of_methodNamed Bd.named Bd.method).1, hEL, hw, X0, e0, (State.WarmedH.refl s).since 0, Nat.zero_le _, hZ, findClass_of_methodNamed Bd.named, Fr.nil n0, CHr.refl hCH, hO, fun _ => State.WarmedH.refl s⟩
/-- who pays a call -/
def BK (l : Launch) (Z : State) (a0 : Array Value) (EL : List (String × Nat)) (tbl : List Jvm.Cond) (n0 : Nat) (R : Room) (y : MethodName) (len W : Nat) (as : Array Value) (h : Heap) (kc ks : Nat) (Q : Option Value → Heap → Prop) : Prop :=
  ∀ (p : Program) (e : Env) (below : List Frame) (s : State) (args : Array Value) (vm0 : Vm), EW Z a0 EL → (∀ d ∈ tbl, d.before a0 Z = true) → Z.Warmed39 vm0 → CHv Z EL vm0 h → Old Z n0 h →
    BackS l R p e below (s.setVm vm0) args y len W (fun A a => a = as ∧ A.U.heap = h ∧ A.cells + kc ≤ R.cells ∧ A.slots + ks ≤ R.slots)
      (fun A _ v B => ∃ L, (Fr n0 L ∧ Old Z n0 B.U.heap ∧ Q v B.U.heap) ∧ B.locs = A.locs ++ L ∧ B.cells = A.cells + kc ∧ B.slots = A.slots + ks ∧ CHr Z EL vm0 h B.U.vm B.U.heap ∧ (EL = [] → (s.setVm vm0).WarmedH B.U.vm))
theorem Ct.pays {y : MethodName} {bytes : ByteArray} {rm : Room} {as : Array Value} {len W : Nat} (hC : Ct l Z a0 EL tbl [] n0 y bytes maxL ret rm as h Q) (w1 : Jvm.Cond.code y bytes maxL ret ∈ tbl) (w2 : Jvm.Cond.initialized y.cls ∈ tbl) (hf : rm.frames + 1 ≤ R.frames) (hl : W + (maxL + 11) + rm.locals ≤ R.locals) :
    BK l Z a0 EL tbl n0 R y len W as h rm.cells rm.slots Q := fun p e below s args vm0 hEL hw hZ H O =>
  have hU : ∀ (m : MethodId) (meth : Method) (c : Code) (A : Pt), Stand p l e R (s.setVm vm0) m args below meth c A.U A.locs A.cells A.slots → Z.Warmed39 A.U.vm := fun m meth c A Y => wtrans (s := s.setVm vm0) hZ Y.warmed
  BackS.of_freeW (bytes := bytes) (maxL := maxL) (ret := ret) (E := fun _ U o t L k n => k = rm.cells ∧ n = rm.slots ∧ (∃ v, o = .returned v ∧ (Fr n0 L ∧ Old Z n0 t.heap ∧ Q v t.heap)) ∧ CHr Z EL U.vm U.heap t.vm t.heap ∧ (EL = [] → U.WarmedH t.vm)) (hC hEL hw O) hf hl
    (fun m meth c A a Y hp => ⟨by show (Jvm.Cond.and _ .tt).before a A.U = true; rw [Cond.before_and, mv (hU m meth c A Y) (hw _ w1)]; rfl, mv (hU m meth c A Y) (hw _ w1), mv (hU m meth c A Y) (hw _ w2), hp.2.2.1, hp.2.2.2⟩)
    (fun m meth c A a g mk Y hp => ⟨hp.1, hU m meth c A Y, hp.2.1, (CHv.at Y hZ hEL H).1⟩) (fun _ _ _ _ _ _ _ _ _ => trivial)
    (fun _ _ _ _ ⟨v, L, h1, h2, h3, h4, h5⟩ => ⟨L, _, _, h4, rfl, rfl, ⟨v, h1, h2⟩, h3, h5⟩)
    (fun m meth c A a g mk v t L k n Y hp _ _ ⟨e1, e2, ⟨v', e3, e4⟩, e5, e6⟩ => by
      cases e3; subst e1 e2
      refine ⟨L, e4, rfl, rfl, rfl, (CHv.at Y hZ hEL H).trans ?_, fun q => State.WarmedH.trans (t := A.U) Y.warmed (e6 q)⟩
      rw [← hp.2.1]; exact e5)
/-- a law of the library's that interns nothing -/
theorem BK.of_back {y : MethodName} {len W kc ks : Nat} {as : Array Value} {ws : List Addr} (hws : ∀ x ∈ ws, n0 ≤ x) (hsf : ∀ vm, Z.Warmed39 vm → ∀ x ∈ ws, Safe Z EL vm h x)
    (hB : ∀ (p : Program) (e : Env) (below : List Frame) (s : State) (args : Array Value) (vm0 : Vm), (∀ d ∈ tbl, d.before a0 Z = true) → Z.Warmed39 vm0 → Old Z n0 h → Back l R p e below (s.setVm vm0) args y len W (fun A a => a = as ∧ A.U.heap = h ∧ A.cells + kc ≤ R.cells ∧ A.slots + ks ≤ R.slots)
      (fun A _ v B => ∃ L, (Fr n0 L ∧ Keep h B.U.heap ws ∧ Q v B.U.heap) ∧ B.locs = A.locs ++ L ∧ B.cells = A.cells + kc ∧ B.slots = A.slots + ks)) :
    BK l Z a0 EL tbl n0 R y len W as h kc ks Q := by
  intro p e below s args vm0 hEL hw hZ H O m meth c A g ig mk a X hg hsize hdg hW hn hp
  obtain ⟨v, B, X', ⟨L, ⟨q1, q2, q3⟩, q4, q5, q6⟩, hst⟩ := hB p e below s args vm0 hw hZ O m meth c A g ig mk a X hg hsize hdg hW hn hp
  have C1 := CHr.keep q2 (hsf vm0 hZ) H
  exact ⟨v, B, X'.retabled X'.warmed.wide, X'.warmed.since _, by rw [hp.2.1]; exact q2.1, ⟨L, ⟨q1, O.keep q2 hws, q3⟩, q4, q5, q6, C1.trans (CHv.at X' hZ hEL C1.1), fun _ => X'.warmed⟩, hst⟩
/-- a contract that interns nothing (EL empty), paid at any EL -/
theorem Ct.warm {y : MethodName} {bytes : ByteArray} {rm : Room} {as : Array Value} {len W : Nat} {ws : List Addr} (hC : Ct l Z a0 [] tbl [] n0 y bytes maxL ret rm as h Q) (w1 : Jvm.Cond.code y bytes maxL ret ∈ tbl) (w2 : Jvm.Cond.initialized y.cls ∈ tbl) (hf : rm.frames + 1 ≤ R.frames) (hl : W + (maxL + 11) + rm.locals ≤ R.locals)
    (hK : ∀ v h', Q v h' → Keep h h' ws) (hws : ∀ x ∈ ws, n0 ≤ x) (hsf : ∀ vm, Z.Warmed39 vm → ∀ x ∈ ws, Safe Z EL vm h x) : BK l Z a0 EL tbl n0 R y len W as h rm.cells rm.slots Q := by
  refine BK.of_back hws hsf fun p e below s args vm0 hw hZ O => ?_
  have hM : MetFree l y (head1 [Jvm.Cond.code y bytes maxL ret] rm) (fun a U => a = as ∧ Z.Warmed39 U.vm ∧ U.heap = h) (fun _ _ _ _ _ => True) (fun _ U o U' => ∃ v L, o = .returned v ∧ (Fr n0 L ∧ Keep h U'.heap ws ∧ Q v U'.heap) ∧ FrameEnd U o U' L rm.cells rm.slots) := by
    intro p e h1 h2 h3 s m args below hf hap hP hK'
    obtain ⟨n, o, q1, q2, q3, v, L, q4, ⟨q5, q6, q7⟩, q8, q9, q10⟩ := hC EW.nil hw O p e h1 h2 h3 s m args below hf hap ⟨hP.1, hP.2.1, hP.2.2, fun p hp => nomatch hp⟩ hK'
    exact ⟨n, o, q1, q2, q3, v, L, q4, ⟨q5, hK _ _ q7, q7⟩, q9.1, q10 rfl, q9.2.2.2⟩
  exact backOf (s := s.setVm vm0) (Q := fun v hh L => Fr n0 L ∧ Keep h hh ws ∧ Q v hh) hM hZ (hw _ w1) (hw _ w2) hf hl
section Calls
variable {y z : MethodName} {idx W kc ks : Nat} {argsL rest : List Value} {Qc : Option Value → Heap → Prop}
theorem G.static {bytes : ByteArray} {mL : Nat} {rt : Option FieldType} (hd : decode code pc = .ok (.invokestatic idx, 3)) (w1 : Jvm.Cond.methodLink own idx y ∈ tbl) (w2 : Jvm.Cond.static y ∈ tbl) (w3 : Jvm.Cond.initialized y.cls ∈ tbl) (w4 : Jvm.Cond.code y bytes mL rt ∈ tbl) (hy : y.cls ≠ "java/lang/invoke/MethodHandle" ∧ y.cls ≠ "java/lang/invoke/VarHandle")
    (hB : BK l Z a0 EL tbl n0 R y 3 W argsL.toArray h kc ks Qc) (hlen : ∀ sig, parseMethodDescriptor y.desc = some sig → argsL.length = sig.parameters.length) (hs : S = argsL.reverse ++ rest) (hW : 2 * 0 + (rest.map fun v => v.category).sum ≤ W) (hsz : L.size = maxL) (hc : cells + kc ≤ R.cells) (hl : slots + ks ≤ R.slots)
    (k : ∀ v h', Qc v h' → G l Z a0 EL tbl n0 code maxL ret R own mname Q h' (cells + kc) (slots + ks) (pc + 3) L (v.toList ++ rest)) : G l Z a0 EL tbl n0 code maxL ret R own mname Q h cells slots pc L S := by
  intro p e s m args below meth c T vm0 k0 locs P
  obtain ⟨hx, hby, hml, hret, hlk, hnm, hEL, hw, X, eT, hS, hk, hZ, hown, N, H, O, Wm⟩ := P
  obtain ⟨v, vm₁, ⟨T', L', k', n'⟩, hW1, X', hS', hgr, ⟨Lc, ⟨q1, q2, q3⟩, e1, e2, e3, C1, W1⟩, st⟩ := callSS X hx hown (mvT hZ (hw _ w1)) (mvT hZ (hw _ w2)) (mvT hZ (hw _ w3)) (mvT hZ (hw _ w4)) hy (hB p e below s args vm0 hEL hw hZ H.1 O) (g := mkF m pc L S) rfl (hsz.trans hml.symm) hlen hs hW (hb hby hd) (fun _ _ => ⟨rfl, eT, hc, hl⟩)
  dsimp only [Pt.U, Pt.locs, Pt.cells, Pt.slots] at X' hS' hgr q2 q3 e1 e2 e3 C1 W1 st
  subst e1 e2 e3
  obtain ⟨X2, S2, Z2, o2⟩ := rebS hS hk X' hS' (by rw [← eT]; exact hgr) hZ hown
  exact back_steps (fun t ht => st.trans ht) (k v T'.heap q3 p e s m args below meth c T' T'.vm T'.heap.size _ ⟨hx, hby, hml, hret, hlk, hnm, hEL, hw, X2, rfl, S2, Nat.le_refl _, Z2, o2, N.app q1, H.trans C1, q2, fun q => State.WarmedH.trans (t := s.setVm vm0) (Wm q) (W1 q)⟩)
theorem G.special {a : Addr} {bytes : ByteArray} {mL : Nat} (hy1 : y.name = "<init>") (hd : decode code pc = .ok (.invokespecial idx, 3)) (w1 : Jvm.Cond.methodLink own idx y ∈ tbl) (w2 : Jvm.Cond.instanceMethod y ∈ tbl) (w4 : Jvm.Cond.code y bytes mL none ∈ tbl) (hy : y.cls ≠ "java/lang/invoke/MethodHandle" ∧ y.cls ≠ "java/lang/invoke/VarHandle")
    (hB : BK l Z a0 EL tbl n0 R y 3 W (.ref a :: argsL).toArray h kc ks Qc) (hlen : ∀ sig, parseMethodDescriptor y.desc = some sig → argsL.length = sig.parameters.length) (hs : S = argsL.reverse ++ .ref a :: rest) (hW : 2 * 0 + (rest.map fun v => v.category).sum ≤ W) (hsz : L.size = maxL) (hc : cells + kc ≤ R.cells) (hl : slots + ks ≤ R.slots)
    (k : ∀ v h', Qc v h' → G l Z a0 EL tbl n0 code maxL ret R own mname Q h' (cells + kc) (slots + ks) (pc + 3) L (v.toList ++ rest)) : G l Z a0 EL tbl n0 code maxL ret R own mname Q h cells slots pc L S := by
  intro p e s m args below meth c T vm0 k0 locs P
  obtain ⟨hx, hby, hml, hret, hlk, hnm, hEL, hw, X, eT, hS, hk, hZ, hown, N, H, O, Wm⟩ := P
  obtain ⟨v, vm₁, ⟨T', L', k', n'⟩, hW1, X', hS', hgr, ⟨Lc, ⟨q1, q2, q3⟩, e1, e2, e3, C1, W1⟩, st⟩ := X.specialBackS hx hy1 hown (mvT hZ (hw _ w1)) (mvT hZ (hw _ w2)) (mvT hZ (hw _ w4)) hy (hB p e below s args vm0 hEL hw hZ H.1 O) (g := mkF m pc L S) rfl (hsz.trans hml.symm) (Steps.refl _) hlen hs hW (hb hby hd) (fun _ _ => ⟨rfl, eT, hc, hl⟩)
  dsimp only [Pt.U, Pt.locs, Pt.cells, Pt.slots] at X' hS' hgr q2 q3 e1 e2 e3 C1 W1 st
  subst e1 e2 e3
  obtain ⟨X2, S2, Z2, o2⟩ := rebS hS hk X' hS' (by rw [← eT]; exact hgr) hZ hown
  exact back_steps (fun t ht => st.trans ht) (k v T'.heap q3 p e s m args below meth c T' T'.vm T'.heap.size _ ⟨hx, hby, hml, hret, hlk, hnm, hEL, hw, X2, rfl, S2, Nat.le_refl _, Z2, o2, N.app q1, H.trans C1, q2, fun q => State.WarmedH.trans (t := s.setVm vm0) (Wm q) (W1 q)⟩)
theorem G.virtual {a : Addr} {C : String} (hd : decode code pc = .ok (.invokevirtual idx, 3)) (w1 : Jvm.Cond.methodLink own idx y ∈ tbl) (w2 : Jvm.Cond.declares y ∈ tbl) (w3 : Jvm.Cond.selects C y y ∈ tbl) (w4 : Jvm.Cond.instanceMethod y ∈ tbl) (hy : y.cls ≠ "java/lang/invoke/MethodHandle" ∧ y.cls ≠ "java/lang/invoke/VarHandle") (E : Exa Z h a C)
    (hB : BK l Z a0 EL tbl n0 R y 3 W (.ref a :: argsL).toArray h kc ks Qc) (hlen : ∀ sig, parseMethodDescriptor y.desc = some sig → argsL.length = sig.parameters.length) (hs : S = argsL.reverse ++ .ref a :: rest) (hW : 2 * 0 + (rest.map fun v => v.category).sum ≤ W) (hsz : L.size = maxL) (hc : cells + kc ≤ R.cells) (hl : slots + ks ≤ R.slots)
    (k : ∀ v h', Qc v h' → G l Z a0 EL tbl n0 code maxL ret R own mname Q h' (cells + kc) (slots + ks) (pc + 3) L (v.toList ++ rest)) : G l Z a0 EL tbl n0 code maxL ret R own mname Q h cells slots pc L S := by
  intro p e s m args below meth c T vm0 k0 locs P
  obtain ⟨hx, hby, hml, hret, hlk, hnm, hEL, hw, X, eT, hS, hk, hZ, hown, N, H, O, Wm⟩ := P
  obtain ⟨cB, kB, f1, f2, f3⟩ := isOf (s := s.setVm vm0) hZ eT E
  obtain ⟨v, vm₁, ⟨T', L', k', n'⟩, hW1, X', hS', hgr, ⟨Lc, ⟨q1, q2, q3⟩, e1, e2, e3, C1, W1⟩, st⟩ := X.virtualBackS hx hown (mvT hZ (hw _ w1)) (mvT hZ (hw _ w2)) (notFace_of_selects (args := #[]) (mvT hZ (hw _ w3))) (mvT hZ (hw _ w3)) (mvT hZ (hw _ w4)) hy (hB p e below s args vm0 hEL hw hZ H.1 O) f1 f3 (g := mkF m pc L S) rfl (hsz.trans hml.symm) (Steps.refl _) hlen hs hW (hb hby hd) (fun _ _ => ⟨rfl, eT, hc, hl⟩)
  dsimp only [Pt.U, Pt.locs, Pt.cells, Pt.slots] at X' hS' hgr q2 q3 e1 e2 e3 C1 W1 st
  subst e1 e2 e3
  obtain ⟨X2, S2, Z2, o2⟩ := rebS hS hk X' hS' (by rw [← eT]; exact hgr) hZ hown
  exact back_steps (fun t ht => st.trans ht) (k v T'.heap q3 p e s m args below meth c T' T'.vm T'.heap.size _ ⟨hx, hby, hml, hret, hlk, hnm, hEL, hw, X2, rfl, S2, Nat.le_refl _, Z2, o2, N.app q1, H.trans C1, q2, fun q => State.WarmedH.trans (t := s.setVm vm0) (Wm q) (W1 q)⟩)
end Calls
/-! ## 4. The end -/
theorem rew_mono {s t : State} {o : Outcome} {Ls : List Loc} {k n k' n' : Nat} (q : ReturnedEndW s o t Ls k n) (hk : k ≤ k') (hn : n ≤ n') : ReturnedEndW s o t Ls k' n' := ⟨q.1, q.2.1, q.2.2.1, q.2.2.2.mono hk hn⟩
theorem G.leave {v : Option Value} (hv : ret = none → v = none) (hq : Q v h) (hc : cells ≤ R.cells) (hl : slots ≤ R.slots)
    (st : ∀ (p : Program) (e : Env) (s : State) (m : MethodId) (args : Array Value) (below : List Frame) (meth : Method) (c : Code) (T : State) (locs : List Loc) (fs : List Frame), p.tables.exec = Jvm.exec → c.code = code → meth.sig.returnType = ret → Stand p l e R s m args below meth c T locs cells slots →
      (∀ (f : JFrame) (acts : List Action), f.method = m → f.locked = none → f.entered = [] → (doReturn e (T.setTop f) acts v).1 = T.setFrames fs) → Steps p.tables e below (T.setTop (mkF m pc L S)) (T.setFrames fs)) :
    G l Z a0 EL tbl n0 code maxL ret R own mname Q h cells slots pc L S := by
  intro p e s m args below meth c T vm0 k0 locs P
  obtain ⟨hx, hby, hml, hret, hlk, hnm, hEL, hw, X, eT, hS, hk, hZ, hown, N, H, O, Wm⟩ := P
  subst eT
  obtain ⟨fs, hr, hrun, hended, hE⟩ := X.leaveW hS hk (v := v) (fun q => hv (hret.symm.trans q)) hlk
  exact ⟨_, _, st p e (s.setVm vm0) m args below meth c T locs fs hx hby hret X hr, hrun, hended, v, locs, rfl, ⟨N, O, hq⟩, H.trans (CHv.at X hZ hEL H.1 : CHr Z EL vm0 T.heap T.vm T.heap), rew_mono hE hc hl, fun q => State.WarmedH.trans (t := s.setVm vm0) (Wm q) X.warmed⟩
theorem G.retV (hd : decode code pc = .ok (.return_, 1)) (hret : ret = none) (hq : Q none h) (hc : cells ≤ R.cells) (hl : slots ≤ R.slots) : G l Z a0 EL tbl n0 code maxL ret R own mname Q h cells slots pc L [] :=
  G.leave (v := none) (fun _ => rfl) hq hc hl fun p e s m args below meth c T locs fs hx hby hr X hl => X.returnOut hx (hr.trans hret) (hb hby hd) hl
theorem G.retI {z : Int32} (hd : decode code pc = .ok (.ireturn, 1)) (hret : ret = some .int) (hq : Q (some (.int z)) h) (hc : cells ≤ R.cells) (hl : slots ≤ R.slots) : G l Z a0 EL tbl n0 code maxL ret R own mname Q h cells slots pc L (.int z :: S) :=
  G.leave (v := some (.int z)) (fun q => nomatch hret.symm.trans q) hq hc hl fun p e s m args below meth c T locs fs hx hby hr X hl => retOut X hx (hr.trans hret) rfl (Or.inl ⟨rfl, Or.inl rfl, _, rfl⟩) (hb hby hd) hl
theorem G.retJ {z : Int64} (hd : decode code pc = .ok (.lreturn, 1)) (hret : ret = some .long) (hq : Q (some (.long z)) h) (hc : cells ≤ R.cells) (hl : slots ≤ R.slots) : G l Z a0 EL tbl n0 code maxL ret R own mname Q h cells slots pc L (.long z :: S) :=
  G.leave (v := some (.long z)) (fun q => nomatch hret.symm.trans q) hq hc hl fun p e s m args below meth c T locs fs hx hby hr X hl => retOut X hx (hr.trans hret) rfl (Or.inr (Or.inl ⟨rfl, rfl, _, rfl⟩)) (hb hby hd) hl
theorem G.retA {w : Value} {t : FieldType} (hd : decode code pc = .ok (.areturn, 1)) (hret : ret = some t) (ht : t.isReference = true) (hn : narrow t w = w) (hw : w.isRef = true) (hq : Q (some w) h) (hc : cells ≤ R.cells) (hl : slots ≤ R.slots) : G l Z a0 EL tbl n0 code maxL ret R own mname Q h cells slots pc L (w :: S) :=
  G.leave (v := some w) (fun q => nomatch hret.symm.trans q) hq hc hl fun p e s m args below meth c T locs fs hx hby hr X hl => retOut X hx (hr.trans hret) hn (Or.inr (Or.inr (Or.inr (Or.inr ⟨rfl, ht, hw⟩)))) (hb hby hd) hl
theorem G.retN {z z' : Int32} {t : FieldType} (hd : decode code pc = .ok (.ireturn, 1)) (hret : ret = some t) (ht : t = .boolean ∨ t = .byte ∨ t = .char ∨ t = .short) (hz : nar t z = z') (hq : Q (some (.int z')) h) (hc : cells ≤ R.cells) (hl : slots ≤ R.slots) : G l Z a0 EL tbl n0 code maxL ret R own mname Q h cells slots pc L (.int z :: S) := by
  subst hz
  exact G.leave (v := some (.int (nar t z))) (fun q => nomatch hret.symm.trans q) hq hc hl fun p e s m args below meth c T locs fs hx hby hr X hl => Jvm.RoadKit.retN X hx (hr.trans hret) ht (hb hby hd) hl
end G
end Own
end Jvm.Pilot.@@N@@
namespace Jvm.Pilot.@@N@@
namespace Own
open Jvm Jvm.ClassFile Sem Op Lib Jvm.Free Jvm.Stand Jvm.LawKit Jvm.RoadKit Bundle
/-! ## 5. Strings -/
abbrev ST : String := "java/lang/String"
abbrev N1 : MethodName := ⟨"java/lang/String", "<init>", "([C)V"⟩
abbrev N4 : MethodName := ⟨"java/lang/String", "<init>", "([CIILjava/lang/Void;)V"⟩
section Strings
variable {l : Launch} {Z : State} {a0 : Array Value} {EL : List (String × Nat)} {tbl : List Jvm.Cond} {n0 : Nat} {R : Room} {h h' h1 h2 : Heap} {a x : Addr} {cs ds : List Int32}
/-- COMPACT_STRINGS is on -/
def CS (Z : State) : Prop := ∃ z : Int32, Sta Z Z.heap ST "COMPACT_STRINGS" "Z" (.int z) ∧ ¬ z = 0
def lat (cs : List Int32) : Prop := ∀ c ∈ cs, ¬ c < 0 ∧ ¬ (255 : Int32) < c
/-- the String at a spells cs -/
def Str (Z : State) (h : Heap) (a : Addr) (cs : List Int32) : Prop := Exa Z h a ST ∧ Fld Z h a ST "coder" "B" (.int 0) ∧ lat cs ∧ cs.length ≤ 4000 ∧
  ∃ (b : Addr) (k : ClassId), Fld Z h a ST "value" "[B" (.ref b) ∧ Arv Z h b k .byte (Int32.ofNat cs.length) ((cs.map fun c => c.toInt8.toInt32).map Value.int) (.int 0)
theorem Str.lt (F : Str Z h a cs) : a < h.size := F.1.lt
theorem Str.keep0 (F : Str Z h a cs) (K : Keep h h' []) : Str Z h' a cs := by
  obtain ⟨E, C, q1, q2, b, k, V, A⟩ := F
  exact ⟨E.keep K, C.keep K nin0, q1, q2, b, k, V.keep K nin0, A.keep K nin0⟩
theorem Str.keepE {t : Addr} {C : String} {n : Nat} (F : Str Z h a cs) (K : Keep h h' [t]) (E' : Exa Z h t C) (hC : C ≠ ST) (wi : (Jvm.Cond.instantiable C n).before a0 Z = true) : Str Z h' a cs := by
  obtain ⟨E, C1, q1, q2, b, k, V, A⟩ := F
  have n1 : a ≠ t := ne_exa E E' (Ne.symm hC)
  have n2 : b ≠ t := Ne.symm (Exa.neArv E' A wi)
  exact ⟨E.keep K, C1.keep K (ninS n1 nin0), q1, q2, b, k, V.keep K (ninS n1 nin0), A.keep K (ninS n2 nin0)⟩
theorem same_name {vm : Vm} (hal : Z.vm.Alike vm) {C D : String} {c : ClassId} (e1 : Z.vm.findClass C = some c) (e2 : vm.findClass D = some c) : C = D := by
  rw [hal.findClass] at e2
  obtain ⟨k1, q1, q2⟩ := Vm.findClass_spec e1
  obtain ⟨k2, q3, q4⟩ := Vm.findClass_spec e2
  cases q1.symm.trans q3
  exact q2.symm.trans q4
/-- a String whose value is still null is no literal -/
theorem safe_blank {vm : Vm} (hal : Z.vm.Alike vm) (E : Exa Z h x ST) (F : Fld Z h x ST "value" "[B" .null) : Safe Z EL vm h x := fun B => by
  obtain ⟨p, -, u, a, -, q, -, FF, rfl | rfl⟩ := B
  · obtain ⟨cS, ⟨⟨s1, s2, s3, ⟨cv, kv, iv, s4, s4'⟩, -, s6, s7, s8, -⟩, -, -⟩, -⟩ := FF
    obtain ⟨cell, cf, k, i, f, h1, h2, h3, h4, h5, h6, h7⟩ := F
    obtain ⟨kv', z4⟩ := ff_back (U := Wst Z vm h) hal s4
    cases h2.symm.trans z4
    cases h1.symm.trans (show h[q.sa]? = some q.sC from s1)
    cases h7.symm.trans s8
  · obtain ⟨cell, k, e1, e2, -⟩ := E
    cases (show h[q.sd]? = some q.SA from FF.hd).symm.trans e1
    obtain ⟨cS, -, -, f, -⟩ := FF
    exact absurd (same_name hal e2 f) (by decide)
theorem BK.more {y : MethodName} {len W kc ks kc' ks' : Nat} {as : Array Value} {Q : Option Value → Heap → Prop} (h1 : kc ≤ kc') (h2 : ks ≤ ks') (B : BK l Z a0 EL tbl n0 R y len W as h kc ks Q) : BK l Z a0 EL tbl n0 R y len W as h kc' ks' Q := by
  intro p e below s args vm0 hEL hw hZ H O m meth c A g ig mk a X hg hsize hdg hW hn hp
  obtain ⟨v, ⟨T, locs, k, n⟩, X', hS, hgr, ⟨L, q1, q2, q3, q4, q5, q6⟩, hst⟩ := B p e below s args vm0 hEL hw hZ H O m meth c A g ig mk a X hg hsize hdg hW hn ⟨hp.1, hp.2.1, Nat.le_trans (Nat.add_le_add_left h1 _) hp.2.2.1, Nat.le_trans (Nat.add_le_add_left h2 _) hp.2.2.2⟩
  dsimp only [Pt.U, Pt.locs, Pt.cells, Pt.slots] at X' hS hgr q1 q2 q3 q4 q5 q6 hst
  subst q2 q3 q4
  exact ⟨v, ⟨T, _, A.2.2.1 + kc', A.2.2.2 + ks'⟩, X'.mono (Nat.add_le_add_left h1 _) (Nat.add_le_add_left h2 _), hS, hgr, ⟨L, q1, rfl, rfl, rfl, q5, q6⟩, hst⟩
theorem BK.weak {y : MethodName} {len W kc ks : Nat} {as : Array Value} {Q Q' : Option Value → Heap → Prop} (hq : ∀ v h', Q v h' → Q' v h') (B : BK l Z a0 EL tbl n0 R y len W as h kc ks Q) : BK l Z a0 EL tbl n0 R y len W as h kc ks Q' := by
  intro p e below s args vm0 hEL hw hZ H O m meth c A g ig mk a X hg hsize hdg hW hn hp
  obtain ⟨v, T, X', hS, hgr, ⟨L, ⟨q1, q2, q3⟩, r⟩, hst⟩ := B p e below s args vm0 hEL hw hZ H O m meth c A g ig mk a X hg hsize hdg hW hn hp
  exact ⟨v, T, X', hS, hgr, ⟨L, ⟨q1, q2, hq _ _ q3⟩, r⟩, hst⟩
abbrev wordsE : List Jvm.Cond := [.stringLink ST 7 "", .instantiable ST 4, .soleField ST "value", .soleField ST "coder"]
theorem e0 : decode StrChars.New4.yB 0 = .ok (.aload_n 0, 1) := by decide +kernel
theorem e1 : decode StrChars.New4.yB 1 = .ok (.invokespecial 1, 3) := by decide +kernel
theorem e4 : decode StrChars.New4.yB 4 = .ok (.iload_n 3, 1) := by decide +kernel
theorem e5 : decode StrChars.New4.yB 5 = .ok (.ifCond .ne 22, 3) := by decide +kernel
theorem e8 : decode StrChars.New4.yB 8 = .ok (.aload_n 0, 1) := by decide +kernel
theorem e9 : decode StrChars.New4.yB 9 = .ok (.ldc 7, 2) := by decide +kernel
theorem e11 : decode StrChars.New4.yB 11 = .ok (.getfield 9, 3) := by decide +kernel
theorem e14 : decode StrChars.New4.yB 14 = .ok (.putfield 9, 3) := by decide +kernel
theorem e17 : decode StrChars.New4.yB 17 = .ok (.aload_n 0, 1) := by decide +kernel
theorem e18 : decode StrChars.New4.yB 18 = .ok (.ldc 7, 2) := by decide +kernel
theorem e20 : decode StrChars.New4.yB 20 = .ok (.getfield 15, 3) := by decide +kernel
theorem e23 : decode StrChars.New4.yB 23 = .ok (.putfield 15, 3) := by decide +kernel
theorem e26 : decode StrChars.New4.yB 26 = .ok (.return_, 1) := by decide +kernel
theorem pnS : plainName ST = true := by first | (simp [plainName, overriddenIn]; done) | decide +kernel
theorem efN4 (m : MethodId) (x b : Addr) : entryFrame m #[.ref x, .ref b, .int 0, .int 0, .null] 6 = mkF m 0 #[.val (.ref x), .val (.ref b), .val (.int 0), .val (.int 0), .val .null, .unset] [] := by first | (simp [entryFrame, mkF, argsToLocals, Value.category]; done) | rfl
theorem efN1 (m : MethodId) (x b : Addr) : entryFrame m #[.ref x, .ref b] 2 = mkF m 0 #[.val (.ref x), .val (.ref b)] [] := by first | (simp [entryFrame, mkF, argsToLocals, Value.category]; done) | rfl
/-- what new String(..) leaves -/
def QS (Z : State) (x : Addr) (cs : List Int32) (h : Heap) (v : Option Value) (h' : Heap) : Prop := v = none ∧ Keep h h' [x] ∧ Str Z h' x cs
set_option maxRecDepth 65536 in
set_option maxHeartbeats 4000000 in
/-- String(char[], int, int, Void) at length 0: the literal "" lends its array -/
theorem new4e (hws : ∀ d ∈ StrChars.Road.words, d ∈ tbl) (hwe : ∀ d ∈ wordsE, d ∈ tbl) (hmem : (ST, 7) ∈ EL) {b : Addr} (hx0 : n0 ≤ x) (E : Exa Z h x ST) (V : Fld Z h x ST "value" "[B" .null) (C : Fld Z h x ST "coder" "B" (.int 0)) :
    Ct l Z a0 EL tbl [] n0 N4 StrChars.New4.yB 6 none ({ frames := 1, cells := 2, slots := 4, locals := 12 } : Room) #[.ref x, .ref b, .int 0, .int 0, .null] h (QS Z x [] h) := by
  intro hEL hw0 hO
  refine MetFree.of_bodySF (plainFor_of_name pnS) hisR ?_
  intro p e s m args below meth c s₁ Bd hml0 hP hK
  obtain ⟨rfl, hZ, hh, hCH⟩ := hP
  subst hh
  have hw : ∀ d ∈ StrChars.Road.words, d.before a0 Z = true := fun d hd => hw0 d (hws d hd)
  have hwE : ∀ d ∈ wordsE, d.before a0 Z = true := fun d hd => hw0 d (hwe d hd)
  have hx := Bd.exec
  have hby := Bd.bytes
  have hml : c.maxLocals = 6 := hml0
  have hown : s.vm.findClass ST = some m.cls := findClass_of_methodNamed Bd.named
  have hnm := (name_of_methodNamed Bd.named Bd.method).1
  have X0 : Stand p l e ({ frames := 1, cells := 2, slots := 4, locals := 12 } : Room) s m #[.ref x, .ref b, .int 0, .int 0, .null] below meth c s₁ [] 0 0 := Stand.of_body Bd
  have e0' : s₁.heap = s.heap := by rw [Bd.state]; rfl
  have wi : (Jvm.Cond.instantiable ST 4).before a0 Z = true := hwE _ (by simp [wordsE])
  have wv : (Jvm.Cond.laysFinal ST ST "value" "[B").before a0 Z = true := hw _ (by simp [StrChars.Road.words])
  have wc : (Jvm.Cond.laysFinal ST ST "coder" "B").before a0 Z = true := hw _ (by simp [StrChars.Road.words])
  have wS : ∀ d ∈ Bundle.stringAtoms, d.before a0 Z = true := fun d hd => by
    simp only [Bundle.stringAtoms, List.mem_cons, List.not_mem_nil, or_false] at hd
    rcases hd with rfl | rfl | rfl | rfl | rfl | rfl | rfl
    · exact hw _ (by simp [StrChars.Road.words, Bundle.sN])
    · exact wi
    · exact hw _ (by simp [StrChars.Road.words])
    · exact wv
    · exact wc
    · exact hwE _ (by simp [wordsE, Bundle.sN])
    · exact hwE _ (by simp [wordsE, Bundle.sN])
  have wl : (Jvm.Cond.stringLink ST 7 "").before a0 Z = true := hwE _ (by simp [wordsE])
  obtain ⟨T1, X1, e1', st1⟩ := Jvm.RoadKit.initO X0 hx hZ hown (hw _ (by simp [StrChars.Road.words])) (hw _ (by simp [StrChars.Road.words])) (hw _ (by simp [StrChars.Road.words])) e0' (g := mkF m 1 #[.val (.ref x), .val (.ref b), .val (.int 0), .val (.int 0), .val .null, .unset] [.ref x]) rfl (by rw [hml]; rfl) rfl (hb hby e1) (by decide) (W := 0) (by show 2 * 0 + _ ≤ _; exact Nat.le_of_eq rfl) (by decide)
  have X1' : Stand p l e ({ frames := 1, cells := 2, slots := 4, locals := 12 } : Room) (s.setVm s.vm) m #[.ref x, .ref b, .int 0, .int 0, .null] below meth c T1 [] 0 0 := X1
  obtain ⟨a, T2, h2, k1, bb, kb, X2, e2, E2, S2, hk2, Z2, o2, Ea, Ca, Va, Ab, la, lb, C2, Lt, ne2, st2⟩ := ldcCH X1' hx hZ hown wl wS e1' ((State.WarmedH.refl s).since 0) (Nat.zero_le _) hEL hmem hCH (vs := []) (z := 0) ⟨fun c hc => (nomatch hc), rfl⟩ (by decide) rfl (g := mkF m 9 #[.val (.ref x), .val (.ref b), .val (.int 0), .val (.int 0), .val .null, .unset] [.ref x]) rfl (hb hby e9) (n := 0) (Nat.le_refl _) (by decide) (by decide) (by decide)
  have sf0 : Safe Z EL s.vm s.heap x := safe_blank (Z := Z) hZ.alike E V
  have sf2 : Safe Z EL T2.vm h2 x := C2.safe E.lt sf0
  obtain ⟨nea, neb⟩ := ne2 x sf2
  obtain ⟨T3, X3, e3', st3⟩ := Jvm.RoadKit.getF X2 hx Z2 o2 (host := "") (Or.inl (hw _ (by simp [StrChars.Road.words]))) Via.refl e2 Va (g := mkF m 11 #[.val (.ref x), .val (.ref b), .val (.int 0), .val (.int 0), .val .null, .unset] [.ref a, .ref x]) rfl rfl (hb hby e11)
  obtain ⟨T4, h4, X4, e4', W4, st4⟩ := Jvm.RoadKit.putF X3 hx Z2 o2 (host := "") (Or.inl (hw _ (by simp [StrChars.Road.words]))) Via.refl e3' (V.ext E2) (E.ext E2) (Or.inr ⟨wv, rfl, hnm⟩) wi (ty := .array .byte) (by decide) rfl rfl (g := mkF m 14 #[.val (.ref x), .val (.ref b), .val (.int 0), .val (.int 0), .val .null, .unset] [.ref bb, .ref x]) rfl rfl (hb hby e14)
  have C4 := C2.trans (CHr.wr W4 sf2 C2.1)
  have sf4 : Safe Z EL T2.vm h4 x := Safe.wr W4 sf2 C2.1 sf2
  have st5 := ldcAgain X4 hx Z2 o2 wl Lt (g := mkF m 18 #[.val (.ref x), .val (.ref b), .val (.int 0), .val (.int 0), .val .null, .unset] [.ref x]) rfl (hb hby e18)
  obtain ⟨T6, X6, e6', st6⟩ := Jvm.RoadKit.getF X4 hx Z2 o2 (host := "") (Or.inl (hw _ (by simp [StrChars.Road.words]))) Via.refl e4' (Ca.other W4 (Or.inl (Ne.symm nea))) (g := mkF m 20 #[.val (.ref x), .val (.ref b), .val (.int 0), .val (.int 0), .val .null, .unset] [.ref a, .ref x]) rfl rfl (hb hby e20)
  have sl : Jvm.RoadKit.slotOf Z ST "value" "[B" ≠ Jvm.RoadKit.slotOf Z ST "coder" "B" := Jvm.RoadKit.slot_ne (a0 := a0) (C := ST) (Or.inr wv) (Or.inr wc) (by decide) (t := .array .byte) (by decide) (t' := .byte) (by decide)
  obtain ⟨T7, h7, X7, e7', W7, st7⟩ := Jvm.RoadKit.putF X6 hx Z2 o2 (host := "") (Or.inl (hw _ (by simp [StrChars.Road.words]))) Via.refl e6' ((C.ext E2).other W4 (Or.inr (Ne.symm sl))) ((E.ext E2).wr W4) (Or.inr ⟨wc, rfl, hnm⟩) wi (ty := .byte) (by decide) rfl rfl (g := mkF m 23 #[.val (.ref x), .val (.ref b), .val (.int 0), .val (.int 0), .val .null, .unset] [.int 0, .ref x]) rfl rfl (hb hby e23)
  have C7 := C4.trans (CHr.wr W7 sf4 C4.1)
  have N7 : Fr n0 _ := Fr.snoc X7 (Fr.snoc X4 (Fr.nil n0) hx0) hx0
  have K7 : Keep s.heap h7 [x] := (((Keep.refl s.heap [x]).ext E2).wr W4 (Or.inl (List.mem_singleton.mpr rfl))).wr W7 (Or.inl (List.mem_singleton.mpr rfl))
  have hk7 : k1 ≤ T7.heap.size := by rw [e7', W7.size, W4.size]; exact hk2
  obtain ⟨fs, hr, hrun, hended, hE⟩ := X7.leaveW S2 hk7 (v := none) (fun _ => rfl) Bd.notSynchronized
  rw [efN4 m x b]
  refine ⟨_, _, ?_, hrun, hended, none, _, rfl, ⟨N7, ?_, ?_⟩, ?_, hE, fun q => absurd hmem (by rw [q]; exact List.not_mem_nil)⟩
  · refine XS.aloadN X0.here hx rfl (hb hby e0) rfl rfl ?_
    refine st1 _ ?_
    refine XS.iloadN X1.here hx rfl (hb hby e4) rfl ?_
    refine XS.ifNo X1.here hx rfl (hb hby e5) rfl (XT.i0_ne_f rfl) ?_
    refine XS.aloadN X1.here hx rfl (hb hby e8) rfl rfl ?_
    refine st2 _ ?_
    refine st3 _ ?_
    refine st4 _ ?_
    refine XS.aloadN X4.here hx rfl (hb hby e17) rfl rfl ?_
    refine st5 _ ?_
    refine st6 _ ?_
    refine st7 _ ?_
    exact X7.returnOut hx Bd.returns (hb hby e26) hr
  · show Old Z n0 T7.heap
    rw [e7']; exact hO.keep K7 (allS hx0 all0)
  · show QS Z x [] s.heap none T7.heap
    rw [e7']
    refine ⟨rfl, K7, ((E.ext E2).wr W4).wr W7, Fld.same W7 ((C.ext E2).other W4 (Or.inr (Ne.symm sl))), fun c hc => (nomatch hc), Nat.zero_le _, bb, kb, (Fld.same W4 (V.ext E2)).other W7 (Or.inr sl), ?_⟩
    exact (Ab.other W4 (Ne.symm neb)).other W7 (Ne.symm neb)
  · show CHr Z EL s.vm s.heap T7.vm T7.heap
    rw [e7']
    exact C7.trans (CHv.at X7 Z2 hEL C7.1)
theorem G.arrlen {code : ByteArray} {maxL : Nat} {ret : Option FieldType} {own mname : String} {Q : Option Value → Heap → Prop} {cells slots pc : Nat} {L : Array Slot} {S : List Value} {kA : ClassId} {ty : FieldType} {z : Int32} {vs : List Value} {dv : Value} (hd : decode code pc = .ok (.arraylength, 1)) (A : Arv Z h a kA ty z vs dv)
    (k : G l Z a0 EL tbl n0 code maxL ret R own mname Q h cells slots (pc + 1) L (.int z :: S)) : G l Z a0 EL tbl n0 code maxL ret R own mname Q h cells slots pc L (.ref a :: S) := by
  intro p e s m args below meth c T vm0 k0 locs P
  obtain ⟨hx, hby, hml, hret, hlk, hnm, hEL, hw, X, eT, r⟩ := id P
  obtain ⟨hS, hk, hZ, -⟩ := r
  obtain ⟨cl, A1, A2, A3, A4, A5, A6⟩ := A
  exact back_steps (fun t ht => X.arraylength hx (by rw [eT]; exact A1.1) (State.isArrayOf_alike (s := Z) hZ.alike A1.2.1) (g := mkF m pc L (.ref a :: S)) rfl rfl (hb hby hd) t (by rw [len_of A3 A4]; exact ht)) (k p e s m args below meth c T vm0 k0 locs P)
theorem G.caload {code : ByteArray} {maxL : Nat} {ret : Option FieldType} {own mname : String} {Q : Option Value → Heap → Prop} {cells slots pc : Nat} {L : Array Slot} {S : List Value} {kA : ClassId} {z j : Int32} {vs : List Value} {dv v : Value} (hd : decode code pc = .ok (.caload, 1)) (A : Arv Z h a kA .char z vs dv) (hj : ¬ j < 0 ∧ j < z) (hv : vs.getD j.toNatClampNeg dv = v)
    (k : G l Z a0 EL tbl n0 code maxL ret R own mname Q h cells slots (pc + 1) L (v :: S)) : G l Z a0 EL tbl n0 code maxL ret R own mname Q h cells slots pc L (.int j :: .ref a :: S) := by
  intro p e s m args below meth c T vm0 k0 locs P
  obtain ⟨hx, hby, hml, hret, hlk, hnm, hEL, hw, X, eT, r⟩ := id P
  obtain ⟨hS, hk, hZ, -⟩ := r
  obtain ⟨cl, A1, A2, A3, A4, A5, A6⟩ := A
  exact back_steps (fun t ht => X.caload hx (by rw [eT]; exact A1.1) (State.isArrayOf_alike (s := Z) hZ.alike A1.2.1) A1.2.2 (inb_of A3 hj) (A5.at (inb_of A3 hj) hv) (g := mkF m pc L (.int j :: .ref a :: S)) rfl rfl (hb hby hd) t ht) (k p e s m args below meth c T vm0 k0 locs P)
theorem pdN4 : parseMethodDescriptor "([CIILjava/lang/Void;)V" = some ⟨[.array .char, .int, .int, .object "java/lang/Void"], none⟩ := by decide +kernel
theorem pdN1 : parseMethodDescriptor "([C)V" = some ⟨[.array .char], none⟩ := by decide +kernel
set_option maxRecDepth 65536 in
theorem new1e (hws : ∀ d ∈ StrChars.Road.words, d ∈ tbl) (hwe : ∀ d ∈ wordsE, d ∈ tbl) (hmem : (ST, 7) ∈ EL) {b : Addr} {kC : ClassId} {vs : List Value} {dv : Value} (hx0 : n0 ≤ x) (E : Exa Z h x ST) (V : Fld Z h x ST "value" "[B" .null) (C : Fld Z h x ST "coder" "B" (.int 0)) (K : Arv Z h b kC .char 0 vs dv) :
    Ct l Z a0 EL tbl [] n0 N1 StrChars.New1.yB 2 none ({ frames := 2, cells := 2, slots := 4, locals := 29 } : Room) #[.ref x, .ref b] h (QS Z x [] h) := by
  refine Ct.of_body pnS (fun m => efN1 m x b) (fun _ _ _ => ?_)
  refine G.seg [(0, .aload_n 0, 1), (1, .aload_n 1, 1), (2, .iconst 0, 1), (3, .aload_n 1, 1)] (by decide +kernel) (pc' := 4) (L' := #[.val (.ref x), .val (.ref b)]) (S' := [.ref b, .int 0, .ref b, .ref x]) rfl ?_
  refine G.arrlen (by decide +kernel) K ?_
  refine G.seg [(5, .aconst_null, 1)] (by decide +kernel) (pc' := 6) (L' := #[.val (.ref x), .val (.ref b)]) (S' := [.null, .int 0, .int 0, .ref b, .ref x]) rfl ?_
  refine G.special (y := N4) (idx := 27) (a := x) (argsL := [.ref b, .int 0, .int 0, .null]) (rest := []) rfl (by decide +kernel) (hws _ (by simp [StrChars.Road.words, StrChars.New4.yN])) (hws _ (by simp [StrChars.Road.words, StrChars.New4.yN])) (hws (.code N4 StrChars.New4.yB 6 none) (by simp [StrChars.Road.words, StrChars.New4.yN])) (by decide)
    ((new4e hws hwe hmem hx0 E V C).pays (W := 0) (hws _ (by simp [StrChars.Road.words, StrChars.New4.yN])) (hws _ (by simp [StrChars.Road.words])) (by decide) (by decide)) (lenOf pdN4 rfl) rfl (Nat.le_of_eq rfl) rfl (by decide) (by decide) ?_
  rintro v h' ⟨rfl, q⟩
  exact G.retV (by decide +kernel) rfl ⟨rfl, q⟩ (by decide) (by decide)
theorem up (q : lat cs) : ∀ c ∈ cs, ¬ c < 0 ∧ ¬ (65535 : Int32) < c := fun c hc => ⟨(q c hc).1, fun r => (q c hc).2 (by rw [Int32.lt_iff_toInt_lt] at r ⊢; have e1 : (65535 : Int32).toInt = 65535 := rfl; have e2 : (255 : Int32).toInt = 255 := rfl; omega)⟩
/-- **new String(char[])**, any length from 0 on -/
theorem newStr {W : Nat} (hws : ∀ d ∈ StrChars.Road.words, d ∈ tbl) (hwe : ∀ d ∈ wordsE, d ∈ tbl) (hmem : (ST, 7) ∈ EL) {b : Addr} {kC : ClassId} {dv : Value} (hx0 : n0 ≤ x) (E : Exa Z h x ST) (V : Fld Z h x ST "value" "[B" .null) (C : Fld Z h x ST "coder" "B" (.int 0)) (K : Arv Z h b kC .char (Int32.ofNat cs.length) (cs.map Value.int) dv)
    (hcs : CS Z) (hlat : lat cs) (hlen : cs.length ≤ 4000) (hf : 4 ≤ R.frames) (hlo : W + 65 ≤ R.locals) :
    BK l Z a0 EL tbl n0 R N1 3 W #[.ref x, .ref b] h 2 (cs.length + 4) (QS Z x cs h) := by
  rcases Nat.eq_zero_or_pos cs.length with h0 | h0
  · obtain rfl : cs = [] := List.eq_nil_of_length_eq_zero h0
    exact (new1e hws hwe hmem hx0 E V C K).pays (hws _ (by simp [StrChars.Road.words, StrChars.New1.yN])) (hws _ (by simp [StrChars.Road.words])) (Nat.le_trans (by decide) hf) (by show W + (2 + 11) + 29 ≤ _; omega)
  · refine BK.more (kc := 1) (ks := cs.length) (by decide) (Nat.le_add_right _ _) (BK.of_back (ws := [x]) (allS hx0 all0) (fun vm hv => sfS (safe_blank (Z := Z) hv.alike E V) sf0) fun p e below s args vm0 hw hZ O => ?_)
    obtain ⟨z, Sz, hz⟩ := hcs
    intro m meth c A g ig mk a X hg hsize hdg hW hn hp
    obtain ⟨v, B, X', ⟨Lc, ⟨q1, q2, q3, q4, q5, t, kb, r1, r2, r3, r4, r5⟩, q7⟩, st⟩ := StrChars.Road.backV (W := W) (s := s.setVm vm0) hZ (fun d hd => hw d (hws d hd)) (kI := 4) (hw _ (hwe _ (by simp [wordsE]))) (cs := cs) (bs := cs.map (fun c => c.toInt8.toInt32)) (n := cs.length) hx0 (O.1 ▸ O.2.1) E V C K (Sz.ext O.2) hz rfl rfl h0 hlen hlat rfl hf hlo m meth c A g ig mk a X hg hsize hdg hW hn hp
    exact ⟨v, B, X', ⟨Lc, ⟨q2, q3, q1, q3, q4, q5, hlat, hlen, t, kb, r4, r5⟩, q7⟩, st⟩
end Strings
end Own
end Jvm.Pilot.@@N@@
namespace Jvm.Pilot.@@N@@
namespace Own
open Jvm Jvm.ClassFile Sem Op Lib Jvm.Free Jvm.Stand Jvm.LawKit Jvm.RoadKit Bundle
/-! ## 6. Numbers -/
/-- a sign from 0 to 255 -/
def b8 (x : Int32) : Prop := ¬ x < 0 ∧ ¬ (255 : Int32) < x
theorem b8_iff (x : Int32) : b8 x ↔ x.toBitVec.toNat < 256 := by
  have h1 : x.toInt = x.toBitVec.toInt := rfl
  have e0 : (0 : Int32).toInt = 0 := rfl
  have e1 : (255 : Int32).toInt = 255 := rfl
  have := x.toBitVec.isLt
  simp only [b8, Int32.lt_iff_toInt_lt, e0, e1, h1, BitVec.toInt_eq_toNat_cond]
  split <;> omega
theorem and_nat (x m : Int32) : (x &&& m).toBitVec.toNat ≤ m.toBitVec.toNat := by
  simp only [Int32.toBitVec_and, BitVec.toNat_and]; exact Nat.and_le_right
theorem ofNat_nat (x : Int32) : x = Int32.ofNat x.toBitVec.toNat := by
  apply Int32.toBitVec_inj.mp
  show _ = BitVec.ofNat 32 _
  rw [BitVec.ofNat_toNat]; simp
theorem andk (x m : Int32) (n : Nat) (hm : m.toBitVec.toNat < n) : ∃ k : Fin n, x &&& m = Int32.ofNat k.val := ⟨⟨_, Nat.lt_of_le_of_lt (and_nat x m) hm⟩, ofNat_nat _⟩
theorem b8_and (x : Int32) : b8 (x &&& 255) := (b8_iff _).mpr (Nat.lt_of_le_of_lt (and_nat x 255) (by decide))
theorem b8_xor {x y : Int32} (hx : b8 x) (hy : b8 y) : b8 (x ^^^ y) := by
  rw [b8_iff] at *
  simp only [Int32.toBitVec_xor, BitVec.toNat_xor]
  exact Nat.xor_lt_two_pow (n := 8) hx hy
theorem b8_cases {x : Int32} (hx : b8 x) : ∃ k : Fin 256, x = Int32.ofNat k.val := ⟨⟨_, (b8_iff x).mp hx⟩, ofNat_nat x⟩
/-- (char) of such a sign is itself -/
theorem b8_c {x : Int32} (hx : b8 x) : x.toUInt32.toUInt16.toUInt32.toInt32 = x := by
  obtain ⟨k, rfl⟩ := b8_cases hx
  clear hx; revert k; decide +kernel
theorem b8_ci {x : Int32} (hx : b8 x) : b8 x.toUInt32.toUInt16.toUInt32.toInt32 := by rw [b8_c hx]; exact hx
theorem nar_b8 {x : Int32} (hx : b8 x) : nar .char x = x := b8_c hx
theorem lat0 : lat [] := fun _ h => nomatch h
theorem latS {c : Int32} {cs : List Int32} (h : b8 c) (r : lat cs) : lat (c :: cs) := fun x hx => (List.mem_cons.mp hx).elim (fun e => e ▸ h) (r x)
theorem nar_z {x : Int32} (h : x = 0 ∨ x = 1) : nar .boolean x = x := by rcases h with rfl | rfl <;> rfl
theorem nar_ite {p : Prop} [Decidable p] : nar .boolean (if p then 1 else 0) = if p then 1 else 0 := by split <;> rfl
theorem narr_z {x : Int32} (h : x = 0 ∨ x = 1) : narrow .boolean (.int x) = .int x := by rcases h with rfl | rfl <;> rfl
theorem fits_z {x : Int32} (h : x = 0 ∨ x = 1) : fits .boolean (.int x) = true := by rcases h with rfl | rfl <;> rfl
theorem fits_r {n : String} {v : Value} (h : v.isRef = true) : fits (.object n) v = true := by rcases ref_cases h with rfl | ⟨a, rfl⟩ <;> rfl
theorem and3 (x : Int32) : x &&& 3 = 0 ∨ x &&& 3 = 1 ∨ x &&& 3 = 2 ∨ x &&& 3 = 3 := by
  obtain ⟨k, e⟩ := andk x 3 4 (by decide); rw [e]; clear e; revert k; decide +kernel
theorem and3rem3 (x : Int32) : (x &&& 3) % 3 = 0 ∨ (x &&& 3) % 3 = 1 ∨ (x &&& 3) % 3 = 2 := by
  obtain ⟨k, e⟩ := andk x 3 4 (by decide); rw [e]; clear e; revert k; decide +kernel
theorem and1 (x : Int32) : x &&& 1 = 0 ∨ x &&& 1 = 1 := by
  obtain ⟨k, e⟩ := andk x 1 2 (by decide); rw [e]; clear e; revert k; decide +kernel
end Own
end Jvm.Pilot.@@N@@
namespace Jvm.Pilot.@@N@@
open Jvm Jvm.ClassFile Sem Op Lib Jvm.Free Jvm.Stand Jvm.LawKit Jvm.RoadKit Bundle Jvm.Pilot.@@N@@.Jvm.D Own
theorem pn0 : plainName "java/lang/String" = true := by first | (simp [plainName, overriddenIn]; done) | decide +kernel
theorem pn1 : plainName "java/lang/Record" = true := by first | (simp [plainName, overriddenIn]; done) | decide +kernel
theorem pd0 : parseMethodDescriptor "()V" = some ⟨[], none⟩ := by decide +kernel
theorem pn2 : plainName "com/example/aspen/aspen/core/Link" = true := by first | (simp [plainName, overriddenIn]; done) | decide +kernel
theorem pn3 : plainName "com/example/aspen/aspen/core/LinkRecord" = true := by first | (simp [plainName, overriddenIn]; done) | decide +kernel
theorem pn4 : plainName "java/util/Optional" = true := by first | (simp [plainName, overriddenIn]; done) | decide +kernel
theorem pn5 : plainName "java/util/Objects" = true := by first | (simp [plainName, overriddenIn]; done) | decide +kernel
theorem pd1 : parseMethodDescriptor "(Ljava/lang/Object;)Ljava/lang/Object;" = some ⟨[.object "java/lang/Object"], some (.object "java/lang/Object")⟩ := by decide +kernel
theorem pd2 : parseMethodDescriptor "(Ljava/lang/Object;)V" = some ⟨[.object "java/lang/Object"], none⟩ := by decide +kernel
theorem pd3 : parseMethodDescriptor "()Z" = some ⟨[], some (.boolean)⟩ := by decide +kernel
theorem pd4 : parseMethodDescriptor "()Ljava/util/Optional;" = some ⟨[], some (.object "java/util/Optional")⟩ := by decide +kernel
theorem pd5 : parseMethodDescriptor "(Ljava/lang/String;Ljava/lang/String;)V" = some ⟨[.object "java/lang/String", .object "java/lang/String"], none⟩ := by decide +kernel
theorem pd6 : parseMethodDescriptor "(Ljava/lang/Object;)Ljava/util/Optional;" = some ⟨[.object "java/lang/Object"], some (.object "java/util/Optional")⟩ := by decide +kernel
theorem pd7 : parseMethodDescriptor "(Ljava/lang/Object;)Z" = some ⟨[.object "java/lang/Object"], some (.boolean)⟩ := by decide +kernel
theorem pn6 : plainName "com/example/aspen/aspen/core/LinkRecordLinkPinLaw" = true := by first | (simp [plainName, overriddenIn]; done) | decide +kernel
theorem pd8 : parseMethodDescriptor "(Ljava/lang/String;Ljava/lang/String;J)V" = some ⟨[.object "java/lang/String", .object "java/lang/String", .long], none⟩ := by decide +kernel
theorem pd9 : parseMethodDescriptor "()Ljava/lang/Object;" = some ⟨[], some (.object "java/lang/Object")⟩ := by decide +kernel
theorem pd10 : parseMethodDescriptor "()Ljava/lang/String;" = some ⟨[], some (.object "java/lang/String")⟩ := by decide +kernel
theorem pd11 : parseMethodDescriptor "(Ljava/lang/String;Ljava/lang/String;)Z" = some ⟨[.object "java/lang/String", .object "java/lang/String"], some (.boolean)⟩ := by decide +kernel

theorem sw1 : ∀ d ∈ StrChars.Road.words, d ∈ tables_1 := by decide +kernel
theorem swE : ∀ d ∈ wordsE, d ∈ tables_1 := by decide +kernel
theorem hm7 : ("java/lang/String", 7) ∈ consts_1 := by decide
/-- a String made by the law's own helper -/
def QM (Z : State) (h : Heap) (cs : List Int32) (v : Option Value) (h' : Heap) : Prop := ∃ a, v = some (.ref a) ∧ Keep h h' [] ∧ h.size ≤ a ∧ Str Z h' a cs
def OE (Z : State) (o : Addr) : Prop := Sta Z Z.heap "java/util/Optional" "EMPTY" "Ljava/util/Optional;" (.ref o)
def OV (Z : State) (h : Heap) (o : Addr) (v : Value) : Prop := Exa Z h o "java/util/Optional" ∧ Fld Z h o "java/util/Optional" "value" "Ljava/lang/Object;" v
set_option maxRecDepth 65536 in
set_option maxHeartbeats 4000000 in
theorem eqselfC (l : Launch) (Z : State) (a0 : Array Value) (n0 : Nat) (h : Heap) (t : Addr) :
    Ct l Z a0 consts_1 tables_1 [] n0 ⟨"java/lang/String", "equals", "(Ljava/lang/Object;)Z"⟩ jdk_42_method_66_code 3 (some (.boolean)) ({ frames := 0, cells := 0, slots := 0, locals := 0 } : Room) #[.ref t, .ref t] h (fun v h' => h' = h ∧ v = some (.int 1)) := by
  refine Ct.of_body pn0 (L0 := #[.val (.ref t), .val (.ref t), .unset]) (fun m => by exact ef_of rfl) (fun hEL hw hO => ?_)
  refine G.seg [(0, .aload_n 0, 1), (1, .aload_n 1, 1)] (by decide +kernel) (pc' := 2) (L' := #[.val (.ref t), .val (.ref t), .unset]) (S' := [.ref t, .ref t]) rfl ?_
  refine G.acne (o := (5)) (pc' := 7) rfl rfl (by decide +kernel) (by decide) rfl (fun q1 => absurd rfl q1) ?_
  intro _
  refine G.seg [(5, .iconst 1, 1)] (by decide +kernel) (pc' := 6) (L' := #[.val (.ref t), .val (.ref t), .unset]) (S' := [.int (1 : Int32)]) rfl ?_
  exact G.retN (by decide +kernel) rfl (Or.inl rfl) rfl ⟨rfl, rfl⟩ (lb rfl) (lb rfl)

set_option maxRecDepth 65536 in
set_option maxHeartbeats 4000000 in
theorem recC (l : Launch) (Z : State) (a0 : Array Value) (n0 : Nat) (h : Heap) (t : Addr) :
    Ct l Z a0 consts_1 tables_1 [] n0 ⟨"java/lang/Record", "<init>", "()V"⟩ jdk_30_method_1_code 1 (none) ({ frames := 1, cells := 0, slots := 0, locals := 12 } : Room) #[.ref t] h (fun v h' => v = none ∧ h' = h) := by
  refine Ct.of_body pn1 (L0 := #[.val (.ref t)]) (fun m => by exact ef_of rfl) (fun hEL hw hO => ?_)
  refine G.seg [(0, .aload_n 0, 1)] (by decide +kernel) (pc' := 1) (L' := #[.val (.ref t)]) (S' := [.ref t]) rfl ?_
  refine G.initO (W := 0) (by decide +kernel) (tw 41 rfl) (tw 12 rfl) (tw 13 rfl) rfl (lb rfl) (Nat.le_of_eq rfl) (lb rfl) ?_
  exact G.retV (by decide +kernel) rfl ⟨rfl, rfl⟩ (lb rfl) (lb rfl)

set_option maxRecDepth 65536 in
set_option maxHeartbeats 4000000 in
theorem linitC (l : Launch) (Z : State) (a0 : Array Value) (n0 : Nat) (h : Heap) (t : Addr) (c u : Value) (hc : c.isRef = true) (hu : u.isRef = true) (ht : n0 ≤ t) (E : Exa Z h t "com/example/aspen/aspen/core/Link") (Fcode : Fld Z h t "com/example/aspen/aspen/core/Link" "code" "Ljava/lang/String;" .null) (Furl : Fld Z h t "com/example/aspen/aspen/core/Link" "url" "Ljava/lang/String;" .null) :
    Ct l Z a0 consts_1 tables_1 [] n0 ⟨"com/example/aspen/aspen/core/Link", "<init>", "(Ljava/lang/String;Ljava/lang/String;)V"⟩ prog_8_method_1_code 3 (none) ({ frames := 2, cells := 0, slots := 0, locals := 24 } : Room) #[.ref t, c, u] h (fun v h' => v = none ∧ Keep h h' [t] ∧ Exa Z h' t "com/example/aspen/aspen/core/Link" ∧ Fld Z h' t "com/example/aspen/aspen/core/Link" "code" "Ljava/lang/String;" (c) ∧ Fld Z h' t "com/example/aspen/aspen/core/Link" "url" "Ljava/lang/String;" (u)) := by
  refine Ct.of_body pn2 (L0 := #[.val (.ref t), .val (c), .val (u)]) (fun m => by rcases ref_cases hc with rfl | ⟨_, rfl⟩ <;> rcases ref_cases hu with rfl | ⟨_, rfl⟩ <;> exact ef_of rfl) (fun hEL hw hO => ?_)
  refine G.seg [(0, .aload_n 0, 1)] (by decide +kernel) (pc' := 1) (L' := #[.val (.ref t), .val (c), .val (u)]) (S' := [.ref t]) rfl ?_
  refine G.special (y := ⟨"java/lang/Record", "<init>", "()V"⟩) (a := t) (argsL := []) (rest := []) (W := 0) rfl (by decide +kernel) (tw 64 rfl) (tw 37 rfl) (tw 40 rfl) (by decide) ((recC l Z a0 n0 h t).pays (tw 40 rfl) (tw 39 rfl) (lb rfl) (lb rfl)) (lenOf pd0 rfl) rfl (Nat.le_of_eq rfl) rfl (lb rfl) (lb rfl) ?_
  rintro _ h1 ⟨rfl, rfl⟩
  refine G.seg [(4, .aload_n 0, 1)] (by decide +kernel) (pc' := 5) (L' := #[.val (.ref t), .val (c), .val (u)]) (S' := [.ref t]) rfl ?_
  refine G.aloadVn (k := 1) (by decide +kernel) rfl hc ?_
  refine G.putF (C := "com/example/aspen/aspen/core/Link") (by decide +kernel) (tw 65 rfl) Fcode E (Or.inr ⟨(tw 66 rfl), rfl, rfl⟩) (tw 59 rfl) (ty := .object "java/lang/String") (by decide) rfl (fits_r hc) ht (Or.inr (by decide)) ?_
  intro h2 W2 K2 F2 E2
  have F2url := past hw (Or.inr (tw 68 rfl)) (Or.inr (tw 66 rfl)) (by decide) (t := .object "java/lang/String") (by decide) (t' := .object "java/lang/String") (by decide) W2 Furl
  refine G.seg [(9, .aload_n 0, 1)] (by decide +kernel) (pc' := 10) (L' := #[.val (.ref t), .val (c), .val (u)]) (S' := [.ref t]) rfl ?_
  refine G.aloadVn (k := 2) (by decide +kernel) rfl hu ?_
  refine G.putF (C := "com/example/aspen/aspen/core/Link") (by decide +kernel) (tw 67 rfl) F2url E2 (Or.inr ⟨(tw 68 rfl), rfl, rfl⟩) (tw 59 rfl) (ty := .object "java/lang/String") (by decide) rfl (fits_r hu) ht (Or.inr (by decide)) ?_
  intro h3 W3 K3 F3 E3
  have F3code := past hw (Or.inr (tw 66 rfl)) (Or.inr (tw 68 rfl)) (by decide) (t := .object "java/lang/String") (by decide) (t' := .object "java/lang/String") (by decide) W3 F2
  have KK3 := Keep.trans K2 K3 (fun x hx => Or.inl hx)
  exact G.retV (by decide +kernel) rfl ⟨rfl, KK3, E3, F3code, F3⟩ (lb rfl) (lb rfl)

set_option maxRecDepth 65536 in
set_option maxHeartbeats 4000000 in
theorem rinitC (l : Launch) (Z : State) (a0 : Array Value) (n0 : Nat) (h : Heap) (t : Addr) (c u : Value) (n : Int64) (hc : c.isRef = true) (hu : u.isRef = true) (ht : n0 ≤ t) (E : Exa Z h t "com/example/aspen/aspen/core/LinkRecord") (Fcode : Fld Z h t "com/example/aspen/aspen/core/LinkRecord" "code" "Ljava/lang/String;" .null) (Furl : Fld Z h t "com/example/aspen/aspen/core/LinkRecord" "url" "Ljava/lang/String;" .null) (Fversion : Fld Z h t "com/example/aspen/aspen/core/LinkRecord" "version" "J" (.long 0)) :
    Ct l Z a0 consts_1 tables_1 [] n0 ⟨"com/example/aspen/aspen/core/LinkRecord", "<init>", "(Ljava/lang/String;Ljava/lang/String;J)V"⟩ prog_9_method_1_code 5 (none) ({ frames := 2, cells := 0, slots := 0, locals := 24 } : Room) #[.ref t, c, u, .long n] h (fun v h' => v = none ∧ Keep h h' [t] ∧ Exa Z h' t "com/example/aspen/aspen/core/LinkRecord" ∧ Fld Z h' t "com/example/aspen/aspen/core/LinkRecord" "code" "Ljava/lang/String;" (c) ∧ Fld Z h' t "com/example/aspen/aspen/core/LinkRecord" "url" "Ljava/lang/String;" (u) ∧ Fld Z h' t "com/example/aspen/aspen/core/LinkRecord" "version" "J" (.long n)) := by
  refine Ct.of_body pn3 (L0 := #[.val (.ref t), .val (c), .val (u), .val (.long n), .second]) (fun m => by rcases ref_cases hc with rfl | ⟨_, rfl⟩ <;> rcases ref_cases hu with rfl | ⟨_, rfl⟩ <;> exact ef_of rfl) (fun hEL hw hO => ?_)
  refine G.seg [(0, .aload_n 0, 1)] (by decide +kernel) (pc' := 1) (L' := #[.val (.ref t), .val (c), .val (u), .val (.long n), .second]) (S' := [.ref t]) rfl ?_
  refine G.special (y := ⟨"java/lang/Record", "<init>", "()V"⟩) (a := t) (argsL := []) (rest := []) (W := 0) rfl (by decide +kernel) (tw 36 rfl) (tw 37 rfl) (tw 40 rfl) (by decide) ((recC l Z a0 n0 h t).pays (tw 40 rfl) (tw 39 rfl) (lb rfl) (lb rfl)) (lenOf pd0 rfl) rfl (Nat.le_of_eq rfl) rfl (lb rfl) (lb rfl) ?_
  rintro _ h1 ⟨rfl, rfl⟩
  refine G.seg [(4, .aload_n 0, 1)] (by decide +kernel) (pc' := 5) (L' := #[.val (.ref t), .val (c), .val (u), .val (.long n), .second]) (S' := [.ref t]) rfl ?_
  refine G.aloadVn (k := 1) (by decide +kernel) rfl hc ?_
  refine G.putF (C := "com/example/aspen/aspen/core/LinkRecord") (by decide +kernel) (tw 42 rfl) Fcode E (Or.inr ⟨(tw 43 rfl), rfl, rfl⟩) (tw 31 rfl) (ty := .object "java/lang/String") (by decide) rfl (fits_r hc) ht (Or.inr (by decide)) ?_
  intro h2 W2 K2 F2 E2
  have F2url := past hw (Or.inr (tw 45 rfl)) (Or.inr (tw 43 rfl)) (by decide) (t := .object "java/lang/String") (by decide) (t' := .object "java/lang/String") (by decide) W2 Furl
  have F2version := past hw (Or.inr (tw 47 rfl)) (Or.inr (tw 43 rfl)) (by decide) (t := .long) (by decide) (t' := .object "java/lang/String") (by decide) W2 Fversion
  refine G.seg [(9, .aload_n 0, 1)] (by decide +kernel) (pc' := 10) (L' := #[.val (.ref t), .val (c), .val (u), .val (.long n), .second]) (S' := [.ref t]) rfl ?_
  refine G.aloadVn (k := 2) (by decide +kernel) rfl hu ?_
  refine G.putF (C := "com/example/aspen/aspen/core/LinkRecord") (by decide +kernel) (tw 44 rfl) F2url E2 (Or.inr ⟨(tw 45 rfl), rfl, rfl⟩) (tw 31 rfl) (ty := .object "java/lang/String") (by decide) rfl (fits_r hu) ht (Or.inr (by decide)) ?_
  intro h3 W3 K3 F3 E3
  have F3code := past hw (Or.inr (tw 43 rfl)) (Or.inr (tw 45 rfl)) (by decide) (t := .object "java/lang/String") (by decide) (t' := .object "java/lang/String") (by decide) W3 F2
  have F3version := past hw (Or.inr (tw 47 rfl)) (Or.inr (tw 45 rfl)) (by decide) (t := .long) (by decide) (t' := .object "java/lang/String") (by decide) W3 F2version
  have KK3 := Keep.trans K2 K3 (fun x hx => Or.inl hx)
  refine G.seg [(14, .aload_n 0, 1), (15, .lload_n 3, 1)] (by decide +kernel) (pc' := 16) (L' := #[.val (.ref t), .val (c), .val (u), .val (.long n), .second]) (S' := [.long n, .ref t]) rfl ?_
  refine G.putF (C := "com/example/aspen/aspen/core/LinkRecord") (by decide +kernel) (tw 46 rfl) F3version E3 (Or.inr ⟨(tw 47 rfl), rfl, rfl⟩) (tw 31 rfl) (ty := .long) (by decide) rfl rfl ht (Or.inr (by decide)) ?_
  intro h4 W4 K4 F4 E4
  have F4code := past hw (Or.inr (tw 43 rfl)) (Or.inr (tw 47 rfl)) (by decide) (t := .object "java/lang/String") (by decide) (t' := .long) (by decide) W4 F3code
  have F4url := past hw (Or.inr (tw 45 rfl)) (Or.inr (tw 47 rfl)) (by decide) (t := .object "java/lang/String") (by decide) (t' := .long) (by decide) W4 F3
  have KK4 := Keep.trans KK3 K4 (fun x hx => Or.inl hx)
  exact G.retV (by decide +kernel) rfl ⟨rfl, KK4, E4, F4code, F4url, F4⟩ (lb rfl) (lb rfl)

set_option maxRecDepth 65536 in
set_option maxHeartbeats 4000000 in
theorem isrC (l : Launch) (Z : State) (a0 : Array Value) (n0 : Nat) (h : Heap) (t : Addr) (u : Value) (hu : u.isRef = true) (F : Fld Z h t "com/example/aspen/aspen/core/LinkRecord" "url" "Ljava/lang/String;" u) :
    Ct l Z a0 consts_1 tables_1 [] n0 ⟨"com/example/aspen/aspen/core/LinkRecord", "isRemoved", "()Z"⟩ prog_9_method_4_code 1 (some (.boolean)) ({ frames := 0, cells := 0, slots := 0, locals := 0 } : Room) #[.ref t] h (fun v h' => h' = h ∧ v = some (.int (if u = .null then 1 else 0))) := by
  refine Ct.of_body pn3 (L0 := #[.val (.ref t)]) (fun m => by exact ef_of rfl) (fun hEL hw hO => ?_)
  refine G.seg [(0, .aload_n 0, 1)] (by decide +kernel) (pc' := 1) (L' := #[.val (.ref t)]) (S' := [.ref t]) rfl ?_
  refine G.getF (by decide +kernel) (tw 44 rfl) F ?_
  refine G.nonnulljmp (o := (7)) (pc' := 11) hu (by decide +kernel) (by decide) rfl ?_ ?_
  · intro q1
    refine G.seg [(11, .iconst 0, 1)] (by decide +kernel) (pc' := 12) (L' := #[.val (.ref t)]) (S' := [.int (0 : Int32)]) rfl ?_
    exact G.retN (z' := 0) (by decide +kernel) rfl (Or.inl rfl) rfl ⟨rfl, by rw [if_neg q1]⟩ (lb rfl) (lb rfl)
  · intro q1
    refine G.seg [(7, .iconst 1, 1), (8, .goto 4, 3)] (by decide +kernel) (pc' := 12) (L' := #[.val (.ref t)]) (S' := [.int (1 : Int32)]) rfl ?_
    exact G.retN (z' := 1) (by decide +kernel) rfl (Or.inl rfl) rfl ⟨rfl, by rw [if_pos q1]⟩ (lb rfl) (lb rfl)

set_option maxRecDepth 65536 in
set_option maxHeartbeats 4000000 in
theorem oinitC (l : Launch) (Z : State) (a0 : Array Value) (n0 : Nat) (h : Heap) (t : Addr) (x : Addr) (ht : n0 ≤ t) (E : Exa Z h t "java/util/Optional") (Fvalue : Fld Z h t "java/util/Optional" "value" "Ljava/lang/Object;" .null) :
    Ct l Z a0 consts_1 tables_1 [] n0 ⟨"java/util/Optional", "<init>", "(Ljava/lang/Object;)V"⟩ jdk_32_method_2_code 2 (none) ({ frames := 1, cells := 0, slots := 0, locals := 12 } : Room) #[.ref t, .ref x] h (fun v h' => v = none ∧ Keep h h' [t] ∧ Exa Z h' t "java/util/Optional" ∧ Fld Z h' t "java/util/Optional" "value" "Ljava/lang/Object;" (.ref x)) := by
  refine Ct.of_body pn4 (L0 := #[.val (.ref t), .val (.ref x)]) (fun m => by exact ef_of rfl) (fun hEL hw hO => ?_)
  refine G.seg [(0, .aload_n 0, 1)] (by decide +kernel) (pc' := 1) (L' := #[.val (.ref t), .val (.ref x)]) (S' := [.ref t]) rfl ?_
  refine G.initO (W := 0) (by decide +kernel) (tw 83 rfl) (tw 12 rfl) (tw 13 rfl) rfl (lb rfl) (Nat.le_of_eq rfl) (lb rfl) ?_
  refine G.seg [(4, .aload_n 0, 1), (5, .aload_n 1, 1)] (by decide +kernel) (pc' := 6) (L' := #[.val (.ref t), .val (.ref x)]) (S' := [.ref x, .ref t]) rfl ?_
  refine G.putF (C := "java/util/Optional") (by decide +kernel) (tw 84 rfl) Fvalue E (Or.inr ⟨(tw 85 rfl), rfl, rfl⟩) (tw 74 rfl) (ty := .object "java/lang/Object") (by decide) rfl rfl ht (Or.inr (by decide)) ?_
  intro h1 W1 K1 F1 E1
  exact G.retV (by decide +kernel) rfl ⟨rfl, K1, E1, F1⟩ (lb rfl) (lb rfl)

set_option maxRecDepth 65536 in
set_option maxHeartbeats 4000000 in
theorem rnnC (l : Launch) (Z : State) (a0 : Array Value) (n0 : Nat) (h : Heap) (x : Addr) :
    Ct l Z a0 consts_1 tables_1 [] n0 ⟨"java/util/Objects", "requireNonNull", "(Ljava/lang/Object;)Ljava/lang/Object;"⟩ jdk_31_method_10_code 1 (some (.object "java/lang/Object")) ({ frames := 0, cells := 0, slots := 0, locals := 0 } : Room) #[.ref x] h (fun v h' => h' = h ∧ v = some (.ref x)) := by
  refine Ct.of_body pn5 (L0 := #[.val (.ref x)]) (fun m => by exact ef_of rfl) (fun hEL hw hO => ?_)
  refine G.seg [(0, .aload_n 0, 1)] (by decide +kernel) (pc' := 1) (L' := #[.val (.ref x)]) (S' := [.ref x]) rfl ?_
  refine G.nonnulljmp (o := (11)) (pc' := 12) rfl (by decide +kernel) (by decide) rfl ?_ (fun q1 => absurd q1 (fun z => nomatch z))
  intro _
  refine G.seg [(12, .aload_n 0, 1)] (by decide +kernel) (pc' := 13) (L' := #[.val (.ref x)]) (S' := [.ref x]) rfl ?_
  exact G.retA (by decide +kernel) rfl rfl rfl rfl ⟨rfl, rfl⟩ (lb rfl) (lb rfl)

set_option maxRecDepth 65536 in
set_option maxHeartbeats 4000000 in
theorem oofC (l : Launch) (Z : State) (a0 : Array Value) (n0 : Nat) (h : Heap) (x : Addr) :
    Ct l Z a0 consts_1 tables_1 [] n0 ⟨"java/util/Optional", "of", "(Ljava/lang/Object;)Ljava/util/Optional;"⟩ jdk_32_method_3_code 1 (some (.object "java/util/Optional")) ({ frames := 2, cells := 1, slots := 1, locals := 26 } : Room) #[.ref x] h (fun v h' => ∃ t, v = some (.ref t) ∧ Keep h h' [] ∧ OV Z h' t (.ref x)) := by
  refine Ct.of_body pn4 (L0 := #[.val (.ref x)]) (fun m => by exact ef_of rfl) (fun hEL hw hO => ?_)
  refine G.new (by decide +kernel) (tw 73 rfl) (tw 74 rfl) (tw 71 rfl) (lb rfl) (lb rfl) ?_
  intro h1 t g1 n1 K1 E1 D1
  refine G.seg [(3, .dup, 1), (4, .aload_n 0, 1)] (by decide +kernel) (pc' := 5) (L' := #[.val (.ref x)]) (S' := [.ref x, .ref t, .ref t]) rfl ?_
  refine G.static (y := ⟨"java/util/Objects", "requireNonNull", "(Ljava/lang/Object;)Ljava/lang/Object;"⟩) (argsL := [.ref x]) (rest := [.ref t, .ref t]) (W := 2) (by decide +kernel) (tw 75 rfl) (tw 76 rfl) (tw 77 rfl) (tw 78 rfl) (by decide) ((rnnC l Z a0 n0 h1 x).pays (tw 78 rfl) (tw 77 rfl) (lb rfl) (lb rfl)) (lenOf pd1 rfl) rfl (Nat.le_of_eq rfl) rfl (lb rfl) (lb rfl) ?_
  rintro _ h2 ⟨rfl, rfl⟩
  refine G.special (y := ⟨"java/util/Optional", "<init>", "(Ljava/lang/Object;)V"⟩) (a := t) (argsL := [.ref x]) (rest := [.ref t]) (W := 1) rfl (by decide +kernel) (tw 79 rfl) (tw 80 rfl) (tw 82 rfl) (by decide) ((oinitC l Z a0 n0 h2 t x n1 E1 (D1 (Or.inr (tw 85 rfl)) (ty := .object "java/lang/Object") (by decide))).pays (tw 82 rfl) (tw 71 rfl) (lb rfl) (lb rfl)) (lenOf pd2 rfl) rfl (Nat.le_of_eq rfl) rfl (lb rfl) (lb rfl) ?_
  rintro _ h3 ⟨rfl, K3, E3, A3⟩
  exact G.retA (by decide +kernel) rfl rfl rfl rfl ⟨t, rfl, K1.trans K3 (allS (Or.inr (Nat.le_of_eq g1.symm)) all0), E3, A3⟩ (lb rfl) (lb rfl)

set_option maxRecDepth 65536 in
set_option maxHeartbeats 4000000 in
theorem oemC (l : Launch) (Z : State) (a0 : Array Value) (n0 : Nat) (h : Heap) (o : Addr) (hO2 : OE Z o) :
    Ct l Z a0 consts_1 tables_1 [] n0 ⟨"java/util/Optional", "empty", "()Ljava/util/Optional;"⟩ jdk_32_method_1_code 1 (some (.object "java/util/Optional")) ({ frames := 0, cells := 0, slots := 0, locals := 0 } : Room) #[] h (fun v h' => h' = h ∧ v = some (.ref o)) := by
  refine Ct.of_body pn4 (L0 := #[.unset]) (fun m => by exact ef_of rfl) (fun hEL hw hO => ?_)
  refine G.getS (by decide +kernel) (tw 120 rfl) hO2 ?_
  refine G.seg [(3, .astore_n 0, 1)] (by decide +kernel) (pc' := 4) (L' := #[.val (.ref o)]) (S' := []) rfl ?_
  refine G.seg [(4, .aload_n 0, 1)] (by decide +kernel) (pc' := 5) (L' := #[.val (.ref o)]) (S' := [.ref o]) rfl ?_
  exact G.retA (by decide +kernel) rfl rfl rfl rfl ⟨rfl, rfl⟩ (lb rfl) (lb rfl)

set_option maxRecDepth 65536 in
set_option maxHeartbeats 4000000 in
theorem oisC (l : Launch) (Z : State) (a0 : Array Value) (n0 : Nat) (h : Heap) (o : Addr) (v : Value) (hv : v.isRef = true) (F : OV Z h o v) :
    Ct l Z a0 consts_1 tables_1 [] n0 ⟨"java/util/Optional", "isPresent", "()Z"⟩ jdk_32_method_6_code 1 (some (.boolean)) ({ frames := 0, cells := 0, slots := 0, locals := 0 } : Room) #[.ref o] h (fun r h' => h' = h ∧ r = some (.int (if ¬ (v = .null) then 1 else 0))) := by
  refine Ct.of_body pn4 (L0 := #[.val (.ref o)]) (fun m => by exact ef_of rfl) (fun hEL hw hO => ?_)
  refine G.seg [(0, .aload_n 0, 1)] (by decide +kernel) (pc' := 1) (L' := #[.val (.ref o)]) (S' := [.ref o]) rfl ?_
  refine G.getF (by decide +kernel) (tw 84 rfl) F.2 ?_
  refine G.nulljmp (o := (7)) (pc' := 11) hv (by decide +kernel) (by decide) rfl ?_ ?_
  · intro q1
    refine G.seg [(11, .iconst 0, 1)] (by decide +kernel) (pc' := 12) (L' := #[.val (.ref o)]) (S' := [.int (0 : Int32)]) rfl ?_
    exact G.retN (z' := 0) (by decide +kernel) rfl (Or.inl rfl) rfl ⟨rfl, by rw [if_neg (fun hh => hh q1)]⟩ (lb rfl) (lb rfl)
  · intro q1
    refine G.seg [(7, .iconst 1, 1), (8, .goto 4, 3)] (by decide +kernel) (pc' := 12) (L' := #[.val (.ref o)]) (S' := [.int (1 : Int32)]) rfl ?_
    exact G.retN (z' := 1) (by decide +kernel) rfl (Or.inl rfl) rfl ⟨rfl, by rw [if_pos q1]⟩ (lb rfl) (lb rfl)

set_option maxRecDepth 65536 in
set_option maxHeartbeats 4000000 in
theorem ogetC (l : Launch) (Z : State) (a0 : Array Value) (n0 : Nat) (h : Heap) (o x : Addr) (F : OV Z h o (.ref x)) :
    Ct l Z a0 consts_1 tables_1 [] n0 ⟨"java/util/Optional", "get", "()Ljava/lang/Object;"⟩ jdk_32_method_5_code 1 (some (.object "java/lang/Object")) ({ frames := 0, cells := 0, slots := 0, locals := 0 } : Room) #[.ref o] h (fun r h' => h' = h ∧ r = some (.ref x)) := by
  refine Ct.of_body pn4 (L0 := #[.val (.ref o)]) (fun m => by exact ef_of rfl) (fun hEL hw hO => ?_)
  refine G.seg [(0, .aload_n 0, 1)] (by decide +kernel) (pc' := 1) (L' := #[.val (.ref o)]) (S' := [.ref o]) rfl ?_
  refine G.getF (by decide +kernel) (tw 84 rfl) F.2 ?_
  refine G.nonnulljmp (o := (13)) (pc' := 17) rfl (by decide +kernel) (by decide) rfl ?_ (fun q1 => absurd q1 (fun z => nomatch z))
  intro _
  refine G.seg [(17, .aload_n 0, 1)] (by decide +kernel) (pc' := 18) (L' := #[.val (.ref o)]) (S' := [.ref o]) rfl ?_
  refine G.getF (by decide +kernel) (tw 84 rfl) F.2 ?_
  exact G.retA (by decide +kernel) rfl rfl rfl rfl ⟨rfl, rfl⟩ (lb rfl) (lb rfl)

set_option maxRecDepth 65536 in
set_option maxHeartbeats 4000000 in
theorem lcode (l : Launch) (Z : State) (a0 : Array Value) (n0 : Nat) (h : Heap) (t : Addr) (x : Value) (hx : x.isRef = true) (F : Fld Z h t "com/example/aspen/aspen/core/Link" "code" "Ljava/lang/String;" (x)) :
    Ct l Z a0 consts_1 tables_1 [] n0 ⟨"com/example/aspen/aspen/core/Link", "code", "()Ljava/lang/String;"⟩ prog_8_method_5_code 1 (some (.object "java/lang/String")) ({ frames := 0, cells := 0, slots := 0, locals := 0 } : Room) #[.ref t] h (fun v h' => h' = h ∧ v = some (x)) := by
  refine Ct.of_body pn2 (L0 := #[.val (.ref t)]) (fun m => by exact ef_of rfl) (fun hEL hw hO => ?_)
  refine G.seg [(0, .aload_n 0, 1)] (by decide +kernel) (pc' := 1) (L' := #[.val (.ref t)]) (S' := [.ref t]) rfl ?_
  refine G.getF (by decide +kernel) (tw 65 rfl) F ?_
  exact G.retA (by decide +kernel) rfl rfl rfl hx ⟨rfl, rfl⟩ (lb rfl) (lb rfl)

set_option maxRecDepth 65536 in
set_option maxHeartbeats 4000000 in
theorem lurl (l : Launch) (Z : State) (a0 : Array Value) (n0 : Nat) (h : Heap) (t : Addr) (x : Value) (hx : x.isRef = true) (F : Fld Z h t "com/example/aspen/aspen/core/Link" "url" "Ljava/lang/String;" (x)) :
    Ct l Z a0 consts_1 tables_1 [] n0 ⟨"com/example/aspen/aspen/core/Link", "url", "()Ljava/lang/String;"⟩ prog_8_method_6_code 1 (some (.object "java/lang/String")) ({ frames := 0, cells := 0, slots := 0, locals := 0 } : Room) #[.ref t] h (fun v h' => h' = h ∧ v = some (x)) := by
  refine Ct.of_body pn2 (L0 := #[.val (.ref t)]) (fun m => by exact ef_of rfl) (fun hEL hw hO => ?_)
  refine G.seg [(0, .aload_n 0, 1)] (by decide +kernel) (pc' := 1) (L' := #[.val (.ref t)]) (S' := [.ref t]) rfl ?_
  refine G.getF (by decide +kernel) (tw 67 rfl) F ?_
  exact G.retA (by decide +kernel) rfl rfl rfl hx ⟨rfl, rfl⟩ (lb rfl) (lb rfl)

set_option maxRecDepth 65536 in
set_option maxHeartbeats 4000000 in
theorem lknC (l : Launch) (Z : State) (a0 : Array Value) (n0 : Nat) (h : Heap) (t : Addr) (c : Value) (hc : c.isRef = true) (E : Exa Z h t "com/example/aspen/aspen/core/LinkRecord") (F1 : Fld Z h t "com/example/aspen/aspen/core/LinkRecord" "code" "Ljava/lang/String;" c) (F2 : Fld Z h t "com/example/aspen/aspen/core/LinkRecord" "url" "Ljava/lang/String;" .null) (o : Addr) (hO2 : OE Z o) :
    Ct l Z a0 consts_1 tables_1 [] n0 ⟨"com/example/aspen/aspen/core/LinkRecord", "link", "()Ljava/util/Optional;"⟩ prog_9_method_5_code 1 (some (.object "java/util/Optional")) ({ frames := 1, cells := 0, slots := 0, locals := 12 } : Room) #[.ref t] h (fun v h' => h' = h ∧ v = some (.ref o)) := by
  refine Ct.of_body pn3 (L0 := #[.val (.ref t)]) (fun m => by exact ef_of rfl) (fun hEL hw hO => ?_)
  refine G.seg [(0, .aload_n 0, 1)] (by decide +kernel) (pc' := 1) (L' := #[.val (.ref t)]) (S' := [.ref t]) rfl ?_
  refine G.virtual (y := ⟨"com/example/aspen/aspen/core/LinkRecord", "isRemoved", "()Z"⟩) (C := "com/example/aspen/aspen/core/LinkRecord") (a := t) (argsL := []) (rest := []) (W := 0) (by decide +kernel) (tw 53 rfl) (tw 54 rfl) (tw 56 rfl) (tw 55 rfl) (by decide) E ((isrC l Z a0 n0 h t .null rfl F2).pays (tw 57 rfl) (tw 32 rfl) (lb rfl) (lb rfl)) (lenOf pd3 rfl) rfl (Nat.le_of_eq rfl) rfl (lb rfl) (lb rfl) ?_
  rintro _ h1 ⟨rfl, rfl⟩
  rw [if_pos rfl]
  refine G.ifeq (o := (9)) (pc' := 13) (by decide +kernel) (by decide) rfl (fun q2 => absurd q2 (by decide)) ?_
  intro _
  refine G.static (y := ⟨"java/util/Optional", "empty", "()Ljava/util/Optional;"⟩) (argsL := []) (rest := []) (W := 0) (by decide +kernel) (tw 117 rfl) (tw 118 rfl) (tw 71 rfl) (tw 119 rfl) (by decide) ((oemC l Z a0 n0 h1 o hO2).pays (tw 119 rfl) (tw 71 rfl) (lb rfl) (lb rfl)) (lenOf pd4 rfl) rfl (Nat.le_of_eq rfl) rfl (lb rfl) (lb rfl) ?_
  rintro _ h3 ⟨rfl, rfl⟩
  refine G.seg [(10, .goto 21, 3)] (by decide +kernel) (pc' := 31) (L' := #[.val (.ref t)]) (S' := [.ref o]) rfl ?_
  exact G.retA (by decide +kernel) rfl rfl rfl rfl ⟨rfl, rfl⟩ (lb rfl) (lb rfl)

set_option maxRecDepth 65536 in
set_option maxHeartbeats 4000000 in
theorem lkrC (l : Launch) (Z : State) (a0 : Array Value) (n0 : Nat) (h : Heap) (t : Addr) (c : Value) (hc : c.isRef = true) (E : Exa Z h t "com/example/aspen/aspen/core/LinkRecord") (F1 : Fld Z h t "com/example/aspen/aspen/core/LinkRecord" "code" "Ljava/lang/String;" c) (u : Addr) (F2 : Fld Z h t "com/example/aspen/aspen/core/LinkRecord" "url" "Ljava/lang/String;" (.ref u)) :
    Ct l Z a0 consts_1 tables_1 [] n0 ⟨"com/example/aspen/aspen/core/LinkRecord", "link", "()Ljava/util/Optional;"⟩ prog_9_method_5_code 1 (some (.object "java/util/Optional")) ({ frames := 3, cells := 2, slots := 3, locals := 60 } : Room) #[.ref t] h (fun v h' => ∃ o d, v = some (.ref o) ∧ Keep h h' [] ∧ OV Z h' o (.ref d) ∧ Exa Z h' d "com/example/aspen/aspen/core/Link" ∧ Fld Z h' d "com/example/aspen/aspen/core/Link" "code" "Ljava/lang/String;" c ∧ Fld Z h' d "com/example/aspen/aspen/core/Link" "url" "Ljava/lang/String;" (.ref u)) := by
  refine Ct.of_body pn3 (L0 := #[.val (.ref t)]) (fun m => by exact ef_of rfl) (fun hEL hw hO => ?_)
  refine G.seg [(0, .aload_n 0, 1)] (by decide +kernel) (pc' := 1) (L' := #[.val (.ref t)]) (S' := [.ref t]) rfl ?_
  refine G.virtual (y := ⟨"com/example/aspen/aspen/core/LinkRecord", "isRemoved", "()Z"⟩) (C := "com/example/aspen/aspen/core/LinkRecord") (a := t) (argsL := []) (rest := []) (W := 0) (by decide +kernel) (tw 53 rfl) (tw 54 rfl) (tw 56 rfl) (tw 55 rfl) (by decide) E ((isrC l Z a0 n0 h t (.ref u) rfl F2).pays (tw 57 rfl) (tw 32 rfl) (lb rfl) (lb rfl)) (lenOf pd3 rfl) rfl (Nat.le_of_eq rfl) rfl (lb rfl) (lb rfl) ?_
  rintro _ h1 ⟨rfl, rfl⟩
  rw [if_neg (fun z => nomatch z)]
  refine G.ifeq (o := (9)) (pc' := 13) (by decide +kernel) (by decide) rfl ?_ (fun q2 => absurd rfl q2)
  intro _
  refine G.new (by decide +kernel) (tw 58 rfl) (tw 59 rfl) (tw 60 rfl) (lb rfl) (lb rfl) ?_
  intro h3 d g3 n3 K3 E3 D3
  refine G.seg [(16, .dup, 1), (17, .aload_n 0, 1)] (by decide +kernel) (pc' := 18) (L' := #[.val (.ref t)]) (S' := [.ref t, .ref d, .ref d]) rfl ?_
  refine G.getF (by decide +kernel) (tw 42 rfl) (F1.keep K3 nin0) ?_
  refine G.seg [(21, .aload_n 0, 1)] (by decide +kernel) (pc' := 22) (L' := #[.val (.ref t)]) (S' := [.ref t, c, .ref d, .ref d]) rfl ?_
  refine G.getF (by decide +kernel) (tw 44 rfl) (F2.keep K3 nin0) ?_
  refine G.special (y := ⟨"com/example/aspen/aspen/core/Link", "<init>", "(Ljava/lang/String;Ljava/lang/String;)V"⟩) (a := d) (argsL := [c, .ref u]) (rest := [.ref d]) (W := 1) rfl (by decide +kernel) (tw 61 rfl) (tw 62 rfl) (tw 63 rfl) (by decide) ((linitC l Z a0 n0 h3 d c (.ref u) hc rfl n3 E3 (D3 (Or.inr (tw 66 rfl)) (ty := .object "java/lang/String") (by decide)) (D3 (Or.inr (tw 68 rfl)) (ty := .object "java/lang/String") (by decide))).pays (tw 63 rfl) (tw 60 rfl) (lb rfl) (lb rfl)) (lenOf pd5 rfl) rfl (Nat.le_of_eq rfl) rfl (lb rfl) (lb rfl) ?_
  rintro _ h4 ⟨rfl, K4, E4, A4, B4⟩
  have KK : Keep h1 h4 [] := K3.trans K4 (allS (Or.inr (Nat.le_of_eq g3.symm)) all0)
  refine G.static (y := ⟨"java/util/Optional", "of", "(Ljava/lang/Object;)Ljava/util/Optional;"⟩) (argsL := [.ref d]) (rest := []) (W := 0) (by decide +kernel) (tw 69 rfl) (tw 70 rfl) (tw 71 rfl) (tw 72 rfl) (by decide) ((oofC l Z a0 n0 h4 d).pays (tw 72 rfl) (tw 71 rfl) (lb rfl) (lb rfl)) (lenOf pd6 rfl) rfl (Nat.le_of_eq rfl) rfl (lb rfl) (lb rfl) ?_
  rintro _ h5 ⟨o, rfl, K5, O5⟩
  exact G.retA (by decide +kernel) rfl rfl rfl rfl ⟨o, d, rfl, KK.trans K5 all0, O5, E4.keep K5, A4.keep K5 nin0, B4.keep K5 nin0⟩ (lb rfl) (lb rfl)

def SN (Z : State) (h : Heap) (v : Value) : Prop := v = .null ∨ ∃ s, v = .ref s ∧ Exa Z h s "java/lang/String"
theorem SN.ref {Z : State} {h : Heap} {v : Value} (q : SN Z h v) : v.isRef = true := by rcases q with rfl | ⟨s, rfl, _⟩ <;> rfl
theorem SN.keep {Z : State} {h h' : Heap} {v : Value} {ws : List Addr} (q : SN Z h v) (K : Keep h h' ws) : SN Z h' v := q.imp id fun ⟨s, e, E⟩ => ⟨s, e, E.keep K⟩
set_option maxRecDepth 65536 in
set_option maxHeartbeats 4000000 in
theorem sameC (l : Launch) (Z : State) (a0 : Array Value) (n0 : Nat) (h : Heap) (v : Value) (hS : SN Z h v) :
    Ct l Z a0 consts_1 tables_1 [] n0 ⟨"com/example/aspen/aspen/core/LinkRecordLinkPinLaw", "same", "(Ljava/lang/String;Ljava/lang/String;)Z"⟩ method_2_code 2 (some (.boolean)) ({ frames := 1, cells := 0, slots := 0, locals := 14 } : Room) #[v, v] h (fun r h' => h' = h ∧ r = some (.int 1)) := by
  refine Ct.of_body pn6 (L0 := #[.val (v), .val (v)]) (fun m => by rcases ref_cases hS.ref with rfl | ⟨_, rfl⟩ <;> exact ef_of rfl) (fun hEL hw hO => ?_)
  rcases hS with rfl | ⟨s, rfl, Es⟩
  · refine G.seg [(0, .aload_n 0, 1)] (by decide +kernel) (pc' := 1) (L' := #[.val (.null), .val (.null)]) (S' := [.null]) rfl ?_
    refine G.nonnulljmp (o := (13)) (pc' := 14) rfl (by decide +kernel) (by decide) rfl (fun q1 => absurd rfl q1) ?_
    intro _
    refine G.seg [(4, .aload_n 1, 1)] (by decide +kernel) (pc' := 5) (L' := #[.val (.null), .val (.null)]) (S' := [.null]) rfl ?_
    refine G.nonnulljmp (o := (7)) (pc' := 12) rfl (by decide +kernel) (by decide) rfl (fun q2 => absurd rfl q2) ?_
    intro _
    refine G.seg [(8, .iconst 1, 1), (9, .goto 4, 3)] (by decide +kernel) (pc' := 13) (L' := #[.val (.null), .val (.null)]) (S' := [.int (1 : Int32)]) rfl ?_
    exact G.retN (by decide +kernel) rfl (Or.inl rfl) rfl ⟨rfl, rfl⟩ (lb rfl) (lb rfl)
  · refine G.seg [(0, .aload_n 0, 1)] (by decide +kernel) (pc' := 1) (L' := #[.val (.ref s), .val (.ref s)]) (S' := [.ref s]) rfl ?_
    refine G.nonnulljmp (o := (13)) (pc' := 14) rfl (by decide +kernel) (by decide) rfl ?_ (fun q3 => absurd q3 (fun z => nomatch z))
    intro _
    refine G.seg [(14, .aload_n 0, 1), (15, .aload_n 1, 1)] (by decide +kernel) (pc' := 16) (L' := #[.val (.ref s), .val (.ref s)]) (S' := [.ref s, .ref s]) rfl ?_
    refine G.virtual (y := ⟨"java/lang/String", "equals", "(Ljava/lang/Object;)Z"⟩) (C := "java/lang/String") (a := s) (argsL := [.ref s]) (rest := []) (W := 0) (by decide +kernel) (tw 107 rfl) (tw 108 rfl) (tw 110 rfl) (tw 109 rfl) (by decide) Es ((eqselfC l Z a0 n0 h s).pays (tw 111 rfl) (tw 3 rfl) (lb rfl) (lb rfl)) (lenOf pd7 rfl) rfl (Nat.le_of_eq rfl) rfl (lb rfl) (lb rfl) ?_
    rintro _ h4 ⟨rfl, rfl⟩
    exact G.retN (by decide +kernel) rfl (Or.inl rfl) rfl ⟨rfl, rfl⟩ (lb rfl) (lb rfl)

set_option maxRecDepth 65536 in
set_option maxHeartbeats 4000000 in
theorem lawC (l : Launch) (Z : State) (a0 : Array Value) (n0 : Nat) (h : Heap) (p0 p1 p2 p3 : Int32) (n : Int64) (fl : Int32) (o : Addr) (hCS : CS Z) (hO2 : OE Z o) (hOV : ∀ h2, Keep h h2 [] → OV Z h2 o .null) :
    Ct l Z a0 consts_1 tables_1 tables_1 n0 x code maxLocals ret room_1 #[.int p0, .int p1, .int p2, .int p3, .long n, .int fl] h (fun v _ => v = some (.int 1)) := by
  refine Ct.of_body pn6 (L0 := #[.val (.int p0), .val (.int p1), .val (.int p2), .val (.int p3), .val (.long n), .second, .val (.int fl), .unset, .unset, .unset, .unset, .unset, .unset, .unset, .unset, .unset, .unset, .unset]) (fun m => ef_of rfl) (fun hEL hw hO => ?_)
  refine G.seg [(0, .iconst 2, 1)] (by decide +kernel) (pc' := 1) (L' := #[.val (.int p0), .val (.int p1), .val (.int p2), .val (.int p3), .val (.long n), .second, .val (.int fl), .unset, .unset, .unset, .unset, .unset, .unset, .unset, .unset, .unset, .unset, .unset]) (S' := [.int (2 : Int32)]) rfl ?_
  refine G.newarr (aty := .char) (ty := .char) (cap := 2) rfl (by decide +kernel) (tw 0 rfl) (by decide) (lb rfl) (lb rfl) (lb rfl) (lb rfl) ?_
  intro h1 a1 k1 g1 n1 K1 A1
  refine G.seg [(3, .dup, 1), (4, .iconst 0, 1), (5, .iload_n 0, 1), (6, .sipush 255, 3), (9, .iand, 1), (10, .i2c, 1)] (by decide +kernel) (pc' := 11) (L' := #[.val (.int p0), .val (.int p1), .val (.int p2), .val (.int p3), .val (.long n), .second, .val (.int fl), .unset, .unset, .unset, .unset, .unset, .unset, .unset, .unset, .unset, .unset, .unset]) (S' := [.int ((p0 &&& (255 : Int32)).toUInt32.toUInt16.toUInt32.toInt32), .int (0 : Int32), .ref a1, .ref a1]) rfl ?_
  have hd0 : b8 _ := b8_ci (b8_and p0)
  obtain ⟨d0, gd0⟩ : ∃ z, z = (p0 &&& (255 : Int32)).toUInt32.toUInt16.toUInt32.toInt32 := ⟨_, rfl⟩
  rw [← gd0] at hd0
  rw [← gd0]
  refine G.castore (i := 0) (x' := d0) (by decide +kernel) A1 n1 ⟨by decide, by decide⟩ rfl (lb rfl) (nar_b8 hd0) ?_
  intro h2 K2 A2
  have KA2 := Keep.trans K1 K2 (allS (Or.inr (Nat.le_of_eq g1.symm)) all0)
  refine G.seg [(12, .dup, 1), (13, .iconst 1, 1), (14, .iload_n 1, 1), (15, .sipush 255, 3), (18, .iand, 1), (19, .i2c, 1)] (by decide +kernel) (pc' := 20) (L' := #[.val (.int p0), .val (.int p1), .val (.int p2), .val (.int p3), .val (.long n), .second, .val (.int fl), .unset, .unset, .unset, .unset, .unset, .unset, .unset, .unset, .unset, .unset, .unset]) (S' := [.int ((p1 &&& (255 : Int32)).toUInt32.toUInt16.toUInt32.toInt32), .int (1 : Int32), .ref a1, .ref a1]) rfl ?_
  have hd1 : b8 _ := b8_ci (b8_and p1)
  obtain ⟨d1, gd1⟩ : ∃ z, z = (p1 &&& (255 : Int32)).toUInt32.toUInt16.toUInt32.toInt32 := ⟨_, rfl⟩
  rw [← gd1] at hd1
  rw [← gd1]
  refine G.castore (i := 1) (x' := d1) (by decide +kernel) A2 n1 ⟨by decide, by decide⟩ rfl (lb rfl) (nar_b8 hd1) ?_
  intro h3 K3 A3
  have KA3 := Keep.trans KA2 K3 (allS (Or.inr (Nat.le_of_eq g1.symm)) all0)
  have Kz := KA3
  have R0 := A3
  refine G.seg [(21, .astore 7, 2)] (by decide +kernel) (pc' := 23) (L' := #[.val (.int p0), .val (.int p1), .val (.int p2), .val (.int p3), .val (.long n), .second, .val (.int fl), .val (.ref a1), .unset, .unset, .unset, .unset, .unset, .unset, .unset, .unset, .unset, .unset]) (S' := []) rfl ?_
  refine G.seg [(23, .iconst 2, 1)] (by decide +kernel) (pc' := 24) (L' := #[.val (.int p0), .val (.int p1), .val (.int p2), .val (.int p3), .val (.long n), .second, .val (.int fl), .val (.ref a1), .unset, .unset, .unset, .unset, .unset, .unset, .unset, .unset, .unset, .unset]) (S' := [.int (2 : Int32)]) rfl ?_
  refine G.newarr (aty := .char) (ty := .char) (cap := 2) rfl (by decide +kernel) (tw 0 rfl) (by decide) (lb rfl) (lb rfl) (lb rfl) (lb rfl) ?_
  intro h4 a4 k4 g4 n4 K4 A4
  refine G.seg [(26, .dup, 1), (27, .iconst 0, 1), (28, .iload_n 2, 1), (29, .sipush 255, 3), (32, .iand, 1), (33, .i2c, 1)] (by decide +kernel) (pc' := 34) (L' := #[.val (.int p0), .val (.int p1), .val (.int p2), .val (.int p3), .val (.long n), .second, .val (.int fl), .val (.ref a1), .unset, .unset, .unset, .unset, .unset, .unset, .unset, .unset, .unset, .unset]) (S' := [.int ((p2 &&& (255 : Int32)).toUInt32.toUInt16.toUInt32.toInt32), .int (0 : Int32), .ref a4, .ref a4]) rfl ?_
  have hd2 : b8 _ := b8_ci (b8_and p2)
  obtain ⟨d2, gd2⟩ : ∃ z, z = (p2 &&& (255 : Int32)).toUInt32.toUInt16.toUInt32.toInt32 := ⟨_, rfl⟩
  rw [← gd2] at hd2
  rw [← gd2]
  refine G.castore (i := 0) (x' := d2) (by decide +kernel) A4 n4 ⟨by decide, by decide⟩ rfl (lb rfl) (nar_b8 hd2) ?_
  intro h5 K5 A5
  have KA5 := Keep.trans K4 K5 (allS (Or.inr (Nat.le_of_eq g4.symm)) all0)
  refine G.seg [(35, .dup, 1), (36, .iconst 1, 1), (37, .iload_n 3, 1), (38, .sipush 255, 3), (41, .iand, 1), (42, .i2c, 1)] (by decide +kernel) (pc' := 43) (L' := #[.val (.int p0), .val (.int p1), .val (.int p2), .val (.int p3), .val (.long n), .second, .val (.int fl), .val (.ref a1), .unset, .unset, .unset, .unset, .unset, .unset, .unset, .unset, .unset, .unset]) (S' := [.int ((p3 &&& (255 : Int32)).toUInt32.toUInt16.toUInt32.toInt32), .int (1 : Int32), .ref a4, .ref a4]) rfl ?_
  have hd3 : b8 _ := b8_ci (b8_and p3)
  obtain ⟨d3, gd3⟩ : ∃ z, z = (p3 &&& (255 : Int32)).toUInt32.toUInt16.toUInt32.toInt32 := ⟨_, rfl⟩
  rw [← gd3] at hd3
  rw [← gd3]
  refine G.castore (i := 1) (x' := d3) (by decide +kernel) A5 n4 ⟨by decide, by decide⟩ rfl (lb rfl) (nar_b8 hd3) ?_
  intro h6 K6 A6
  have KA6 := Keep.trans KA5 K6 (allS (Or.inr (Nat.le_of_eq g4.symm)) all0)
  have R0 := R0.keep KA6 nin0
  have Kz := Keep.trans Kz KA6 all0
  have R1 := A6
  refine G.seg [(44, .astore 8, 2)] (by decide +kernel) (pc' := 46) (L' := #[.val (.int p0), .val (.int p1), .val (.int p2), .val (.int p3), .val (.long n), .second, .val (.int fl), .val (.ref a1), .val (.ref a4), .unset, .unset, .unset, .unset, .unset, .unset, .unset, .unset, .unset]) (S' := []) rfl ?_
  refine G.seg [(46, .iconst 1, 1)] (by decide +kernel) (pc' := 47) (L' := #[.val (.int p0), .val (.int p1), .val (.int p2), .val (.int p3), .val (.long n), .second, .val (.int fl), .val (.ref a1), .val (.ref a4), .unset, .unset, .unset, .unset, .unset, .unset, .unset, .unset, .unset]) (S' := [.int (1 : Int32)]) rfl ?_
  refine G.newarr (aty := .char) (ty := .char) (cap := 1) rfl (by decide +kernel) (tw 0 rfl) (by decide) (lb rfl) (lb rfl) (lb rfl) (lb rfl) ?_
  intro h7 a7 k7 g7 n7 K7 A7
  refine G.seg [(49, .dup, 1), (50, .iconst 0, 1), (51, .iload_n 3, 1), (52, .sipush 255, 3), (55, .iand, 1), (56, .i2c, 1)] (by decide +kernel) (pc' := 57) (L' := #[.val (.int p0), .val (.int p1), .val (.int p2), .val (.int p3), .val (.long n), .second, .val (.int fl), .val (.ref a1), .val (.ref a4), .unset, .unset, .unset, .unset, .unset, .unset, .unset, .unset, .unset]) (S' := [.int ((p3 &&& (255 : Int32)).toUInt32.toUInt16.toUInt32.toInt32), .int (0 : Int32), .ref a7, .ref a7]) rfl ?_
  rw [← gd3]
  refine G.castore (i := 0) (x' := d3) (by decide +kernel) A7 n7 ⟨by decide, by decide⟩ rfl (lb rfl) (nar_b8 hd3) ?_
  intro h8 K8 A8
  have KA8 := Keep.trans K7 K8 (allS (Or.inr (Nat.le_of_eq g7.symm)) all0)
  have R0 := R0.keep KA8 nin0
  have R1 := R1.keep KA8 nin0
  have Kz := Keep.trans Kz KA8 all0
  have R2 := A8
  refine G.seg [(58, .astore 9, 2)] (by decide +kernel) (pc' := 60) (L' := #[.val (.int p0), .val (.int p1), .val (.int p2), .val (.int p3), .val (.long n), .second, .val (.int fl), .val (.ref a1), .val (.ref a4), .val (.ref a7), .unset, .unset, .unset, .unset, .unset, .unset, .unset, .unset]) (S' := []) rfl ?_
  refine G.seg [(60, .iconst 0, 1)] (by decide +kernel) (pc' := 61) (L' := #[.val (.int p0), .val (.int p1), .val (.int p2), .val (.int p3), .val (.long n), .second, .val (.int fl), .val (.ref a1), .val (.ref a4), .val (.ref a7), .unset, .unset, .unset, .unset, .unset, .unset, .unset, .unset]) (S' := [.int (0 : Int32)]) rfl ?_
  refine G.newarr (aty := .char) (ty := .char) (cap := 0) rfl (by decide +kernel) (tw 0 rfl) (by decide) (lb rfl) (lb rfl) (lb rfl) (lb rfl) ?_
  intro h9 a9 k9 g9 n9 K9 A9
  have R0 := R0.keep K9 nin0
  have R1 := R1.keep K9 nin0
  have R2 := R2.keep K9 nin0
  have Kz := Keep.trans Kz K9 all0
  have R3 := A9
  refine G.seg [(63, .astore 10, 2)] (by decide +kernel) (pc' := 65) (L' := #[.val (.int p0), .val (.int p1), .val (.int p2), .val (.int p3), .val (.long n), .second, .val (.int fl), .val (.ref a1), .val (.ref a4), .val (.ref a7), .val (.ref a9), .unset, .unset, .unset, .unset, .unset, .unset, .unset]) (S' := []) rfl ?_
  refine G.seg [(65, .iload 6, 2), (67, .iconst 3, 1), (68, .ishr, 1), (69, .iconst 1, 1), (70, .iand, 1)] (by decide +kernel) (pc' := 71) (L' := #[.val (.int p0), .val (.int p1), .val (.int p2), .val (.int p3), .val (.long n), .second, .val (.int fl), .val (.ref a1), .val (.ref a4), .val (.ref a7), .val (.ref a9), .unset, .unset, .unset, .unset, .unset, .unset, .unset]) (S' := [.int ((fl >>> ((3 : Int32) &&& 31)) &&& (1 : Int32))]) rfl ?_
  refine G.join (fun z : Heap × Value => Keep h9 z.1 [] ∧ SN Z z.1 z.2) (fun z => (z.1, 7, 15, 87, #[.val (.int p0), .val (.int p1), .val (.int p2), .val (.int p3), .val (.long n), .second, .val (.int fl), .val (.ref a1), .val (.ref a4), .val (.ref a7), .val (.ref a9), .unset, .unset, .unset, .unset, .unset, .unset, .unset], [z.2])) ?_ ?_
  · intro J1
    refine G.ifeq (o := (7)) (pc' := 78) (by decide +kernel) (by decide) rfl ?_ ?_
    · intro q10
      refine G.new (by decide +kernel) (tw 1 rfl) (tw 2 rfl) (tw 3 rfl) (lb rfl) (lb rfl) ?_
      intro h11 a11 g11 n11 K11 E11 D11
      refine G.seg [(81, .dup, 1), (82, .aload 7, 2)] (by decide +kernel) (pc' := 84) (L' := #[.val (.int p0), .val (.int p1), .val (.int p2), .val (.int p3), .val (.long n), .second, .val (.int fl), .val (.ref a1), .val (.ref a4), .val (.ref a7), .val (.ref a9), .unset, .unset, .unset, .unset, .unset, .unset, .unset]) (S' := [.ref a1, .ref a11, .ref a11]) rfl ?_
      refine G.special (y := N1) (a := a11) (argsL := [.ref a1]) (rest := [.ref a11]) (W := 1) rfl (by decide +kernel) (tw 4 rfl) (tw 5 rfl) (tw 6 rfl) (by decide)
        (newStr (cs := [d0, d1]) sw1 swE hm7 n11 E11 (D11 (Or.inr (tw 29 rfl)) (ty := .array (.byte)) (by decide)) (D11 (Or.inr (tw 27 rfl)) (ty := .byte) (by decide)) (R0.keep K11 nin0) hCS (latS hd0 (latS hd1 (lat0))) (lb rfl) (lb rfl) (lb rfl)) (lenOf pdN1 rfl) rfl (Nat.le_of_eq rfl) rfl (lb rfl) (lb rfl) ?_
      rintro _ h12 ⟨rfl, K12, F12⟩
      have KS12 : Keep h9 h12 [] := ((Keep.refl h9 []).trans K11 all0).trans K12 (allS (Or.inr (Nat.le_trans (Keep.refl h9 []).1 (Nat.le_of_eq g11.symm))) all0)
      exact J1 (h12, .ref a11) ⟨KS12, Or.inr ⟨_, rfl, F12.1⟩⟩
    · intro q10
      refine G.seg [(74, .aconst_null, 1), (75, .goto 12, 3)] (by decide +kernel) (pc' := 87) (L' := #[.val (.int p0), .val (.int p1), .val (.int p2), .val (.int p3), .val (.long n), .second, .val (.int fl), .val (.ref a1), .val (.ref a4), .val (.ref a7), .val (.ref a9), .unset, .unset, .unset, .unset, .unset, .unset, .unset]) (S' := [.null]) rfl ?_
      exact G.more (lb rfl) (lb rfl) (J1 (h9, .null) ⟨Keep.refl _ _, Or.inl rfl⟩)
  rintro ⟨hh, c⟩ ⟨Kc, Sc⟩
  dsimp only at Kc Sc ⊢
  have hc := Sc.ref
  have R0 := R0.keep Kc nin0
  have R1 := R1.keep Kc nin0
  have R2 := R2.keep Kc nin0
  have R3 := R3.keep Kc nin0
  refine G.astoreV (k := 11) (L' := #[.val (.int p0), .val (.int p1), .val (.int p2), .val (.int p3), .val (.long n), .second, .val (.int fl), .val (.ref a1), .val (.ref a4), .val (.ref a7), .val (.ref a9), .val (c), .unset, .unset, .unset, .unset, .unset, .unset]) (by decide +kernel) hc (by first | exact (storeLocals_cat1 rfl (XT.cat1 hc) trivial).trans rfl | simp [storeLocals, storeSelf, setAt, Value.category, XT.cat1 hc]) ?_
  refine G.seg [(89, .iload 6, 2), (91, .iconst 1, 1), (92, .iand, 1)] (by decide +kernel) (pc' := 93) (L' := #[.val (.int p0), .val (.int p1), .val (.int p2), .val (.int p3), .val (.long n), .second, .val (.int fl), .val (.ref a1), .val (.ref a4), .val (.ref a7), .val (.ref a9), .val (c), .unset, .unset, .unset, .unset, .unset, .unset]) (S' := [.int (fl &&& (1 : Int32))]) rfl ?_
  refine G.ifeq (o := (7)) (pc' := 100) (by decide +kernel) (by decide) rfl ?_ ?_
  · intro q13
    refine G.seg [(100, .iconst 0, 1), (101, .istore 12, 2)] (by decide +kernel) (pc' := 103) (L' := #[.val (.int p0), .val (.int p1), .val (.int p2), .val (.int p3), .val (.long n), .second, .val (.int fl), .val (.ref a1), .val (.ref a4), .val (.ref a7), .val (.ref a9), .val (c), .val (.int (0 : Int32)), .unset, .unset, .unset, .unset, .unset]) (S' := []) rfl ?_
    refine G.seg [(103, .iload 6, 2), (105, .iconst 1, 1), (106, .ishr, 1), (107, .iconst 3, 1), (108, .iand, 1), (109, .istore 13, 2)] (by decide +kernel) (pc' := 111) (L' := #[.val (.int p0), .val (.int p1), .val (.int p2), .val (.int p3), .val (.long n), .second, .val (.int fl), .val (.ref a1), .val (.ref a4), .val (.ref a7), .val (.ref a9), .val (c), .val (.int (0 : Int32)), .val (.int ((fl >>> ((1 : Int32) &&& 31)) &&& (3 : Int32))), .unset, .unset, .unset, .unset]) (S' := []) rfl ?_
    refine G.seg [(111, .iload 12, 2)] (by decide +kernel) (pc' := 113) (L' := #[.val (.int p0), .val (.int p1), .val (.int p2), .val (.int p3), .val (.long n), .second, .val (.int fl), .val (.ref a1), .val (.ref a4), .val (.ref a7), .val (.ref a9), .val (c), .val (.int (0 : Int32)), .val (.int ((fl >>> ((1 : Int32) &&& 31)) &&& (3 : Int32))), .unset, .unset, .unset, .unset]) (S' := [.int (0 : Int32)]) rfl ?_
    refine G.ifeq (o := (9)) (pc' := 122) (by decide +kernel) (by decide) rfl ?_ (fun q14 => absurd rfl q14)
    intro _
    refine G.seg [(122, .iload 13, 2)] (by decide +kernel) (pc' := 124) (L' := #[.val (.int p0), .val (.int p1), .val (.int p2), .val (.int p3), .val (.long n), .second, .val (.int fl), .val (.ref a1), .val (.ref a4), .val (.ref a7), .val (.ref a9), .val (c), .val (.int (0 : Int32)), .val (.int ((fl >>> ((1 : Int32) &&& 31)) &&& (3 : Int32))), .unset, .unset, .unset, .unset]) (S' := [.int ((fl >>> ((1 : Int32) &&& 31)) &&& (3 : Int32))]) rfl ?_
    refine G.join (fun z : Heap × Addr => Keep hh z.1 [] ∧ Exa Z z.1 z.2 "java/lang/String") (fun z => (z.1, 10, 25, 172, #[.val (.int p0), .val (.int p1), .val (.int p2), .val (.int p3), .val (.long n), .second, .val (.int fl), .val (.ref a1), .val (.ref a4), .val (.ref a7), .val (.ref a9), .val (c), .val (.int (0 : Int32)), .val (.int ((fl >>> ((1 : Int32) &&& 31)) &&& (3 : Int32))), .val (.ref z.2), .unset, .unset, .unset], [])) ?_ ?_
    · intro J2
      refine G.ifne (o := (17)) (pc' := 141) (by decide +kernel) (by decide) rfl ?_ ?_
      · intro q15
        refine G.seg [(141, .iload 13, 2), (143, .iconst 1, 1)] (by decide +kernel) (pc' := 144) (L' := #[.val (.int p0), .val (.int p1), .val (.int p2), .val (.int p3), .val (.long n), .second, .val (.int fl), .val (.ref a1), .val (.ref a4), .val (.ref a7), .val (.ref a9), .val (c), .val (.int (0 : Int32)), .val (.int ((fl >>> ((1 : Int32) &&& 31)) &&& (3 : Int32))), .unset, .unset, .unset, .unset]) (S' := [.int (1 : Int32), .int ((fl >>> ((1 : Int32) &&& 31)) &&& (3 : Int32))]) rfl ?_
        refine G.icne (o := (17)) (pc' := 161) (by decide +kernel) (by decide) rfl ?_ ?_
        · intro q16
          refine G.new (by decide +kernel) (tw 1 rfl) (tw 2 rfl) (tw 3 rfl) (lb rfl) (lb rfl) ?_
          intro h17 a17 g17 n17 K17 E17 D17
          refine G.seg [(164, .dup, 1), (165, .aload 10, 2)] (by decide +kernel) (pc' := 167) (L' := #[.val (.int p0), .val (.int p1), .val (.int p2), .val (.int p3), .val (.long n), .second, .val (.int fl), .val (.ref a1), .val (.ref a4), .val (.ref a7), .val (.ref a9), .val (c), .val (.int (0 : Int32)), .val (.int ((fl >>> ((1 : Int32) &&& 31)) &&& (3 : Int32))), .unset, .unset, .unset, .unset]) (S' := [.ref a9, .ref a17, .ref a17]) rfl ?_
          refine G.special (y := N1) (a := a17) (argsL := [.ref a9]) (rest := [.ref a17]) (W := 1) rfl (by decide +kernel) (tw 4 rfl) (tw 5 rfl) (tw 6 rfl) (by decide)
            (newStr (cs := []) sw1 swE hm7 n17 E17 (D17 (Or.inr (tw 29 rfl)) (ty := .array (.byte)) (by decide)) (D17 (Or.inr (tw 27 rfl)) (ty := .byte) (by decide)) (R3.keep K17 nin0) hCS (lat0) (lb rfl) (lb rfl) (lb rfl)) (lenOf pdN1 rfl) rfl (Nat.le_of_eq rfl) rfl (lb rfl) (lb rfl) ?_
          rintro _ h18 ⟨rfl, K18, F18⟩
          have KS18 : Keep hh h18 [] := ((Keep.refl hh []).trans K17 all0).trans K18 (allS (Or.inr (Nat.le_trans (Keep.refl hh []).1 (Nat.le_of_eq g17.symm))) all0)
          refine G.seg [(170, .astore 14, 2)] (by decide +kernel) (pc' := 172) (L' := #[.val (.int p0), .val (.int p1), .val (.int p2), .val (.int p3), .val (.long n), .second, .val (.int fl), .val (.ref a1), .val (.ref a4), .val (.ref a7), .val (.ref a9), .val (c), .val (.int (0 : Int32)), .val (.int ((fl >>> ((1 : Int32) &&& 31)) &&& (3 : Int32))), .val (.ref a17), .unset, .unset, .unset]) (S' := []) rfl ?_
          exact G.more (lb rfl) (lb rfl) (J2 (h18, a17) ⟨KS18, F18.1⟩)
        · intro q16
          refine G.new (by decide +kernel) (tw 1 rfl) (tw 2 rfl) (tw 3 rfl) (lb rfl) (lb rfl) ?_
          intro h19 a19 g19 n19 K19 E19 D19
          refine G.seg [(150, .dup, 1), (151, .aload 9, 2)] (by decide +kernel) (pc' := 153) (L' := #[.val (.int p0), .val (.int p1), .val (.int p2), .val (.int p3), .val (.long n), .second, .val (.int fl), .val (.ref a1), .val (.ref a4), .val (.ref a7), .val (.ref a9), .val (c), .val (.int (0 : Int32)), .val (.int ((fl >>> ((1 : Int32) &&& 31)) &&& (3 : Int32))), .unset, .unset, .unset, .unset]) (S' := [.ref a7, .ref a19, .ref a19]) rfl ?_
          refine G.special (y := N1) (a := a19) (argsL := [.ref a7]) (rest := [.ref a19]) (W := 1) rfl (by decide +kernel) (tw 4 rfl) (tw 5 rfl) (tw 6 rfl) (by decide)
            (newStr (cs := [d3]) sw1 swE hm7 n19 E19 (D19 (Or.inr (tw 29 rfl)) (ty := .array (.byte)) (by decide)) (D19 (Or.inr (tw 27 rfl)) (ty := .byte) (by decide)) (R2.keep K19 nin0) hCS (latS hd3 (lat0)) (lb rfl) (lb rfl) (lb rfl)) (lenOf pdN1 rfl) rfl (Nat.le_of_eq rfl) rfl (lb rfl) (lb rfl) ?_
          rintro _ h20 ⟨rfl, K20, F20⟩
          have KS20 : Keep hh h20 [] := ((Keep.refl hh []).trans K19 all0).trans K20 (allS (Or.inr (Nat.le_trans (Keep.refl hh []).1 (Nat.le_of_eq g19.symm))) all0)
          refine G.seg [(156, .astore 14, 2)] (by decide +kernel) (pc' := 158) (L' := #[.val (.int p0), .val (.int p1), .val (.int p2), .val (.int p3), .val (.long n), .second, .val (.int fl), .val (.ref a1), .val (.ref a4), .val (.ref a7), .val (.ref a9), .val (c), .val (.int (0 : Int32)), .val (.int ((fl >>> ((1 : Int32) &&& 31)) &&& (3 : Int32))), .val (.ref a19), .unset, .unset, .unset]) (S' := []) rfl ?_
          refine G.seg [(158, .goto 14, 3)] (by decide +kernel) (pc' := 172) (L' := #[.val (.int p0), .val (.int p1), .val (.int p2), .val (.int p3), .val (.long n), .second, .val (.int fl), .val (.ref a1), .val (.ref a4), .val (.ref a7), .val (.ref a9), .val (c), .val (.int (0 : Int32)), .val (.int ((fl >>> ((1 : Int32) &&& 31)) &&& (3 : Int32))), .val (.ref a19), .unset, .unset, .unset]) (S' := []) rfl ?_
          exact G.more (lb rfl) (lb rfl) (J2 (h20, a19) ⟨KS20, F20.1⟩)
      · intro q15
        refine G.new (by decide +kernel) (tw 1 rfl) (tw 2 rfl) (tw 3 rfl) (lb rfl) (lb rfl) ?_
        intro h21 a21 g21 n21 K21 E21 D21
        refine G.seg [(130, .dup, 1), (131, .aload 8, 2)] (by decide +kernel) (pc' := 133) (L' := #[.val (.int p0), .val (.int p1), .val (.int p2), .val (.int p3), .val (.long n), .second, .val (.int fl), .val (.ref a1), .val (.ref a4), .val (.ref a7), .val (.ref a9), .val (c), .val (.int (0 : Int32)), .val (.int ((fl >>> ((1 : Int32) &&& 31)) &&& (3 : Int32))), .unset, .unset, .unset, .unset]) (S' := [.ref a4, .ref a21, .ref a21]) rfl ?_
        refine G.special (y := N1) (a := a21) (argsL := [.ref a4]) (rest := [.ref a21]) (W := 1) rfl (by decide +kernel) (tw 4 rfl) (tw 5 rfl) (tw 6 rfl) (by decide)
          (newStr (cs := [d2, d3]) sw1 swE hm7 n21 E21 (D21 (Or.inr (tw 29 rfl)) (ty := .array (.byte)) (by decide)) (D21 (Or.inr (tw 27 rfl)) (ty := .byte) (by decide)) (R1.keep K21 nin0) hCS (latS hd2 (latS hd3 (lat0))) (lb rfl) (lb rfl) (lb rfl)) (lenOf pdN1 rfl) rfl (Nat.le_of_eq rfl) rfl (lb rfl) (lb rfl) ?_
        rintro _ h22 ⟨rfl, K22, F22⟩
        have KS22 : Keep hh h22 [] := ((Keep.refl hh []).trans K21 all0).trans K22 (allS (Or.inr (Nat.le_trans (Keep.refl hh []).1 (Nat.le_of_eq g21.symm))) all0)
        refine G.seg [(136, .astore 14, 2)] (by decide +kernel) (pc' := 138) (L' := #[.val (.int p0), .val (.int p1), .val (.int p2), .val (.int p3), .val (.long n), .second, .val (.int fl), .val (.ref a1), .val (.ref a4), .val (.ref a7), .val (.ref a9), .val (c), .val (.int (0 : Int32)), .val (.int ((fl >>> ((1 : Int32) &&& 31)) &&& (3 : Int32))), .val (.ref a21), .unset, .unset, .unset]) (S' := []) rfl ?_
        refine G.seg [(138, .goto 34, 3)] (by decide +kernel) (pc' := 172) (L' := #[.val (.int p0), .val (.int p1), .val (.int p2), .val (.int p3), .val (.long n), .second, .val (.int fl), .val (.ref a1), .val (.ref a4), .val (.ref a7), .val (.ref a9), .val (c), .val (.int (0 : Int32)), .val (.int ((fl >>> ((1 : Int32) &&& 31)) &&& (3 : Int32))), .val (.ref a21), .unset, .unset, .unset]) (S' := []) rfl ?_
        exact G.more (lb rfl) (lb rfl) (J2 (h22, a21) ⟨KS22, F22.1⟩)
    rintro ⟨h2, u⟩ ⟨Ku, Eu⟩
    dsimp only at Ku Eu ⊢
    refine G.new (by decide +kernel) (tw 30 rfl) (tw 31 rfl) (tw 32 rfl) (lb rfl) (lb rfl) ?_
    intro h23 r g23 n23 K23 E23 D23
    refine G.seg [(175, .dup, 1)] (by decide +kernel) (pc' := 176) (L' := #[.val (.int p0), .val (.int p1), .val (.int p2), .val (.int p3), .val (.long n), .second, .val (.int fl), .val (.ref a1), .val (.ref a4), .val (.ref a7), .val (.ref a9), .val (c), .val (.int (0 : Int32)), .val (.int ((fl >>> ((1 : Int32) &&& 31)) &&& (3 : Int32))), .val (.ref u), .unset, .unset, .unset]) (S' := [.ref r, .ref r]) rfl ?_
    refine G.aloadV (k := 11) (by decide +kernel) rfl hc ?_
    refine G.seg [(178, .aload 14, 2), (180, .lload 4, 2)] (by decide +kernel) (pc' := 182) (L' := #[.val (.int p0), .val (.int p1), .val (.int p2), .val (.int p3), .val (.long n), .second, .val (.int fl), .val (.ref a1), .val (.ref a4), .val (.ref a7), .val (.ref a9), .val (c), .val (.int (0 : Int32)), .val (.int ((fl >>> ((1 : Int32) &&& 31)) &&& (3 : Int32))), .val (.ref u), .unset, .unset, .unset]) (S' := [.long n, .ref u, c, .ref r, .ref r]) rfl ?_
    refine G.special (y := ⟨"com/example/aspen/aspen/core/LinkRecord", "<init>", "(Ljava/lang/String;Ljava/lang/String;J)V"⟩) (a := r) (argsL := [c, .ref u, .long n]) (rest := [.ref r]) (W := 1) rfl (by decide +kernel) (tw 33 rfl) (tw 34 rfl) (tw 35 rfl) (by decide) ((rinitC l Z a0 n0 h23 r c (.ref u) n hc rfl n23 E23 (D23 (Or.inr (tw 43 rfl)) (ty := .object "java/lang/String") (by decide)) (D23 (Or.inr (tw 45 rfl)) (ty := .object "java/lang/String") (by decide)) (D23 (Or.inr (tw 47 rfl)) (ty := .long) (by decide))).pays (tw 35 rfl) (tw 32 rfl) (lb rfl) (lb rfl)) (lenOf pd8 rfl) rfl (Nat.le_of_eq rfl) rfl (lb rfl) (lb rfl) ?_
    rintro _ h24 ⟨rfl, K24, E24, A24, B24, C24⟩
    have KR : Keep h2 h24 [] := K23.trans K24 (allS (Or.inr (Nat.le_of_eq g23.symm)) all0)
    refine G.seg [(185, .astore 15, 2)] (by decide +kernel) (pc' := 187) (L' := #[.val (.int p0), .val (.int p1), .val (.int p2), .val (.int p3), .val (.long n), .second, .val (.int fl), .val (.ref a1), .val (.ref a4), .val (.ref a7), .val (.ref a9), .val (c), .val (.int (0 : Int32)), .val (.int ((fl >>> ((1 : Int32) &&& 31)) &&& (3 : Int32))), .val (.ref u), .val (.ref r), .unset, .unset]) (S' := []) rfl ?_
    refine G.seg [(187, .aload 15, 2)] (by decide +kernel) (pc' := 189) (L' := #[.val (.int p0), .val (.int p1), .val (.int p2), .val (.int p3), .val (.long n), .second, .val (.int fl), .val (.ref a1), .val (.ref a4), .val (.ref a7), .val (.ref a9), .val (c), .val (.int (0 : Int32)), .val (.int ((fl >>> ((1 : Int32) &&& 31)) &&& (3 : Int32))), .val (.ref u), .val (.ref r), .unset, .unset]) (S' := [.ref r]) rfl ?_
    refine G.virtual (y := ⟨"com/example/aspen/aspen/core/LinkRecord", "link", "()Ljava/util/Optional;"⟩) (C := "com/example/aspen/aspen/core/LinkRecord") (a := r) (argsL := []) (rest := []) (W := 0) (by decide +kernel) (tw 48 rfl) (tw 49 rfl) (tw 51 rfl) (tw 50 rfl) (by decide) E24 ((lkrC l Z a0 n0 h24 r c hc E24 A24 u B24).pays (tw 52 rfl) (tw 32 rfl) (lb rfl) (lb rfl)) (lenOf pd4 rfl) rfl (Nat.le_of_eq rfl) rfl (lb rfl) (lb rfl) ?_
    rintro _ h25 ⟨o2, d, rfl, K25, O25, Ed, Fc, Fu⟩
    refine G.seg [(192, .astore 16, 2)] (by decide +kernel) (pc' := 194) (L' := #[.val (.int p0), .val (.int p1), .val (.int p2), .val (.int p3), .val (.long n), .second, .val (.int fl), .val (.ref a1), .val (.ref a4), .val (.ref a7), .val (.ref a9), .val (c), .val (.int (0 : Int32)), .val (.int ((fl >>> ((1 : Int32) &&& 31)) &&& (3 : Int32))), .val (.ref u), .val (.ref r), .val (.ref o2), .unset]) (S' := []) rfl ?_
    refine G.seg [(194, .iload 12, 2)] (by decide +kernel) (pc' := 196) (L' := #[.val (.int p0), .val (.int p1), .val (.int p2), .val (.int p3), .val (.long n), .second, .val (.int fl), .val (.ref a1), .val (.ref a4), .val (.ref a7), .val (.ref a9), .val (c), .val (.int (0 : Int32)), .val (.int ((fl >>> ((1 : Int32) &&& 31)) &&& (3 : Int32))), .val (.ref u), .val (.ref r), .val (.ref o2), .unset]) (S' := [.int (0 : Int32)]) rfl ?_
    refine G.ifeq (o := (17)) (pc' := 213) (by decide +kernel) (by decide) rfl ?_ (fun q26 => absurd rfl q26)
    intro _
    refine G.seg [(213, .aload 16, 2)] (by decide +kernel) (pc' := 215) (L' := #[.val (.int p0), .val (.int p1), .val (.int p2), .val (.int p3), .val (.long n), .second, .val (.int fl), .val (.ref a1), .val (.ref a4), .val (.ref a7), .val (.ref a9), .val (c), .val (.int (0 : Int32)), .val (.int ((fl >>> ((1 : Int32) &&& 31)) &&& (3 : Int32))), .val (.ref u), .val (.ref r), .val (.ref o2), .unset]) (S' := [.ref o2]) rfl ?_
    have Sc2 : SN Z h25 c := ((Sc.keep Ku).keep KR).keep K25
    have Su2 : SN Z h25 (.ref u) := Or.inr ⟨u, rfl, (Eu.keep KR).keep K25⟩
    refine G.virtual (y := ⟨"java/util/Optional", "isPresent", "()Z"⟩) (C := "java/util/Optional") (a := o2) (argsL := []) (rest := []) (W := 0) (by decide +kernel) (tw 86 rfl) (tw 87 rfl) (tw 89 rfl) (tw 88 rfl) (by decide) O25.1 ((oisC l Z a0 n0 h25 o2 (.ref d) rfl O25).pays (tw 90 rfl) (tw 71 rfl) (lb rfl) (lb rfl)) (lenOf pd3 rfl) rfl (Nat.le_of_eq rfl) rfl (lb rfl) (lb rfl) ?_
    rintro _ h27 ⟨rfl, rfl⟩
    rw [if_pos (fun z => nomatch z)]
    refine G.ifne (o := (5)) (pc' := 223) (by decide +kernel) (by decide) rfl ?_ (fun q28 => absurd q28 (by decide))
    intro _
    refine G.seg [(223, .aload 16, 2)] (by decide +kernel) (pc' := 225) (L' := #[.val (.int p0), .val (.int p1), .val (.int p2), .val (.int p3), .val (.long n), .second, .val (.int fl), .val (.ref a1), .val (.ref a4), .val (.ref a7), .val (.ref a9), .val (c), .val (.int (0 : Int32)), .val (.int ((fl >>> ((1 : Int32) &&& 31)) &&& (3 : Int32))), .val (.ref u), .val (.ref r), .val (.ref o2), .unset]) (S' := [.ref o2]) rfl ?_
    refine G.virtual (y := ⟨"java/util/Optional", "get", "()Ljava/lang/Object;"⟩) (C := "java/util/Optional") (a := o2) (argsL := []) (rest := []) (W := 0) (by decide +kernel) (tw 91 rfl) (tw 92 rfl) (tw 94 rfl) (tw 93 rfl) (by decide) O25.1 ((ogetC l Z a0 n0 h27 o2 d O25).pays (tw 95 rfl) (tw 71 rfl) (lb rfl) (lb rfl)) (lenOf pd9 rfl) rfl (Nat.le_of_eq rfl) rfl (lb rfl) (lb rfl) ?_
    rintro _ h29 ⟨rfl, rfl⟩
    refine G.castY (by decide +kernel) (tw 96 rfl) (Ins.self Ed) ?_
    refine G.seg [(231, .astore 17, 2)] (by decide +kernel) (pc' := 233) (L' := #[.val (.int p0), .val (.int p1), .val (.int p2), .val (.int p3), .val (.long n), .second, .val (.int fl), .val (.ref a1), .val (.ref a4), .val (.ref a7), .val (.ref a9), .val (c), .val (.int (0 : Int32)), .val (.int ((fl >>> ((1 : Int32) &&& 31)) &&& (3 : Int32))), .val (.ref u), .val (.ref r), .val (.ref o2), .val (.ref d)]) (S' := []) rfl ?_
    refine G.seg [(233, .aload 17, 2)] (by decide +kernel) (pc' := 235) (L' := #[.val (.int p0), .val (.int p1), .val (.int p2), .val (.int p3), .val (.long n), .second, .val (.int fl), .val (.ref a1), .val (.ref a4), .val (.ref a7), .val (.ref a9), .val (c), .val (.int (0 : Int32)), .val (.int ((fl >>> ((1 : Int32) &&& 31)) &&& (3 : Int32))), .val (.ref u), .val (.ref r), .val (.ref o2), .val (.ref d)]) (S' := [.ref d]) rfl ?_
    refine G.virtual (y := ⟨"com/example/aspen/aspen/core/Link", "code", "()Ljava/lang/String;"⟩) (C := "com/example/aspen/aspen/core/Link") (a := d) (argsL := []) (rest := []) (W := 0) (by decide +kernel) (tw 98 rfl) (tw 99 rfl) (tw 101 rfl) (tw 100 rfl) (by decide) Ed ((lcode l Z a0 n0 h29 d c Sc2.ref Fc).pays (tw 102 rfl) (tw 60 rfl) (lb rfl) (lb rfl)) (lenOf pd10 rfl) rfl (Nat.le_of_eq rfl) rfl (lb rfl) (lb rfl) ?_
    rintro _ h30 ⟨rfl, rfl⟩
    refine G.aloadV (k := 11) (by decide +kernel) rfl hc ?_
    refine G.static (y := ⟨"com/example/aspen/aspen/core/LinkRecordLinkPinLaw", "same", "(Ljava/lang/String;Ljava/lang/String;)Z"⟩) (argsL := [c, c]) (rest := []) (W := 0) (by decide +kernel) (tw 103 rfl) (tw 104 rfl) (tw 105 rfl) (tw 106 rfl) (by decide) ((sameC l Z a0 n0 h30 c Sc2).pays (tw 106 rfl) (tw 105 rfl) (lb rfl) (lb rfl)) (lenOf pd11 rfl) rfl (Nat.le_of_eq rfl) rfl (lb rfl) (lb rfl) ?_
    rintro _ h31 ⟨rfl, rfl⟩
    refine G.ifeq (o := (20)) (pc' := 263) (by decide +kernel) (by decide) rfl (fun q32 => absurd q32 (by decide)) ?_
    intro _
    refine G.seg [(246, .aload 17, 2)] (by decide +kernel) (pc' := 248) (L' := #[.val (.int p0), .val (.int p1), .val (.int p2), .val (.int p3), .val (.long n), .second, .val (.int fl), .val (.ref a1), .val (.ref a4), .val (.ref a7), .val (.ref a9), .val (c), .val (.int (0 : Int32)), .val (.int ((fl >>> ((1 : Int32) &&& 31)) &&& (3 : Int32))), .val (.ref u), .val (.ref r), .val (.ref o2), .val (.ref d)]) (S' := [.ref d]) rfl ?_
    refine G.virtual (y := ⟨"com/example/aspen/aspen/core/Link", "url", "()Ljava/lang/String;"⟩) (C := "com/example/aspen/aspen/core/Link") (a := d) (argsL := []) (rest := []) (W := 0) (by decide +kernel) (tw 112 rfl) (tw 113 rfl) (tw 115 rfl) (tw 114 rfl) (by decide) Ed ((lurl l Z a0 n0 h31 d (.ref u) Su2.ref Fu).pays (tw 116 rfl) (tw 60 rfl) (lb rfl) (lb rfl)) (lenOf pd10 rfl) rfl (Nat.le_of_eq rfl) rfl (lb rfl) (lb rfl) ?_
    rintro _ h33 ⟨rfl, rfl⟩
    refine G.seg [(251, .aload 14, 2)] (by decide +kernel) (pc' := 253) (L' := #[.val (.int p0), .val (.int p1), .val (.int p2), .val (.int p3), .val (.long n), .second, .val (.int fl), .val (.ref a1), .val (.ref a4), .val (.ref a7), .val (.ref a9), .val (c), .val (.int (0 : Int32)), .val (.int ((fl >>> ((1 : Int32) &&& 31)) &&& (3 : Int32))), .val (.ref u), .val (.ref r), .val (.ref o2), .val (.ref d)]) (S' := [.ref u, .ref u]) rfl ?_
    refine G.static (y := ⟨"com/example/aspen/aspen/core/LinkRecordLinkPinLaw", "same", "(Ljava/lang/String;Ljava/lang/String;)Z"⟩) (argsL := [.ref u, .ref u]) (rest := []) (W := 0) (by decide +kernel) (tw 103 rfl) (tw 104 rfl) (tw 105 rfl) (tw 106 rfl) (by decide) ((sameC l Z a0 n0 h33 (.ref u) Su2).pays (tw 106 rfl) (tw 105 rfl) (lb rfl) (lb rfl)) (lenOf pd11 rfl) rfl (Nat.le_of_eq rfl) rfl (lb rfl) (lb rfl) ?_
    rintro _ h34 ⟨rfl, rfl⟩
    refine G.ifeq (o := (7)) (pc' := 263) (by decide +kernel) (by decide) rfl (fun q35 => absurd q35 (by decide)) ?_
    intro _
    refine G.seg [(259, .iconst 1, 1), (260, .goto 4, 3)] (by decide +kernel) (pc' := 264) (L' := #[.val (.int p0), .val (.int p1), .val (.int p2), .val (.int p3), .val (.long n), .second, .val (.int fl), .val (.ref a1), .val (.ref a4), .val (.ref a7), .val (.ref a9), .val (c), .val (.int (0 : Int32)), .val (.int ((fl >>> ((1 : Int32) &&& 31)) &&& (3 : Int32))), .val (.ref u), .val (.ref r), .val (.ref o2), .val (.ref d)]) (S' := [.int (1 : Int32)]) rfl ?_
    exact G.retN (by decide +kernel) rfl (Or.inl rfl) rfl rfl (lb rfl) (lb rfl)
  · intro q13
    refine G.seg [(96, .iconst 1, 1), (97, .goto 4, 3), (101, .istore 12, 2)] (by decide +kernel) (pc' := 103) (L' := #[.val (.int p0), .val (.int p1), .val (.int p2), .val (.int p3), .val (.long n), .second, .val (.int fl), .val (.ref a1), .val (.ref a4), .val (.ref a7), .val (.ref a9), .val (c), .val (.int (1 : Int32)), .unset, .unset, .unset, .unset, .unset]) (S' := []) rfl ?_
    refine G.seg [(103, .iload 6, 2), (105, .iconst 1, 1), (106, .ishr, 1), (107, .iconst 3, 1), (108, .iand, 1), (109, .istore 13, 2)] (by decide +kernel) (pc' := 111) (L' := #[.val (.int p0), .val (.int p1), .val (.int p2), .val (.int p3), .val (.long n), .second, .val (.int fl), .val (.ref a1), .val (.ref a4), .val (.ref a7), .val (.ref a9), .val (c), .val (.int (1 : Int32)), .val (.int ((fl >>> ((1 : Int32) &&& 31)) &&& (3 : Int32))), .unset, .unset, .unset, .unset]) (S' := []) rfl ?_
    refine G.seg [(111, .iload 12, 2)] (by decide +kernel) (pc' := 113) (L' := #[.val (.int p0), .val (.int p1), .val (.int p2), .val (.int p3), .val (.long n), .second, .val (.int fl), .val (.ref a1), .val (.ref a4), .val (.ref a7), .val (.ref a9), .val (c), .val (.int (1 : Int32)), .val (.int ((fl >>> ((1 : Int32) &&& 31)) &&& (3 : Int32))), .unset, .unset, .unset, .unset]) (S' := [.int (1 : Int32)]) rfl ?_
    refine G.ifeq (o := (9)) (pc' := 122) (by decide +kernel) (by decide) rfl (fun q36 => absurd q36 (by decide)) ?_
    intro _
    refine G.seg [(116, .aconst_null, 1), (117, .astore 14, 2)] (by decide +kernel) (pc' := 119) (L' := #[.val (.int p0), .val (.int p1), .val (.int p2), .val (.int p3), .val (.long n), .second, .val (.int fl), .val (.ref a1), .val (.ref a4), .val (.ref a7), .val (.ref a9), .val (c), .val (.int (1 : Int32)), .val (.int ((fl >>> ((1 : Int32) &&& 31)) &&& (3 : Int32))), .val (.null), .unset, .unset, .unset]) (S' := []) rfl ?_
    refine G.seg [(119, .goto 53, 3)] (by decide +kernel) (pc' := 172) (L' := #[.val (.int p0), .val (.int p1), .val (.int p2), .val (.int p3), .val (.long n), .second, .val (.int fl), .val (.ref a1), .val (.ref a4), .val (.ref a7), .val (.ref a9), .val (c), .val (.int (1 : Int32)), .val (.int ((fl >>> ((1 : Int32) &&& 31)) &&& (3 : Int32))), .val (.null), .unset, .unset, .unset]) (S' := []) rfl ?_
    refine G.new (by decide +kernel) (tw 30 rfl) (tw 31 rfl) (tw 32 rfl) (lb rfl) (lb rfl) ?_
    intro h37 r g37 n37 K37 E37 D37
    refine G.seg [(175, .dup, 1)] (by decide +kernel) (pc' := 176) (L' := #[.val (.int p0), .val (.int p1), .val (.int p2), .val (.int p3), .val (.long n), .second, .val (.int fl), .val (.ref a1), .val (.ref a4), .val (.ref a7), .val (.ref a9), .val (c), .val (.int (1 : Int32)), .val (.int ((fl >>> ((1 : Int32) &&& 31)) &&& (3 : Int32))), .val (.null), .unset, .unset, .unset]) (S' := [.ref r, .ref r]) rfl ?_
    refine G.aloadV (k := 11) (by decide +kernel) rfl hc ?_
    refine G.seg [(178, .aload 14, 2), (180, .lload 4, 2)] (by decide +kernel) (pc' := 182) (L' := #[.val (.int p0), .val (.int p1), .val (.int p2), .val (.int p3), .val (.long n), .second, .val (.int fl), .val (.ref a1), .val (.ref a4), .val (.ref a7), .val (.ref a9), .val (c), .val (.int (1 : Int32)), .val (.int ((fl >>> ((1 : Int32) &&& 31)) &&& (3 : Int32))), .val (.null), .unset, .unset, .unset]) (S' := [.long n, .null, c, .ref r, .ref r]) rfl ?_
    refine G.special (y := ⟨"com/example/aspen/aspen/core/LinkRecord", "<init>", "(Ljava/lang/String;Ljava/lang/String;J)V"⟩) (a := r) (argsL := [c, .null, .long n]) (rest := [.ref r]) (W := 1) rfl (by decide +kernel) (tw 33 rfl) (tw 34 rfl) (tw 35 rfl) (by decide) ((rinitC l Z a0 n0 h37 r c (.null) n hc rfl n37 E37 (D37 (Or.inr (tw 43 rfl)) (ty := .object "java/lang/String") (by decide)) (D37 (Or.inr (tw 45 rfl)) (ty := .object "java/lang/String") (by decide)) (D37 (Or.inr (tw 47 rfl)) (ty := .long) (by decide))).pays (tw 35 rfl) (tw 32 rfl) (lb rfl) (lb rfl)) (lenOf pd8 rfl) rfl (Nat.le_of_eq rfl) rfl (lb rfl) (lb rfl) ?_
    rintro _ h38 ⟨rfl, K38, E38, A38, B38, C38⟩
    have KR : Keep hh h38 [] := K37.trans K38 (allS (Or.inr (Nat.le_of_eq g37.symm)) all0)
    refine G.seg [(185, .astore 15, 2)] (by decide +kernel) (pc' := 187) (L' := #[.val (.int p0), .val (.int p1), .val (.int p2), .val (.int p3), .val (.long n), .second, .val (.int fl), .val (.ref a1), .val (.ref a4), .val (.ref a7), .val (.ref a9), .val (c), .val (.int (1 : Int32)), .val (.int ((fl >>> ((1 : Int32) &&& 31)) &&& (3 : Int32))), .val (.null), .val (.ref r), .unset, .unset]) (S' := []) rfl ?_
    refine G.seg [(187, .aload 15, 2)] (by decide +kernel) (pc' := 189) (L' := #[.val (.int p0), .val (.int p1), .val (.int p2), .val (.int p3), .val (.long n), .second, .val (.int fl), .val (.ref a1), .val (.ref a4), .val (.ref a7), .val (.ref a9), .val (c), .val (.int (1 : Int32)), .val (.int ((fl >>> ((1 : Int32) &&& 31)) &&& (3 : Int32))), .val (.null), .val (.ref r), .unset, .unset]) (S' := [.ref r]) rfl ?_
    refine G.virtual (y := ⟨"com/example/aspen/aspen/core/LinkRecord", "link", "()Ljava/util/Optional;"⟩) (C := "com/example/aspen/aspen/core/LinkRecord") (a := r) (argsL := []) (rest := []) (W := 0) (by decide +kernel) (tw 48 rfl) (tw 49 rfl) (tw 51 rfl) (tw 50 rfl) (by decide) E38 ((lknC l Z a0 n0 h38 r c hc E38 A38 B38 o hO2).pays (tw 52 rfl) (tw 32 rfl) (lb rfl) (lb rfl)) (lenOf pd4 rfl) rfl (Nat.le_of_eq rfl) rfl (lb rfl) (lb rfl) ?_
    rintro _ h39 ⟨rfl, rfl⟩
    refine G.seg [(192, .astore 16, 2)] (by decide +kernel) (pc' := 194) (L' := #[.val (.int p0), .val (.int p1), .val (.int p2), .val (.int p3), .val (.long n), .second, .val (.int fl), .val (.ref a1), .val (.ref a4), .val (.ref a7), .val (.ref a9), .val (c), .val (.int (1 : Int32)), .val (.int ((fl >>> ((1 : Int32) &&& 31)) &&& (3 : Int32))), .val (.null), .val (.ref r), .val (.ref o), .unset]) (S' := []) rfl ?_
    refine G.seg [(194, .iload 12, 2)] (by decide +kernel) (pc' := 196) (L' := #[.val (.int p0), .val (.int p1), .val (.int p2), .val (.int p3), .val (.long n), .second, .val (.int fl), .val (.ref a1), .val (.ref a4), .val (.ref a7), .val (.ref a9), .val (c), .val (.int (1 : Int32)), .val (.int ((fl >>> ((1 : Int32) &&& 31)) &&& (3 : Int32))), .val (.null), .val (.ref r), .val (.ref o), .unset]) (S' := [.int (1 : Int32)]) rfl ?_
    refine G.ifeq (o := (17)) (pc' := 213) (by decide +kernel) (by decide) rfl (fun q40 => absurd q40 (by decide)) ?_
    intro _
    refine G.seg [(199, .aload 16, 2)] (by decide +kernel) (pc' := 201) (L' := #[.val (.int p0), .val (.int p1), .val (.int p2), .val (.int p3), .val (.long n), .second, .val (.int fl), .val (.ref a1), .val (.ref a4), .val (.ref a7), .val (.ref a9), .val (c), .val (.int (1 : Int32)), .val (.int ((fl >>> ((1 : Int32) &&& 31)) &&& (3 : Int32))), .val (.null), .val (.ref r), .val (.ref o), .unset]) (S' := [.ref o]) rfl ?_
    refine G.virtual (y := ⟨"java/util/Optional", "isPresent", "()Z"⟩) (C := "java/util/Optional") (a := o) (argsL := []) (rest := []) (W := 0) (by decide +kernel) (tw 86 rfl) (tw 87 rfl) (tw 89 rfl) (tw 88 rfl) (by decide) (hOV _ ((Kz.trans Kc all0).trans KR all0)).1 ((oisC l Z a0 n0 h39 o .null rfl (hOV _ ((Kz.trans Kc all0).trans KR all0))).pays (tw 90 rfl) (tw 71 rfl) (lb rfl) (lb rfl)) (lenOf pd3 rfl) rfl (Nat.le_of_eq rfl) rfl (lb rfl) (lb rfl) ?_
    rintro _ h41 ⟨rfl, rfl⟩
    rw [if_neg (fun z => z rfl)]
    refine G.ifne (o := (7)) (pc' := 211) (by decide +kernel) (by decide) rfl (fun q42 => absurd rfl q42) ?_
    intro _
    refine G.seg [(207, .iconst 1, 1), (208, .goto 4, 3)] (by decide +kernel) (pc' := 212) (L' := #[.val (.int p0), .val (.int p1), .val (.int p2), .val (.int p3), .val (.long n), .second, .val (.int fl), .val (.ref a1), .val (.ref a4), .val (.ref a7), .val (.ref a9), .val (c), .val (.int (1 : Int32)), .val (.int ((fl >>> ((1 : Int32) &&& 31)) &&& (3 : Int32))), .val (.null), .val (.ref r), .val (.ref o), .unset]) (S' := [.int (1 : Int32)]) rfl ?_
    exact G.retN (by decide +kernel) rfl (Or.inl rfl) rfl rfl (lb rfl) (lb rfl)

set_option maxRecDepth 65536 in
set_option maxHeartbeats 4000000 in
theorem comes_1 {Post : Tables → Env → Array Value → State → Outcome → State → Prop} (hpost : ∀ tb e args s v u, (limb_1_1.after args s (.returned v) u = true ∧ limb_1_2.after args s (.returned v) u = true ∧ True) → ReturnedEndW s (.returned v) u (Jvm.fieldLocs frame_1_writes args s ++ Jvm.arrayLocs frame_1_arrays args s ++ Jvm.staticLocs frame_1_statics s) room_1.cells room_1.slots → Post tb e args s (.returned v) u) :
    ArmFor flags0 classFile x code maxLocals ret World_1 tables_1 room_1 Calls_1 rest_1 Pre_1 Post := by
  intro l hfl _ _ p e ha hc hk s m args below hf hA hF happ hP
  obtain ⟨hcalls, hrest, hpre⟩ := hP
  obtain ⟨-, -, -, hnamed, -, -, -, hat⟩ := (Spec.applies_iff hf).mp happ
  obtain ⟨hg, hn⟩ := and_e (Cond.before_iff.mp (show (Jvm.Cond.and given_1 narrow_1).before args s = true from hpre))
  obtain ⟨hcount, hz0⟩ := and_e hg
  obtain ⟨ha0, hz1⟩ := and_e hz0
  obtain ⟨ha1, hz2⟩ := and_e hz1
  obtain ⟨ha2, hz3⟩ := and_e hz2
  obtain ⟨ha3, hz4⟩ := and_e hz3
  obtain ⟨ha4, hz5⟩ := and_e hz4
  have ha5 := hz5
  obtain ⟨w0, w1, w2, w3, w4, w5, rfl⟩ : ∃ w0 w1 w2 w3 w4 w5 : Value, args = #[w0, w1, w2, w3, w4, w5] := by
    have hs : args.size = 6 := by simpa [Cond.value, given_1] using hcount
    obtain ⟨L⟩ := args
    match L, hs with
    | [w0, w1, w2, w3, w4, w5], _ => exact ⟨w0, w1, w2, w3, w4, w5, rfl⟩
  obtain ⟨i0, e0⟩ := is_v ha0
  obtain rfl : w0 = (.int i0) := Option.some.inj e0
  obtain ⟨i1, e1⟩ := is_v ha1
  obtain rfl : w1 = (.int i1) := Option.some.inj e1
  obtain ⟨i2, e2⟩ := is_v ha2
  obtain rfl : w2 = (.int i2) := Option.some.inj e2
  obtain ⟨i3, e3⟩ := is_v ha3
  obtain rfl : w3 = (.int i3) := Option.some.inj e3
  obtain ⟨i4, e4⟩ := isL_v ha4
  obtain rfl : w4 = (.long i4) := Option.some.inj e4
  obtain ⟨i5, e5⟩ := is_v ha5
  obtain rfl : w5 = (.int i5) := Option.some.inj e5
  have hw := fun d (hd : d ∈ tables_1) => atoms_spec (ws := Jvm.Cond.code x code maxLocals ret :: tables_1) hat d (List.mem_cons_of_mem _ hd)
  obtain ⟨hsets, hown0⟩ := atoms_of _ (rest_1_c_eq ▸ (show rest_1_c.before _ s = true from hrest))
  have n5 := not_v (Cond.before_iff.mp (hsets _ (List.mem_of_getElem? (i := 2) rfl)))
  obtain ⟨iC, eC⟩ := is_v (Cond.before_iff.mp (hsets _ (List.mem_of_getElem? (i := 1) rfl)))
  have hCS : CS s := ⟨iC, Sta.start eC (Or.inl (hsets _ (List.mem_of_getElem? (i := 0) rfl))), gotF (Cond.eq_ints eC (Term.int_eval (0))) n5⟩
  have hEL : EW s #[.int i0, .int i1, .int i2, .int i3, .long i4, .int i5] consts_1 := EW.cons (hw _ (tw 121 rfl)) (by decide) (EW.nil)
  have hCH : CHv s consts_1 s.vm s.heap := CHv.start hEL (fun p hp => hcalls.1 p hp) (hsets _ (List.mem_of_getElem? (i := 2) rfl)) (hw _ (tw 19 rfl)) (hw _ (tw 2 rfl))
  obtain ⟨o0, eo0⟩ := exa_v (Cond.before_iff.mp (hsets _ (List.mem_of_getElem? (i := 11) rfl)))
  have hO2 : OE s o0 := Sta.start eo0 (Or.inl (hsets _ (List.mem_of_getElem? (i := 10) rfl)))
  have hOV : ∀ h2, Keep s.heap h2 [] → OV s h2 o0 .null := fun h2 K => ⟨(Exa.start eo0 (Cond.before_iff.mp (hsets _ (List.mem_of_getElem? (i := 11) rfl)))).keep K, (Fld.start ((fld_at eo0).symm.trans (null_v (Cond.before_iff.mp (hsets _ (List.mem_of_getElem? (i := 12) rfl)))))).keep K nin0⟩
  obtain ⟨n, o, h1, h2, h3, v, L, rfl, ⟨N, -, rfl⟩, -, hR, -⟩ := (lawC l s _ s.heap.size s.heap i0 i1 i2 i3 i4 i5 o0 hCS hO2 hOV) hEL hw (Old.start s) p e ha hc hk s m _ below hf ((Spec.applies_iff_loose hf).mp happ).1 ⟨rfl, State.Warmed39.refl s, rfl, hCH⟩ trivial
  exact ⟨n, _, h1, h2, h3, hpost _ _ _ _ _ _ ⟨Cond.after_iff.mpr rfl, Cond.after_iff.mpr (eq_i res_at (Term.int_eval (1)) rfl), trivial⟩ ⟨hR.1, hR.2.1, hR.2.2.1, (hR.2.2.2.sift fun y hy => Or.inr (N y hy)).mono (Nat.le_refl _) (Nat.le_refl _)⟩⟩
theorem main_1_1 : Claimed_1_1 := comes_1 fun _ _ _ _ _ _ h hF => ⟨h.1, hF⟩
theorem main_1_2 : Claimed_1_2 := comes_1 fun _ _ _ _ _ _ h hF => ⟨h.2.1, hF⟩
end Jvm.Pilot.@@N@@
namespace Jvm.Pilot.@@N@@
open Jvm Jvm.ClassFile Sem Op Lib Jvm.Free Jvm.Stand Jvm.Pilot.@@N@@.Jvm.D
/-! MADE BY PROGRAM (witnessworld.py) out of the Statement's table words and the real class files: 24 classes; the members and pool entries that the words name. The judged class is class 1, her method 2. -/
namespace start1
open Jvm.ClassFile
def u (s : String) : CpInfo := .utf8 (stringToUtf16 s)
/-- a pool by its gaps: so many unusable entries, then the entry; so many at the end -/
def gap : Nat → List CpInfo → List CpInfo
  | 0, r => r
  | n + 1, r => .unusable :: gap n r
def poolList (es : List (Nat × CpInfo)) (last : Nat) : List CpInfo := es.foldr (fun e r => gap e.1 (e.2 :: r)) (gap last [])
def pool (es : List (Nat × CpInfo)) (last : Nat) : Array CpInfo := ⟨poolList es last⟩
def fileOf (pool : Array CpInfo) (this : Nat) (attrs : Array Attribute := #[]) (ms : Array MethodInfo := #[]) (fl : Nat := 33) (sup : Nat := 0) (ifs : Array Nat := #[]) (fds : Array FieldInfo := #[]) : ClassFile where
  minorVersion := 0
  majorVersion := 65
  constantPool := pool
  accessFlags := fl
  thisClass := this
  superClass := sup
  interfaces := ifs
  fields := fds
  methods := ms
  attributes := attrs
def plain (name : String) (sup : Option ClassId) : Class where
  name := name
  kind := .ordinary
  loader := none
  accessFlags := 33
  super := sup
  interfaces := #[]
  cf := none
  fields := #[]
  methods := #[]
  instanceTypes := #[]
  staticTypes := #[]
  resolved := #[]
  callSites := []
  init := .initialized
  statics := none
  mirror := none

def pool0 : Array CpInfo := pool [(5, u "<init>"), (0, u "()V"), (1, .class_ 10), (1, u "java/lang/Object")] 113

def k0c0 : Code := { maxStack := 0, maxLocals := 1, code := object_method_1_code, exceptionTable := #[], attributes := #[] }
def k0m0 : Method := { name := "<init>", desc := "()V", sig := { parameters := [], returnType := none }, accessFlags := 1, code := some k0c0 }
/-- java/lang/Object -/
def k0 : Class := { plain "java/lang/Object" none with
  accessFlags := 33
  interfaces := #[]
  cf := some (fileOf pool0 8 #[] #[{ accessFlags := 1, nameIndex := 5, descriptorIndex := 6, attributes := #[] }] 33 0 #[] #[])
  fields := #[]
  methods := #[k0m0]
  instanceTypes := #[]
  staticTypes := #[]
  resolved := Array.replicate 124 none
  statics := none }

def pool1 : Array CpInfo := pool [(2, .class_ 4), (1, u "java/lang/Object"), (0, u "<init>"), (0, u "()V"), (0, .methodref 8 9), (0, .class_ 10), (0, .nameAndType 11 12), (0, u "java/lang/String"), (0, u "equals"), (0, u "(Ljava/lang/Object;)Z"), (0, .methodref 8 14), (0, .nameAndType 5 15), (0, u "([C)V"), (0, .class_ 17), (0, u "com/example/aspen/aspen/core/LinkRecord"), (0, .methodref 16 19), (0, .nameAndType 5 20), (0, u "(Ljava/lang/String;Ljava/lang/String;J)V"), (0, .methodref 16 22), (0, .nameAndType 23 24), (0, u "link"), (0, u "()Ljava/util/Optional;"), (0, .methodref 26 27), (0, .class_ 28), (0, .nameAndType 29 30), (0, u "java/util/Optional"), (0, u "isPresent"), (0, u "()Z"), (0, .methodref 26 32), (0, .nameAndType 33 34), (0, u "get"), (0, u "()Ljava/lang/Object;"), (0, .class_ 36), (0, u "com/example/aspen/aspen/core/Link"), (0, .methodref 35 38), (0, .nameAndType 39 40), (0, u "code"), (0, u "()Ljava/lang/String;"), (0, .methodref 42 43), (0, .class_ 44), (0, .nameAndType 45 46), (0, u "com/example/aspen/aspen/core/LinkRecordLinkPinLaw"), (0, u "same"), (0, u "(Ljava/lang/String;Ljava/lang/String;)Z"), (0, .methodref 35 48), (0, .nameAndType 49 40), (0, u "url"), (3, u "law"), (0, u "(IIIIJI)Z")] 4

def k1m0 : Method := { name := "<init>", desc := "()V", sig := { parameters := [], returnType := none }, accessFlags := 1, code := none }
def k1c1 : Code := { maxStack := 2, maxLocals := 2, code := method_2_code, exceptionTable := #[], attributes := #[] }
def k1m1 : Method := { name := "same", desc := "(Ljava/lang/String;Ljava/lang/String;)Z", sig := { parameters := [(.object "java/lang/String"), (.object "java/lang/String")], returnType := some .boolean }, accessFlags := 10, code := some k1c1 }
def k1c2 : Code := { maxStack := 6, maxLocals := 18, code := code, exceptionTable := #[], attributes := #[] }
def k1m2 : Method := { name := "law", desc := "(IIIIJI)Z", sig := { parameters := [.int, .int, .int, .int, .long, .int], returnType := some .boolean }, accessFlags := 9, code := some k1c2 }
/-- com/example/aspen/aspen/core/LinkRecordLinkPinLaw -/
def k1 : Class := { plain "com/example/aspen/aspen/core/LinkRecordLinkPinLaw" (some 0) with
  accessFlags := 49
  interfaces := #[]
  cf := some (fileOf pool1 42 #[] #[{ accessFlags := 1, nameIndex := 5, descriptorIndex := 6, attributes := #[] }, { accessFlags := 10, nameIndex := 45, descriptorIndex := 46, attributes := #[] }, { accessFlags := 9, nameIndex := 53, descriptorIndex := 54, attributes := #[] }] 49 2 #[] #[])
  fields := #[]
  methods := #[k1m0, k1m1, k1m2]
  instanceTypes := #[]
  staticTypes := #[]
  resolved := Array.replicate 59 none
  statics := none }

def pool2 : Array CpInfo := pool [(1, .class_ 2), (0, u "java/io/Serializable"), (0, .class_ 4), (0, u "java/lang/Object")] 2

/-- java/io/Serializable -/
def k2 : Class := { plain "java/io/Serializable" (some 0) with
  accessFlags := 1537
  interfaces := #[]
  cf := some (fileOf pool2 1 #[] #[] 1537 3 #[] #[])
  fields := #[]
  methods := #[]
  instanceTypes := #[]
  staticTypes := #[]
  resolved := Array.replicate 7 none
  statics := none }

def pool3 : Array CpInfo := pool [(1, .class_ 2), (0, u "java/lang/Comparable"), (0, .class_ 4), (0, u "java/lang/Object")] 7

/-- java/lang/Comparable -/
def k3 : Class := { plain "java/lang/Comparable" (some 0) with
  accessFlags := 1537
  interfaces := #[]
  cf := some (fileOf pool3 1 #[] #[] 1537 3 #[] #[])
  fields := #[]
  methods := #[]
  instanceTypes := #[]
  staticTypes := #[]
  resolved := Array.replicate 12 none
  statics := none }

def pool4 : Array CpInfo := pool [(2, .class_ 4), (1, u "java/lang/CharSequence"), (42, .class_ 48), (0, u "java/lang/CharSequence$1CodePointIterator"), (10, .class_ 60), (0, u "java/lang/CharSequence$1CharIterator"), (5, .class_ 67), (0, u "java/lang/Object")] 63

/-- java/lang/CharSequence -/
def k4 : Class := { plain "java/lang/CharSequence" (some 0) with
  accessFlags := 1537
  interfaces := #[]
  cf := some (fileOf pool4 2 #[.nestMembers #[47, 59]] #[] 1537 66 #[] #[])
  fields := #[]
  methods := #[]
  instanceTypes := #[]
  staticTypes := #[]
  resolved := Array.replicate 131 none
  statics := none }

def pool5 : Array CpInfo := pool [(1, .class_ 2), (0, u "java/lang/constant/Constable"), (0, .class_ 4), (0, u "java/lang/Object")] 6

/-- java/lang/constant/Constable -/
def k5 : Class := { plain "java/lang/constant/Constable" (some 0) with
  accessFlags := 1537
  interfaces := #[]
  cf := some (fileOf pool5 1 #[] #[] 1537 3 #[] #[])
  fields := #[]
  methods := #[]
  instanceTypes := #[]
  staticTypes := #[]
  resolved := Array.replicate 11 none
  statics := none }

def pool6 : Array CpInfo := pool [(1, .class_ 2), (0, u "java/lang/constant/ConstantDesc"), (0, .class_ 4), (0, u "java/lang/Object")] 32

/-- java/lang/constant/ConstantDesc -/
def k6 : Class := { plain "java/lang/constant/ConstantDesc" (some 0) with
  accessFlags := 1537
  interfaces := #[]
  cf := some (fileOf pool6 1 #[] #[] 1537 3 #[] #[])
  fields := #[]
  methods := #[]
  instanceTypes := #[]
  staticTypes := #[]
  resolved := Array.replicate 37 none
  statics := none }

def pool7 : Array CpInfo := pool [(1, .methodref 2 3), (0, .class_ 4), (0, .nameAndType 5 6), (0, u "java/lang/Object"), (0, u "<init>"), (0, u "()V"), (0, .string 8), (0, u ""), (0, .fieldref 10 11), (0, .class_ 12), (0, .nameAndType 13 14), (0, u "java/lang/String"), (0, u "value"), (0, u "[B"), (0, .fieldref 10 16), (0, .nameAndType 17 18), (0, u "coder"), (0, u "B"), (2, u "hash"), (0, u "I"), (2, u "hashIsZero"), (0, u "Z"), (0, .methodref 10 28), (0, .nameAndType 5 29), (0, u "([CIILjava/lang/Void;)V"), (8, .fieldref 10 39), (0, .nameAndType 40 26), (0, u "COMPACT_STRINGS"), (1, .class_ 44), (1, u "java/lang/StringUTF16"), (0, u "compress"), (1, .methodref 42 48), (0, .nameAndType 49 50), (0, u "coderFromArrayLen"), (0, u "([BI)B"), (126, .methodref 42 178), (0, .nameAndType 45 179), (0, u "([CII)[B"), (363, u "equals"), (29, u "(Ljava/lang/Object;)Z"), (1, .class_ 576), (0, u "java/lang/CharSequence"), (22, u "CASE_INSENSITIVE_ORDER"), (0, u "Ljava/util/Comparator;"), (409, u "([C)V"), (90, u "serialPersistentFields"), (0, u "[Ljava/io/ObjectStreamField;"), (0, .class_ 1104), (0, u "java/lang/String$CaseInsensitiveComparator"), (1, .class_ 1107), (0, u "java/io/Serializable"), (0, .class_ 1109), (0, u "java/lang/Comparable"), (0, .class_ 1111), (0, u "java/lang/constant/Constable"), (0, .class_ 1113), (0, u "java/lang/constant/ConstantDesc"), (2, u "serialVersionUID"), (0, u "J"), (3, u "REPL"), (0, u "C"), (2, u "LATIN1"), (1, u "UTF16")] 323

def k7m0 : Method := { name := "<init>", desc := "()V", sig := { parameters := [], returnType := none }, accessFlags := 1, code := none }
def k7c1 : Code := { maxStack := 5, maxLocals := 2, code := jdk_42_method_3_code, exceptionTable := #[], attributes := #[] }
def k7m1 : Method := { name := "<init>", desc := "([C)V", sig := { parameters := [(.array .char)], returnType := none }, accessFlags := 1, code := some k7c1 }
def k7c2 : Code := { maxStack := 2, maxLocals := 3, code := jdk_42_method_66_code, exceptionTable := #[], attributes := #[] }
def k7m2 : Method := { name := "equals", desc := "(Ljava/lang/Object;)Z", sig := { parameters := [(.object "java/lang/Object")], returnType := some .boolean }, accessFlags := 1, code := some k7c2 }
def k7c3 : Code := { maxStack := 4, maxLocals := 6, code := jdk_42_method_149_code, exceptionTable := #[], attributes := #[] }
def k7m3 : Method := { name := "<init>", desc := "([CIILjava/lang/Void;)V", sig := { parameters := [(.array .char), .int, .int, (.object "java/lang/Void")], returnType := none }, accessFlags := 2, code := some k7c3 }
/-- java/lang/String -/
def k7 : Class := { plain "java/lang/String" (some 0) with
  accessFlags := 49
  interfaces := #[2, 3, 4, 5, 6]
  cf := some (fileOf pool7 10 #[.nestMembers #[1103]] #[{ accessFlags := 1, nameIndex := 5, descriptorIndex := 6, attributes := #[] }, { accessFlags := 1, nameIndex := 5, descriptorIndex := 1010, attributes := #[] }, { accessFlags := 1, nameIndex := 543, descriptorIndex := 573, attributes := #[] }, { accessFlags := 2, nameIndex := 5, descriptorIndex := 29, attributes := #[] }] 49 2 #[1106, 1108, 575, 1110, 1112] #[{ accessFlags := 18, nameIndex := 13, descriptorIndex := 14, attributes := #[] }, { accessFlags := 18, nameIndex := 17, descriptorIndex := 18, attributes := #[] }, { accessFlags := 2, nameIndex := 21, descriptorIndex := 22, attributes := #[] }, { accessFlags := 2, nameIndex := 25, descriptorIndex := 26, attributes := #[] }, { accessFlags := 26, nameIndex := 1116, descriptorIndex := 1117, attributes := #[] }, { accessFlags := 24, nameIndex := 40, descriptorIndex := 26, attributes := #[] }, { accessFlags := 26, nameIndex := 1101, descriptorIndex := 1102, attributes := #[] }, { accessFlags := 26, nameIndex := 1121, descriptorIndex := 1122, attributes := #[] }, { accessFlags := 25, nameIndex := 599, descriptorIndex := 600, attributes := #[] }, { accessFlags := 24, nameIndex := 1125, descriptorIndex := 18, attributes := #[] }, { accessFlags := 24, nameIndex := 1127, descriptorIndex := 18, attributes := #[] }])
  fields := #[{ name := "value", type := (.array .byte), accessFlags := 18, slot := 0, constantValue := 0 }, { name := "coder", type := .byte, accessFlags := 18, slot := 1, constantValue := 0 }, { name := "hash", type := .int, accessFlags := 2, slot := 2, constantValue := 0 }, { name := "hashIsZero", type := .boolean, accessFlags := 2, slot := 3, constantValue := 0 }, { name := "serialVersionUID", type := .long, accessFlags := 26, slot := 0, constantValue := 0 }, { name := "COMPACT_STRINGS", type := .boolean, accessFlags := 24, slot := 1, constantValue := 0 }, { name := "serialPersistentFields", type := (.array (.object "java/io/ObjectStreamField")), accessFlags := 26, slot := 2, constantValue := 0 }, { name := "REPL", type := .char, accessFlags := 26, slot := 3, constantValue := 0 }, { name := "CASE_INSENSITIVE_ORDER", type := (.object "java/util/Comparator"), accessFlags := 25, slot := 4, constantValue := 0 }, { name := "LATIN1", type := .byte, accessFlags := 24, slot := 5, constantValue := 0 }, { name := "UTF16", type := .byte, accessFlags := 24, slot := 6, constantValue := 0 }]
  methods := #[k7m0, k7m1, k7m2, k7m3]
  instanceTypes := #[(.array .byte), .byte, .int, .boolean]
  staticTypes := #[.long, .boolean, (.array (.object "java/io/ObjectStreamField")), .char, (.object "java/util/Comparator"), .byte, .byte]
  resolved := Array.replicate 1451 none
  statics := some 0 }

def pool8 : Array CpInfo := pool [(6, .class_ 8), (1, u "java/lang/Object"), (0, u "<init>"), (0, u "()V"), (1, .class_ 14), (1, u "java/lang/StringUTF16"), (31, u "$assertionsDisabled"), (0, u "Z"), (13, u "HI_BYTE_SHIFT"), (0, u "I"), (2, u "LO_BYTE_SHIFT"), (49, .methodref 12 116), (0, .nameAndType 117 118), (0, u "compress"), (0, u "([CI[BII)I"), (3, u "([CII)[B"), (138, u "coderFromArrayLen"), (0, u "([BI)B"), (106, .class_ 371), (1, u "java/lang/StringUTF16$LinesSpliterator"), (58, u "MAX_LENGTH"), (196, .class_ 628), (0, u "java/lang/StringUTF16$CodePointsSpliterator"), (0, .class_ 630), (0, u "java/lang/StringUTF16$CharsSpliterator")] 4

def k8m0 : Method := { name := "<init>", desc := "()V", sig := { parameters := [], returnType := none }, accessFlags := 0, code := none }
def k8c1 : Code := { maxStack := 2, maxLocals := 2, code := jdk_52_method_15_code, exceptionTable := #[], attributes := #[] }
def k8m1 : Method := { name := "coderFromArrayLen", desc := "([BI)B", sig := { parameters := [(.array .byte), .int], returnType := some .byte }, accessFlags := 8, code := some k8c1 }
def k8c2 : Code := { maxStack := 5, maxLocals := 6, code := jdk_52_method_16_code, exceptionTable := #[], attributes := #[] }
def k8m2 : Method := { name := "compress", desc := "([CII)[B", sig := { parameters := [(.array .char), .int, .int], returnType := some (.array .byte) }, accessFlags := 9, code := some k8c2 }
def k8c3 : Code := { maxStack := 3, maxLocals := 7, code := jdk_52_method_21_code, exceptionTable := #[], attributes := #[] }
def k8m3 : Method := { name := "compress", desc := "([CI[BII)I", sig := { parameters := [(.array .char), .int, (.array .byte), .int, .int], returnType := some .int }, accessFlags := 9, code := some k8c3 }
/-- java/lang/StringUTF16 -/
def k8 : Class := { plain "java/lang/StringUTF16" (some 0) with
  accessFlags := 48
  interfaces := #[]
  cf := some (fileOf pool8 12 #[.nestMembers #[627, 629, 369]] #[{ accessFlags := 0, nameIndex := 9, descriptorIndex := 10, attributes := #[] }, { accessFlags := 8, nameIndex := 261, descriptorIndex := 262, attributes := #[] }, { accessFlags := 9, nameIndex := 117, descriptorIndex := 122, attributes := #[] }, { accessFlags := 9, nameIndex := 117, descriptorIndex := 118, attributes := #[] }] 48 6 #[] #[{ accessFlags := 26, nameIndex := 61, descriptorIndex := 62, attributes := #[] }, { accessFlags := 26, nameIndex := 65, descriptorIndex := 62, attributes := #[] }, { accessFlags := 24, nameIndex := 430, descriptorIndex := 62, attributes := #[] }, { accessFlags := 4120, nameIndex := 46, descriptorIndex := 47, attributes := #[] }])
  fields := #[{ name := "HI_BYTE_SHIFT", type := .int, accessFlags := 26, slot := 0, constantValue := 0 }, { name := "LO_BYTE_SHIFT", type := .int, accessFlags := 26, slot := 1, constantValue := 0 }, { name := "MAX_LENGTH", type := .int, accessFlags := 24, slot := 2, constantValue := 0 }, { name := "$assertionsDisabled", type := .boolean, accessFlags := 4120, slot := 3, constantValue := 0 }]
  methods := #[k8m0, k8m1, k8m2, k8m3]
  instanceTypes := #[]
  staticTypes := #[.int, .int, .int, .boolean]
  resolved := Array.replicate 635 none
  statics := none }

def pool9 : Array CpInfo := pool [(1, .methodref 2 3), (0, .class_ 4), (0, .nameAndType 5 6), (0, u "java/lang/Object"), (0, u "<init>"), (0, u "()V"), (0, .class_ 8), (0, u "java/lang/Record")] 13

def k9c0 : Code := { maxStack := 1, maxLocals := 1, code := jdk_30_method_1_code, exceptionTable := #[], attributes := #[] }
def k9m0 : Method := { name := "<init>", desc := "()V", sig := { parameters := [], returnType := none }, accessFlags := 4, code := some k9c0 }
/-- java/lang/Record -/
def k9 : Class := { plain "java/lang/Record" (some 0) with
  accessFlags := 1057
  interfaces := #[]
  cf := some (fileOf pool9 7 #[] #[{ accessFlags := 4, nameIndex := 5, descriptorIndex := 6, attributes := #[] }] 1057 2 #[] #[])
  fields := #[]
  methods := #[k9m0]
  instanceTypes := #[]
  staticTypes := #[]
  resolved := Array.replicate 22 none
  statics := none }

def pool10 : Array CpInfo := pool [(1, .methodref 2 3), (0, .class_ 4), (0, .nameAndType 5 6), (0, u "java/lang/Record"), (0, u "<init>"), (0, u "()V"), (0, .fieldref 8 9), (0, .class_ 10), (0, .nameAndType 11 12), (0, u "com/example/aspen/aspen/core/LinkRecord"), (0, u "code"), (0, u "Ljava/lang/String;"), (0, .fieldref 8 14), (0, .nameAndType 15 12), (0, u "url"), (0, .fieldref 8 17), (0, .nameAndType 18 19), (0, u "version"), (0, u "J"), (1, .class_ 23), (1, u "com/example/aspen/aspen/core/Link"), (5, u "(Ljava/lang/String;Ljava/lang/String;J)V"), (0, .methodref 8 31), (0, .nameAndType 32 33), (0, u "isRemoved"), (0, u "()Z"), (0, .methodref 35 36), (0, .class_ 37), (0, .nameAndType 38 39), (0, u "java/util/Optional"), (0, u "empty"), (0, u "()Ljava/util/Optional;"), (0, .methodref 21 41), (0, .nameAndType 5 42), (0, u "(Ljava/lang/String;Ljava/lang/String;)V"), (0, .methodref 35 44), (0, .nameAndType 45 46), (0, u "of"), (0, u "(Ljava/lang/Object;)Ljava/util/Optional;"), (2, u "ORDER"), (0, u "Ljava/util/Comparator;"), (47, u "link")] 55

def k10c0 : Code := { maxStack := 3, maxLocals := 5, code := prog_9_method_1_code, exceptionTable := #[], attributes := #[] }
def k10m0 : Method := { name := "<init>", desc := "(Ljava/lang/String;Ljava/lang/String;J)V", sig := { parameters := [(.object "java/lang/String"), (.object "java/lang/String"), .long], returnType := none }, accessFlags := 1, code := some k10c0 }
def k10c1 : Code := { maxStack := 1, maxLocals := 1, code := prog_9_method_4_code, exceptionTable := #[], attributes := #[] }
def k10m1 : Method := { name := "isRemoved", desc := "()Z", sig := { parameters := [], returnType := some .boolean }, accessFlags := 1, code := some k10c1 }
def k10c2 : Code := { maxStack := 4, maxLocals := 1, code := prog_9_method_5_code, exceptionTable := #[], attributes := #[] }
def k10m2 : Method := { name := "link", desc := "()Ljava/util/Optional;", sig := { parameters := [], returnType := some (.object "java/util/Optional") }, accessFlags := 1, code := some k10c2 }
/-- com/example/aspen/aspen/core/LinkRecord -/
def k10 : Class := { plain "com/example/aspen/aspen/core/LinkRecord" (some 9) with
  accessFlags := 49
  interfaces := #[]
  cf := some (fileOf pool10 8 #[] #[{ accessFlags := 1, nameIndex := 5, descriptorIndex := 29, attributes := #[] }, { accessFlags := 1, nameIndex := 32, descriptorIndex := 33, attributes := #[] }, { accessFlags := 1, nameIndex := 98, descriptorIndex := 39, attributes := #[] }] 49 2 #[] #[{ accessFlags := 18, nameIndex := 11, descriptorIndex := 12, attributes := #[] }, { accessFlags := 18, nameIndex := 15, descriptorIndex := 12, attributes := #[] }, { accessFlags := 18, nameIndex := 18, descriptorIndex := 19, attributes := #[] }, { accessFlags := 26, nameIndex := 49, descriptorIndex := 50, attributes := #[] }])
  fields := #[{ name := "code", type := (.object "java/lang/String"), accessFlags := 18, slot := 0, constantValue := 0 }, { name := "url", type := (.object "java/lang/String"), accessFlags := 18, slot := 1, constantValue := 0 }, { name := "version", type := .long, accessFlags := 18, slot := 2, constantValue := 0 }, { name := "ORDER", type := (.object "java/util/Comparator"), accessFlags := 26, slot := 0, constantValue := 0 }]
  methods := #[k10m0, k10m1, k10m2]
  instanceTypes := #[(.object "java/lang/String"), (.object "java/lang/String"), .long]
  staticTypes := #[(.object "java/util/Comparator")]
  resolved := Array.replicate 154 none
  statics := none }

def pool11 : Array CpInfo := pool [(1, .methodref 2 3), (0, .class_ 4), (0, .nameAndType 5 6), (0, u "java/lang/Record"), (0, u "<init>"), (0, u "()V"), (0, .fieldref 8 9), (0, .class_ 10), (0, .nameAndType 11 12), (0, u "com/example/aspen/aspen/core/Link"), (0, u "code"), (0, u "Ljava/lang/String;"), (0, .fieldref 8 14), (0, .nameAndType 15 12), (0, u "url"), (12, u "(Ljava/lang/String;Ljava/lang/String;)V"), (3, u "()Ljava/lang/String;")] 23

def k11c0 : Code := { maxStack := 2, maxLocals := 3, code := prog_8_method_1_code, exceptionTable := #[], attributes := #[] }
def k11m0 : Method := { name := "<init>", desc := "(Ljava/lang/String;Ljava/lang/String;)V", sig := { parameters := [(.object "java/lang/String"), (.object "java/lang/String")], returnType := none }, accessFlags := 1, code := some k11c0 }
def k11c1 : Code := { maxStack := 1, maxLocals := 1, code := prog_8_method_5_code, exceptionTable := #[], attributes := #[] }
def k11m1 : Method := { name := "code", desc := "()Ljava/lang/String;", sig := { parameters := [], returnType := some (.object "java/lang/String") }, accessFlags := 1, code := some k11c1 }
def k11c2 : Code := { maxStack := 1, maxLocals := 1, code := prog_8_method_6_code, exceptionTable := #[], attributes := #[] }
def k11m2 : Method := { name := "url", desc := "()Ljava/lang/String;", sig := { parameters := [], returnType := some (.object "java/lang/String") }, accessFlags := 1, code := some k11c2 }
/-- com/example/aspen/aspen/core/Link -/
def k11 : Class := { plain "com/example/aspen/aspen/core/Link" (some 9) with
  accessFlags := 49
  interfaces := #[]
  cf := some (fileOf pool11 8 #[] #[{ accessFlags := 1, nameIndex := 5, descriptorIndex := 28, attributes := #[] }, { accessFlags := 1, nameIndex := 11, descriptorIndex := 32, attributes := #[] }, { accessFlags := 1, nameIndex := 15, descriptorIndex := 32, attributes := #[] }] 49 2 #[] #[{ accessFlags := 18, nameIndex := 11, descriptorIndex := 12, attributes := #[] }, { accessFlags := 18, nameIndex := 15, descriptorIndex := 12, attributes := #[] }])
  fields := #[{ name := "code", type := (.object "java/lang/String"), accessFlags := 18, slot := 0, constantValue := 0 }, { name := "url", type := (.object "java/lang/String"), accessFlags := 18, slot := 1, constantValue := 0 }]
  methods := #[k11m0, k11m1, k11m2]
  instanceTypes := #[(.object "java/lang/String"), (.object "java/lang/String")]
  staticTypes := #[]
  resolved := Array.replicate 56 none
  statics := none }

def pool12 : Array CpInfo := pool [(1, .fieldref 2 3), (0, .class_ 4), (0, .nameAndType 5 6), (0, u "java/util/Optional"), (0, u "EMPTY"), (0, u "Ljava/util/Optional;"), (0, .methodref 8 9), (0, .class_ 10), (0, .nameAndType 11 12), (0, u "java/lang/Object"), (0, u "<init>"), (0, u "()V"), (0, .fieldref 2 14), (0, .nameAndType 15 16), (0, u "value"), (0, u "Ljava/lang/Object;"), (0, .methodref 18 19), (0, .class_ 20), (0, .nameAndType 21 22), (0, u "java/util/Objects"), (0, u "requireNonNull"), (0, u "(Ljava/lang/Object;)Ljava/lang/Object;"), (0, .methodref 2 24), (0, .nameAndType 11 25), (0, u "(Ljava/lang/Object;)V"), (20, u "()Z"), (8, u "empty"), (0, u "()Ljava/util/Optional;"), (8, u "(Ljava/lang/Object;)Ljava/util/Optional;"), (2, u "isPresent"), (4, u "get"), (0, u "()Ljava/lang/Object;"), (7, u "of")] 104

def k12c0 : Code := { maxStack := 1, maxLocals := 1, code := jdk_32_method_1_code, exceptionTable := #[], attributes := #[] }
def k12m0 : Method := { name := "empty", desc := "()Ljava/util/Optional;", sig := { parameters := [], returnType := some (.object "java/util/Optional") }, accessFlags := 9, code := some k12c0 }
def k12c1 : Code := { maxStack := 2, maxLocals := 2, code := jdk_32_method_2_code, exceptionTable := #[], attributes := #[] }
def k12m1 : Method := { name := "<init>", desc := "(Ljava/lang/Object;)V", sig := { parameters := [(.object "java/lang/Object")], returnType := none }, accessFlags := 2, code := some k12c1 }
def k12c2 : Code := { maxStack := 3, maxLocals := 1, code := jdk_32_method_3_code, exceptionTable := #[], attributes := #[] }
def k12m2 : Method := { name := "of", desc := "(Ljava/lang/Object;)Ljava/util/Optional;", sig := { parameters := [(.object "java/lang/Object")], returnType := some (.object "java/util/Optional") }, accessFlags := 9, code := some k12c2 }
def k12c3 : Code := { maxStack := 3, maxLocals := 1, code := jdk_32_method_5_code, exceptionTable := #[], attributes := #[] }
def k12m3 : Method := { name := "get", desc := "()Ljava/lang/Object;", sig := { parameters := [], returnType := some (.object "java/lang/Object") }, accessFlags := 1, code := some k12c3 }
def k12c4 : Code := { maxStack := 1, maxLocals := 1, code := jdk_32_method_6_code, exceptionTable := #[], attributes := #[] }
def k12m4 : Method := { name := "isPresent", desc := "()Z", sig := { parameters := [], returnType := some .boolean }, accessFlags := 1, code := some k12c4 }
/-- java/util/Optional -/
def k12 : Class := { plain "java/util/Optional" (some 0) with
  accessFlags := 49
  interfaces := #[]
  cf := some (fileOf pool12 2 #[] #[{ accessFlags := 9, nameIndex := 55, descriptorIndex := 56, attributes := #[] }, { accessFlags := 2, nameIndex := 11, descriptorIndex := 25, attributes := #[] }, { accessFlags := 9, nameIndex := 82, descriptorIndex := 65, attributes := #[] }, { accessFlags := 1, nameIndex := 73, descriptorIndex := 74, attributes := #[] }, { accessFlags := 1, nameIndex := 68, descriptorIndex := 46, attributes := #[] }] 49 8 #[] #[{ accessFlags := 26, nameIndex := 5, descriptorIndex := 6, attributes := #[] }, { accessFlags := 18, nameIndex := 15, descriptorIndex := 16, attributes := #[] }])
  fields := #[{ name := "EMPTY", type := (.object "java/util/Optional"), accessFlags := 26, slot := 0, constantValue := 0 }, { name := "value", type := (.object "java/lang/Object"), accessFlags := 18, slot := 0, constantValue := 0 }]
  methods := #[k12m0, k12m1, k12m2, k12m3, k12m4]
  instanceTypes := #[(.object "java/lang/Object")]
  staticTypes := #[(.object "java/util/Optional")]
  resolved := Array.replicate 187 none
  statics := some 1 }

def pool13 : Array CpInfo := pool [(2, .class_ 4), (1, u "java/lang/Object"), (0, u "<init>"), (0, u "()V"), (35, .class_ 44), (1, u "java/util/Objects"), (0, u "requireNonNull"), (0, u "(Ljava/lang/Object;)Ljava/lang/Object;")] 137

def k13m0 : Method := { name := "<init>", desc := "()V", sig := { parameters := [], returnType := none }, accessFlags := 2, code := none }
def k13c1 : Code := { maxStack := 2, maxLocals := 1, code := jdk_31_method_10_code, exceptionTable := #[], attributes := #[] }
def k13m1 : Method := { name := "requireNonNull", desc := "(Ljava/lang/Object;)Ljava/lang/Object;", sig := { parameters := [(.object "java/lang/Object")], returnType := some (.object "java/lang/Object") }, accessFlags := 9, code := some k13c1 }
/-- java/util/Objects -/
def k13 : Class := { plain "java/util/Objects" (some 0) with
  accessFlags := 49
  interfaces := #[]
  cf := some (fileOf pool13 42 #[] #[{ accessFlags := 2, nameIndex := 5, descriptorIndex := 6, attributes := #[] }, { accessFlags := 9, nameIndex := 45, descriptorIndex := 46, attributes := #[] }] 49 2 #[] #[])
  fields := #[]
  methods := #[k13m0, k13m1]
  instanceTypes := #[]
  staticTypes := #[]
  resolved := Array.replicate 184 none
  statics := none }

def pool14 : Array CpInfo := pool [(4, .class_ 6), (1, u "java/lang/Object"), (0, u "<init>"), (0, u "()V"), (5, .class_ 16), (1, u "java/lang/StringLatin1"), (104, u "$assertionsDisabled"), (0, u "Z"), (98, .class_ 223), (1, u "java/lang/StringLatin1$LinesSpliterator"), (166, .class_ 391), (0, u "java/lang/StringLatin1$CharsSpliterator")] 3

def k14m0 : Method := { name := "<init>", desc := "()V", sig := { parameters := [], returnType := none }, accessFlags := 0, code := none }
/-- java/lang/StringLatin1 -/
def k14 : Class := { plain "java/lang/StringLatin1" (some 0) with
  accessFlags := 48
  interfaces := #[]
  cf := some (fileOf pool14 14 #[.nestMembers #[390, 221]] #[{ accessFlags := 0, nameIndex := 7, descriptorIndex := 8, attributes := #[] }] 48 4 #[] #[{ accessFlags := 4120, nameIndex := 121, descriptorIndex := 122, attributes := #[] }])
  fields := #[{ name := "$assertionsDisabled", type := .boolean, accessFlags := 4120, slot := 0, constantValue := 0 }]
  methods := #[k14m0]
  instanceTypes := #[]
  staticTypes := #[.boolean]
  resolved := Array.replicate 395 none
  statics := none }

def pool15 : Array CpInfo := pool [(2, .class_ 4), (1, u "java/lang/Object"), (0, u "<init>"), (0, u "()V"), (17, .class_ 26), (1, u "jdk/internal/util/Preconditions"), (28, .class_ 56), (0, u "jdk/internal/util/Preconditions$4"), (57, .class_ 115), (0, u "jdk/internal/util/Preconditions$1"), (7, u "SIOOBE_FORMATTER"), (0, u "Ljava/util/function/BiFunction;"), (0, .class_ 126), (0, u "jdk/internal/util/Preconditions$2"), (3, u "AIOOBE_FORMATTER"), (0, .class_ 132), (0, u "jdk/internal/util/Preconditions$3"), (3, u "IOOBE_FORMATTER")] 57

def k15m0 : Method := { name := "<init>", desc := "()V", sig := { parameters := [], returnType := none }, accessFlags := 1, code := none }
/-- jdk/internal/util/Preconditions -/
def k15 : Class := { plain "jdk/internal/util/Preconditions" (some 0) with
  accessFlags := 33
  interfaces := #[]
  cf := some (fileOf pool15 24 #[.nestMembers #[55, 131, 125, 114]] #[{ accessFlags := 1, nameIndex := 5, descriptorIndex := 6, attributes := #[] }] 33 2 #[] #[{ accessFlags := 25, nameIndex := 123, descriptorIndex := 124, attributes := #[] }, { accessFlags := 25, nameIndex := 130, descriptorIndex := 124, attributes := #[] }, { accessFlags := 25, nameIndex := 136, descriptorIndex := 124, attributes := #[] }])
  fields := #[{ name := "SIOOBE_FORMATTER", type := (.object "java/util/function/BiFunction"), accessFlags := 25, slot := 0, constantValue := 0 }, { name := "AIOOBE_FORMATTER", type := (.object "java/util/function/BiFunction"), accessFlags := 25, slot := 1, constantValue := 0 }, { name := "IOOBE_FORMATTER", type := (.object "java/util/function/BiFunction"), accessFlags := 25, slot := 2, constantValue := 0 }]
  methods := #[k15m0]
  instanceTypes := #[]
  staticTypes := #[(.object "java/util/function/BiFunction"), (.object "java/util/function/BiFunction"), (.object "java/util/function/BiFunction")]
  resolved := Array.replicate 194 none
  statics := some 2 }

def pool16 : Array CpInfo := pool [(9, u "<init>"), (6, .class_ 18), (1, u "java/lang/Object"), (0, u "()V"), (1, .class_ 23), (1, u "jdk/internal/util/ArraysSupport"), (0, u "LOG2_ARRAY_LONG_INDEX_SCALE"), (0, u "I"), (2, u "U"), (0, u "Ljdk/internal/misc/Unsafe;"), (8, u "BIG_ENDIAN"), (0, u "Z"), (8, u "LOG2_BYTE_BIT_SIZE"), (4, u "LOG2_ARRAY_INT_INDEX_SCALE"), (54, u "JLA"), (0, u "Ljdk/internal/access/JavaLangAccess;"), (11, u "LOG2_ARRAY_BOOLEAN_INDEX_SCALE"), (9, u "LOG2_ARRAY_BYTE_INDEX_SCALE"), (5, u "LOG2_ARRAY_CHAR_INDEX_SCALE"), (5, u "LOG2_ARRAY_SHORT_INDEX_SCALE"), (18, u "LOG2_ARRAY_FLOAT_INDEX_SCALE"), (24, u "LOG2_ARRAY_DOUBLE_INDEX_SCALE"), (89, u "T_BOOLEAN"), (2, u "T_CHAR"), (1, u "T_FLOAT"), (1, u "T_DOUBLE"), (1, u "T_BYTE"), (1, u "T_SHORT"), (1, u "T_INT"), (1, u "T_LONG"), (1, u "SOFT_MAX_ARRAY_LENGTH")] 83

def k16m0 : Method := { name := "<init>", desc := "()V", sig := { parameters := [], returnType := none }, accessFlags := 2, code := none }
/-- jdk/internal/util/ArraysSupport -/
def k16 : Class := { plain "jdk/internal/util/ArraysSupport" (some 0) with
  accessFlags := 33
  interfaces := #[]
  cf := some (fileOf pool16 21 #[] #[{ accessFlags := 2, nameIndex := 9, descriptorIndex := 19, attributes := #[] }] 33 16 #[] #[{ accessFlags := 24, nameIndex := 28, descriptorIndex := 29, attributes := #[] }, { accessFlags := 26, nameIndex := 38, descriptorIndex := 39, attributes := #[] }, { accessFlags := 25, nameIndex := 121, descriptorIndex := 25, attributes := #[] }, { accessFlags := 25, nameIndex := 131, descriptorIndex := 25, attributes := #[] }, { accessFlags := 25, nameIndex := 137, descriptorIndex := 25, attributes := #[] }, { accessFlags := 25, nameIndex := 143, descriptorIndex := 25, attributes := #[] }, { accessFlags := 25, nameIndex := 53, descriptorIndex := 25, attributes := #[] }, { accessFlags := 25, nameIndex := 24, descriptorIndex := 25, attributes := #[] }, { accessFlags := 25, nameIndex := 162, descriptorIndex := 25, attributes := #[] }, { accessFlags := 25, nameIndex := 187, descriptorIndex := 25, attributes := #[] }, { accessFlags := 26, nameIndex := 48, descriptorIndex := 25, attributes := #[] }, { accessFlags := 25, nameIndex := 277, descriptorIndex := 25, attributes := #[] }, { accessFlags := 25, nameIndex := 280, descriptorIndex := 25, attributes := #[] }, { accessFlags := 25, nameIndex := 282, descriptorIndex := 25, attributes := #[] }, { accessFlags := 25, nameIndex := 284, descriptorIndex := 25, attributes := #[] }, { accessFlags := 25, nameIndex := 286, descriptorIndex := 25, attributes := #[] }, { accessFlags := 25, nameIndex := 288, descriptorIndex := 25, attributes := #[] }, { accessFlags := 25, nameIndex := 290, descriptorIndex := 25, attributes := #[] }, { accessFlags := 25, nameIndex := 292, descriptorIndex := 25, attributes := #[] }, { accessFlags := 26, nameIndex := 108, descriptorIndex := 109, attributes := #[] }, { accessFlags := 25, nameIndex := 294, descriptorIndex := 25, attributes := #[] }])
  fields := #[{ name := "U", type := (.object "jdk/internal/misc/Unsafe"), accessFlags := 24, slot := 0, constantValue := 0 }, { name := "BIG_ENDIAN", type := .boolean, accessFlags := 26, slot := 1, constantValue := 0 }, { name := "LOG2_ARRAY_BOOLEAN_INDEX_SCALE", type := .int, accessFlags := 25, slot := 2, constantValue := 0 }, { name := "LOG2_ARRAY_BYTE_INDEX_SCALE", type := .int, accessFlags := 25, slot := 3, constantValue := 0 }, { name := "LOG2_ARRAY_CHAR_INDEX_SCALE", type := .int, accessFlags := 25, slot := 4, constantValue := 0 }, { name := "LOG2_ARRAY_SHORT_INDEX_SCALE", type := .int, accessFlags := 25, slot := 5, constantValue := 0 }, { name := "LOG2_ARRAY_INT_INDEX_SCALE", type := .int, accessFlags := 25, slot := 6, constantValue := 0 }, { name := "LOG2_ARRAY_LONG_INDEX_SCALE", type := .int, accessFlags := 25, slot := 7, constantValue := 0 }, { name := "LOG2_ARRAY_FLOAT_INDEX_SCALE", type := .int, accessFlags := 25, slot := 8, constantValue := 0 }, { name := "LOG2_ARRAY_DOUBLE_INDEX_SCALE", type := .int, accessFlags := 25, slot := 9, constantValue := 0 }, { name := "LOG2_BYTE_BIT_SIZE", type := .int, accessFlags := 26, slot := 10, constantValue := 0 }, { name := "T_BOOLEAN", type := .int, accessFlags := 25, slot := 11, constantValue := 0 }, { name := "T_CHAR", type := .int, accessFlags := 25, slot := 12, constantValue := 0 }, { name := "T_FLOAT", type := .int, accessFlags := 25, slot := 13, constantValue := 0 }, { name := "T_DOUBLE", type := .int, accessFlags := 25, slot := 14, constantValue := 0 }, { name := "T_BYTE", type := .int, accessFlags := 25, slot := 15, constantValue := 0 }, { name := "T_SHORT", type := .int, accessFlags := 25, slot := 16, constantValue := 0 }, { name := "T_INT", type := .int, accessFlags := 25, slot := 17, constantValue := 0 }, { name := "T_LONG", type := .int, accessFlags := 25, slot := 18, constantValue := 0 }, { name := "JLA", type := (.object "jdk/internal/access/JavaLangAccess"), accessFlags := 26, slot := 19, constantValue := 0 }, { name := "SOFT_MAX_ARRAY_LENGTH", type := .int, accessFlags := 25, slot := 20, constantValue := 0 }]
  methods := #[k16m0]
  instanceTypes := #[]
  staticTypes := #[(.object "jdk/internal/misc/Unsafe"), .boolean, .int, .int, .int, .int, .int, .int, .int, .int, .int, .int, .int, .int, .int, .int, .int, .int, .int, (.object "jdk/internal/access/JavaLangAccess"), .int]
  resolved := Array.replicate 378 none
  statics := none }

def pool17 : Array CpInfo := pool [(1, u "java/lang/Cloneable"), (0, .class_ 1), (0, u "java/lang/Object"), (0, .class_ 3)] 3

/-- java/lang/Cloneable -/
def k17 : Class := { plain "java/lang/Cloneable" (some 0) with
  accessFlags := 1537
  interfaces := #[]
  cf := some (fileOf pool17 2 #[] #[] 1537 4 #[] #[])
  fields := #[]
  methods := #[]
  instanceTypes := #[]
  staticTypes := #[]
  resolved := Array.replicate 8 none
  statics := none }

/-- the primitive byte -/
def k18 : Class := { plain "byte" none with kind := .primitive 'B', accessFlags := 0x411 }
/-- [B -/
def k19 : Class := { plain "[B" (some 0) with kind := .array 18 .byte, interfaces := #[17, 2], accessFlags := 1041 }

/-- the primitive char -/
def k20 : Class := { plain "char" none with kind := .primitive 'C', accessFlags := 0x411 }
/-- [C -/
def k21 : Class := { plain "[C" (some 0) with kind := .array 20 .char, interfaces := #[17, 2], accessFlags := 1041 }

/-- the primitive int -/
def k22 : Class := { plain "int" none with kind := .primitive 'I', accessFlags := 0x411 }
/-- [I -/
def k23 : Class := { plain "[I" (some 0) with kind := .array 22 .int, interfaces := #[17, 2], accessFlags := 1041 }

def heap : Heap := #[{ cls := 7, slots := #[.long 0, .int 1, .null, .int 0, .null, .int 0, .int 0], vm := .statics 7 },
  { cls := 12, slots := #[.ref 3], vm := .statics 12 },
  { cls := 15, slots := #[.null, .null, .null], vm := .statics 15 },
  { cls := 12, slots := #[.null], vm := .none }]
def classes : Array Class := #[k0, k1, k2, k3, k4, k5, k6, k7, k8, k9, k10, k11, k12, k13, k14, k15, k16, k17, k18, k19, k20, k21, k22, k23]
def interned : List (Array UInt16 × Addr) := []
def slotsUsed : Nat := 12
def theMethod : MethodId := ⟨1, 2⟩
def args0 : Array Value := #[.int 65, .int 66, .int 67, .int 68, .long 3, .int 0]
def aboutOver (below : List Frame) : State where
  vm := { classes := classes, interned := interned.toArray }
  heap := heap
  slotsUsed := slotsUsed
  threads := #[{ frames := .invoking theMethod args0 :: below }]
def below0 : List Frame := [.native { method := ⟨0, 0⟩, args := #[] }]
def about1 : State := aboutOver below0
def p0 : Program := .bare "" "" ""
def e0 : Env := launch0.env 0 0 0
theorem w_frames : about1.frames = Frame.invoking theMethod args0 :: below0 := rfl
set_option maxRecDepth 65536 in
theorem w_args : argsFit about1.vm theMethod args0 = true := by decide +kernel
set_option maxRecDepth 65536 in
theorem w_heap : heapFits about1 = true := by decide +kernel
set_option maxRecDepth 65536 in
theorem w_runnable : about1.curStatus? = some .runnable := by decide +kernel
set_option maxRecDepth 65536 in
theorem w_alone : about1.alone = true := by decide +kernel
set_option maxRecDepth 65536 in
theorem w_named : about1.methodNamed? x = some theMethod := by decide +kernel
set_option maxRecDepth 65536 in
theorem w_hears : about1.hears theMethod below0 = true := by decide +kernel
set_option maxRecDepth 65536 in
theorem w_ripe : about1.ripe theMethod args0 below0 = true := by decide +kernel
theorem w_running : about1.status = .running := rfl
set_option maxRecDepth 65536 in
theorem w_room : about1.hasRoom e0.platform room_1 = true :=
  launch0.hasRoom_least _ room_1 (by decide +kernel) (by decide +kernel) (by decide +kernel) (by decide +kernel) (by decide +kernel) (by decide +kernel)
theorem allAtoms_all (ts : List Jvm.Cond) (a : Array Jvm.Value) (st : Jvm.State) : (allAtoms ts).before a st = ts.all (fun c => c.before a st) := by
  induction ts with
  | nil => rfl
  | cons c t ih =>
    show (Jvm.Cond.and c (allAtoms t)).before a st = _
    rw [Jvm.Cond.before_and, ih, List.all_cons]
def words1 : List Jvm.Cond := Jvm.Cond.code x code maxLocals ret :: tables_1
/-- a 'code' word, met by the world's own term for the bytes: nothing is compared byte by byte -/
theorem code_word {y : MethodName} {bytes : ByteArray} {mx : Nat} {rt : Option FieldType} {a : Array Value} {s : State} {m : MethodId} {meth : Method} {c : Code} (h1 : s.methodNamed? y = some m) (h2 : s.vm.method? m = some meth) (h3 : meth.code = some c) (h4 : c.code = bytes)
    (h5 : (c.maxLocals == mx && c.exceptionTable.isEmpty && decide (c.maxStack ≤ mostOperands) && decide (meth.sig.returnType = rt) && !meth.locks && decide (parseMethodDescriptor y.desc = some meth.sig)) = true) : (Jvm.Cond.code y bytes mx rt).before a s = true := by
  simp only [Bool.and_eq_true, beq_iff_eq, Bool.not_eq_true', decide_eq_true_eq] at h5
  obtain ⟨⟨⟨⟨⟨g1, g2⟩, g3⟩, g4⟩, g5⟩, g6⟩ := h5
  simp [Cond.before, Cond.holds, Cond.value, h1, h2, h3, h4, g1, g2, g3, g4, g5, g6]
def isCode : Jvm.Cond → Bool
  | .code _ _ _ _ => true
  | _ => false
theorem all_split {L : List Jvm.Cond} {P : Jvm.Cond → Bool} (h1 : L.all (fun c => isCode c || P c) = true) (h2 : ∀ c ∈ L.filter isCode, P c = true) : L.all P = true := by
  refine List.all_eq_true.mpr fun c hc => ?_
  have h := List.all_eq_true.mp h1 c hc
  rcases Bool.eq_false_or_eq_true (isCode c) with hi | hi
  · exact h2 c (List.mem_filter.mpr ⟨hc, hi⟩)
  · simpa [hi] using h
set_option maxRecDepth 65536 in
theorem w_c0 : (Jvm.Cond.code x code maxLocals ret).before args0 about1 = true := code_word (m := ⟨1, 2⟩) (meth := k1m2) (c := k1c2) (by decide +kernel) rfl rfl rfl (by decide +kernel)
set_option maxRecDepth 65536 in
theorem w_c1 : (Jvm.Cond.code ({ cls := "java/lang/String", name := "<init>", desc := "([C)V" } : Jvm.MethodName) jdk_42_method_3_code (2 : Nat) (Option.none : Option Jvm.ClassFile.FieldType)).before args0 about1 = true := code_word (m := ⟨7, 1⟩) (meth := k7m1) (c := k7c1) (by decide +kernel) rfl rfl rfl (by decide +kernel)
set_option maxRecDepth 65536 in
theorem w_c2 : (Jvm.Cond.code ({ cls := "java/lang/String", name := "<init>", desc := "([CIILjava/lang/Void;)V" } : Jvm.MethodName) jdk_42_method_149_code (6 : Nat) (Option.none : Option Jvm.ClassFile.FieldType)).before args0 about1 = true := code_word (m := ⟨7, 3⟩) (meth := k7m3) (c := k7c3) (by decide +kernel) rfl rfl rfl (by decide +kernel)
set_option maxRecDepth 65536 in
theorem w_c3 : (Jvm.Cond.code ({ cls := "java/lang/Object", name := "<init>", desc := "()V" } : Jvm.MethodName) object_method_1_code (1 : Nat) (Option.none : Option Jvm.ClassFile.FieldType)).before args0 about1 = true := code_word (m := ⟨0, 0⟩) (meth := k0m0) (c := k0c0) (by decide +kernel) rfl rfl rfl (by decide +kernel)
set_option maxRecDepth 65536 in
theorem w_c4 : (Jvm.Cond.code ({ cls := "java/lang/StringUTF16", name := "compress", desc := "([CII)[B" } : Jvm.MethodName) jdk_52_method_16_code (6 : Nat) (Option.some (Jvm.ClassFile.FieldType.array Jvm.ClassFile.FieldType.byte))).before args0 about1 = true := code_word (m := ⟨8, 2⟩) (meth := k8m2) (c := k8c2) (by decide +kernel) rfl rfl rfl (by decide +kernel)
set_option maxRecDepth 65536 in
theorem w_c5 : (Jvm.Cond.code ({ cls := "java/lang/StringUTF16", name := "compress", desc := "([CI[BII)I" } : Jvm.MethodName) jdk_52_method_21_code (7 : Nat) (Option.some Jvm.ClassFile.FieldType.int)).before args0 about1 = true := code_word (m := ⟨8, 3⟩) (meth := k8m3) (c := k8c3) (by decide +kernel) rfl rfl rfl (by decide +kernel)
set_option maxRecDepth 65536 in
theorem w_c6 : (Jvm.Cond.code ({ cls := "java/lang/StringUTF16", name := "coderFromArrayLen", desc := "([BI)B" } : Jvm.MethodName) jdk_52_method_15_code (2 : Nat) (Option.some Jvm.ClassFile.FieldType.byte)).before args0 about1 = true := code_word (m := ⟨8, 1⟩) (meth := k8m1) (c := k8c1) (by decide +kernel) rfl rfl rfl (by decide +kernel)
set_option maxRecDepth 65536 in
theorem w_c7 : (Jvm.Cond.code ({ cls := "com/example/aspen/aspen/core/LinkRecord", name := "<init>", desc := "(Ljava/lang/String;Ljava/lang/String;J)V" } : Jvm.MethodName) prog_9_method_1_code (5 : Nat) (Option.none : Option Jvm.ClassFile.FieldType)).before args0 about1 = true := code_word (m := ⟨10, 0⟩) (meth := k10m0) (c := k10c0) (by decide +kernel) rfl rfl rfl (by decide +kernel)
set_option maxRecDepth 65536 in
theorem w_c8 : (Jvm.Cond.code ({ cls := "java/lang/Record", name := "<init>", desc := "()V" } : Jvm.MethodName) jdk_30_method_1_code (1 : Nat) (Option.none : Option Jvm.ClassFile.FieldType)).before args0 about1 = true := code_word (m := ⟨9, 0⟩) (meth := k9m0) (c := k9c0) (by decide +kernel) rfl rfl rfl (by decide +kernel)
set_option maxRecDepth 65536 in
theorem w_c9 : (Jvm.Cond.code ({ cls := "com/example/aspen/aspen/core/LinkRecord", name := "link", desc := "()Ljava/util/Optional;" } : Jvm.MethodName) prog_9_method_5_code (1 : Nat) (Option.some (Jvm.ClassFile.FieldType.object "java/util/Optional"))).before args0 about1 = true := code_word (m := ⟨10, 2⟩) (meth := k10m2) (c := k10c2) (by decide +kernel) rfl rfl rfl (by decide +kernel)
set_option maxRecDepth 65536 in
theorem w_c10 : (Jvm.Cond.code ({ cls := "com/example/aspen/aspen/core/LinkRecord", name := "isRemoved", desc := "()Z" } : Jvm.MethodName) prog_9_method_4_code (1 : Nat) (Option.some Jvm.ClassFile.FieldType.boolean)).before args0 about1 = true := code_word (m := ⟨10, 1⟩) (meth := k10m1) (c := k10c1) (by decide +kernel) rfl rfl rfl (by decide +kernel)
set_option maxRecDepth 65536 in
theorem w_c11 : (Jvm.Cond.code ({ cls := "com/example/aspen/aspen/core/Link", name := "<init>", desc := "(Ljava/lang/String;Ljava/lang/String;)V" } : Jvm.MethodName) prog_8_method_1_code (3 : Nat) (Option.none : Option Jvm.ClassFile.FieldType)).before args0 about1 = true := code_word (m := ⟨11, 0⟩) (meth := k11m0) (c := k11c0) (by decide +kernel) rfl rfl rfl (by decide +kernel)
set_option maxRecDepth 65536 in
theorem w_c12 : (Jvm.Cond.code ({ cls := "java/util/Optional", name := "of", desc := "(Ljava/lang/Object;)Ljava/util/Optional;" } : Jvm.MethodName) jdk_32_method_3_code (1 : Nat) (Option.some (Jvm.ClassFile.FieldType.object "java/util/Optional"))).before args0 about1 = true := code_word (m := ⟨12, 2⟩) (meth := k12m2) (c := k12c2) (by decide +kernel) rfl rfl rfl (by decide +kernel)
set_option maxRecDepth 65536 in
theorem w_c13 : (Jvm.Cond.code ({ cls := "java/util/Objects", name := "requireNonNull", desc := "(Ljava/lang/Object;)Ljava/lang/Object;" } : Jvm.MethodName) jdk_31_method_10_code (1 : Nat) (Option.some (Jvm.ClassFile.FieldType.object "java/lang/Object"))).before args0 about1 = true := code_word (m := ⟨13, 1⟩) (meth := k13m1) (c := k13c1) (by decide +kernel) rfl rfl rfl (by decide +kernel)
set_option maxRecDepth 65536 in
theorem w_c14 : (Jvm.Cond.code ({ cls := "java/util/Optional", name := "<init>", desc := "(Ljava/lang/Object;)V" } : Jvm.MethodName) jdk_32_method_2_code (2 : Nat) (Option.none : Option Jvm.ClassFile.FieldType)).before args0 about1 = true := code_word (m := ⟨12, 1⟩) (meth := k12m1) (c := k12c1) (by decide +kernel) rfl rfl rfl (by decide +kernel)
set_option maxRecDepth 65536 in
theorem w_c15 : (Jvm.Cond.code ({ cls := "java/util/Optional", name := "isPresent", desc := "()Z" } : Jvm.MethodName) jdk_32_method_6_code (1 : Nat) (Option.some Jvm.ClassFile.FieldType.boolean)).before args0 about1 = true := code_word (m := ⟨12, 4⟩) (meth := k12m4) (c := k12c4) (by decide +kernel) rfl rfl rfl (by decide +kernel)
set_option maxRecDepth 65536 in
theorem w_c16 : (Jvm.Cond.code ({ cls := "java/util/Optional", name := "get", desc := "()Ljava/lang/Object;" } : Jvm.MethodName) jdk_32_method_5_code (1 : Nat) (Option.some (Jvm.ClassFile.FieldType.object "java/lang/Object"))).before args0 about1 = true := code_word (m := ⟨12, 3⟩) (meth := k12m3) (c := k12c3) (by decide +kernel) rfl rfl rfl (by decide +kernel)
set_option maxRecDepth 65536 in
theorem w_c17 : (Jvm.Cond.code ({ cls := "com/example/aspen/aspen/core/Link", name := "code", desc := "()Ljava/lang/String;" } : Jvm.MethodName) prog_8_method_5_code (1 : Nat) (Option.some (Jvm.ClassFile.FieldType.object "java/lang/String"))).before args0 about1 = true := code_word (m := ⟨11, 1⟩) (meth := k11m1) (c := k11c1) (by decide +kernel) rfl rfl rfl (by decide +kernel)
set_option maxRecDepth 65536 in
theorem w_c18 : (Jvm.Cond.code ({ cls := "com/example/aspen/aspen/core/LinkRecordLinkPinLaw", name := "same", desc := "(Ljava/lang/String;Ljava/lang/String;)Z" } : Jvm.MethodName) method_2_code (2 : Nat) (Option.some Jvm.ClassFile.FieldType.boolean)).before args0 about1 = true := code_word (m := ⟨1, 1⟩) (meth := k1m1) (c := k1c1) (by decide +kernel) rfl rfl rfl (by decide +kernel)
set_option maxRecDepth 65536 in
theorem w_c19 : (Jvm.Cond.code ({ cls := "java/lang/String", name := "equals", desc := "(Ljava/lang/Object;)Z" } : Jvm.MethodName) jdk_42_method_66_code (3 : Nat) (Option.some Jvm.ClassFile.FieldType.boolean)).before args0 about1 = true := code_word (m := ⟨7, 2⟩) (meth := k7m2) (c := k7c2) (by decide +kernel) rfl rfl rfl (by decide +kernel)
set_option maxRecDepth 65536 in
theorem w_c20 : (Jvm.Cond.code ({ cls := "com/example/aspen/aspen/core/Link", name := "url", desc := "()Ljava/lang/String;" } : Jvm.MethodName) prog_8_method_6_code (1 : Nat) (Option.some (Jvm.ClassFile.FieldType.object "java/lang/String"))).before args0 about1 = true := code_word (m := ⟨11, 2⟩) (meth := k11m2) (c := k11c2) (by decide +kernel) rfl rfl rfl (by decide +kernel)
set_option maxRecDepth 65536 in
theorem w_c21 : (Jvm.Cond.code ({ cls := "java/util/Optional", name := "empty", desc := "()Ljava/util/Optional;" } : Jvm.MethodName) jdk_32_method_1_code (1 : Nat) (Option.some (Jvm.ClassFile.FieldType.object "java/util/Optional"))).before args0 about1 = true := code_word (m := ⟨12, 0⟩) (meth := k12m0) (c := k12c0) (by decide +kernel) rfl rfl rfl (by decide +kernel)
def codes1 : List Jvm.Cond := [Jvm.Cond.code x code maxLocals ret, Jvm.Cond.code ({ cls := "java/lang/String", name := "<init>", desc := "([C)V" } : Jvm.MethodName) jdk_42_method_3_code (2 : Nat) (Option.none : Option Jvm.ClassFile.FieldType), Jvm.Cond.code ({ cls := "java/lang/String", name := "<init>", desc := "([CIILjava/lang/Void;)V" } : Jvm.MethodName) jdk_42_method_149_code (6 : Nat) (Option.none : Option Jvm.ClassFile.FieldType), Jvm.Cond.code ({ cls := "java/lang/Object", name := "<init>", desc := "()V" } : Jvm.MethodName) object_method_1_code (1 : Nat) (Option.none : Option Jvm.ClassFile.FieldType), Jvm.Cond.code ({ cls := "java/lang/StringUTF16", name := "compress", desc := "([CII)[B" } : Jvm.MethodName) jdk_52_method_16_code (6 : Nat) (Option.some (Jvm.ClassFile.FieldType.array Jvm.ClassFile.FieldType.byte)), Jvm.Cond.code ({ cls := "java/lang/StringUTF16", name := "compress", desc := "([CI[BII)I" } : Jvm.MethodName) jdk_52_method_21_code (7 : Nat) (Option.some Jvm.ClassFile.FieldType.int), Jvm.Cond.code ({ cls := "java/lang/StringUTF16", name := "coderFromArrayLen", desc := "([BI)B" } : Jvm.MethodName) jdk_52_method_15_code (2 : Nat) (Option.some Jvm.ClassFile.FieldType.byte), Jvm.Cond.code ({ cls := "com/example/aspen/aspen/core/LinkRecord", name := "<init>", desc := "(Ljava/lang/String;Ljava/lang/String;J)V" } : Jvm.MethodName) prog_9_method_1_code (5 : Nat) (Option.none : Option Jvm.ClassFile.FieldType), Jvm.Cond.code ({ cls := "java/lang/Record", name := "<init>", desc := "()V" } : Jvm.MethodName) jdk_30_method_1_code (1 : Nat) (Option.none : Option Jvm.ClassFile.FieldType), Jvm.Cond.code ({ cls := "com/example/aspen/aspen/core/LinkRecord", name := "link", desc := "()Ljava/util/Optional;" } : Jvm.MethodName) prog_9_method_5_code (1 : Nat) (Option.some (Jvm.ClassFile.FieldType.object "java/util/Optional")), Jvm.Cond.code ({ cls := "com/example/aspen/aspen/core/LinkRecord", name := "isRemoved", desc := "()Z" } : Jvm.MethodName) prog_9_method_4_code (1 : Nat) (Option.some Jvm.ClassFile.FieldType.boolean), Jvm.Cond.code ({ cls := "com/example/aspen/aspen/core/Link", name := "<init>", desc := "(Ljava/lang/String;Ljava/lang/String;)V" } : Jvm.MethodName) prog_8_method_1_code (3 : Nat) (Option.none : Option Jvm.ClassFile.FieldType), Jvm.Cond.code ({ cls := "java/util/Optional", name := "of", desc := "(Ljava/lang/Object;)Ljava/util/Optional;" } : Jvm.MethodName) jdk_32_method_3_code (1 : Nat) (Option.some (Jvm.ClassFile.FieldType.object "java/util/Optional")), Jvm.Cond.code ({ cls := "java/util/Objects", name := "requireNonNull", desc := "(Ljava/lang/Object;)Ljava/lang/Object;" } : Jvm.MethodName) jdk_31_method_10_code (1 : Nat) (Option.some (Jvm.ClassFile.FieldType.object "java/lang/Object")), Jvm.Cond.code ({ cls := "java/util/Optional", name := "<init>", desc := "(Ljava/lang/Object;)V" } : Jvm.MethodName) jdk_32_method_2_code (2 : Nat) (Option.none : Option Jvm.ClassFile.FieldType), Jvm.Cond.code ({ cls := "java/util/Optional", name := "isPresent", desc := "()Z" } : Jvm.MethodName) jdk_32_method_6_code (1 : Nat) (Option.some Jvm.ClassFile.FieldType.boolean), Jvm.Cond.code ({ cls := "java/util/Optional", name := "get", desc := "()Ljava/lang/Object;" } : Jvm.MethodName) jdk_32_method_5_code (1 : Nat) (Option.some (Jvm.ClassFile.FieldType.object "java/lang/Object")), Jvm.Cond.code ({ cls := "com/example/aspen/aspen/core/Link", name := "code", desc := "()Ljava/lang/String;" } : Jvm.MethodName) prog_8_method_5_code (1 : Nat) (Option.some (Jvm.ClassFile.FieldType.object "java/lang/String")), Jvm.Cond.code ({ cls := "com/example/aspen/aspen/core/LinkRecordLinkPinLaw", name := "same", desc := "(Ljava/lang/String;Ljava/lang/String;)Z" } : Jvm.MethodName) method_2_code (2 : Nat) (Option.some Jvm.ClassFile.FieldType.boolean), Jvm.Cond.code ({ cls := "java/lang/String", name := "equals", desc := "(Ljava/lang/Object;)Z" } : Jvm.MethodName) jdk_42_method_66_code (3 : Nat) (Option.some Jvm.ClassFile.FieldType.boolean), Jvm.Cond.code ({ cls := "com/example/aspen/aspen/core/Link", name := "url", desc := "()Ljava/lang/String;" } : Jvm.MethodName) prog_8_method_6_code (1 : Nat) (Option.some (Jvm.ClassFile.FieldType.object "java/lang/String")), Jvm.Cond.code ({ cls := "java/util/Optional", name := "empty", desc := "()Ljava/util/Optional;" } : Jvm.MethodName) jdk_32_method_1_code (1 : Nat) (Option.some (Jvm.ClassFile.FieldType.object "java/util/Optional"))]
set_option maxRecDepth 65536 in
theorem codes_eq : words1.filter isCode = codes1 := rfl
theorem w_codes : ∀ c ∈ words1.filter isCode, c.before args0 about1 = true := by
  rw [codes_eq]
  intro c hc
  simp only [codes1, List.mem_cons, List.not_mem_nil, or_false] at hc
  rcases hc with rfl | rfl | rfl | rfl | rfl | rfl | rfl | rfl | rfl | rfl | rfl | rfl | rfl | rfl | rfl | rfl | rfl | rfl | rfl | rfl | rfl | rfl
  · exact w_c0
  · exact w_c1
  · exact w_c2
  · exact w_c3
  · exact w_c4
  · exact w_c5
  · exact w_c6
  · exact w_c7
  · exact w_c8
  · exact w_c9
  · exact w_c10
  · exact w_c11
  · exact w_c12
  · exact w_c13
  · exact w_c14
  · exact w_c15
  · exact w_c16
  · exact w_c17
  · exact w_c18
  · exact w_c19
  · exact w_c20
  · exact w_c21
set_option maxRecDepth 65536 in
theorem w_t1 : (words1.take 24).all (fun c => isCode c || c.before args0 about1) = true := by decide +kernel
set_option maxRecDepth 65536 in
theorem w_t2 : ((words1.drop 24).take 24).all (fun c => isCode c || c.before args0 about1) = true := by decide +kernel
set_option maxRecDepth 65536 in
theorem w_t3 : (((words1.drop 24).drop 24).take 24).all (fun c => isCode c || c.before args0 about1) = true := by decide +kernel
set_option maxRecDepth 65536 in
theorem w_t4 : ((((words1.drop 24).drop 24).drop 24).take 24).all (fun c => isCode c || c.before args0 about1) = true := by decide +kernel
set_option maxRecDepth 65536 in
theorem w_t5 : (((((words1.drop 24).drop 24).drop 24).drop 24).take 24).all (fun c => isCode c || c.before args0 about1) = true := by decide +kernel
set_option maxRecDepth 65536 in
theorem w_t6 : (((((words1.drop 24).drop 24).drop 24).drop 24).drop 24).all (fun c => isCode c || c.before args0 about1) = true := by decide +kernel
theorem w_tables : (allAtoms (Jvm.Cond.code x code maxLocals ret :: tables_1)).before args0 about1 = true := by
  rw [allAtoms_all]
  show words1.all (fun c => c.before args0 about1) = true
  refine all_split ?_ w_codes
  rw [← List.take_append_drop 24 words1, List.all_append, w_t1, ← List.take_append_drop 24 (words1.drop 24), List.all_append, w_t2, ← List.take_append_drop 24 ((words1.drop 24).drop 24), List.all_append, w_t3, ← List.take_append_drop 24 (((words1.drop 24).drop 24).drop 24), List.all_append, w_t4, ← List.take_append_drop 24 ((((words1.drop 24).drop 24).drop 24).drop 24), List.all_append, w_t5, w_t6]
  rfl
set_option maxRecDepth 65536 in
theorem w_rest : rest_1_c.before args0 about1 = true := by decide +kernel
set_option maxRecDepth 65536 in
theorem w_case : (Jvm.Cond.and given_1 narrow_1).before args0 about1 = true := by decide +kernel
set_option maxRecDepth 65536 in
theorem w_consts : constsHeld consts_1 about1 := Jvm.Lit.constsHeldB_iff.mp (by decide +kernel)
theorem w_applies : (headSpec (Jvm.Cond.code x code maxLocals ret :: tables_1) room_1).applies x e0.platform about1 = true :=
  (Spec.applies_iff w_frames).mpr ⟨w_running, w_runnable, w_alone, w_named, w_hears, w_ripe, w_room, w_tables⟩
theorem atStart : AtStart classFile x code maxLocals ret World_1 tables_1 room_1 Calls_1 rest_1 Pre_1 launch0 p0 e0 about1 theMethod args0 below0 :=
  ⟨lists_1, trivial, launch0.admits_env _ _ _, launch0.least_env, fairChoices_fair.cas, fairChoices_fair.clock, w_frames, w_args, w_heap, w_applies, ⟨w_consts, trivial⟩, w_rest, w_case⟩
end start1
theorem witness_1 : WitnessClaimed_1 := ⟨start1.p0, start1.e0, start1.about1, start1.theMethod, start1.args0, start1.below0, start1.atStart⟩
end Jvm.Pilot.@@N@@
